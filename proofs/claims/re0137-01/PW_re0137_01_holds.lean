import PyProof.Rows.All
import Wide.All
import OpenK.AllK
import Wide.FinOn
import PySem.Challenge.RW_re0137_01
open PySem PySem.W PyProof.Rows
set_option Elab.async false
set_option maxRecDepth 100000
set_option linter.unusedVariables false
set_option exponentiation.threshold 3000

namespace Mine
noncomputable def viewOf (p : Program) : Program := { p with main := { p.main with body := (((p.main.body.eraseIdx 14).eraseIdx 12).eraseIdx 9).eraseIdx 1 } }
section
local macro_rules
  | `(({ $p with $_,* } : $_)) => `(viewOf $p)
set_option maxHeartbeats 0 in
open_top hd for PySem.Challenge.rw_re0137_01
end
end Mine
open PySem.Spec PySem.Calls
set_option genSizeOf false
set_option genInjectivity false
noncomputable section

-- V0
namespace Mine

@[irreducible] noncomputable def PR : Program := PySem.Challenge.rw_re0137_01.row.prog

noncomputable abbrev Z := Addr → Option Obj

noncomputable abbrev gh (h : Heap) : Heap := hideAll h [44, 37]

noncomputable def TabSt (h : Heap) (P : Addr) (l c : Nat) (q : Str) : Prop :=
  h.get? P = some (tabObj #[]) ∨ ∃ c', h.get? P = some (tabObj #[rawInt l, rawInt c, .ref c']) ∧ h.CodeRec (.ref c') q
noncomputable abbrev Tab1 (h : Heap) : Prop := TabSt h 44 50 4 (Str.ofString "_digits2int.<locals>.inner")
noncomputable abbrev Tab2 (h : Heap) : Prop := TabSt h 37 35 4 (Str.ofString "_int2digits.<locals>.inner")

structure Ext (h h' : Heap) : Prop where
  keep : ∀ a o, a ≠ 44 → a ≠ 37 → h.get? a = some o → h'.get? a = some o
  size : h.objs.size ≤ h'.objs.size
  t1 : Tab1 h → Tab1 h'
  t2 : Tab2 h → Tab2 h'

theorem TabSt.keeps {h h' : Heap} {P : Addr} {l c : Nat} {q : Str} (x : TabSt h P l c q) (k : ∀ a o, h.get? a = some o → h'.get? a = some o) : TabSt h' P l c q := by
  rcases x with e | ⟨c', e, r⟩
  · exact .inl (k _ _ e)
  · exact .inr ⟨c', k _ _ e, r.keeps k⟩
theorem TabSt.sameBut {h h' : Heap} {P a : Addr} {l c : Nat} {q : Str} {oa : Obj} (x : TabSt h P l c q) (s : Heap.SameBut a h h') (ha : h.get? a = some oa) (hf : ∀ vs, oa.data ≠ .fields vs) : TabSt h' P l c q := by
  have ne : ∀ {b : Addr} {o : Obj} {vs : Array Value}, h.get? b = some o → o.data = .fields vs → b ≠ a := fun e d q => by
    rw [q, ha] at e; cases e; exact hf _ d
  rcases x with e | ⟨c', e, r⟩
  · exact .inl ((s.2 _ (ne e rfl)).trans e)
  · refine .inr ⟨c', (s.2 _ (ne e rfl)).trans e, ?_⟩
    obtain ⟨c₂, o, vs, t, h1, h2, h3, h4⟩ := r
    exact ⟨c₂, o, vs, t, h1, (s.2 _ (ne h2 h3)).trans h2, h3, h4⟩

theorem Ext.refl (h : Heap) : Ext h h := ⟨fun _ _ _ _ e => e, Nat.le_refl _, id, id⟩
theorem Ext.trans {h₁ h₂ h₃ : Heap} (x : Ext h₁ h₂) (y : Ext h₂ h₃) : Ext h₁ h₃ :=
  ⟨fun a o p q e => y.keep a o p q (x.keep a o p q e), Nat.le_trans x.size y.size, y.t1 ∘ x.t1, y.t2 ∘ x.t2⟩
theorem Ext.of_keeps {h h' : Heap} (k : ∀ a o, h.get? a = some o → h'.get? a = some o) (hs : h.objs.size ≤ h'.objs.size) : Ext h h' :=
  ⟨fun a o _ _ e => k a o e, hs, fun x => x.keeps k, fun x => x.keeps k⟩
theorem Ext.push (h : Heap) (o : Obj) : Ext h (h.push o) := .of_keeps (fun _ _ e => Heap.get?_push_of_some _ e) (by rw [Heap.size_push]; lia)
theorem Ext.sameBut {h₀ h h' : Heap} {a : Addr} {oa : Obj} (x : Ext h₀ h) (s : Heap.SameBut a h h') (hge : h₀.objs.size ≤ a) (ha : h.get? a = some oa) (hf : ∀ vs, oa.data ≠ .fields vs) : Ext h₀ h' :=
  ⟨fun b o p q e => (s.2 b (Nat.ne_of_lt (Nat.lt_of_lt_of_le (Heap.lt_size e) hge))).trans (x.keep b o p q e), by rw [s.1]; exact x.size, fun t => (x.t1 t).sameBut s ha hf, fun t => (x.t2 t).sameBut s ha hf⟩

theorem gh_of {h : Heap} {a : Addr} {o : Obj} (e : (gh h).get? a = some o) : a ≠ 44 ∧ a ≠ 37 ∧ h.get? a = some o := by
  refine ⟨fun q => ?_, fun q => ?_, of_hideAll _ e⟩
  · have : (gh h).get? a = none := hideAll_none [44, 37] (by rw [q]; exact .head _)
    rw [this] at e; cases e
  · have : (gh h).get? a = none := hideAll_none [44, 37] (by rw [q]; exact .tail _ (.head _))
    rw [this] at e; cases e
theorem gh_get {h : Heap} {a : Addr} {o : Obj} (e : h.get? a = some o) (p : a ≠ 44) (q : a ≠ 37) : (gh h).get? a = some o :=
  hideAll_get _ e (by simp only [List.mem_cons, List.not_mem_nil, or_false, not_or]; exact ⟨p, q⟩)
theorem Ext.gh {h h' : Heap} (x : Ext h h') : ∀ a o, (gh h).get? a = some o → (Mine.gh h').get? a = some o := fun a o e =>
  let ⟨p, q, e'⟩ := gh_of e; gh_get (x.keep a o p q e') p q

structure Gd (w : World) (h : Heap) : Prop where
  k : (hd.heap_39 w.params).In (gh h)
  top : ∃ p loose mean mg mb, Top p loose mean mg mb (gh h)
  c1 : CodeHd (gh h) 48 44
  c2 : CodeHd (gh h) 41 37
  t1 : Tab1 h
  t2 : Tab2 h
theorem Gd.ext {w : World} {h h' : Heap} (g : Gd w h) (x : Ext h h') : Gd w h' :=
  ⟨fun a o e => x.gh a o (g.k a o e), let ⟨p, l, me, mg, mb, T⟩ := g.top; ⟨p, l, me, mg, mb, T.keeps x.gh⟩, g.c1.keeps x.gh, g.c2.keeps x.gh, x.t1 g.t1, x.t2 g.t2⟩
theorem Gd.K {w : World} {h : Heap} (g : Gd w h) : (hd.heap_39 w.params).In h := fun a o e => of_hideAll _ (g.k a o e)
theorem Gd.T {w : World} {h : Heap} (g : Gd w h) : ∃ p loose mean mg mb, Top p loose mean mg mb h :=
  let ⟨p, l, me, mg, mb, T⟩ := g.top; ⟨p, l, me, mg, mb, T.keeps fun _ _ e => of_hideAll _ e⟩

noncomputable abbrev lobj (vs : List Value) (n : Nat) : Obj := { cls := .type "list", data := .seq vs.toArray n }
noncomputable abbrev tobj (vs : List Value) (n : Nat) : Obj := { cls := .type "tuple", data := .seq vs.toArray n }
mutual
inductive Rd (z : Z) : Value → PyData → Prop
  | none : Rd z .none .none
  | bool (b) : Rd z (.bool b) (.bool b)
  | int (i t) : Rd z (.int i t) (.int i)
  | str (x t) : Rd z (.str x t) (.str x)
  | list {a vs n xs} : z a = some (lobj vs n) → RdAll z vs xs → Rd z (.ref a) (.list xs)
  | tuple {a vs n xs} : z a = some (tobj vs n) → RdAll z vs xs → Rd z (.ref a) (.tuple xs)
inductive RdAll (z : Z) : List Value → List PyData → Prop
  | nil : RdAll z [] []
  | cons {v vs d ds} : Rd z v d → RdAll z vs ds → RdAll z (v :: vs) (d :: ds)
end
noncomputable def Z.le (z z' : Z) : Prop := ∀ a o, z a = some o → z' a = some o
noncomputable def Z.sub (z : Z) (h : Heap) : Prop := ∀ a o, z a = some o → h.get? a = some o
theorem Z.le.refl (z : Z) : Z.le z z := fun _ _ e => e
theorem Z.le.trans {z₁ z₂ z₃ : Z} (x : Z.le z₁ z₂) (y : Z.le z₂ z₃) : Z.le z₁ z₃ := fun a o e => y a o (x a o e)
theorem RdAll.ind {z : Z} {M : List Value → List PyData → Prop} (hn : M [] []) (hc : ∀ v vs d ds, Rd z v d → RdAll z vs ds → M vs ds → M (v :: vs) (d :: ds)) {vs : List Value} {ds : List PyData} (r : RdAll z vs ds) : M vs ds :=
  RdAll.rec (motive_1 := fun _ _ _ => True) (motive_2 := fun vs ds _ => M vs ds) trivial (fun _ => trivial) (fun _ _ => trivial) (fun _ _ => trivial) (fun _ _ _ => trivial) (fun _ _ _ => trivial) hn (fun h1 h2 _ ih => hc _ _ _ _ h1 h2 ih) r
noncomputable def RdInv (z : Z) (v : Value) : PyData → Prop
  | .none => v = .none
  | .bool b => v = .bool b
  | .int i => ∃ t, v = .int i t
  | .str x => ∃ t, v = .str x t
  | .list xs => ∃ a vs n, v = .ref a ∧ z a = some (lobj vs n) ∧ RdAll z vs xs
  | .tuple xs => ∃ a vs n, v = .ref a ∧ z a = some (tobj vs n) ∧ RdAll z vs xs
  | _ => False
theorem Rd.inv {z : Z} {v : Value} {d : PyData} (r : Rd z v d) : RdInv z v d :=
  Rd.rec (motive_1 := fun v d _ => RdInv z v d) (motive_2 := fun _ _ _ => True) rfl (fun _ => rfl) (fun _ t => ⟨t, rfl⟩) (fun _ t => ⟨t, rfl⟩) (fun h1 h4 _ => ⟨_, _, _, rfl, h1, h4⟩) (fun h1 h4 _ => ⟨_, _, _, rfl, h1, h4⟩) trivial (fun _ _ _ _ => trivial) r
theorem Rd.isInt {z : Z} {v : Value} {i : Int} (r : Rd z v (.int i)) : ∃ t, v = .int i t := r.inv
theorem Rd.isStr {z : Z} {v : Value} {x : Str} (r : Rd z v (.str x)) : ∃ t, v = .str x t := r.inv
theorem Rd.isBool {z : Z} {v : Value} {b : Bool} (r : Rd z v (.bool b)) : v = .bool b := r.inv
theorem Rd.isList {z : Z} {v : Value} {xs : List PyData} (r : Rd z v (.list xs)) : ∃ a vs n, v = .ref a ∧ z a = some (lobj vs n) ∧ RdAll z vs xs := r.inv
theorem Rd.isTup {z : Z} {v : Value} {xs : List PyData} (r : Rd z v (.tuple xs)) : ∃ a vs n, v = .ref a ∧ z a = some (tobj vs n) ∧ RdAll z vs xs := r.inv
theorem RdAll.isNil {z : Z} {vs : List Value} (r : RdAll z vs []) : vs = [] :=
  RdAll.ind (M := fun vs ds => ds = [] → vs = []) (fun _ => rfl) (fun _ _ _ _ _ _ _ e => nomatch e) r rfl
theorem RdAll.isCons {z : Z} {vs : List Value} {d : PyData} {ds : List PyData} (r : RdAll z vs (d :: ds)) : ∃ v us, vs = v :: us ∧ Rd z v d ∧ RdAll z us ds :=
  RdAll.ind (M := fun vs es => es = d :: ds → ∃ v us, vs = v :: us ∧ Rd z v d ∧ RdAll z us ds) (fun e => nomatch e) (fun _ _ _ _ h1 h2 _ e => ⟨_, _, rfl, (List.cons.inj e).1 ▸ h1, (List.cons.inj e).2 ▸ h2⟩) r rfl
theorem RdAll.is1 {z : Z} {vs : List Value} {d : PyData} (r : RdAll z vs [d]) : ∃ v, vs = [v] ∧ Rd z v d :=
  let ⟨v, us, e, h, q⟩ := r.isCons; ⟨v, by rw [e, q.isNil], h⟩
theorem RdAll.is2 {z : Z} {vs : List Value} {d e : PyData} (r : RdAll z vs [d, e]) : ∃ v u, vs = [v, u] ∧ Rd z v d ∧ Rd z u e :=
  let ⟨v, us, e1, h, q⟩ := r.isCons; let ⟨u, e2, h'⟩ := q.is1; ⟨v, u, by rw [e1, e2], h, h'⟩
theorem Rd.mono {z z' : Z} (k : Z.le z z') {v : Value} {d : PyData} (r : Rd z v d) : Rd z' v d :=
  Rd.rec (motive_1 := fun v d _ => Rd z' v d) (motive_2 := fun vs ds _ => RdAll z' vs ds) .none .bool .int .str (fun h1 _ ih => .list (k _ _ h1) ih) (fun h1 _ ih => .tuple (k _ _ h1) ih) .nil (fun _ _ a b => .cons a b) r
theorem RdAll.mono {z z' : Z} (k : Z.le z z') {vs : List Value} {ds : List PyData} (r : RdAll z vs ds) : RdAll z' vs ds := RdAll.ind .nil (fun _ _ _ _ h _ ih => .cons (h.mono k) ih) r
theorem RdAll.readsOf {z : Z} {h : Heap} {vs : List Value} {ds : List PyData} (r : RdAll z vs ds) (hd : ∀ v d, Rd z v d → ∃ as, Reads h v d as) : ∃ as, ReadsAll h vs ds as :=
  RdAll.ind (M := fun vs ds => ∃ as, ReadsAll h vs ds as) ⟨_, .nil⟩ (fun _ _ _ _ h1 _ ih => let ⟨_, q⟩ := hd _ _ h1; let ⟨_, r⟩ := ih; ⟨_, .cons q r⟩) r
theorem Rd.reads {z : Z} {h : Heap} (k : Z.sub z h) {v : Value} {d : PyData} (r : Rd z v d) : ∃ as, Reads h v d as :=
  Rd.rec (motive_1 := fun v d _ => ∃ as, Reads h v d as) (motive_2 := fun vs ds _ => ∃ as, ReadsAll h vs ds as) ⟨_, .none⟩ (fun b => ⟨_, .bool b⟩) (fun i t => ⟨_, .int i t⟩) (fun x t => ⟨_, .str x t⟩)
    (fun h1 _ ih => let ⟨_, r⟩ := ih; ⟨_, .list (k _ _ h1) rfl rfl r⟩) (fun h1 _ ih => let ⟨_, r⟩ := ih; ⟨_, .tuple (k _ _ h1) rfl rfl r⟩) ⟨_, .nil⟩ (fun _ _ a b => let ⟨_, q⟩ := a; let ⟨_, r⟩ := b; ⟨_, .cons q r⟩) r
theorem RdAll.length {z : Z} {vs : List Value} {ds : List PyData} (r : RdAll z vs ds) : vs.length = ds.length := RdAll.ind (M := fun vs ds => vs.length = ds.length) rfl (fun _ _ _ _ _ _ ih => congrArg Nat.succ ih) r
theorem RdAll.append {z : Z} {vs us : List Value} {ds es : List PyData} (r : RdAll z vs ds) (y : RdAll z us es) : RdAll z (vs ++ us) (ds ++ es) := RdAll.ind (M := fun vs ds => RdAll z (vs ++ us) (ds ++ es)) y (fun _ _ _ _ h _ ih => .cons h ih) r
theorem RdAll.get {z : Z} {vs : List Value} {ds : List PyData} (r : RdAll z vs ds) : ∀ (i : Nat) {v : Value}, vs[i]? = some v → ∃ d, ds[i]? = some d ∧ Rd z v d :=
  RdAll.ind (M := fun vs ds => ∀ (i : Nat) {v : Value}, vs[i]? = some v → ∃ d, ds[i]? = some d ∧ Rd z v d) (fun i {v} e => nomatch (List.getElem?_nil (i := i) ▸ e : none = some v)) (fun _ _ d _ h _ ih i => Nat.rec (fun e => ⟨d, rfl, Option.some.inj e ▸ h⟩) (fun i _ e => ih i e) i) r
theorem RdAll.get' {z : Z} {vs : List Value} {ds : List PyData} (r : RdAll z vs ds) : ∀ (i : Nat) {d : PyData}, ds[i]? = some d → ∃ v, vs[i]? = some v ∧ Rd z v d :=
  RdAll.ind (M := fun vs ds => ∀ (i : Nat) {d : PyData}, ds[i]? = some d → ∃ v, vs[i]? = some v ∧ Rd z v d) (fun i {v} e => nomatch (List.getElem?_nil (i := i) ▸ e : none = some v)) (fun v _ _ _ h _ ih i => Nat.rec (fun e => ⟨v, rfl, Option.some.inj e ▸ h⟩) (fun i _ e => ih i e) i) r

noncomputable def nf (o : Obj) : Prop := ∀ vs, o.data ≠ .fields vs
theorem nf_of {o : Obj} (h : (match o.data with | .fields _ => false | _ => true) = true) : nf o := fun vs e => by rw [e] at h; cases h
noncomputable def Z.Nf (z : Z) : Prop := ∀ a o, z a = some o → nf o
structure Gr (z : Z) (h : Heap) (z' : Z) (h' : Heap) : Prop where
  ext : Ext h h'
  le : Z.le z z'
  sub : Z.sub z' h'
  new : ∀ a o, z' a = some o → z a = some o ∨ (h.objs.size ≤ a ∧ nf o)
theorem Gr.refl {z : Z} {h : Heap} (k : Z.sub z h) : Gr z h z h := ⟨.refl h, .refl z, k, fun _ _ e => .inl e⟩
theorem Gr.trans {z₁ z₂ z₃ : Z} {h₁ h₂ h₃ : Heap} (x : Gr z₁ h₁ z₂ h₂) (y : Gr z₂ h₂ z₃ h₃) : Gr z₁ h₁ z₃ h₃ :=
  ⟨x.ext.trans y.ext, x.le.trans y.le, y.sub, fun a o e => (y.new a o e).elim (fun e' => x.new a o e') fun g => .inr ⟨Nat.le_trans x.ext.size g.1, g.2⟩⟩
noncomputable abbrev Z.put (z : Z) (a : Addr) (o : Obj) : Z := fun b => if b = a then some o else z b
theorem Z.none_of_sub {z : Z} {h : Heap} (k : Z.sub z h) {a : Addr} (ha : h.get? a = none) : z a = none := by
  cases e : z a with
  | none => rfl
  | some o => rw [k a o e] at ha; cases ha
theorem get?_size (h : Heap) : h.get? h.objs.size = none := by
  cases e : h.get? h.objs.size with
  | none => rfl
  | some o => exact absurd (Heap.lt_size e) (Nat.lt_irrefl _)
theorem Z.le_put {z : Z} {h : Heap} (k : Z.sub z h) (o : Obj) : Z.le z (z.put h.objs.size o) := fun b o' e => by
  have : b ≠ h.objs.size := fun q => by rw [q, Z.none_of_sub k (get?_size h)] at e; cases e
  simp only [Z.put, if_neg this]; exact e
theorem Gr.put {z : Z} {h : Heap} (k : Z.sub z h) (o : Obj) (hf : o.isFreed = false := by rfl) (hn : nf o := by exact nf_of rfl) : Gr z h (z.put h.objs.size o) (h.push o) := by
  refine ⟨Ext.push h o, Z.le_put k o, fun b o' e => ?_, fun b o' e => ?_⟩
  · by_cases hb : b = h.objs.size
    · subst hb; simp only [Z.put, if_true] at e; cases e; exact Heap.get?_push_size _ hf
    · simp only [Z.put, if_neg hb] at e; exact Heap.get?_push_of_some _ (k b o' e)
  · by_cases hb : b = h.objs.size
    · refine .inr ⟨Nat.le_of_eq hb.symm, ?_⟩
      subst hb; simp only [Z.put, if_true] at e; cases e; exact hn
    · simp only [Z.put, if_neg hb] at e; exact .inl e
theorem Gr.push {z : Z} {h : Heap} (k : Z.sub z h) (o : Obj) : Gr z h z (h.push o) :=
  ⟨Ext.push h o, .refl z, fun b o' e => Heap.get?_push_of_some _ (k b o' e), fun _ _ e => .inl e⟩
theorem Gr.keeps {z : Z} {h h' : Heap} (k : Z.sub z h) (q : ∀ a o, h.get? a = some o → h'.get? a = some o) (hs : h.objs.size ≤ h'.objs.size) : Gr z h z h' :=
  ⟨.of_keeps q hs, .refl z, fun b o' e => q _ _ (k b o' e), fun _ _ e => .inl e⟩
end Mine

-- V1
namespace Mine

inductive V where
  | dat (d : PyData)
  | own (a : Addr) (ds : List PyData)
  | ws (cs : List Int) (nt : Int)
  | val (v : Value)

noncomputable def wsE (h : Nat → Int) (t : Nat → Tok) (v : Nat → Value) : List DictEntry := [⟨h 0, .str (Str.ofString "raw") (t 0), v 0⟩, ⟨h 1, .str (Str.ofString "n") (t 1), v 1⟩, ⟨h 2, .str (Str.ofString "nt") (t 2), v 2⟩, ⟨h 3, .str (Str.ofString "norm") (t 3), v 3⟩, ⟨h 4, .str (Str.ofString "is_simple") (t 4), v 4⟩]
inductive WsAt (z : Z) (v : Value) (cs : List Int) (nt : Int) : Prop
  | mk (x dx n : Nat) (hs : Nat → Int) (ts : Nat → Tok) (vs : Nat → Value) (h1 : v = .ref x) (h2 : z x = some (instObj 133 dx)) (h3 : z dx = some (dictOf (wsE hs ts vs) n)) (h4 : Rd z (vs 3) (.tuple [.tuple (cs.map .int), .int 0])) (h5 : ∃ t, vs 2 = .int nt t) : WsAt z v cs nt
theorem WsAt.mono {z z' : Z} (k : Z.le z z') {v cs nt} : WsAt z v cs nt → WsAt z' v cs nt
  | ⟨x, dx, n, hs, ts, vs, h1, h2, h3, h4, h5⟩ => ⟨x, dx, n, hs, ts, vs, h1, k _ _ h2, k _ _ h3, h4.mono k, h5⟩

structure Cx where
  w : World
  env : Env
  N : List Str
  h0 : Heap
  z0 : Z
  X : List (Addr × Obj)

structure Cx.Ok (c : Cx) : Prop where
  kind : c.env.scope.kind = .function
  glob : c.env.globals = mainGlobals
  blt : c.env.builtins = builtinsNs
  above : c.h0.objs.size ≤ c.env.locals
  inj : ∀ x y a, c.env.cells.lookup x = some a → c.env.cells.lookup y = some a → x = y
  nodup : c.N.Nodup
  zt : c.z0.Nf

noncomputable def Slot (env : Env) (m : Str → Option Value) (h : Heap) (x : Str) (v : Value) : Prop :=
  (env.kindOf x = some .local ∧ m x = some v) ∨ ((env.kindOf x = some .cell ∨ env.kindOf x = some .free) ∧ ∃ a, env.cells.lookup x = some a ∧ h.IsCell a (some v))

noncomputable def At (c : Cx) (m : Str → Option Value) (z : Z) (h : Heap) (x : Str) : V → Prop
  | .dat d => ∃ v, Slot c.env m h x v ∧ Rd z v d
  | .own a ds => Slot c.env m h x (.ref a) ∧ z a = none ∧ c.h0.objs.size ≤ a ∧ ∃ vs n, h.get? a = some (lobj vs n) ∧ RdAll z vs ds
  | .ws cs nt => ∃ v, Slot c.env m h x v ∧ WsAt z v cs nt
  | .val v => Slot c.env m h x v

structure St (c : Cx) (σ : List (Option V)) (z : Z) (h : Heap) : Prop where
  ok : c.Ok
  ext : Ext c.h0 h
  gd0 : Gd c.w c.h0
  sub : Z.sub z h
  le : Z.le c.z0 z
  new : ∀ a o, z a = some o → c.z0 a = some o ∨ (c.h0.objs.size ≤ a ∧ nf o)
  vars : ∃ m, h.Ns c.env.locals m ∧ ∀ (i : Nat) x v, c.N[i]? = some x → σ[i]? = some (some v) → At c m z h x v
  zl : z c.env.locals = none
  cl : ∀ x a, c.env.cells.lookup x = some a → z a = none ∧ ∃ v, h.IsCell a v
  pin : ∀ p ∈ c.X, h.get? p.1 = some p.2 ∧ p.1 ≠ c.env.locals ∧ (∀ x a, c.env.cells.lookup x = some a → p.1 ≠ a) ∧ p.1 ≠ 44 ∧ p.1 ≠ 37 ∧ z p.1 = none
  dis : ∀ (i j : Nat) a ds b es, σ[i]? = some (some (.own a ds)) → σ[j]? = some (some (.own b es)) → i ≠ j → a ≠ b
  pid : ∀ (i : Nat) a ds, σ[i]? = some (some (.own a ds)) → ∀ p ∈ c.X, p.1 ≠ a

theorem St.gd {c : Cx} {σ z h} (S : St c σ z h) : Gd c.w h := S.gd0.ext S.ext
theorem Gd.ne {w : World} {h : Heap} (g : Gd w h) {a : Addr} {o : Obj} (e : h.get? a = some o) (hn : ∀ ps, o ≠ tabObj ps) : a ≠ 44 ∧ a ≠ 37 := by
  constructor
  · intro q; subst q
    rcases g.t1 with e' | ⟨c', e', _⟩ <;> (rw [e] at e'; cases e'; exact hn _ rfl)
  · intro q; subst q
    rcases g.t2 with e' | ⟨c', e', _⟩ <;> (rw [e] at e'; cases e'; exact hn _ rfl)
theorem Gd.up {w : World} {h h' : Heap} (g : Gd w h) (x : Ext h h') {a : Addr} {o : Obj} (e : h.get? a = some o) (hn : ∀ ps, o ≠ tabObj ps) : h'.get? a = some o :=
  let ⟨p, q⟩ := g.ne e hn; x.keep a o p q e
theorem nt_dict {o : Obj} {es n} (h : o.data = .dict es n) : ∀ ps, o ≠ tabObj ps := fun ps q => by rw [q] at h; cases h
theorem nt_cell {o : Obj} {v} (h : o.data = .cell v) : ∀ ps, o ≠ tabObj ps := fun ps q => by rw [q] at h; cases h
theorem nt_seq {o : Obj} {vs n} (h : o.data = .seq vs n) : ∀ ps, o ≠ tabObj ps := fun ps q => by rw [q] at h; cases h

theorem TabSt.lt {h : Heap} {P : Addr} {l c : Nat} {q : Str} (x : TabSt h P l c q) : P < h.objs.size := by
  rcases x with e | ⟨c', e, _⟩ <;> exact Heap.lt_size e
theorem St.zt {c : Cx} {σ z h} (S : St c σ z h) : z.Nf := fun a o e => (S.new a o e).elim (fun q => S.ok.zt a o q) fun q => q.2
theorem Gd.zn {w : World} {h : Heap} {z : Z} (g : Gd w h) (k : Z.sub z h) (n : z.Nf) : z 44 = none ∧ z 37 = none := by
  constructor
  · cases e : z 44 with
    | none => rfl
    | some o => rcases g.t1 with q | ⟨c', q, _⟩ <;> (rw [k _ _ e] at q; cases q; exact absurd rfl (n _ _ e _))
  · cases e : z 37 with
    | none => rfl
    | some o => rcases g.t2 with q | ⟨c', q, _⟩ <;> (rw [k _ _ e] at q; cases q; exact absurd rfl (n _ _ e _))
theorem At.lift {c : Cx} {m : Str → Option Value} {z z' : Z} {h h' : Heap} {x : Str} {v : V} (hz : Z.le z z') (hc : ∀ a u, h.IsCell a u → (∃ y, c.env.cells.lookup y = some a) → h'.IsCell a u)
    (hl : ∀ a ds, v = .own a ds → z' a = none ∧ ∀ o, h.get? a = some o → h'.get? a = some o) (e : At c m z h x v) : At c m z' h' x v := by
  have sl : ∀ {u}, Slot c.env m h x u → Slot c.env m h' x u := fun s => s.imp id fun ⟨k, a, e1, e2⟩ => ⟨k, a, e1, hc a _ e2 ⟨_, e1⟩⟩
  cases v with
  | dat d => obtain ⟨u, s, r⟩ := e; exact ⟨u, sl s, r.mono hz⟩
  | own a ds => obtain ⟨s, e1, e2, vs, n, e3, e4⟩ := e; exact ⟨sl s, (hl a ds rfl).1, e2, vs, n, (hl a ds rfl).2 _ e3, e4.mono hz⟩
  | ws cs nt => obtain ⟨u, s, r⟩ := e; exact ⟨u, sl s, r.mono hz⟩
  | val u => exact sl e

theorem St.lt {c : Cx} {σ z h} (S : St c σ z h) : c.h0.objs.size ≤ h.objs.size := S.ext.size
theorem St.owned {c : Cx} {σ z h} (S : St c σ z h) {i : Nat} {x a ds} (hx : c.N[i]? = some x) (e : σ[i]? = some (some (.own a ds))) : z a = none ∧ c.h0.objs.size ≤ a ∧ ∃ vs n, h.get? a = some (lobj vs n) ∧ RdAll z vs ds := by
  obtain ⟨m, _, hv⟩ := S.vars
  exact (hv i x _ hx e).2

theorem St.grow {c : Cx} {σ z h z' h'} (S : St c σ z h) (g : Gr z h z' h') : St c σ z' h' := by
  have old : ∀ a o, h.get? a = some o → z a = none → z' a = none := fun a o e q => by
    cases e2 : z' a with
    | none => rfl
    | some o' => rcases g.new a o' e2 with e3 | e3
                 · rw [q] at e3; cases e3
                 · exact absurd (Heap.lt_size e) (Nat.not_lt.mpr e3.1)
  refine ⟨S.ok, S.ext.trans g.ext, S.gd0, g.sub, S.le.trans g.le, fun a o e => ?_, ?_, ?_, fun x a e => ?_, fun p hp => ?_, S.dis, S.pid⟩
  · exact (g.new a o e).elim (fun e' => S.new a o e') fun q => .inr ⟨Nat.le_trans S.lt q.1, q.2⟩
  · obtain ⟨m, hn, hv⟩ := S.vars
    refine ⟨m, ?_, fun i x v hx hs => (hv i x v hx hs).lift g.le (fun a u hc _ => ?_) (fun a ds q => ?_)⟩
    · obtain ⟨o, es, ep, e, hd, r⟩ := hn
      exact ⟨o, es, ep, S.gd.up g.ext e (nt_dict hd), hd, r⟩
    · obtain ⟨o, e, hd⟩ := hc
      exact ⟨o, S.gd.up g.ext e (nt_cell hd), hd⟩
    · subst q
      obtain ⟨_, q1, _, vs, n, q2, _⟩ := hv i x _ hx hs
      exact ⟨old a _ q2 q1, fun o e => by rw [q2] at e; cases e; exact S.gd.up g.ext q2 (nt_seq rfl)⟩
  · obtain ⟨m, ⟨o, es, ep, e, _⟩, _⟩ := S.vars
    exact old _ o e S.zl
  · obtain ⟨q1, v, o, e1, e2⟩ := S.cl x a e
    exact ⟨old a o e1 q1, v, o, S.gd.up g.ext e1 (nt_cell e2), e2⟩
  · obtain ⟨q1, q2, q3, q4, q5, q6⟩ := S.pin p hp
    exact ⟨g.ext.keep _ _ q4 q5 q1, q2, q3, q4, q5, old _ _ q1 q6⟩

theorem St.change {c : Cx} {σ σ' z h h'} {a : Addr} {oa : Obj} (S : St c σ z h) (s : Heap.SameBut a h h') (hge : c.h0.objs.size ≤ a) (hz : z a = none) (ha : h.get? a = some oa) (hf : ∀ vs, oa.data ≠ .fields vs)
    (vars : ∃ m, h'.Ns c.env.locals m ∧ ∀ (i : Nat) x v, c.N[i]? = some x → σ'[i]? = some (some v) → At c m z h' x v) (hcl : ∀ x b, c.env.cells.lookup x = some b → ∃ v, h'.IsCell b v)
    (hpin : ∀ p ∈ c.X, p.1 ≠ a) (dis : ∀ (i j : Nat) a ds b es, σ'[i]? = some (some (.own a ds)) → σ'[j]? = some (some (.own b es)) → i ≠ j → a ≠ b)
    (pid : ∀ (i : Nat) a ds, σ'[i]? = some (some (.own a ds)) → ∀ p ∈ c.X, p.1 ≠ a) : St c σ' z h' :=
  ⟨S.ok, S.ext.sameBut s hge ha hf, S.gd0, fun b o e => (s.2 b fun q => by rw [q, hz] at e; cases e).trans (S.sub b o e), S.le, S.new, vars, S.zl, fun x b e => ⟨(S.cl x b e).1, hcl x b e⟩,
    fun p hp => ⟨(s.2 _ (hpin p hp)).trans (S.pin p hp).1, (S.pin p hp).2⟩, dis, pid⟩

theorem get_set {σ : List (Option V)} {i j : Nat} {v u : V} (e : (σ.set i (some v))[j]? = some (some u)) : (j = i ∧ u = v) ∨ (j ≠ i ∧ σ[j]? = some (some u)) := by
  rw [List.getElem?_set] at e
  by_cases h : i = j
  · rw [if_pos h] at e
    split at e
    · cases e; exact .inl ⟨h.symm, rfl⟩
    · cases e
  · rw [if_neg h] at e; exact .inr ⟨fun q => h q.symm, e⟩
noncomputable def Bnd (c : Cx) (z : Z) (h : Heap) (v : Value) : V → Prop
  | .dat d => Rd z v d
  | .own a ds => v = .ref a ∧ z a = none ∧ c.h0.objs.size ≤ a ∧ ∃ vs n, h.get? a = some (lobj vs n) ∧ RdAll z vs ds
  | .ws cs nt => WsAt z v cs nt
  | .val u => v = u
noncomputable def NewOwn (c : Cx) (σ : List (Option V)) (i : Nat) : V → Prop
  | .own a _ => (∀ (j : Nat) b es, j ≠ i → σ[j]? = some (some (.own b es)) → b ≠ a) ∧ ∀ p ∈ c.X, p.1 ≠ a
  | _ => True
theorem St.bind_local {c : Cx} {σ z h h' m} {i : Nat} {x : Str} {v : Value} {u : V} (S : St c σ z h) (hx : c.N[i]? = some x) (hl : c.env.kindOf x = some .local) (hm : h.Ns c.env.locals m)
    (hv : ∀ (i : Nat) x v, c.N[i]? = some x → σ[i]? = some (some v) → At c m z h x v) (hn : h'.Ns c.env.locals (fun y => if y = x then some v else m y)) (s : Heap.SameBut c.env.locals h h') (b : Bnd c z h v u) (no : NewOwn c σ i u) :
    St c (σ.set i (some u)) z h' := by
  obtain ⟨o, es, ep, ho, hd, hr⟩ := id hm
  have cell : ∀ a u, h.IsCell a u → h'.IsCell a u := fun a u ⟨oc, e1, e2⟩ => ⟨oc, (s.2 a fun q => by rw [q, ho] at e1; cases e1; rw [hd] at e2; cases e2).trans e1, e2⟩
  have seq : ∀ a vs n, h.get? a = some (lobj vs n) → h'.get? a = some (lobj vs n) := fun a vs n e => (s.2 a fun q => by rw [q, ho] at e; cases e; cases hd).trans e
  have slot : ∀ {y u}, y ≠ x → Slot c.env m h y u → Slot c.env (fun y => if y = x then some v else m y) h' y u := fun hy sl => sl.imp (fun ⟨k, e⟩ => ⟨k, (if_neg hy).trans e⟩) fun ⟨k, a, e1, e2⟩ => ⟨k, a, e1, cell a _ e2⟩
  refine S.change s S.ok.above S.zl ho (fun vs q => by rw [hd] at q; cases q) ⟨_, hn, fun j y u' hy hu => ?_⟩ (fun y b e => let ⟨w, k⟩ := (S.cl y b e).2; ⟨w, cell b w k⟩) (fun p hp q => ?_) (fun j k a ds b' es' h1 h2 hne => ?_) fun j a ds h1 => ?_
  · rcases get_set hu with ⟨rfl, rfl⟩ | ⟨hji, hu⟩
    · rw [hx] at hy; cases hy
      have sl : Slot c.env (fun y => if y = x then some v else m y) h' x v := .inl ⟨hl, if_pos rfl⟩
      cases u' with
      | dat d => exact ⟨v, sl, b⟩
      | own a ds => obtain ⟨rfl, b1, b2, vs, n, b3, b4⟩ := b; exact ⟨sl, b1, b2, vs, n, seq a vs n b3, b4⟩
      | ws cs nt => exact ⟨v, sl, b⟩
      | val u => cases b; exact sl
    · have hyx : y ≠ x := fun q => by
        subst q
        have hlt : j < c.N.length := by rcases Nat.lt_or_ge j c.N.length with h | h; exact h; rw [List.getElem?_eq_none h] at hy; cases hy
        have hlt2 : i < c.N.length := by rcases Nat.lt_or_ge i c.N.length with h | h; exact h; rw [List.getElem?_eq_none h] at hx; cases hx
        exact hji ((List.getElem?_inj hlt S.ok.nodup).mp (hy.trans hx.symm))
      have e := hv j y u' hy hu
      cases u' with
      | dat d => obtain ⟨w, sl, r⟩ := e; exact ⟨w, slot hyx sl, r⟩
      | own a ds => obtain ⟨sl, b1, b2, vs, n, b3, b4⟩ := e; exact ⟨slot hyx sl, b1, b2, vs, n, seq a vs n b3, b4⟩
      | ws cs nt => obtain ⟨w, sl, r⟩ := e; exact ⟨w, slot hyx sl, r⟩
      | val u => exact slot hyx e
  · exact (S.pin p hp).2.1 q
  · rcases get_set h1 with ⟨e1, e1'⟩ | ⟨n1, k1⟩
    · rcases get_set h2 with ⟨e2, _⟩ | ⟨n2, k2⟩
      · exact absurd (e1.trans e2.symm) hne
      · subst e1'; exact fun q => no.1 k b' es' n2 k2 q.symm
    · rcases get_set h2 with ⟨e2, e2'⟩ | ⟨n2, k2⟩
      · subst e2'; exact no.1 j a ds n1 k1
      · exact S.dis j k a ds b' es' k1 k2 hne
  · rcases get_set h1 with ⟨e1, e1'⟩ | ⟨n1, k1⟩
    · subst e1'; exact no.2
    · exact S.pid j a ds k1
end Mine

-- V2
namespace Mine

theorem getElem?_lt {α : Type} {l : List α} {i : Nat} {x : α} (h : l[i]? = some x) : i < l.length := by
  rcases Nat.lt_or_ge i l.length with q | q
  · exact q
  · rw [List.getElem?_eq_none q] at h; cases h
theorem Cx.Ok.idx {c : Cx} (o : c.Ok) {i j : Nat} {x : Str} (hi : c.N[i]? = some x) (hj : c.N[j]? = some x) : j = i :=
  (List.getElem?_inj (getElem?_lt hj) o.nodup).mp (hj.trans hi.symm)

theorem St.bind_cell {c : Cx} {σ z h h'} {i : Nat} {x : Str} {v : Value} {u : V} {a : Addr} (S : St c σ z h) (hx : c.N[i]? = some x) (hl : c.env.kindOf x = some .cell) (hc : c.env.cells.lookup x = some a) (hge : c.h0.objs.size ≤ a)
    (hv' : h'.IsCell a (some v)) (s : Heap.SameBut a h h') (b : Bnd c z h v u) (no : NewOwn c σ i u) : St c (σ.set i (some u)) z h' := by
  obtain ⟨za, ov, o, ho, hd⟩ := S.cl x a hc
  obtain ⟨m, hm, hv⟩ := S.vars
  have seq : ∀ a' vs n, h.get? a' = some (lobj vs n) → h'.get? a' = some (lobj vs n) := fun a' vs n e => (s.2 a' fun q => by rw [q, ho] at e; cases e; cases hd).trans e
  have slot : ∀ {y u}, y ≠ x → Slot c.env m h y u → Slot c.env m h' y u := fun hy sl => sl.imp id fun ⟨k, b', e1, e2⟩ => ⟨k, b', e1, e2.sameBut s fun q => hy (S.ok.inj _ _ a (q ▸ e1) hc)⟩
  refine S.change s hge za ho (fun vs q => by rw [hd] at q; cases q) ⟨m, ?_, fun j y u' hy hu => ?_⟩ (fun y b' e => ?_) (fun p hp q => ?_) (fun j k a' ds b' es' h1 h2 hne => ?_) fun j a' ds h1 => ?_
  · obtain ⟨o', es, ep, e, hd', r⟩ := hm
    exact ⟨o', es, ep, (s.2 _ fun q => by rw [q, ho] at e; cases e; rw [hd] at hd'; cases hd').trans e, hd', r⟩
  · rcases get_set hu with ⟨rfl, rfl⟩ | ⟨hji, hu⟩
    · rw [hx] at hy; cases hy
      have sl : Slot c.env m h' x v := .inr ⟨.inl hl, a, hc, hv'⟩
      cases u' with
      | dat d => exact ⟨v, sl, b⟩
      | own a' ds => obtain ⟨rfl, b1, b2, vs, n, b3, b4⟩ := b; exact ⟨sl, b1, b2, vs, n, seq a' vs n b3, b4⟩
      | ws cs nt => exact ⟨v, sl, b⟩
      | val u => cases b; exact sl
    · have hyx : y ≠ x := fun q => by subst q; exact hji (S.ok.idx hx hy)
      have e := hv j y u' hy hu
      cases u' with
      | dat d => obtain ⟨w, sl, r⟩ := e; exact ⟨w, slot hyx sl, r⟩
      | own a' ds => obtain ⟨sl, b1, b2, vs, n, b3, b4⟩ := e; exact ⟨slot hyx sl, b1, b2, vs, n, seq a' vs n b3, b4⟩
      | ws cs nt => obtain ⟨w, sl, r⟩ := e; exact ⟨w, slot hyx sl, r⟩
      | val u => exact slot hyx e
  · by_cases q : b' = a
    · subst q; exact ⟨_, hv'⟩
    · obtain ⟨_, w, k⟩ := S.cl y b' e; exact ⟨w, k.sameBut s q⟩
  · exact (S.pin p hp).2.2.1 x a hc q
  · rcases get_set h1 with ⟨e1, e1'⟩ | ⟨n1, k1⟩
    · rcases get_set h2 with ⟨e2, _⟩ | ⟨n2, k2⟩
      · exact absurd (e1.trans e2.symm) hne
      · subst e1'; exact fun q => no.1 k b' es' n2 k2 q.symm
    · rcases get_set h2 with ⟨e2, e2'⟩ | ⟨n2, k2⟩
      · subst e2'; exact no.1 j a' ds n1 k1
      · exact S.dis j k a' ds b' es' k1 k2 hne
  · rcases get_set h1 with ⟨e1, e1'⟩ | ⟨n1, k1⟩
    · subst e1'; exact no.2
    · exact S.pid j a' ds k1

theorem St.mutate {c : Cx} {σ z h h'} {i : Nat} {x : Str} {a : Addr} {ds ds' : List PyData} {vs' : List Value} {n' : Nat} (S : St c σ z h) (hx : c.N[i]? = some x) (hi : σ[i]? = some (some (.own a ds)))
    (s : Heap.SameBut a h h') (ha : h'.get? a = some (lobj vs' n')) (r : RdAll z vs' ds') : St c (σ.set i (some (.own a ds'))) z h' := by
  obtain ⟨m, hm, hv⟩ := S.vars
  obtain ⟨sl, za, ge, vs, n, ho, _⟩ := hv i x _ hx hi
  have cell : ∀ a' u, h.IsCell a' u → h'.IsCell a' u := fun a' u ⟨oc, e1, e2⟩ => ⟨oc, (s.2 a' fun q => by rw [q, ho] at e1; cases e1; cases e2).trans e1, e2⟩
  have slot : ∀ {y u}, Slot c.env m h y u → Slot c.env m h' y u := fun sl => sl.imp id fun ⟨k, b', e1, e2⟩ => ⟨k, b', e1, cell _ _ e2⟩
  refine S.change s ge za ho (fun vs q => by cases q) ⟨m, ?_, fun j y u' hy hu => ?_⟩ (fun y b' e => let ⟨w, k⟩ := (S.cl y b' e).2; ⟨w, cell _ _ k⟩) (S.pid i a ds hi) (fun j k a' ds₁ b' es' h1 h2 hne => ?_) fun j a' ds₁ h1 => ?_
  · obtain ⟨o', es, ep, e, hd', r⟩ := hm
    exact ⟨o', es, ep, (s.2 _ fun q => by rw [q, ho] at e; cases e; cases hd').trans e, hd', r⟩
  · rcases get_set hu with ⟨rfl, rfl⟩ | ⟨hji, hu⟩
    · rw [hx] at hy; cases hy
      exact ⟨slot sl, za, ge, vs', n', ha, r⟩
    · have e := hv j y u' hy hu
      cases u' with
      | dat d => obtain ⟨w, sl, r⟩ := e; exact ⟨w, slot sl, r⟩
      | own a' ds₁ =>
        obtain ⟨sl, b1, b2, vs, n, b3, b4⟩ := e
        exact ⟨slot sl, b1, b2, vs, n, (s.2 _ (S.dis j i a' ds₁ a ds hu hi hji)).trans b3, b4⟩
      | ws cs nt => obtain ⟨w, sl, r⟩ := e; exact ⟨w, slot sl, r⟩
      | val u => exact slot e
  · rcases get_set h1 with ⟨e1, e1'⟩ | ⟨n1, k1⟩
    · cases e1'
      rcases get_set h2 with ⟨e2, _⟩ | ⟨n2, k2⟩
      · exact absurd (e1.trans e2.symm) hne
      · exact S.dis i k a ds b' es' hi k2 (fun q => n2 q.symm)
    · rcases get_set h2 with ⟨e2, e2'⟩ | ⟨n2, k2⟩
      · cases e2'; exact S.dis j i a' ds₁ a ds k1 hi n1
      · exact S.dis j k a' ds₁ b' es' k1 k2 hne
  · rcases get_set h1 with ⟨e1, e1'⟩ | ⟨n1, k1⟩
    · cases e1'; exact S.pid i a ds hi
    · exact S.pid j a' ds₁ k1

noncomputable abbrev D (d : PyData) : Value → Z → Prop := fun v z => Rd z v d
noncomputable abbrev Mo (P : Value → Z → Prop) : Prop := ∀ v z z', Z.le z z' → P v z → P v z'
theorem mo_D {d : PyData} : Mo (D d) := fun _ _ _ k r => r.mono k

@[irreducible] noncomputable def Ev (c : Cx) (A : Around) (σ : List (Option V)) (e : Expr) (P : Value → Z → Prop) : Prop :=
  ∀ (s : Shared) (z : Z) (E : Value → Shared → Prop) (Q : Value → Shared → Prop), St c σ z s.heap →
    (∀ v h' tk z', Gr z s.heap z' h' → P v z' → Q v { s with heap := h', toks := tk }) → wpAny (model PR c.w) A (eval e c.env) Q E s
theorem Ev.mk {c : Cx} {A : Around} {σ : List (Option V)} {e : Expr} {P : Value → Z → Prop} (h : ∀ (s : Shared) (z : Z) (E : Value → Shared → Prop) (Q : Value → Shared → Prop), St c σ z s.heap →
    (∀ v h' tk z', Gr z s.heap z' h' → P v z' → Q v { s with heap := h', toks := tk }) → wpAny (model PR c.w) A (eval e c.env) Q E s) : Ev c A σ e P := by delta Ev; exact h
theorem Ev.run {c : Cx} {A : Around} {σ : List (Option V)} {e : Expr} {P : Value → Z → Prop} (h : Ev c A σ e P) : ∀ (s : Shared) (z : Z) (E : Value → Shared → Prop) (Q : Value → Shared → Prop), St c σ z s.heap →
    (∀ v h' tk z', Gr z s.heap z' h' → P v z' → Q v { s with heap := h', toks := tk }) → wpAny (model PR c.w) A (eval e c.env) Q E s := by delta Ev at h; exact h
@[irreducible] noncomputable def Ts (c : Cx) (A : Around) (σ : List (Option V)) (e : Expr) (b : Bool) : Prop :=
  ∀ (s : Shared) (z : Z) (E : Value → Shared → Prop) (Q : Bool → Shared → Prop), St c σ z s.heap →
    (∀ h' tk z', Gr z s.heap z' h' → Q b { s with heap := h', toks := tk }) → wpAny (model PR c.w) A (isTrue e c.env (eval e c.env)) Q E s
theorem Ts.mk {c : Cx} {A : Around} {σ : List (Option V)} {e : Expr} {b : Bool} (h : ∀ (s : Shared) (z : Z) (E : Value → Shared → Prop) (Q : Bool → Shared → Prop), St c σ z s.heap →
    (∀ h' tk z', Gr z s.heap z' h' → Q b { s with heap := h', toks := tk }) → wpAny (model PR c.w) A (isTrue e c.env (eval e c.env)) Q E s) : Ts c A σ e b := by delta Ts; exact h
theorem Ts.run {c : Cx} {A : Around} {σ : List (Option V)} {e : Expr} {b : Bool} (h : Ts c A σ e b) : ∀ (s : Shared) (z : Z) (E : Value → Shared → Prop) (Q : Bool → Shared → Prop), St c σ z s.heap →
    (∀ h' tk z', Gr z s.heap z' h' → Q b { s with heap := h', toks := tk }) → wpAny (model PR c.w) A (isTrue e c.env (eval e c.env)) Q E s := by delta Ts at h; exact h
@[irreducible] noncomputable def Sx (c : Cx) (A : Around) (σ : List (Option V)) (st : List Stmt) (P : Flow → Z → Heap → Prop) : Prop :=
  ∀ (s : Shared) (z : Z) (E : Value → Shared → Prop) (Q : Flow → Shared → Prop), St c σ z s.heap →
    (∀ f h' tk z', Z.le z z' → P f z' h' → Q f { s with heap := h', toks := tk }) → wpAny (model PR c.w) A (execs st c.env) Q E s
theorem Sx.mk {c : Cx} {A : Around} {σ : List (Option V)} {st : List Stmt} {P : Flow → Z → Heap → Prop} (h : ∀ (s : Shared) (z : Z) (E : Value → Shared → Prop) (Q : Flow → Shared → Prop), St c σ z s.heap →
    (∀ f h' tk z', Z.le z z' → P f z' h' → Q f { s with heap := h', toks := tk }) → wpAny (model PR c.w) A (execs st c.env) Q E s) : Sx c A σ st P := by delta Sx; exact h
theorem Sx.run {c : Cx} {A : Around} {σ : List (Option V)} {st : List Stmt} {P : Flow → Z → Heap → Prop} (h : Sx c A σ st P) : ∀ (s : Shared) (z : Z) (E : Value → Shared → Prop) (Q : Flow → Shared → Prop), St c σ z s.heap →
    (∀ f h' tk z', Z.le z z' → P f z' h' → Q f { s with heap := h', toks := tk }) → wpAny (model PR c.w) A (execs st c.env) Q E s := by delta Sx at h; exact h
@[irreducible] noncomputable def Sx1 (c : Cx) (A : Around) (σ : List (Option V)) (st : Stmt) (P : Flow → Z → Heap → Prop) : Prop :=
  ∀ (s : Shared) (z : Z) (E : Value → Shared → Prop) (Q : Flow → Shared → Prop), St c σ z s.heap →
    (∀ f h' tk z', Z.le z z' → P f z' h' → Q f { s with heap := h', toks := tk }) → wpAny (model PR c.w) A (exec st c.env) Q E s
theorem Sx1.mk {c : Cx} {A : Around} {σ : List (Option V)} {st : Stmt} {P : Flow → Z → Heap → Prop} (h : ∀ (s : Shared) (z : Z) (E : Value → Shared → Prop) (Q : Flow → Shared → Prop), St c σ z s.heap →
    (∀ f h' tk z', Z.le z z' → P f z' h' → Q f { s with heap := h', toks := tk }) → wpAny (model PR c.w) A (exec st c.env) Q E s) : Sx1 c A σ st P := by delta Sx1; exact h
theorem Sx1.run {c : Cx} {A : Around} {σ : List (Option V)} {st : Stmt} {P : Flow → Z → Heap → Prop} (h : Sx1 c A σ st P) : ∀ (s : Shared) (z : Z) (E : Value → Shared → Prop) (Q : Flow → Shared → Prop), St c σ z s.heap →
    (∀ f h' tk z', Z.le z z' → P f z' h' → Q f { s with heap := h', toks := tk }) → wpAny (model PR c.w) A (exec st c.env) Q E s := by delta Sx1 at h; exact h
@[irreducible] noncomputable def Op2 (w : World) (A : Around) (op : Value → Value → Sem Value) (a b d : PyData) : Prop :=
  ∀ (s : Shared) (z : Z) (u v : Value) (E : Value → Shared → Prop) (Q : Value → Shared → Prop), Gd w s.heap → Z.sub z s.heap → Rd z u a → Rd z v b →
    (∀ r h' tk z', Gr z s.heap z' h' → Rd z' r d → Q r { s with heap := h', toks := tk }) → wpAny (model PR w) A (op u v) Q E s
theorem Op2.mk {w : World} {A : Around} {op : Value → Value → Sem Value} {a b d : PyData} (h : ∀ (s : Shared) (z : Z) (u v : Value) (E : Value → Shared → Prop) (Q : Value → Shared → Prop), Gd w s.heap → Z.sub z s.heap → Rd z u a → Rd z v b →
    (∀ r h' tk z', Gr z s.heap z' h' → Rd z' r d → Q r { s with heap := h', toks := tk }) → wpAny (model PR w) A (op u v) Q E s) : Op2 w A op a b d := by delta Op2; exact h
theorem Op2.run {w : World} {A : Around} {op : Value → Value → Sem Value} {a b d : PyData} (h : Op2 w A op a b d) : ∀ (s : Shared) (z : Z) (u v : Value) (E : Value → Shared → Prop) (Q : Value → Shared → Prop), Gd w s.heap → Z.sub z s.heap → Rd z u a → Rd z v b →
    (∀ r h' tk z', Gr z s.heap z' h' → Rd z' r d → Q r { s with heap := h', toks := tk }) → wpAny (model PR w) A (op u v) Q E s := by delta Op2 at h; exact h

section
variable {c : Cx} {A : Around} {σ : List (Option V)}
theorem ev_int {i k pos} : Ev c A σ (.Constant (.int i) k pos) (D (.int i)) := .mk fun s z E Q S h => wpAny_Constant_int (h _ s.heap _ z (.refl S.sub) (.int _ _))
theorem ev_str {x k pos} : Ev c A σ (.Constant (.str x) k pos) (D (.str x)) := .mk fun s z E Q S h => wpAny_Constant_str (h _ s.heap _ z (.refl S.sub) (.str _ _))
theorem ev_none {k pos} : Ev c A σ (.Constant .none k pos) (D .none) := .mk fun s z E Q S h => wpAny_Constant_none (h _ s.heap s.toks z (.refl S.sub) .none)
theorem ev_bool {b k pos} : Ev c A σ (.Constant (.bool b) k pos) (D (.bool b)) := .mk fun s z E Q S h => wpAny_Constant_bool (h _ s.heap s.toks z (.refl S.sub) (.bool b))
theorem load_slot {s : Shared} {m : Str → Option Value} {x : Str} {v : Value} {E : Value → Shared → Prop} {Q : Value → Shared → Prop} (hk : c.env.scope.kind = .function) (hm : s.heap.Ns c.env.locals m) (sl : Slot c.env m s.heap x v) (h : Q v s)
    (hn : (x == ("__classdict__" : Str)) = false) : wpAny (model PR c.w) A (loadName c.env x) Q E s := by
  rcases sl with ⟨k, e⟩ | ⟨k | k, a, e1, e2⟩
  · exact wpAny_loadName_local hk k hm e h
  · exact wpAny_loadName_cell hk k e1 e2 h
  · exact wpAny_loadName_free hk k e1 e2 h hn
theorem ev_name {i : Nat} {x pos d} (hx : c.N[i]? = some x) (hi : σ[i]? = some (some (.dat d))) (hd : (x == ("__debug__" : Str)) = false := by decide) (hn : (x == ("__classdict__" : Str)) = false := by decide) :
    Ev c A σ (.Name x pos) (D d) := .mk fun s z E Q S h => by
  obtain ⟨m, hm, hv⟩ := S.vars
  obtain ⟨v, sl, r⟩ := hv i x _ hx hi
  exact wpAny_Name (load_slot S.ok.kind hm sl (h v s.heap s.toks z (.refl S.sub) r) hn) hd
theorem ev_name_ws {i : Nat} {x pos cs nt} (hx : c.N[i]? = some x) (hi : σ[i]? = some (some (.ws cs nt))) (hd : (x == ("__debug__" : Str)) = false := by decide) (hn : (x == ("__classdict__" : Str)) = false := by decide) :
    Ev c A σ (.Name x pos) (fun v z => WsAt z v cs nt) := .mk fun s z E Q S h => by
  obtain ⟨m, hm, hv⟩ := S.vars
  obtain ⟨v, sl, r⟩ := hv i x _ hx hi
  exact wpAny_Name (load_slot S.ok.kind hm sl (h v s.heap s.toks z (.refl S.sub) r) hn) hd
theorem ev_name_val {i : Nat} {x pos u} (hx : c.N[i]? = some x) (hi : σ[i]? = some (some (.val u))) (hd : (x == ("__debug__" : Str)) = false := by decide) (hn : (x == ("__classdict__" : Str)) = false := by decide) :
    Ev c A σ (.Name x pos) (fun v z => v = u) := .mk fun s z E Q S h => by
  obtain ⟨m, hm, hv⟩ := S.vars
  exact wpAny_Name (load_slot S.ok.kind hm (hv i x _ hx hi) (h u s.heap s.toks z (.refl S.sub) rfl) hn) hd
theorem ev_two {e₁ e₂ : Expr} {P₁ P₂ : Value → Z → Prop} (h1 : Ev c A σ e₁ P₁) (h2 : Ev c A σ e₂ P₂) (hm : Mo P₁) {s : Shared} {z : Z} {E : Value → Shared → Prop} {k : Value → Value → Shared → Prop} (S : St c σ z s.heap)
    (h : ∀ u v h' tk z', Gr z s.heap z' h' → P₁ u z' → P₂ v z' → k u v { s with heap := h', toks := tk }) :
    wpAny (model PR c.w) A (eval e₁ c.env) (fun u s₁ => wpAny (model PR c.w) A (eval e₂ c.env) (fun v s₂ => k u v s₂) E s₁) E s :=
  h1.run s z E _ S fun u h₁ t₁ z₁ g₁ p₁ => h2.run _ z₁ E _ (S.grow g₁) fun v h₂ t₂ z₂ g₂ p₂ => h u v h₂ t₂ z₂ (g₁.trans g₂) (hm _ _ _ g₂.le p₁) p₂
theorem ev_bin {l r : Expr} {op : Operator} {pos : Pos} {a b d : PyData} (h1 : Ev c A σ l (D a)) (h2 : Ev c A σ r (D b)) (ho : Op2 c.w A (binaryOp op) a b d) : Ev c A σ (.BinOp l op r pos) (D d) := .mk fun s z E Q S h =>
  wpAny_BinOp (ev_two h1 h2 mo_D S fun u v h' tk z' g p q => ho.run _ z' u v E Q (S.grow g).gd g.sub p q fun x h₂ t₂ z₂ g₂ p₂ => h x h₂ t₂ z₂ (g.trans g₂) p₂)
theorem ev_cmp {l r : Expr} {op : CmpOp} {pos : Pos} {a b d : PyData} (h1 : Ev c A σ l (D a)) (h2 : Ev c A σ r (D b)) (ho : Op2 c.w A (compareOp op) a b d) (hm : behindInMarks op r = false := by with_unfolding_all rfl) :
    Ev c A σ (.Compare l [op] [r] pos) (D d) := .mk fun s z E Q S h =>
  wpAny_Compare1 (ev_two h1 h2 mo_D S fun u v h' tk z' g p q => ho.run _ z' u v E Q (S.grow g).gd g.sub p q fun x h₂ t₂ z₂ g₂ p₂ => h x h₂ t₂ z₂ (g.trans g₂) p₂) hm
theorem ts_cmp {l r : Expr} {op : CmpOp} {pos : Pos} {a b : PyData} {t : Bool} (h1 : Ev c A σ l (D a)) (h2 : Ev c A σ r (D b)) (ho : Op2 c.w A (compareOp op) a b (.bool t)) (hm : behindInMarks op r = false := by with_unfolding_all rfl) :
    Ts c A σ (.Compare l [op] [r] pos) t := .mk fun s z E Q S h =>
  wpAny_isTrue_Compare1 (ev_two h1 h2 mo_D S fun u v h' tk z' g p q => ho.run _ z' u v E _ (S.grow g).gd g.sub p q fun x h₂ t₂ z₂ g₂ p₂ => by
    cases p₂; exact wpAny_truthy_bool (h h₂ t₂ z₂ (g.trans g₂))) hm
end
end Mine

-- V3
namespace Mine
section
variable {w : World} {A : Around}
theorem gr_tok {z : Z} {h : Heap} (k : Z.sub z h) : Gr z h z h := .refl k

theorem op_int {op : Value → Value → Sem Value} {a b r : Int} (hop : ∀ (t u : Tok) (s : Shared) (E Q : Value → Shared → Prop), Q (.int r s.toks) { s with toks := s.toks + 1 } → wpAny (model PR w) A (op (.int a t) (.int b u)) Q E s) :
    Op2 w A op (.int a) (.int b) (.int r) := .mk fun s z u v E Q g k ru rv h => by
  obtain ⟨_, rfl⟩ := ru.isInt
  obtain ⟨_, rfl⟩ := rv.isInt
  exact hop _ _ s E Q (h _ s.heap _ z (.refl k) (.int _ _))
theorem op_bool {op : Value → Value → Sem Value} {a b : Int} {r : Bool} (hop : ∀ (t u : Tok) (s : Shared) (E Q : Value → Shared → Prop), Q (.bool r) s → wpAny (model PR w) A (op (.int a t) (.int b u)) Q E s) :
    Op2 w A op (.int a) (.int b) (.bool r) := .mk fun s z u v E Q g k ru rv h => by
  obtain ⟨_, rfl⟩ := ru.isInt
  obtain ⟨_, rfl⟩ := rv.isInt
  exact hop _ _ s E Q (h _ s.heap s.toks z (.refl k) (.bool _))
theorem add_i {a b : Int} : Op2 w A (binaryOp .Add) (.int a) (.int b) (.int (a + b)) := op_int fun _ _ _ _ _ h => by with_reducible exact P.add_int h
theorem sub_i {a b : Int} : Op2 w A (binaryOp .Sub) (.int a) (.int b) (.int (a - b)) := op_int fun _ _ _ _ _ h => by with_reducible exact P.sub_int h
theorem mul_i {a b : Int} (hm : IntMulOk a b) : Op2 w A (binaryOp .Mult) (.int a) (.int b) (.int (a * b)) := op_int fun _ _ _ _ _ h => by with_reducible exact P.mul_int h hm
theorem fdiv_i {a b : Int} (hb : b ≠ 0) (hs : b.natAbs < 1073741824) : Op2 w A (binaryOp .FloorDiv) (.int a) (.int b) (.int (a.fdiv b)) := op_int fun _ _ _ _ _ h => by with_reducible exact floordiv_int hb h (.inl (PyProof.noPylong_small hs))
theorem mod_i {a b : Int} (hb : b ≠ 0) : Op2 w A (binaryOp .Mod) (.int a) (.int b) (.int (a.fmod b)) := op_int fun _ _ _ _ _ h => by with_reducible exact mod_int' hb h
theorem pow_i {a b : Int} (hb : 0 ≤ b) (hs : (Builtin.Int.intBits a : Int) * b ≤ 2 ^ 27) : Op2 w A (binaryOp .Pow) (.int a) (.int b) (.int (a ^ b.toNat)) := op_int fun _ _ _ _ _ h => by with_reducible exact pow_int hb hs h
theorem shl_i {a b : Int} (hb : 0 ≤ b) (hs : (Builtin.Int.intBits a : Int) + b ≤ 2 ^ 27) : Op2 w A (binaryOp .LShift) (.int a) (.int b) (.int (a * 2 ^ b.toNat)) := op_int fun _ _ _ _ _ h => by with_reducible exact lshift_int hb hs h
theorem shr_i {a b : Int} (hb : 0 ≤ b) : Op2 w A (binaryOp .RShift) (.int a) (.int b) (.int (a.fdiv (2 ^ b.toNat))) := op_int fun _ _ _ _ _ h => by with_reducible exact rshift_int hb h
theorem and_i {a b : Int} : Op2 w A (binaryOp .BitAnd) (.int a) (.int b) (.int (Builtin.bitAnd a b)) := op_int fun _ _ _ _ _ h => by with_reducible exact and_int h
theorem or_i {a b : Int} : Op2 w A (binaryOp .BitOr) (.int a) (.int b) (.int (Builtin.bitOr a b)) := op_int fun _ _ _ _ _ h => by with_reducible exact or_int h
theorem xor_i {a b : Int} : Op2 w A (binaryOp .BitXor) (.int a) (.int b) (.int (Builtin.bitXor a b)) := op_int fun _ _ _ _ _ h => by with_reducible exact xor_int h
theorem ixor_i {a b : Int} : Op2 w A (inplaceOp .BitXor) (.int a) (.int b) (.int (Builtin.bitXor a b)) := op_int fun _ _ _ _ _ h => by with_reducible exact ixor_int h
theorem pow2 {n : Nat} (h : n ≤ 100000) : Op2 w A (binaryOp .Pow) (.int 2) (.int (n : Int)) (.int ((2 ^ n : Nat) : Int)) := by
  have e : ((2 ^ n : Nat) : Int) = 2 ^ ((n : Nat) : Int).toNat := by rw [Int.toNat_natCast]; push_cast; rfl
  rw [e]
  exact pow_i (Int.natCast_nonneg _) (by rw [show Builtin.Int.intBits 2 = 2 from rfl]; lia)
theorem add_n {a b : Nat} : Op2 w A (binaryOp .Add) (.int (a : Int)) (.int (b : Int)) (.int ((a + b : Nat) : Int)) := add_i
theorem mul_n {a b : Nat} (h : a ≤ 2 ^ 60) : Op2 w A (binaryOp .Mult) (.int (a : Int)) (.int (b : Int)) (.int ((a * b : Nat) : Int)) := by
  rw [show ((a * b : Nat) : Int) = (a : Int) * (b : Int) from Int.natCast_mul a b]
  exact mul_i (.of_left (intBits_le_64 (by lia) (by lia)))
theorem eq_i {a b : Int} : Op2 w A (compareOp .Eq) (.int a) (.int b) (.bool (a == b)) := op_bool fun _ _ _ _ _ h => by with_reducible exact P.eq_int h
theorem ne_i {a b : Int} : Op2 w A (compareOp .NotEq) (.int a) (.int b) (.bool (a != b)) := op_bool fun _ _ _ _ _ h => by with_reducible exact P.ne_int h
theorem lt_i {a b : Int} : Op2 w A (compareOp .Lt) (.int a) (.int b) (.bool (decide (a < b))) := op_bool fun _ _ _ _ _ h => by with_reducible exact P.lt_int h
theorem le_i {a b : Int} : Op2 w A (compareOp .LtE) (.int a) (.int b) (.bool (decide (a ≤ b))) := op_bool fun _ _ _ _ _ h => by with_reducible exact P.le_int h
theorem gt_i {a b : Int} : Op2 w A (compareOp .Gt) (.int a) (.int b) (.bool (decide (a > b))) := op_bool fun _ _ _ _ _ h => by with_reducible exact P.gt_int h
theorem ge_i {a b : Int} : Op2 w A (compareOp .GtE) (.int a) (.int b) (.bool (decide (a ≥ b))) := op_bool fun _ _ _ _ _ h => by with_reducible exact P.ge_int h
theorem eq_d {a b : PyData} (ha : SeqAt.shaped a = true) (hb : SeqAt.shaped b = true) (hu : A.units + 64 < cLine) : Op2 w A (compareOp .Eq) a b (.bool (PyData.eqv a b)) := .mk fun s z u v E Q g k ru rv h =>
  let ⟨_, r1⟩ := ru.reads k; let ⟨_, r2⟩ := rv.reads k; SeqAt.compareEq_shaped r1 r2 ha hb hu (h _ s.heap s.toks z (.refl k) (.bool _))
theorem ne_d {a b : PyData} (ha : SeqAt.shaped a = true) (hb : SeqAt.shaped b = true) (hu : A.units + 64 < cLine) : Op2 w A (compareOp .NotEq) a b (.bool (!PyData.eqv a b)) := .mk fun s z u v E Q g k ru rv h =>
  let ⟨_, r1⟩ := ru.reads k; let ⟨_, r2⟩ := rv.reads k; SeqAt.compareNe_shaped r1 r2 ha hb hu (h _ s.heap s.toks z (.refl k) (.bool _))
theorem add_s {x y : Str} (hs : x.length + y.length ≤ 1000) : Op2 w A (binaryOp .Add) (.str x) (.str y) (.str (x ++ y)) := .mk fun s z u v E Q g k ru rv h => by
  obtain ⟨_, rfl⟩ := ru.isStr
  obtain ⟨_, rfl⟩ := rv.isStr
  exact SB.add (fun t' kk => h _ s.heap kk z (.refl k) (.str _ _)) (by rw [sizeLine_eq]; lia)
theorem add_l {xs ys : List PyData} (hs : xs.length + ys.length ≤ 1000) : Op2 w A (binaryOp .Add) (.list xs) (.list ys) (.list (xs ++ ys)) := .mk fun s z u v E Q g k ru rv h => by
  obtain ⟨_, _, _, rfl, h1, r1⟩ := ru.isList
  obtain ⟨_, _, _, rfl, h2, r2⟩ := rv.isList
  · · refine P.add_list (k _ _ h1) (k _ _ h2) ?_ (by rw [List.size_toArray, List.size_toArray, r1.length, r2.length, sizeLine_eq]; lia)
      have e : ∀ (a b : List Value), a.toArray ++ b.toArray = (a ++ b).toArray := fun a b => by simp
      rw [e]
      exact h _ _ s.toks _ (Gr.put k _) (.list (n := 0) (by simp [Z.put]) ((r1.append r2).mono (Z.le_put k _)))
end
end Mine

-- V4
namespace Mine

@[irreducible] noncomputable def EvN (c : Cx) (A : Around) (σ : List (Option V)) (e : Expr) (ds : List PyData) : Prop :=
  ∀ (s : Shared) (z : Z) (E : Value → Shared → Prop) (Q : Value → Shared → Prop), St c σ z s.heap →
    (∀ a vs n h' tk z', Gr z s.heap z' h' → s.heap.objs.size ≤ a → z' a = none → h'.get? a = some (lobj vs n) → RdAll z' vs ds → Q (.ref a) { s with heap := h', toks := tk }) →
    wpAny (model PR c.w) A (eval e c.env) Q E s
theorem EvN.mk {c : Cx} {A : Around} {σ : List (Option V)} {e : Expr} {ds : List PyData} (h : ∀ (s : Shared) (z : Z) (E : Value → Shared → Prop) (Q : Value → Shared → Prop), St c σ z s.heap →
    (∀ a vs n h' tk z', Gr z s.heap z' h' → s.heap.objs.size ≤ a → z' a = none → h'.get? a = some (lobj vs n) → RdAll z' vs ds → Q (.ref a) { s with heap := h', toks := tk }) →
    wpAny (model PR c.w) A (eval e c.env) Q E s) : EvN c A σ e ds := by delta EvN; exact h
theorem EvN.run {c : Cx} {A : Around} {σ : List (Option V)} {e : Expr} {ds : List PyData} (h : EvN c A σ e ds) : ∀ (s : Shared) (z : Z) (E : Value → Shared → Prop) (Q : Value → Shared → Prop), St c σ z s.heap →
    (∀ a vs n h' tk z', Gr z s.heap z' h' → s.heap.objs.size ≤ a → z' a = none → h'.get? a = some (lobj vs n) → RdAll z' vs ds → Q (.ref a) { s with heap := h', toks := tk }) →
    wpAny (model PR c.w) A (eval e c.env) Q E s := by delta EvN at h; exact h
@[irreducible] noncomputable def OpN (w : World) (A : Around) (op : Value → Value → Sem Value) (a b : PyData) (ds : List PyData) : Prop :=
  ∀ (s : Shared) (z : Z) (u v : Value) (E : Value → Shared → Prop) (Q : Value → Shared → Prop), Gd w s.heap → Z.sub z s.heap → Rd z u a → Rd z v b →
    (∀ a vs n h' tk z', Gr z s.heap z' h' → s.heap.objs.size ≤ a → z' a = none → h'.get? a = some (lobj vs n) → RdAll z' vs ds → Q (.ref a) { s with heap := h', toks := tk }) →
    wpAny (model PR w) A (op u v) Q E s
theorem OpN.mk {w : World} {A : Around} {op : Value → Value → Sem Value} {a b : PyData} {ds : List PyData} (h : ∀ (s : Shared) (z : Z) (u v : Value) (E : Value → Shared → Prop) (Q : Value → Shared → Prop), Gd w s.heap → Z.sub z s.heap → Rd z u a → Rd z v b →
    (∀ a vs n h' tk z', Gr z s.heap z' h' → s.heap.objs.size ≤ a → z' a = none → h'.get? a = some (lobj vs n) → RdAll z' vs ds → Q (.ref a) { s with heap := h', toks := tk }) →
    wpAny (model PR w) A (op u v) Q E s) : OpN w A op a b ds := by delta OpN; exact h
theorem OpN.run {w : World} {A : Around} {op : Value → Value → Sem Value} {a b : PyData} {ds : List PyData} (h : OpN w A op a b ds) : ∀ (s : Shared) (z : Z) (u v : Value) (E : Value → Shared → Prop) (Q : Value → Shared → Prop), Gd w s.heap → Z.sub z s.heap → Rd z u a → Rd z v b →
    (∀ a vs n h' tk z', Gr z s.heap z' h' → s.heap.objs.size ≤ a → z' a = none → h'.get? a = some (lobj vs n) → RdAll z' vs ds → Q (.ref a) { s with heap := h', toks := tk }) →
    wpAny (model PR w) A (op u v) Q E s := by delta OpN at h; exact h

theorem Z.le_put' {z : Z} {a : Addr} (k : z a = none) (o : Obj) : Z.le z (z.put a o) := fun b o' e => by
  have : b ≠ a := fun q => by rw [q, k] at e; cases e
  simp only [Z.put, if_neg this]; exact e
theorem Gr.freeze {z z' : Z} {h h' : Heap} {a : Addr} {o : Obj} (g : Gr z h z' h') (ha : h.objs.size ≤ a) (hz : z' a = none) (e : h'.get? a = some o) (hn : nf o := by exact nf_of rfl) : Gr z h (z'.put a o) h' := by
  refine ⟨g.ext, g.le.trans (Z.le_put' hz o), fun b o' q => ?_, fun b o' q => ?_⟩
  · by_cases hb : b = a
    · subst hb; simp only [Z.put, if_true] at q; cases q; exact e
    · simp only [Z.put, if_neg hb] at q; exact g.sub b o' q
  · by_cases hb : b = a
    · subst hb; simp only [Z.put, if_true] at q; cases q; exact .inr ⟨ha, hn⟩
    · simp only [Z.put, if_neg hb] at q; exact g.new b o' q
theorem EvN.dat {c : Cx} {A : Around} {σ : List (Option V)} {e : Expr} {ds : List PyData} (h : EvN c A σ e ds) : Ev c A σ e (D (.list ds)) := .mk fun s z E Q S q =>
  h.run s z E Q S fun a vs n h' tk z' g ha hz he r => q _ h' tk _ (g.freeze ha hz he) (.list (n := n) (by simp [Z.put]) (r.mono (Z.le_put' hz _)))
theorem OpN.dat {w : World} {A : Around} {op : Value → Value → Sem Value} {a b : PyData} {ds : List PyData} (h : OpN w A op a b ds) : Op2 w A op a b (.list ds) := .mk fun s z u v E Q g k ru rv q =>
  h.run s z u v E Q g k ru rv fun a vs n h' tk z' g ha hz he r => q _ h' tk _ (g.freeze ha hz he) (.list (n := n) (by simp [Z.put]) (r.mono (Z.le_put' hz _)))
section
variable {c : Cx} {A : Around} {σ : List (Option V)}
theorem evn_bin {l r : Expr} {op : Operator} {pos : Pos} {a b : PyData} {ds : List PyData} (h1 : Ev c A σ l (D a)) (h2 : Ev c A σ r (D b)) (ho : OpN c.w A (binaryOp op) a b ds) : EvN c A σ (.BinOp l op r pos) ds := .mk fun s z E Q S h =>
  wpAny_BinOp (ev_two h1 h2 mo_D S fun u v h' tk z' g p q => ho.run _ z' u v E Q (S.grow g).gd g.sub p q fun a vs n h₂ t₂ z₂ g₂ ha hz he r => h a vs n h₂ t₂ z₂ (g.trans g₂) (Nat.le_trans g.ext.size ha) hz he r)
end
theorem add_l' {w : World} {A : Around} {xs ys : List PyData} (hs : xs.length + ys.length ≤ 1000) : OpN w A (binaryOp .Add) (.list xs) (.list ys) (xs ++ ys) := .mk fun s z u v E Q g k ru rv h => by
  obtain ⟨_, _, _, rfl, h1, r1⟩ := ru.isList
  obtain ⟨_, _, _, rfl, h2, r2⟩ := rv.isList
  · · refine P.add_list (k _ _ h1) (k _ _ h2) ?_ (by rw [List.size_toArray, List.size_toArray, r1.length, r2.length, sizeLine_eq]; lia)
      have e : ∀ (a b : List Value), a.toArray ++ b.toArray = (a ++ b).toArray := fun a b => by simp
      rw [e]
      exact h _ _ 0 _ s.toks z (Gr.push k _) (Nat.le_refl _) (Z.none_of_sub k (get?_size _)) (Heap.get?_push_size _ rfl) (r1.append r2)
theorem mul_s {w : World} {A : Around} {x : Str} {n : Int} (hn : n.natAbs ≤ 1000) (hx : x.length ≤ 1000) : Op2 w A (binaryOp .Mult) (.str x) (.int n) (.str (Txt.mul x n)) := .mk fun s z u v E Q g k ru rv h => by
  obtain ⟨_, rfl⟩ := ru.isStr
  obtain ⟨_, rfl⟩ := rv.isInt
  refine SB.mul ⟨?_, fun h1 _ q => ?_, fun h1 _ => ?_⟩ fun t' kk => h _ s.heap kk z (.refl k) (.str _ _)
  · simp only [Bool.or_eq_false_iff, decide_eq_false_iff_not]; lia
  · have : (2 ^ 63 - 1 : Int) / n ≥ 1001 := by
      have h2 : n ≤ 1000 := by lia
      have : (1001 : Int) * n ≤ 2 ^ 63 - 1 := by lia
      exact (Int.le_ediv_iff_mul_le (by lia)).mpr this
    lia
  · have h2 : x.length * n.toNat ≤ 1000 * 1000 := Nat.mul_le_mul hx (by lia)
    exact decide_eq_false (by rw [sizeLine_eq]; lia)
theorem mul_l1 {w : World} {A : Around} {d : PyData} {n : Int} (hn : n.natAbs ≤ 1000) : OpN w A (binaryOp .Mult) (.list [d]) (.int n) (List.replicate n.toNat d) := .mk fun s z u v E Q g k ru rv h => by
  obtain ⟨u, rfl⟩ := rv.isInt
  obtain ⟨l, vs, m, rfl, h1, r1⟩ := ru.isList
  obtain ⟨v, rfl, r9⟩ := r1.is1
  · · · skip
        have hl := k _ _ h1
        refine wpAny_binaryOp_repeat_ref (T := "list") (U := "int") (by decide) ⟨_, hl, rfl⟩ (fun s' => typeIs_int s' _ _) noFill_list_mul F.fills_int_mul F.slot_int_rmul repeat_list F.slot_int_index.lookup
          (call_meets F.slot_int_rmul (typeIs_int s _ _) F.entry_int_rmul (F.args_int_rmul_2 _ _) (int___rmul___int_list _ _ l _ _)
          ⟨hl, rfl, ⟨_, hl, rfl⟩, call_meets F.slot_list_mul ⟨_, hl, rfl⟩ F.entry_list_mul (F.args_list_mul_2 _ _)
            (AutoListH.list___mul___list_int_3 l _ _ _ _ (by simp [Builtin.List.listFitsIndex]; lia) (by have e1 : ([v].toArray).size = 1 := rfl; rw [e1]; lia) (by simp [Builtin.List.listTooLong, sizeLine]; lia))
            ⟨hl, ?_⟩⟩)
        have e : ∀ (k : Nat) (acc : Array Value), List.foldl (fun x1 x2 => x1 ++ x2) acc (List.replicate k ([v].toArray)) = acc ++ (List.replicate k v).toArray := by
          intro k
          induction k with
          | zero => intro acc; simp
          | succ k ih => intro acc; rw [List.replicate_succ, List.foldl_cons, ih, List.replicate_succ]; apply Array.ext'; simp
        have e2 : (List.foldl (fun x1 x2 => x1 ++ x2) #[] (List.replicate (if ([v].toArray).isEmpty = true then 0 else n.toNat) ([v].toArray))) = (List.replicate n.toNat v).toArray := by
          rw [if_neg (by simp), e]; simp
        rw [e2]
        have rr : ∀ k : Nat, RdAll z (List.replicate k v) (List.replicate k d) := fun k => by
          induction k with
          | zero => exact .nil
          | succ k ih => exact .cons r9 ih
        exact h _ _ 0 _ s.toks z (Gr.push k _) (Nat.le_refl _) (Z.none_of_sub k (get?_size _)) (Heap.get?_push_size _ rfl) (rr _)
end Mine

-- V5
namespace Mine

theorem sub_put {z : Z} {h : Heap} {a : Addr} {o : Obj} (k : Z.sub z h) (e : h.get? a = some o) : Z.sub (z.put a o) h := fun b o' q => by
  by_cases hb : b = a
  · subst hb; simp only [Z.put, if_true] at q; cases q; exact e
  · simp only [Z.put, if_neg hb] at q; exact k b o' q
theorem St.freeze {c : Cx} {σ z h} {i : Nat} {x : Str} {a : Addr} {ds : List PyData} (S : St c σ z h) (hx : c.N[i]? = some x) (hi : σ[i]? = some (some (.own a ds))) :
    ∃ vs n, h.get? a = some (lobj vs n) ∧ z a = none ∧ St c (σ.set i (some (.dat (.list ds)))) (z.put a (lobj vs n)) h := by
  obtain ⟨m, hm, hv⟩ := S.vars
  obtain ⟨sl, za, ge, vs, n, ho, r⟩ := hv i x _ hx hi
  have le := Z.le_put' za (lobj vs n)
  have ne : ∀ {b : Addr}, b ≠ a → z b = none → (z.put a (lobj vs n)) b = none := fun hb e => by simp only [Z.put, if_neg hb]; exact e
  refine ⟨vs, n, ho, za, S.ok, S.ext, S.gd0, sub_put S.sub ho, S.le.trans le, fun b o q => ?_, ⟨m, hm, fun j y u hy hu => ?_⟩, ne (fun q => ?_) S.zl, fun y b e => ⟨ne (fun q => ?_) (S.cl y b e).1, (S.cl y b e).2⟩, fun p hp => ?_, fun j k a' ds' b' es' h1 h2 hne => ?_, fun j a' ds' h1 => ?_⟩
  · by_cases hb : b = a
    · subst hb; simp only [Z.put, if_true] at q; cases q; exact .inr ⟨ge, nf_of rfl⟩
    · simp only [Z.put, if_neg hb] at q; exact S.new b o q
  · rcases get_set hu with ⟨rfl, rfl⟩ | ⟨hji, hu⟩
    · rw [hx] at hy; cases hy
      exact ⟨_, sl, .list (n := n) (by simp [Z.put]) (r.mono le)⟩
    · have e := hv j y u hy hu
      cases u with
      | dat d => obtain ⟨w, sl, r⟩ := e; exact ⟨w, sl, r.mono le⟩
      | own a' ds' =>
        obtain ⟨sl, b1, b2, vs', n', b3, b4⟩ := e
        exact ⟨sl, ne (S.dis j i a' ds' a ds hu hi hji) b1, b2, vs', n', b3, b4.mono le⟩
      | ws cs nt => obtain ⟨w, sl, r⟩ := e; exact ⟨w, sl, r.mono le⟩
      | val u => exact e
  · obtain ⟨o', es, ep, e, hd, _⟩ := hm
    rw [q, ho] at e; cases e; cases hd
  · obtain ⟨_, v, o', e1, e2⟩ := S.cl y b e
    rw [q, ho] at e1; cases e1; cases e2
  · obtain ⟨q1, q2, q3, q4, q5, q6⟩ := S.pin p hp
    exact ⟨q1, q2, q3, q4, q5, ne (S.pid i a ds hi p hp) q6⟩
  · rcases get_set h1 with ⟨_, e1⟩ | ⟨n1, k1⟩
    · cases e1
    · rcases get_set h2 with ⟨_, e2⟩ | ⟨n2, k2⟩
      · cases e2
      · exact S.dis j k a' ds' b' es' k1 k2 hne
  · rcases get_set h1 with ⟨_, e1⟩ | ⟨n1, k1⟩
    · cases e1
    · exact S.pid j a' ds' k1

noncomputable def atom : PyData → Bool
  | .none | .bool _ | .int _ | .str _ => true
  | _ => false
theorem Rd.atom {z z' : Z} {v : Value} {d : PyData} (r : Rd z v d) : Mine.atom d = true → Rd z' v d :=
  Rd.rec (motive_1 := fun v d _ => Mine.atom d = true → Rd z' v d) (motive_2 := fun _ _ _ => True) (fun _ => .none) (fun b _ => .bool b) (fun i t _ => .int i t) (fun x t _ => .str x t) (fun _ _ _ h => Bool.noConfusion h) (fun _ _ _ h => Bool.noConfusion h) trivial (fun _ _ _ _ => trivial) r
theorem RdAll.atoms {z z' : Z} {vs : List Value} {ds : List PyData} (r : RdAll z vs ds) : (∀ d ∈ ds, Mine.atom d = true) → RdAll z' vs ds :=
  RdAll.ind (M := fun vs ds => (∀ d ∈ ds, Mine.atom d = true) → RdAll z' vs ds) (fun _ => .nil) (fun _ _ _ _ h _ ih a => .cons (h.atom (a _ (.head _))) (ih fun d hd => a d (.tail _ hd))) r
noncomputable abbrev Z.cut (z : Z) (a : Addr) : Z := fun b => if b = a then none else z b
theorem Gr.cut {z z' : Z} {h h' : Heap} {a : Addr} {o : Obj} (hz : z a = none) (ha : h.get? a = some o) (g : Gr (z.put a o) h z' h') : Gr z h (z'.cut a) h' := by
  refine ⟨g.ext, fun b o' e => ?_, fun b o' e => ?_, fun b o' e => ?_⟩
  · have hb : b ≠ a := fun q => by rw [q, hz] at e; cases e
    simp only [Z.cut, if_neg hb]
    exact g.le b o' (by simp only [Z.put, if_neg hb]; exact e)
  · by_cases hb : b = a
    · simp only [Z.cut, if_pos hb] at e; cases e
    · simp only [Z.cut, if_neg hb] at e; exact g.sub b o' e
  · by_cases hb : b = a
    · simp only [Z.cut, if_pos hb] at e; cases e
    · simp only [Z.cut, if_neg hb] at e
      exact (g.new b o' e).imp (fun q => by simp only [Z.put, if_neg hb] at q; exact q) id
section
variable {c : Cx} {A : Around} {σ : List (Option V)} {i : Nat} {x : Str} {a : Addr} {ds : List PyData}
theorem ev_borrow {e : Expr} {d : PyData} (hx : c.N[i]? = some x) (hi : σ[i]? = some (some (.own a ds))) (h : Ev c A (σ.set i (some (.dat (.list ds)))) e (D d)) (hd : atom d = true := by rfl) : Ev c A σ e (D d) := .mk fun s z E Q S q => by
  obtain ⟨vs, n, ho, za, S'⟩ := S.freeze hx hi
  exact h.run s _ E Q S' fun v h' tk z' g p => q v h' tk _ (Gr.cut za ho g) (p.atom hd)
theorem ts_borrow {e : Expr} {b : Bool} (hx : c.N[i]? = some x) (hi : σ[i]? = some (some (.own a ds))) (h : Ts c A (σ.set i (some (.dat (.list ds)))) e b) : Ts c A σ e b := .mk fun s z E Q S q => by
  obtain ⟨vs, n, ho, za, S'⟩ := S.freeze hx hi
  exact h.run s _ E Q S' fun h' tk z' g => q h' tk _ (Gr.cut za ho g)
theorem evn_borrow {e : Expr} {es : List PyData} (hx : c.N[i]? = some x) (hi : σ[i]? = some (some (.own a ds))) (h : EvN c A (σ.set i (some (.dat (.list ds)))) e es) (hd : ∀ d ∈ es, atom d = true) : EvN c A σ e es := .mk fun s z E Q S q => by
  obtain ⟨vs, n, ho, za, S'⟩ := S.freeze hx hi
  exact h.run s _ E Q S' fun a' vs' n' h' tk z' g ha hz he r => q a' vs' n' h' tk _ (Gr.cut za ho g) ha (by by_cases hb : a' = a <;> simp [Z.cut, hb, hz]) he (r.atoms hd)
theorem sx_freeze {st : List Stmt} {P : Flow → Z → Heap → Prop} (hx : c.N[i]? = some x) (hi : σ[i]? = some (some (.own a ds))) (h : Sx c A (σ.set i (some (.dat (.list ds)))) st P) : Sx c A σ st P := .mk fun s z E Q S q => by
  obtain ⟨vs, n, ho, za, S'⟩ := S.freeze hx hi
  exact h.run s _ E Q S' fun f h' tk z' g p => q f h' tk z' ((Z.le_put' za _).trans g) p
end

section
variable {c : Cx} {A : Around} {σ σ' : List (Option V)}
noncomputable abbrev Nx (c : Cx) (σ : List (Option V)) : Flow → Z → Heap → Prop := fun f z h => f = .next ∧ St c σ z h
noncomputable abbrev Rt (c : Cx) (P : Value → Z → Prop) : Flow → Z → Heap → Prop := fun f z h => ∃ v, (match f with | .ret v => v | _ => .none) = v ∧ (f = .next ∨ ∃ v, f = .ret v) ∧ P v z ∧ Gr c.z0 c.h0 z h
theorem St.gr {z h} (S : St c σ z h) : Gr c.z0 c.h0 z h := ⟨S.ext, S.le, S.sub, S.new⟩
theorem sx_nil {P : Flow → Z → Heap → Prop} (h : ∀ z h, St c σ z h → P .next z h) : Sx c A σ [] P := .mk fun s z E Q S q => wpAny_execs_nil (q .next s.heap s.toks z (.refl z) (h z s.heap S))
theorem sx_cons {st : Stmt} {rest : List Stmt} {P₁ P : Flow → Z → Heap → Prop} (h1 : Sx1 c A σ st P₁)
    (h2 : ∀ f z h, P₁ f z h → match f with | .next => ∃ σ', St c σ' z h ∧ Sx c A σ' rest P | f => P f z h) : Sx c A σ (st :: rest) P := .mk fun s z E Q S q => by
  refine wpAny_execs_cons (h1.run s z E _ S fun f h' tk z' le p => ?_)
  have := h2 f z' h' p
  cases f with
  | next => obtain ⟨σ', S', H⟩ := this; exact H.run _ z' E Q S' fun f h₂ t₂ z₂ le₂ p₂ => q f h₂ t₂ z₂ (le.trans le₂) p₂
  | brk => exact q _ h' tk z' le this
  | cont => exact q _ h' tk z' le this
  | ret v => exact q _ h' tk z' le this
theorem sx_step {st : Stmt} {rest : List Stmt} {P : Flow → Z → Heap → Prop} (h1 : Sx1 c A σ st (Nx c σ')) (h2 : Sx c A σ' rest P) : Sx c A σ (st :: rest) P :=
  sx_cons h1 fun f z h p => by obtain ⟨rfl, S⟩ := p; exact ⟨σ', S, h2⟩
theorem sx1_return {e : Expr} {pos : Pos} {P : Value → Z → Prop} (h : Ev c A σ e P) : Sx1 c A σ (.Return (some e) pos) (fun f z h => (∃ v, f = .ret v ∧ P v z) ∧ St c σ z h) := .mk fun s z E Q S q =>
  wpAny_Return_some (h.run s z E _ S fun v h' tk z' g p => q _ h' tk z' g.le ⟨⟨v, rfl, p⟩, S.grow g⟩)
theorem sx_return {e : Expr} {pos : Pos} {P : Value → Z → Prop} {rest : List Stmt} (h : Ev c A σ e P) : Sx c A σ (.Return (some e) pos :: rest) (Rt c P) :=
  sx_cons (sx1_return h) fun f z h p => by
    obtain ⟨⟨v, rfl, p⟩, S⟩ := p
    exact ⟨v, rfl, .inr ⟨v, rfl⟩, p, S.gr⟩
theorem sx1_if {t : Expr} {b : Bool} {body orelse : List Stmt} {pos : Pos} {P : Flow → Z → Heap → Prop} (h : Ts c A σ t b) (h1 : b = true → Sx c A σ body P) (h2 : b = false → Sx c A σ orelse P) : Sx1 c A σ (.If t body orelse pos) P := .mk fun s z E Q S q =>
  wpAny_If (h.run s z E _ S fun h' tk z' g => by
    cases hb : b with
    | true => exact (h1 hb).run _ z' E Q (S.grow g) fun f h₂ t₂ z₂ le p => q f h₂ t₂ z₂ (g.le.trans le) p
    | false => exact (h2 hb).run _ z' E Q (S.grow g) fun f h₂ t₂ z₂ le p => q f h₂ t₂ z₂ (g.le.trans le) p)
structure Sto (c : Cx) (i : Nat) (x : Str) : Prop where
  at' : c.N[i]? = some x
  kind : c.env.kindOf x = some .local ∨ (c.env.kindOf x = some .cell ∧ ∃ a, c.env.cells.lookup x = some a ∧ c.h0.objs.size ≤ a)
theorem store {i : Nat} {x : Str} {v : Value} {u : V} {s : Shared} {z : Z} {E : Value → Shared → Prop} {Q : Unit → Shared → Prop} (hx : Sto c i x) (S : St c σ z s.heap) (b : Bnd c z s.heap v u) (no : NewOwn c σ i u)
    (h : ∀ h' tk, St c (σ.set i (some u)) z h' → Q () { s with heap := h', toks := tk }) : wpAny (model PR c.w) A (storeName c.env x v) Q E s := by
  obtain ⟨m, hm, hv⟩ := S.vars
  rcases hx.kind with k | ⟨k, a, ha, hge⟩
  · exact wpAny_storeName_local k hm (fun h' hn hs => h h' _ (S.bind_local hx.at' k hm hv hn hs b no)) (by rw [S.ok.kind]; rfl)
  · obtain ⟨_, v₀, hc⟩ := S.cl x a ha
    exact wpAny_storeName_cell S.ok.kind k ha hc fun h' hc' hs => h h' s.toks (S.bind_cell hx.at' k ha hge hc' hs b no)
theorem sx1_assign {i : Nat} {x : Str} {px pos : Pos} {e : Expr} {d : PyData} (hx : Sto c i x) (h : Ev c A σ e (D d)) (hs : swapsWith e (some (.Name x px)) pos.line c.env = pure false := by rfl) :
    Sx1 c A σ (.Assign [.Name x px] e pos) (Nx c (σ.set i (some (.dat d)))) := .mk fun s z E Q S q =>
  wpAny_Assign_Name (h.run s z E _ S fun v h' tk z' g p => store (u := .dat d) hx (S.grow g) p trivial fun h₂ t₂ S₂ => q .next h₂ t₂ z' g.le ⟨rfl, S₂⟩) hs
theorem sx1_assign_ws {i : Nat} {x : Str} {px pos : Pos} {e : Expr} {cs : List Int} {nt : Int} (hx : Sto c i x) (h : Ev c A σ e (fun v z => WsAt z v cs nt)) (hs : swapsWith e (some (.Name x px)) pos.line c.env = pure false := by rfl) :
    Sx1 c A σ (.Assign [.Name x px] e pos) (Nx c (σ.set i (some (.ws cs nt)))) := .mk fun s z E Q S q =>
  wpAny_Assign_Name (h.run s z E _ S fun v h' tk z' g p => store (u := .ws cs nt) hx (S.grow g) p trivial fun h₂ t₂ S₂ => q .next h₂ t₂ z' g.le ⟨rfl, S₂⟩) hs
theorem sx_assign_own {i : Nat} {x : Str} {px pos : Pos} {e : Expr} {ds : List PyData} {rest : List Stmt} {P : Flow → Z → Heap → Prop} (hx : Sto c i x) (h : EvN c A σ e ds) (h2 : ∀ a, Sx c A (σ.set i (some (.own a ds))) rest P)
    (hs : swapsWith e (some (.Name x px)) pos.line c.env = pure false := by rfl) (hN : σ.length = c.N.length := by rfl) : Sx c A σ (.Assign [.Name x px] e pos :: rest) P :=
  sx_cons (P₁ := fun f z h => f = .next ∧ ∃ a, St c (σ.set i (some (.own a ds))) z h) (.mk fun s z E Q S q =>
    wpAny_Assign_Name (h.run s z E _ S fun a vs n h' tk z' g ha hz he r => by
      refine store hx (S.grow g) (u := .own a ds) ⟨rfl, hz, Nat.le_trans S.lt ha, vs, n, he, r⟩ ⟨fun j b es hj hb q => ?_, fun p hp q => ?_⟩ fun h₂ t₂ S₂ => q .next h₂ t₂ z' g.le ⟨rfl, a, S₂⟩
      · have hlt : j < c.N.length := hN ▸ getElem?_lt hb
        obtain ⟨_, _, vs', n', e', _⟩ := S.owned (List.getElem?_eq_getElem hlt) hb
        exact absurd (Heap.lt_size e') (by rw [q]; exact Nat.not_lt.mpr ha)
      · exact absurd (Heap.lt_size (S.pin p hp).1) (by rw [q]; exact Nat.not_lt.mpr ha)) hs)
    fun f z h p => by obtain ⟨rfl, a, S⟩ := p; exact ⟨_, S, h2 a⟩
theorem Sx.mono {st : List Stmt} {P P' : Flow → Z → Heap → Prop} (h : Sx c A σ st P) (hP : ∀ f z h, P f z h → P' f z h) : Sx c A σ st P' := .mk fun s z E Q S q => h.run s z E Q S fun f h' tk z' le p => q f h' tk z' le (hP _ _ _ p)
theorem Sx1.mono {st : Stmt} {P P' : Flow → Z → Heap → Prop} (h : Sx1 c A σ st P) (hP : ∀ f z h, P f z h → P' f z h) : Sx1 c A σ st P' := .mk fun s z E Q S q => h.run s z E Q S fun f h' tk z' le p => q f h' tk z' le (hP _ _ _ p)
end
end Mine

-- V6
namespace Mine
theorem slots_nil {P : Nat → Str → V → Prop} {us : List (Option V)} : ∀ (i : Nat) y v, ([] : List Str)[i]? = some y → us[i]? = some (some v) → P i y v := fun i y v h => by simp at h
theorem slots_none {P : Nat → Str → V → Prop} {n0 : Str} {ns : List Str} {us : List (Option V)} (hr : ∀ (i : Nat) y v, ns[i]? = some y → us[i]? = some (some v) → P (i + 1) y v) : ∀ (i : Nat) y v, (n0 :: ns)[i]? = some y → (none :: us)[i]? = some (some v) → P i y v
  | 0, _, _, _, h => nomatch h
  | i + 1, y, v, h, h' => hr i y v h h'
theorem slots_some {P : Nat → Str → V → Prop} {n0 : Str} {v0 : V} {ns : List Str} {us : List (Option V)} (h0 : P 0 n0 v0) (hr : ∀ (i : Nat) y v, ns[i]? = some y → us[i]? = some (some v) → P (i + 1) y v) : ∀ (i : Nat) y v, (n0 :: ns)[i]? = some y → (some v0 :: us)[i]? = some (some v) → P i y v
  | 0, y, v, h, h' => by
    have e1 : n0 = y := Option.some.inj h
    have e2 : v0 = v := Option.some.inj (Option.some.inj h')
    exact e1 ▸ e2 ▸ h0
  | i + 1, y, v, h, h' => hr i y v h h'

structure Rm (A : Around) (d u : Nat) : Prop where
  hd : A.handled = none
  dp : A.depth + d < recursionLimit
  un : A.units + u < cLine
theorem Rm.deeper {A : Around} {d u : Nat} {env : Env} (r : Rm A (d + 1) (u + 3)) : Rm (A.deeper env) d u :=
  ⟨r.hd, by show A.depth + 1 + d < _; have := r.dp; lia, by show A.units + 3 + u < _; have := r.un; lia⟩
theorem Rm.mono {A : Around} {d u d' u' : Nat} (r : Rm A d u) (h1 : d' ≤ d) (h2 : u' ≤ u) : Rm A d' u' := ⟨r.hd, by have := r.dp; lia, by have := r.un; lia⟩

@[irreducible] noncomputable def EvL (c : Cx) (A : Around) (σ : List (Option V)) (es : List Expr) (P : List Value → Z → Prop) : Prop :=
  ∀ (s : Shared) (z : Z) (pos : Pos) (E : Value → Shared → Prop) (Q : List Value → Shared → Prop), St c σ z s.heap →
    (∀ vs h' tk z', Gr z s.heap z' h' → P vs z' → Q vs { s with heap := h', toks := tk }) → wpAny (model PR c.w) A (spliced (backTo pos (starEach es c.env))) Q E s
theorem EvL.mk {c : Cx} {A : Around} {σ : List (Option V)} {es : List Expr} {P : List Value → Z → Prop} (h : ∀ (s : Shared) (z : Z) (pos : Pos) (E : Value → Shared → Prop) (Q : List Value → Shared → Prop), St c σ z s.heap →
    (∀ vs h' tk z', Gr z s.heap z' h' → P vs z' → Q vs { s with heap := h', toks := tk }) → wpAny (model PR c.w) A (spliced (backTo pos (starEach es c.env))) Q E s) : EvL c A σ es P := by delta EvL; exact h
theorem EvL.run {c : Cx} {A : Around} {σ : List (Option V)} {es : List Expr} {P : List Value → Z → Prop} (h : EvL c A σ es P) : ∀ (s : Shared) (z : Z) (pos : Pos) (E : Value → Shared → Prop) (Q : List Value → Shared → Prop), St c σ z s.heap →
    (∀ vs h' tk z', Gr z s.heap z' h' → P vs z' → Q vs { s with heap := h', toks := tk }) → wpAny (model PR c.w) A (spliced (backTo pos (starEach es c.env))) Q E s := by delta EvL at h; exact h
noncomputable abbrev Ds (ds : List PyData) : List Value → Z → Prop := fun vs z => RdAll z vs ds
section
variable {c : Cx} {A : Around} {σ : List (Option V)}
theorem evl_nil : EvL c A σ [] (Ds []) := .mk fun s z pos E Q S q => wpAny_items_nil (q [] s.heap s.toks z (.refl S.sub) .nil)
theorem evl_cons {e : Expr} {es : List Expr} {d : PyData} {ds : List PyData} (h1 : Ev c A σ e (D d)) (h2 : EvL c A σ es (Ds ds)) (he : starEach (e :: es) c.env = (false, eval e c.env) :: starEach es c.env := by rfl) : EvL c A σ (e :: es) (Ds (d :: ds)) :=
  .mk fun s z pos E Q S q => wpAny_items_cons (h1.run s z E _ S fun v h' tk z' g p => h2.run _ z' pos E _ (S.grow g) fun vs h₂ t₂ z₂ g₂ p₂ => q (v :: vs) h₂ t₂ z₂ (g.trans g₂) (.cons (p.mono g₂.le) p₂)) he
theorem evl_consP {e : Expr} {es : List Expr} {P : Value → Z → Prop} {Ps : List Value → Z → Prop} (h1 : Ev c A σ e P) (h2 : EvL c A σ es Ps) (hm : Mo P) (he : starEach (e :: es) c.env = (false, eval e c.env) :: starEach es c.env := by rfl) :
    EvL c A σ (e :: es) (fun vs z => ∃ v us, vs = v :: us ∧ P v z ∧ Ps us z) :=
  .mk fun s z pos E Q S q => wpAny_items_cons (h1.run s z E _ S fun v h' tk z' g p => h2.run _ z' pos E _ (S.grow g) fun vs h₂ t₂ z₂ g₂ p₂ => q (v :: vs) h₂ t₂ z₂ (g.trans g₂) ⟨v, vs, rfl, hm _ _ _ g₂.le p, p₂⟩) he
theorem evn_list {es : List Expr} {pos : Pos} {ds : List PyData} (h : EvL c A σ es (Ds ds)) (hs : ds.length ≤ 1000) : EvN c A σ (.List es pos) ds := .mk fun s z E Q S q =>
  wpAny_List (h.run s z pos E _ S fun vs h' tk z' g p => ⟨by rw [p.length, sizeLine_eq]; lia, q _ vs 0 _ tk z' (g.trans (Gr.push g.sub _)) g.ext.size (Z.none_of_sub g.sub (get?_size _)) (Heap.get?_push_size _ rfl) p⟩)
theorem ev_tuple {es : List Expr} {k : Nat} {pos : Pos} {ds : List PyData} (h : EvL c A σ es (Ds ds)) (hs : ds.length ≤ 1000) : Ev c A σ (.Tuple es k pos) (D (.tuple ds)) := .mk fun s z E Q S q =>
  wpAny_Tuple (h.run s z pos E _ S fun vs h' tk z' g p => ⟨by rw [p.length, sizeLine_eq]; lia, q _ _ tk _ (g.trans (Gr.put g.sub _)) (.tuple (n := 0) (by simp [Z.put]) (p.mono (Z.le_put g.sub _)))⟩)

theorem glob_name {x : Str} {pos : Pos} {v : Value} {s : Shared} {z : Z} {E : Value → Shared → Prop} {Q : Value → Shared → Prop} (S : St c σ z s.heap) (e : nsIn (hd.heap_39 c.w.params) mainGlobals x = some (some v)) (hx : c.env.kindOf x = some .globalImplicit) (h : Q v s)
    (hd : (x == ("__debug__" : Str)) = false := by decide) : wpAny (model PR c.w) A (eval (.Name x pos) c.env) Q E s := by
  obtain ⟨p, l, me, mg, mb, T⟩ := S.gd.T
  exact Calls.Name_function_global S.ok.kind hx (Calls.loadGlobal_global (by rw [S.ok.glob]; exact T.g) (mg_of S.gd.K T.g e) h) hd
theorem boot_name {x : Str} {pos : Pos} {v : Value} {s : Shared} {z : Z} {E : Value → Shared → Prop} {Q : Value → Shared → Prop} (S : St c σ z s.heap) (e : nsIn (hd.heap_39 c.w.params) mainGlobals x = some none) (hv : bootBuiltins x = some v) (hx : c.env.kindOf x = some .globalImplicit)
    (hn : x ≠ "__name__") (h : Q v s) (hd : (x == ("__debug__" : Str)) = false := by decide) : wpAny (model PR c.w) A (eval (.Name x pos) c.env) Q E s := by
  obtain ⟨p, l, me, mg, mb, T⟩ := S.gd.T
  exact Calls.Name_function_global S.ok.kind hx (Calls.loadGlobal_builtin (by rw [S.ok.glob]; exact T.g) (mg_none_of S.gd.K T.g e) (by rw [S.ok.blt]; exact T.b) ((T.builtins x hn).trans hv) h) hd

@[irreducible] noncomputable def Fn (w : World) (f : Addr) (d u : Nat) (As : List Value → Z → Prop) (P : Value → Z → Prop) : Prop :=
  ∀ (A : Around) (s : Shared) (z : Z) (args : List Value) (R : Result → Shared → Prop), Rm A d u → Gd w s.heap → Z.sub z s.heap → z.Nf → As args z →
    (∀ r h' tk z', Gr z s.heap z' h' → P r z' → R (.ok (.ret r)) { s with heap := h', toks := tk }) → codeAny (model PR w) A (.call (.ref f) ⟨args, []⟩) R s
theorem Fn.mk {w : World} {f : Addr} {d u : Nat} {As : List Value → Z → Prop} {P : Value → Z → Prop} (h : ∀ (A : Around) (s : Shared) (z : Z) (args : List Value) (R : Result → Shared → Prop), Rm A d u → Gd w s.heap → Z.sub z s.heap → z.Nf → As args z →
    (∀ r h' tk z', Gr z s.heap z' h' → P r z' → R (.ok (.ret r)) { s with heap := h', toks := tk }) → codeAny (model PR w) A (.call (.ref f) ⟨args, []⟩) R s) : Fn w f d u As P := by delta Fn; exact h
theorem Fn.run {w : World} {f : Addr} {d u : Nat} {As : List Value → Z → Prop} {P : Value → Z → Prop} (h : Fn w f d u As P) : ∀ (A : Around) (s : Shared) (z : Z) (args : List Value) (R : Result → Shared → Prop), Rm A d u → Gd w s.heap → Z.sub z s.heap → z.Nf → As args z →
    (∀ r h' tk z', Gr z s.heap z' h' → P r z' → R (.ok (.ret r)) { s with heap := h', toks := tk }) → codeAny (model PR w) A (.call (.ref f) ⟨args, []⟩) R s := by delta Fn at h; exact h
theorem Fn.weak {w : World} {f : Addr} {d u d' u' : Nat} {As : List Value → Z → Prop} {P : Value → Z → Prop} (F : Fn w f d u As P) (h1 : d ≤ d') (h2 : u ≤ u') : Fn w f d' u' As P := .mk fun A s z args R rm g k zt ha q => F.run A s z args R (rm.mono h1 h2) g k zt ha q
theorem ev_call {x : Str} {px pos : Pos} {f : Addr} {e : Expr} {es : List Expr} {d u : Nat} {As : List Value → Z → Prop} {P : Value → Z → Prop} (F : Fn c.w f d u As P) (hx : c.env.kindOf x = some .globalImplicit)
    (hf : nsIn (hd.heap_39 c.w.params) mainGlobals x = some (some (.ref f))) (hk : keepIn (hd.heap_39 c.w.params) (.ref f) = true) (ha : EvL c A σ (e :: es) As) (rm : Rm A d u) (hdb : (x == ("__debug__" : Str)) = false := by decide)
    (he : starEach (e :: es) c.env = (false, eval e c.env) :: starEach es c.env := by rfl) (hplain : (backTo pos (starEach es c.env)).any (·.1) = false := by rfl) : Ev c A σ (.Call (.Name x px) (e :: es) [] pos) P := .mk fun s z E Q S q => by
  refine Call_Name rfl (glob_name S hf hx (callWith_K (K := hd.heap_39 c.w.params) S.gd.K hk ?_ he hplain) hdb)
  refine ha.run s z pos E _ S fun vs h' tk z' g p => ⟨(S.grow g).gd.K, ?_⟩
  rw [List.nil_append]
  exact wpAny_call (F.run A _ z' vs _ rm (S.grow g).gd g.sub (S.grow g).zt p fun r h₂ t₂ z₂ g₂ p₂ => q r h₂ t₂ z₂ (g.trans g₂) p₂)
@[irreducible] noncomputable def Bf (w : World) (A : Around) (id : String) (As : List Value → Z → Prop) (P : Value → Z → Prop) : Prop :=
  ∀ (s : Shared) (z : Z) (args : List Value) (E Q : Value → Shared → Prop), Gd w s.heap → Z.sub z s.heap → As args z →
    (∀ r h' tk z', Gr z s.heap z' h' → P r z' → Q r { s with heap := h', toks := tk }) → wpAny (model PR w) A (call (.builtin id) args) Q E s
theorem Bf.mk {w : World} {A : Around} {id : String} {As : List Value → Z → Prop} {P : Value → Z → Prop} (h : ∀ (s : Shared) (z : Z) (args : List Value) (E Q : Value → Shared → Prop), Gd w s.heap → Z.sub z s.heap → As args z →
    (∀ r h' tk z', Gr z s.heap z' h' → P r z' → Q r { s with heap := h', toks := tk }) → wpAny (model PR w) A (call (.builtin id) args) Q E s) : Bf w A id As P := by delta Bf; exact h
theorem Bf.run {w : World} {A : Around} {id : String} {As : List Value → Z → Prop} {P : Value → Z → Prop} (h : Bf w A id As P) : ∀ (s : Shared) (z : Z) (args : List Value) (E Q : Value → Shared → Prop), Gd w s.heap → Z.sub z s.heap → As args z →
    (∀ r h' tk z', Gr z s.heap z' h' → P r z' → Q r { s with heap := h', toks := tk }) → wpAny (model PR w) A (call (.builtin id) args) Q E s := by delta Bf at h; exact h
theorem ev_bf {x : Str} {px pos : Pos} {id : String} {e : Expr} {es : List Expr} {As : List Value → Z → Prop} {P : Value → Z → Prop} (F : Bf c.w A id As P) (hx : c.env.kindOf x = some .globalImplicit)
    (hf : nsIn (hd.heap_39 c.w.params) mainGlobals x = some none) (hv : bootBuiltins x = some (.builtin id)) (ha : EvL c A σ (e :: es) As) (hn : x ≠ "__name__" := by decide) (hdb : (x == ("__debug__" : Str)) = false := by decide)
    (he : starEach (e :: es) c.env = (false, eval e c.env) :: starEach es c.env := by rfl) (hplain : (backTo pos (starEach es c.env)).any (·.1) = false := by rfl) : Ev c A σ (.Call (.Name x px) (e :: es) [] pos) P := .mk fun s z E Q S q => by
  refine Call_Name rfl (boot_name S hf hv hx hn (callWith_builtin1 ?_ he hplain) hdb)
  exact ha.run s z pos E _ S fun vs h' tk z' g p => F.run _ z' vs E Q (S.grow g).gd g.sub p fun r h₂ t₂ z₂ g₂ p₂ => q r h₂ t₂ z₂ (g.trans g₂) p₂
end

noncomputable def Arg (z : Z) (v : Value) : V → Prop
  | .dat d => Rd z v d
  | .own _ _ => False
  | .ws cs nt => WsAt z v cs nt
  | .val u => v = u
section
variable {w : World} {A : Around} {s : Shared} {z : Z} {R : Result → Shared → Prop} {name qual : Str} {params : Arguments} {body : List Stmt} {scope : Scope} {dV kV doc pm cdv ct oc : Value} {an od : Option Addr} {osl : Array (Option Value)} {f : Addr} {args : List Value} {binds : List (Str × Value)}
noncomputable abbrev cxP (w : World) (qual : Str) (scope : Scope) (f : Addr) (cdv : Value) (N : List Str) (h0 : Heap) (z0 : Z) : Cx := ⟨w, envOf qual scope h0.objs.size f cdv, N, h0, z0, []⟩
theorem enter_plain {N : List Str} {us : List (Option V)} {P : Value → Z → Prop} (rm : A.depth < recursionLimit) (g : Gd w s.heap) (k : Z.sub z s.heap) (zt : z.Nf)
    (ho : (hd.heap_39 w.params).lookup f = some ⟨oc, od, .func (fnOf name qual params body scope dV kV doc pm an cdv ct), osl⟩) (hcd : codeIn (hd.heap_39 w.params) cdv qual = true)
    (hbind : BindsTo s (fnOf name qual params body scope dV kV doc pm an cdv ct) ⟨args, []⟩ binds) (hloc : ∀ y ∈ binds, scope.names.lookup y.1 = some .local) (hcell : ∀ x ∈ scope.names, x.2 ≠ .cell)
    (hN : N.Nodup) (hlen : us.length = N.length) (hv : ∀ (i : Nat) x u, N[i]? = some x → us[i]? = some (some u) → scope.names.lookup x = some .local ∧ ∃ v, binds.reverse.lookup x = some v ∧ Arg z v u)
    (hb : Sx (cxP w qual scope f cdv N s.heap z) (A.deeper (envOf qual scope s.heap.objs.size f cdv)) us body (Rt (cxP w qual scope f cdv N s.heap z) P))
    (h : ∀ r h' tk z', Gr z s.heap z' h' → P r z' → R (.ok (.ret r)) { s with heap := h', toks := tk })
    (hco : scope.isCoroutine = false := by rfl) (hgen : scope.isGenerator = false := by rfl) (hk : scope.kind = .function := by rfl) : codeAny (model PR w) A (.call (.ref f) ⟨args, []⟩) R s := by
  obtain ⟨p, l, me, mg, mb, T⟩ := g.T
  refine codeAny_call_def (fd := fnOf name qual params body scope dV kV doc pm an cdv ct) (body := body) (binds := binds) rm (g.K _ _ ho) rfl T.nolimit (codeRec_of g.K hcd) rfl hbind hcell hloc (fun h₁ hns hk₁ => ?_) hco hgen hk
  have hsz : s.heap.objs.size ≤ h₁.objs.size := Nat.le_of_lt hns.lt
  have own : ∀ (i : Nat) a ds, us[i]? = some (some (.own a ds)) → False := fun i a ds e => by
    have hlt : i < N.length := hlen ▸ getElem?_lt e
    obtain ⟨_, v, _, r⟩ := hv i _ _ (List.getElem?_eq_getElem hlt) e
    exact r.elim
  have S : St (cxP w qual scope f cdv N s.heap z) us z h₁ := by
    refine ⟨⟨hk, rfl, rfl, Nat.le_refl _, fun x y a e => by simp [envOf] at e, hN, zt⟩, .of_keeps hk₁ hsz, g, fun a o e => hk₁ _ _ (k a o e), .refl z, fun a o e => .inl e, ⟨_, hns, fun i x u hx hu => ?_⟩, Z.none_of_sub k (get?_size _), fun x a e => by simp [envOf] at e,
      fun p hp => (nomatch hp), fun i j a ds b es h1 _ _ => (own i a ds h1).elim, fun i a ds _ p hp => (nomatch hp)⟩
    obtain ⟨e1, v, e2, r⟩ := hv i x u hx hu
    have sl : Slot (envOf qual scope s.heap.objs.size f cdv) (fun x => binds.reverse.lookup x) h₁ x v := .inl ⟨e1, e2⟩
    cases u with
    | dat d => exact ⟨v, sl, r⟩
    | own a ds => exact r.elim
    | ws cs nt => exact ⟨v, sl, r⟩
    | val u => cases r; exact sl
  refine hb.run _ z _ _ S fun fl h' tk z' le p => ?_
  obtain ⟨v, rfl, _, pv, gr⟩ := p
  exact h _ h' tk z' gr pv
noncomputable abbrev cxC (w : World) (qual : Str) (scope : Scope) (f : Addr) (cdv : Value) (N : List Str) (h0 : Heap) (z0 : Z) : Cx := ⟨w, envOfC qual scope h0.objs.size f cdv, N, h0, z0, []⟩
theorem mem_lookup {α : Type} : ∀ {l : List (Str × α)} {x : Str} {a : α}, l.lookup x = some a → (x, a) ∈ l
  | [], _, _, e => by cases e
  | (y, b) :: r, x, a, e => by
    rw [List.lookup_cons] at e
    cases hb : x == y with
    | true => rw [hb] at e; cases e; rw [eq_of_beq hb]; exact .head _
    | false => rw [hb] at e; exact .tail _ (mem_lookup e)
theorem apart_inj {x y : Str} {a : Addr} : ∀ {l : List (Str × Addr)}, (l.Pairwise fun x y => x.2 ≠ y.2) → (x, a) ∈ l → (y, a) ∈ l → x = y := by
  intro l
  induction l with
  | nil => intro _ h; cases h
  | cons p r ih =>
    intro hp h1 h2
    have hp' := List.pairwise_cons.mp hp
    rcases List.mem_cons.mp h1 with e1 | m1
    · rcases List.mem_cons.mp h2 with e2 | m2
      · rw [← e1] at e2; exact (congrArg Prod.fst e2).symm
      · exact absurd (by rw [← e1]) (hp'.1 _ m2)
    · rcases List.mem_cons.mp h2 with e2 | m2
      · exact absurd (by rw [← e2]) (hp'.1 _ m1)
      · exact ih hp'.2 m1 m2
theorem enter_cells {N : List Str} {us : List (Option V)} {P : Value → Z → Prop} (rm : A.depth < recursionLimit) (g : Gd w s.heap) (k : Z.sub z s.heap) (zt : z.Nf)
    (ho : (hd.heap_39 w.params).lookup f = some ⟨oc, od, .func (fnOf name qual params body scope dV kV doc pm an cdv ct), osl⟩) (hcd : codeIn (hd.heap_39 w.params) cdv qual = true)
    (hbind : BindsTo s (fnOf name qual params body scope dV kV doc pm an cdv ct) ⟨args, []⟩ binds) (hkind : (binds.all fun y => scope.names.lookup y.1 == some .local || scope.names.lookup y.1 == some .cell) = true)
    (hN : N.Nodup) (hlen : us.length = N.length)
    (hv : ∀ (i : Nat) x u, N[i]? = some x → us[i]? = some (some u) → ∃ v, Arg z v u ∧ ((scope.names.lookup x = some .local ∧ bindL (envOfC qual scope s.heap.objs.size f cdv).kindOf binds (fun _ => none) x = some v) ∨
      (scope.names.lookup x = some .cell ∧ ((cellsFrom (s.heap.objs.size + 1) scope.names []).lookup x).isSome = true ∧ bindC (envOfC qual scope s.heap.objs.size f cdv).kindOf binds (fun _ => none) x = some v)))
    (hb : Sx (cxC w qual scope f cdv N s.heap z) (A.deeper (envOfC qual scope s.heap.objs.size f cdv)) us body (Rt (cxC w qual scope f cdv N s.heap z) P))
    (h : ∀ r h' tk z', Gr z s.heap z' h' → P r z' → R (.ok (.ret r)) { s with heap := h', toks := tk })
    (hco : scope.isCoroutine = false := by rfl) (hgen : scope.isGenerator = false := by rfl) (hk : scope.kind = .function := by rfl) : codeAny (model PR w) A (.call (.ref f) ⟨args, []⟩) R s := by
  obtain ⟨p, l, me, mg, mb, T⟩ := g.T
  refine codeAny_call_function rm (g.K _ _ ho) rfl hco hgen rfl (codeRec_of g.K hcd) (hbind _ _ _ _ ?_)
  refine wpAny_newFunctionEnv_cells hk (kindsX hkind _) fun env' he s' x => ?_
  subst he
  refine ⟨T.nolimit.keeps x.toInCall.keep, codeAny_func ?_⟩
  obtain ⟨h₁, tk, rfl, _⟩ := x.done
  have hk₁ := x.toInCall.keep
  have hns := x.toInCall.ns
  have hsz : s.heap.objs.size ≤ h₁.objs.size := Nat.le_of_lt hns.lt
  have own : ∀ (i : Nat) a ds, us[i]? = some (some (.own a ds)) → False := fun i a ds e => by
    have hlt : i < N.length := hlen ▸ getElem?_lt e
    obtain ⟨v, r, _⟩ := hv i _ _ (List.getElem?_eq_getElem hlt) e
    exact r.elim
  have S : St (cxC w qual scope f cdv N s.heap z) us z h₁ := by
    refine ⟨⟨hk, rfl, rfl, Nat.le_refl _, fun y y' a e e' => apart_inj x.apart (mem_lookup e) (mem_lookup e'), hN, zt⟩, .of_keeps hk₁ hsz, g, fun a o e => hk₁ _ _ (k a o e), .refl z, fun a o e => .inl e, ⟨_, hns, fun i y u hx hu => ?_⟩, Z.none_of_sub k (get?_size _),
      fun y a e => ⟨?_, _, x.cell y a e⟩, fun p hp => (nomatch hp), fun i j a ds b es h1 _ _ => (own i a ds h1).elim, fun i a ds _ p hp => (nomatch hp)⟩
    · obtain ⟨v, r, q⟩ := hv i y u hx hu
      have sl : Slot (envOfC qual scope s.heap.objs.size f cdv) (bindL (envOfC qual scope s.heap.objs.size f cdv).kindOf binds (fun _ => none)) h₁ y v := by
        rcases q with ⟨q1, q2⟩ | ⟨q1, q2, q3⟩
        · exact .inl ⟨q1, q2⟩
        · obtain ⟨a, ha⟩ := Option.isSome_iff_exists.mp q2
          refine .inr ⟨.inl q1, a, ha, ?_⟩
          have := x.cell y a ha
          rw [← q3]; exact this
      cases u with
      | dat d => exact ⟨v, sl, r⟩
      | own a ds => exact r.elim
      | ws cs nt => exact ⟨v, sl, r⟩
      | val u => cases r; exact sl
    · have lt := x.above y a (mem_lookup e)
      cases q : z a with
      | none => rfl
      | some o => exact absurd (Heap.lt_size (k a o q)) (Nat.not_lt.mpr (Nat.le_of_lt lt))
  refine hb.run _ z _ _ S fun fl h' tk z' le p => ?_
  obtain ⟨v, rfl, _, pv, gr⟩ := p
  exact h _ h' tk z' gr pv
end
end Mine

-- V7
namespace Mine

noncomputable def Ik (o : Obj) : Prop := (∀ ps, o ≠ tabObj ps) ∧ ∀ vs q t, o.data = .fields vs → vs[1]? ≠ some (.str q t)
@[irreducible] noncomputable def EvI (c : Cx) (A : Around) (σ : List (Option V)) (e : Expr) (ds : List PyData) : Prop :=
  ∀ (s : Shared) (z : Z) (E : Value → Shared → Prop) (Q : Value → Shared → Prop), St c σ z s.heap →
    (∀ I fp Pv Sw h' tk z', Gr z s.heap z' h' → s.heap.objs.size ≤ I → z' I = none → Walks PR c.w A I fp [I] ds.length Pv Sw → Sw 0 h' → (∀ b ∈ fp, b = I ∨ ∃ o, z' b = some o) → (∀ i h, Sw i h → ∃ o, h.get? I = some o ∧ Ik o) →
      (∀ i u z'', Z.le z' z'' → Pv i u → ∃ d, ds[i]? = some d ∧ Rd z'' u d) → Q (.ref I) { s with heap := h', toks := tk }) →
    wpAny (model PR c.w) A (eval e c.env) (fun x s₁ => wpAny (model PR c.w) A (pyIter x) Q E s₁) E s
theorem EvI.mk {c : Cx} {A : Around} {σ : List (Option V)} {e : Expr} {ds : List PyData} (h : ∀ (s : Shared) (z : Z) (E : Value → Shared → Prop) (Q : Value → Shared → Prop), St c σ z s.heap →
    (∀ I fp Pv Sw h' tk z', Gr z s.heap z' h' → s.heap.objs.size ≤ I → z' I = none → Walks PR c.w A I fp [I] ds.length Pv Sw → Sw 0 h' → (∀ b ∈ fp, b = I ∨ ∃ o, z' b = some o) → (∀ i h, Sw i h → ∃ o, h.get? I = some o ∧ Ik o) →
      (∀ i u z'', Z.le z' z'' → Pv i u → ∃ d, ds[i]? = some d ∧ Rd z'' u d) → Q (.ref I) { s with heap := h', toks := tk }) →
    wpAny (model PR c.w) A (eval e c.env) (fun x s₁ => wpAny (model PR c.w) A (pyIter x) Q E s₁) E s) : EvI c A σ e ds := by delta EvI; exact h
theorem EvI.run {c : Cx} {A : Around} {σ : List (Option V)} {e : Expr} {ds : List PyData} (h : EvI c A σ e ds) : ∀ (s : Shared) (z : Z) (E : Value → Shared → Prop) (Q : Value → Shared → Prop), St c σ z s.heap →
    (∀ I fp Pv Sw h' tk z', Gr z s.heap z' h' → s.heap.objs.size ≤ I → z' I = none → Walks PR c.w A I fp [I] ds.length Pv Sw → Sw 0 h' → (∀ b ∈ fp, b = I ∨ ∃ o, z' b = some o) → (∀ i h, Sw i h → ∃ o, h.get? I = some o ∧ Ik o) →
      (∀ i u z'', Z.le z' z'' → Pv i u → ∃ d, ds[i]? = some d ∧ Rd z'' u d) → Q (.ref I) { s with heap := h', toks := tk }) →
    wpAny (model PR c.w) A (eval e c.env) (fun x s₁ => wpAny (model PR c.w) A (pyIter x) Q E s₁) E s := by delta EvI at h; exact h
section
variable {c : Cx} {A : Around} {σ : List (Option V)}
theorem evi_list {e : Expr} {ds : List PyData} (h : Ev c A σ e (D (.list ds))) (hh : A.handled = none) : EvI c A σ e ds := .mk fun s z E Q S q =>
  h.run s z E _ S fun v h' tk z' g p => by
    obtain ⟨a, vs, n, rfl, e, r⟩ := p.isList
    · skip
      have hl : h'.IsList a vs.toArray := ⟨_, g.sub _ _ e, rfl, n, rfl⟩
      have hne : a ≠ h'.objs.size := Nat.ne_of_lt (Heap.lt_size (g.sub _ _ e))
      refine wpAny_pyIter_list hl ?_
      have W := Walks.list (prog := PR) (w := c.w) hh h'.objs.size a hne vs.toArray
      have hsz : vs.toArray.size = ds.length := by rw [List.size_toArray, r.length]
      rw [hsz] at W
      refine q _ _ _ _ _ tk z' (g.trans (Gr.push g.sub _)) g.ext.size (Z.none_of_sub g.sub (get?_size _)) W ⟨⟨_, Heap.get?_push_size _ rfl, rfl, rfl⟩, hl.push _⟩ (fun b hb => ?_) (fun i h st => ?_) (fun i u z'' le hu => ?_)
      · rcases List.mem_cons.mp hb with q | q
        · exact .inl q
        · rw [List.mem_singleton.mp q]; exact .inr ⟨_, e⟩
      · obtain ⟨⟨o, ho, hc, hd⟩, _⟩ := st
        refine ⟨o, ho, fun ps q => ?_, fun vs q t e => ?_⟩
        · rw [q] at hc; cases hc
        · rw [hd] at e; cases e; intro q; cases q
      · rw [List.getElem?_toArray] at hu
        obtain ⟨d, e1, e2⟩ := r.get i hu
        exact ⟨d, e1, e2.mono le⟩
noncomputable abbrev chr1 (x : Str) : List PyData := x.cps.toList.map fun n => .str ⟨#[n]⟩
theorem evi_str {e : Expr} {x : Str} (h : Ev c A σ e (D (.str x))) (hh : A.handled = none) : EvI c A σ e (chr1 x) := .mk fun s z E Q S q =>
  h.run s z E _ S fun v h' tk z' g p => by
    obtain ⟨t, rfl⟩ := p.isStr
    · skip
      have fin : ∀ (ty : String) (hty : Value.type ty ≠ .none), Walks PR c.w A h'.objs.size [h'.objs.size] [h'.objs.size] x.cps.size (SignAt x) (fun i h => h.IsStrIter h'.objs.size ty x t i) →
          Q (.ref h'.objs.size) { s with heap := h'.push { cls := .type ty, data := .fields #[.str x t, .int 0 0] }, toks := tk } := fun ty hty W => by
        have hl : (chr1 x).length = x.cps.size := by simp [chr1]
        rw [← hl] at W
        refine q _ _ _ _ _ tk z' (g.trans (Gr.push g.sub _)) g.ext.size (Z.none_of_sub g.sub (get?_size _)) W ⟨_, Heap.get?_push_size _ rfl, rfl, rfl⟩ (fun b hb => .inl (List.mem_singleton.mp hb)) (fun i h st => ?_) (fun i u z'' le hu => ?_)
        · obtain ⟨o, ho, hc, hd⟩ := st
          refine ⟨o, ho, fun ps q => ?_, fun vs q t e => ?_⟩
          · rw [q] at hc; cases hc
          · rw [hd] at e; cases e; intro q; cases q
        · obtain ⟨n, u', e1, rfl⟩ := hu
          refine ⟨.str ⟨#[n]⟩, ?_, .str _ _⟩
          rw [List.getElem?_map, Array.getElem?_toList, e1]; rfl
      cases ha : x.cps.all (· < 128)
      · exact wpAny_pyIter_wide ha (fin _ (by decide) (Walks.strWide hh _ x t))
      · exact wpAny_pyIter_ascii ha (fin _ (by decide) (Walks.strAscii hh _ x t))
noncomputable abbrev upTo (a : Int) (n : Nat) : List PyData := (List.range n).map fun (i : Nat) => .int (a + (i : Int))
theorem range_it {a b : Int} {n : Nat} {r : Addr} {t u v : Tok} {s : Shared} {z : Z} {E : Value → Shared → Prop} {Q : Value → Shared → Prop} (hh : A.handled = none) (k : Z.sub z s.heap) (hr : IsRange s.heap r a b 1 t u v) (hn : (n : Int) = if a < b then b - a else 0)
    (ha : a.natAbs < 2 ^ 61) (hb : b.natAbs < 2 ^ 61)
    (q : ∀ I fp Pv Sw h', Gr z s.heap z h' → s.heap.objs.size ≤ I → z I = none → Walks PR c.w A I fp [I] (upTo a n).length Pv Sw → Sw 0 h' → (∀ b ∈ fp, b = I ∨ ∃ o, z b = some o) → (∀ i h, Sw i h → ∃ o, h.get? I = some o ∧ Ik o) →
      (∀ i u z'', Z.le z z'' → Pv i u → ∃ d, (upTo a n)[i]? = some d ∧ Rd z'' u d) → Q (.ref I) { s with heap := h' }) : wpAny (model PR c.w) A (pyIter (.ref r)) Q E s := by
  refine wpAny_pyIter_range hr (small_one (by lia) (by lia) (by lia) (by lia)) ?_
  have W : Walks PR c.w A s.heap.objs.size [s.heap.objs.size] [s.heap.objs.size] n (fun i v => i < n ∧ ∃ t, v = .int (a + i * 1) t)
      (fun i h => IsRangeIter h s.heap.objs.size (a + (i : Nat) * 1) ((n : Int) - (i : Nat)) 1) := (Walks.range hh _ a 1 n).bound
  have hl : (upTo a n).length = n := by simp [upTo]
  rw [← hl] at W
  refine q _ _ _ _ _ (Gr.push k _) (Nat.le_refl _) (Z.none_of_sub k (get?_size _)) W ?_ (fun b hb => .inl (List.mem_singleton.mp hb)) (fun i h st => ⟨_, st, ?_, ?_⟩) (fun i u z'' le hu => ?_)
  · show IsRangeIter _ _ _ _ _
    rw [rangeSize_one, ← hn, hl]; simpa using Heap.get?_push_size _ rfl
  · intro ps q; cases q
  · intro vs q t e; cases e; intro q; cases q
  · obtain ⟨hi, t, rfl⟩ := hu
    rw [hl] at hi
    refine ⟨.int (a + (i : Int)), ?_, ?_⟩
    · simp [upTo, hi]
    · rw [Int.mul_one]; exact .int _ _
theorem evi_range1 {px pos : Pos} {e : Expr} {b : Int} {n : Nat} (h : Ev c A σ e (D (.int b))) (hh : A.handled = none) (hn : (n : Int) = if 0 < b then b - 0 else 0) (hb : b.natAbs < 2 ^ 61) (hx : c.env.kindOf (Str.ofString "range") = some .globalImplicit)
    (hf : nsIn (hd.heap_39 c.w.params) mainGlobals (Str.ofString "range") = some none) (he : starEach [e] c.env = (false, eval e c.env) :: starEach [] c.env := by rfl) : EvI c A σ (.Call (.Name (Str.ofString "range") px) [e] [] pos) (upTo 0 n) := .mk fun s z E Q S q => by
  refine Call_Name rfl (boot_name S hf boot_range hx (by decide) (Pv.callWith_type1 (wpAny_items_cons (h.run s z E _ S fun v h' tk z' g p => wpAny_items_nil ?_) he) he) (by decide))
  obtain ⟨tt, rfl⟩ := p.isInt
  refine call_range_1 ?_
  have g' := g.trans (Gr.push g.sub { cls := .type "range", data := .fields #[.int 0 tk, .int b tt, .int 1 (tk + 1)] })
  exact range_it hh g'.sub (IsRange.new _ _ _ _ _ _ _) hn (by decide) hb fun I fp Pv Sw h₂ g₂ hI zI W s0 hfp hIk hP => q I fp Pv Sw h₂ _ z' (g'.trans g₂) (Nat.le_trans g'.ext.size hI) zI W s0 hfp hIk hP
theorem evi_range2 {px pos : Pos} {e₁ e₂ : Expr} {a b : Int} {n : Nat} (h1 : Ev c A σ e₁ (D (.int a))) (h2 : Ev c A σ e₂ (D (.int b))) (hh : A.handled = none) (hn : (n : Int) = if a < b then b - a else 0) (ha : a.natAbs < 2 ^ 61) (hb : b.natAbs < 2 ^ 61)
    (hx : c.env.kindOf (Str.ofString "range") = some .globalImplicit) (hf : nsIn (hd.heap_39 c.w.params) mainGlobals (Str.ofString "range") = some none) (he : starEach [e₁, e₂] c.env = (false, eval e₁ c.env) :: starEach [e₂] c.env := by rfl)
    (he2 : starEach [e₂] c.env = (false, eval e₂ c.env) :: starEach [] c.env := by rfl) (hp : (backTo pos (starEach [e₂] c.env)).any (·.1) = false := by rfl) : EvI c A σ (.Call (.Name (Str.ofString "range") px) [e₁, e₂] [] pos) (upTo a n) := .mk fun s z E Q S q => by
  refine Call_Name rfl (boot_name S hf boot_range hx (by decide) (Pv.callWith_type1 (wpAny_items_cons (h1.run s z E _ S fun v h' tk z' g p => wpAny_items_cons (h2.run _ z' E _ (S.grow g) fun v₂ h₂ t₂ z₂ g₂ p₂ => wpAny_items_nil ?_) he2) he) he hp) (by decide))
  obtain ⟨tt, rfl⟩ := p.isInt
  obtain ⟨tu, rfl⟩ := p₂.isInt
  refine call_range_2 ?_
  have g' := (g.trans g₂).trans (Gr.push g₂.sub { cls := .type "range", data := .fields #[.int a tt, .int b tu, .int 1 t₂] })
  exact range_it hh g'.sub (IsRange.new _ _ _ _ _ _ _) hn ha hb fun I fp Pv Sw h₂ g₂ hI zI W s0 hfp hIk hP => q I fp Pv Sw h₂ _ z₂ (g'.trans g₂) (Nat.le_trans g'.ext.size hI) zI W s0 hfp hIk hP
theorem evi_rev {px pos : Pos} {e : Expr} {ds : List PyData} (h : Ev c A σ e (D (.list ds))) (hh : A.handled = none) (hx : c.env.kindOf (Str.ofString "reversed") = some .globalImplicit)
    (hf : nsIn (hd.heap_39 c.w.params) mainGlobals (Str.ofString "reversed") = some none) (he : starEach [e] c.env = (false, eval e c.env) :: starEach [] c.env := by rfl) : EvI c A σ (.Call (.Name (Str.ofString "reversed") px) [e] [] pos) ds.reverse := .mk fun s z E Q S q => by
  refine Call_Name rfl (boot_name S hf boot_reversed hx (by decide) (Pv.callWith_type1 (wpAny_items_cons (h.run s z E _ S fun v h' tk z' g p => wpAny_items_nil ?_) he) he) (by decide))
  obtain ⟨a, vs, n, rfl, e, r⟩ := p.isList
  · skip
    have hl : h'.IsList a vs.toArray := ⟨_, g.sub _ _ e, rfl, n, rfl⟩
    have hne : a ≠ h'.objs.size := Nat.ne_of_lt (Heap.lt_size (g.sub _ _ e))
    have g' := g.trans (Gr.push g.sub (revObj a ((vs.toArray.size : Int) - 1)))
    have hit : (h'.push (revObj a ((vs.toArray.size : Int) - 1))).IsRevIter h'.objs.size a ((vs.toArray.size : Int) - 1) := ⟨_, Heap.get?_push_size _ rfl, rfl, rfl⟩
    refine call_reversed_list hl (wpAny_pyIter_revIter hit ?_)
    have W := (Walks.listRev (prog := PR) (w := c.w) hh h'.objs.size a hne vs.toArray).bound
    have hsz : vs.toArray.size = ds.reverse.length := by rw [List.size_toArray, r.length, List.length_reverse]
    have W' := W
    rw [show Walks PR c.w A h'.objs.size [h'.objs.size, a] [h'.objs.size] vs.toArray.size _ _ = Walks PR c.w A h'.objs.size [h'.objs.size, a] [h'.objs.size] ds.reverse.length _ _ from by rw [← hsz]] at W'
    refine q _ _ _ _ _ tk z' g' g.ext.size (Z.none_of_sub g.sub (get?_size _)) W' ⟨Nat.zero_le _, by simpa using hit, hl.push _⟩ (fun b hb => ?_) (fun i h st => ?_) (fun i u z'' le hu => ?_)
    · rcases List.mem_cons.mp hb with q | q
      · exact .inl q
      · rw [List.mem_singleton.mp q]; exact .inr ⟨_, e⟩
    · obtain ⟨_, ⟨o, ho, hc, hd⟩, _⟩ := st
      refine ⟨o, ho, fun ps q => ?_, fun vs q t e => ?_⟩
      · rw [q] at hc; cases hc
      · rw [hd] at e; cases e; intro q; cases q
    · obtain ⟨hi, hu⟩ := hu
      rw [List.getElem?_toArray, List.size_toArray] at hu
      obtain ⟨d, e1, e2⟩ := r.get _ hu
      refine ⟨d, ?_, e2.mono le⟩
      rw [List.size_toArray, r.length] at hi
      rw [List.getElem?_reverse hi, ← r.length]; exact e1
theorem evi_rangeN {px pos : Pos} {e : Expr} {n : Nat} (h : Ev c A σ e (D (.int (n : Int)))) (hh : A.handled = none) (hn : n ≤ 100000) (hx : c.env.kindOf (Str.ofString "range") = some .globalImplicit)
    (hf : nsIn (hd.heap_39 c.w.params) mainGlobals (Str.ofString "range") = some none) (he : starEach [e] c.env = (false, eval e c.env) :: starEach [] c.env := by rfl) : EvI c A σ (.Call (.Name (Str.ofString "range") px) [e] [] pos) (upTo 0 n) :=
  evi_range1 h hh (by split <;> lia) (by lia) hx hf he
theorem evi_range2N {px pos : Pos} {e₁ e₂ : Expr} {a b n : Nat} (h1 : Ev c A σ e₁ (D (.int (a : Int)))) (h2 : Ev c A σ e₂ (D (.int (b : Int)))) (hh : A.handled = none) (hn : a + n = b) (hb : b ≤ 100000)
    (hx : c.env.kindOf (Str.ofString "range") = some .globalImplicit) (hf : nsIn (hd.heap_39 c.w.params) mainGlobals (Str.ofString "range") = some none) (he : starEach [e₁, e₂] c.env = (false, eval e₁ c.env) :: starEach [e₂] c.env := by rfl)
    (he2 : starEach [e₂] c.env = (false, eval e₂ c.env) :: starEach [] c.env := by rfl) (hp : (backTo pos (starEach [e₂] c.env)).any (·.1) = false := by rfl) : EvI c A σ (.Call (.Name (Str.ofString "range") px) [e₁, e₂] [] pos) (upTo (a : Int) n) :=
  evi_range2 h1 h2 hh (by split <;> lia) (by lia) (by lia) hx hf he he2 hp
end
end Mine

-- V8
namespace Mine

theorem TabSt.but {h h' : Heap} {P I : Addr} {l c : Nat} {q : Str} {o : Obj} (x : TabSt h P l c q) (k : ∀ b ob, b ≠ I → h.get? b = some ob → h'.get? b = some ob) (hI : h.get? I = some o) (ik : Ik o) : TabSt h' P l c q := by
  rcases x with e | ⟨c', e, c₂, oc, vs, t, h1, h2, h3, h4⟩
  · exact .inl (k _ _ (fun q => by rw [q, hI] at e; cases e; exact ik.1 _ rfl) e)
  · exact .inr ⟨c', k _ _ (fun q => by rw [q, hI] at e; cases e; exact ik.1 _ rfl) e, c₂, oc, vs, t, h1, k _ _ (fun q => by rw [q, hI] at h2; cases h2; exact ik.2 _ _ _ h3 h4) h2, h3, h4⟩
theorem St.but {c : Cx} {σ z h h'} {I : Addr} {o : Obj} (S : St c σ z h) (k : ∀ b ob, b ≠ I → h.get? b = some ob → h'.get? b = some ob) (hI : h.get? I = some o) (ik : Ik o) (hz : z I = none) (hge : c.h0.objs.size ≤ I)
    (hL : I ≠ c.env.locals) (hc : ∀ x a, c.env.cells.lookup x = some a → a ≠ I) (hown : ∀ (i : Nat) a ds, σ[i]? = some (some (.own a ds)) → a ≠ I) (hpin : ∀ p ∈ c.X, p.1 ≠ I) (hN : σ.length = c.N.length) : St c σ z h' := by
  obtain ⟨m, hm, hv⟩ := S.vars
  have hm' : h'.Ns c.env.locals m := hm.at' fun o e => k _ o hL.symm e
  refine ⟨S.ok, ⟨fun b ob p q e => k _ _ (Nat.ne_of_lt (Nat.lt_of_lt_of_le (Heap.lt_size e) hge)) (S.ext.keep b ob p q e), Nat.le_trans S.ok.above (Nat.le_of_lt hm'.lt), fun t => (S.ext.t1 t).but k hI ik, fun t => (S.ext.t2 t).but k hI ik⟩, S.gd0,
    fun b ob e => k _ _ (fun q => by rw [q, hz] at e; cases e) (S.sub b ob e), S.le, S.new, ⟨m, hm', fun i x u hx hu => (hv i x u hx hu).lift (.refl z) (fun a w hcl hy => ?_) fun a ds q => ?_⟩, S.zl, fun x a e => ?_, fun p hp => ?_, S.dis, S.pid⟩
  · obtain ⟨y, hy⟩ := hy
    obtain ⟨oc, e1, e2⟩ := hcl
    exact ⟨oc, k _ _ (hc y a hy) e1, e2⟩
  · subst q
    obtain ⟨_, q1, _⟩ := hv i x _ hx hu
    exact ⟨q1, fun ob e => k _ _ (hown i a ds hu) e⟩
  · obtain ⟨q1, v, oc, e1, e2⟩ := S.cl x a e
    exact ⟨q1, v, oc, k _ _ (hc x a e) e1, e2⟩
  · obtain ⟨q1, r⟩ := S.pin p hp
    exact ⟨k _ _ (hpin p hp) q1, r⟩

noncomputable def Cx.pin (c : Cx) (p : Addr × Obj) : Cx := { c with X := p :: c.X }
theorem St.unpin {c : Cx} {p : Addr × Obj} {σ z h} (S : St (c.pin p) σ z h) : St c σ z h :=
  ⟨⟨S.ok.kind, S.ok.glob, S.ok.blt, S.ok.above, S.ok.inj, S.ok.nodup, S.ok.zt⟩, S.ext, S.gd0, S.sub, S.le, S.new, S.vars, S.zl, S.cl, fun q hq => S.pin q (.tail _ hq), S.dis, fun i a ds e q hq => S.pid i a ds e q (.tail _ hq)⟩
theorem St.repin {c : Cx} {p : Addr × Obj} {σ z h} (S : St c σ z h) (e : h.get? p.1 = some p.2) (h1 : p.1 ≠ c.env.locals) (h2 : ∀ x a, c.env.cells.lookup x = some a → p.1 ≠ a) (h3 : p.1 ≠ 44) (h4 : p.1 ≠ 37) (h5 : z p.1 = none)
    (ho : ∀ (i : Nat) a ds, σ[i]? = some (some (.own a ds)) → p.1 ≠ a) : St (c.pin p) σ z h :=
  ⟨⟨S.ok.kind, S.ok.glob, S.ok.blt, S.ok.above, S.ok.inj, S.ok.nodup, S.ok.zt⟩, S.ext, S.gd0, S.sub, S.le, S.new, S.vars, S.zl, S.cl, fun q hq => by
    rcases List.mem_cons.mp hq with rfl | hq
    · exact ⟨e, h1, h2, h3, h4, h5⟩
    · exact S.pin q hq, S.dis, fun i a ds e' q hq => by
    rcases List.mem_cons.mp hq with rfl | hq
    · exact ho i a ds e'
    · exact S.pid i a ds e' q hq⟩

noncomputable abbrev LoopP (c : Cx) (J Bk : List (Option V) → Prop) (P : Flow → Z → Heap → Prop) : Flow → Z → Heap → Prop := fun f z h => match f with
  | .next | .cont => ∃ σ, J σ ∧ St c σ z h
  | .brk => ∃ σ, Bk σ ∧ St c σ z h
  | .ret v => P (.ret v) z h
inductive FJ (c : Cx) (s : Shared) (len : Nat) (J : Nat → List (Option V) → Prop) (Sw : Nat → Heap → Prop) (z₀ : Z) (I : Addr) (n : Nat) (s' : Shared) : Prop
  | mk (k : Nat) (σ₁ : List (Option V)) (z₁ : Z) (h : Heap) (tk : Nat) (e : s' = { s with heap := h, toks := tk }) (hn : n + k = len + 1) (hk : k ≤ len) (hJ : J k σ₁) (S : St c σ₁ z₁ h) (sw : Sw k h) (le : Z.le z₀ z₁) (zI : z₁ I = none)
      (own : ∀ (i : Nat) a ds, σ₁[i]? = some (some (.own a ds)) → a ≠ I) : FJ c s len J Sw z₀ I n s'
section
variable {c : Cx} {A : Around} {σ : List (Option V)}
theorem sx1_for {i : Nat} {x : Str} {px pos : Pos} {it : Expr} {body orelse : List Stmt} {ds : List PyData} {P : Flow → Z → Heap → Prop} (J : Nat → List (Option V) → Prop) (Bk : List (Option V) → Prop) (hx : Sto c i x) (hit : EvI c A σ it ds) (h0 : J 0 σ)
    (hlen : ∀ k σ₁, J k σ₁ → σ₁.length = c.N.length)
    (turn : ∀ k d σ₁ p, ds[k]? = some d → J k σ₁ → Sx (c.pin p) A (σ₁.set i (some (.dat d))) body (LoopP (c.pin p) (J (k + 1)) Bk P))
    (done : ∀ σ₁, J ds.length σ₁ → Sx c A σ₁ orelse P) (brk : ∀ σ₁ z h, Bk σ₁ → St c σ₁ z h → P .next z h) (hs : ∀ x, foldedSetIterable it c.env x = pure x := by intro _; rfl) : Sx1 c A σ (.For (.Name x px) it body orelse pos) P := .mk fun s z E Q S q => by
  refine wpAny_For (hit.run s z E _ S fun I fp Pv Sw h₀ t₀ z₀ g hI zI W s0 hfp hIk hP => ?_) hs
  have S₀ := S.grow g
  have hL : I ≠ c.env.locals := fun e => by
    obtain ⟨m, hm, _⟩ := S.vars
    exact absurd hm.lt (by rw [← e]; exact Nat.not_lt.mpr hI)
  have hcl : ∀ x a, c.env.cells.lookup x = some a → a ≠ I := fun y a e q' => by
    obtain ⟨_, v, o, e1, _⟩ := S.cl y a e
    exact absurd (Heap.lt_size e1) (by rw [q']; exact Nat.not_lt.mpr hI)
  have hge : c.h0.objs.size ≤ I := Nat.le_trans S.lt hI
  have hpin : ∀ p ∈ c.X, p.1 ≠ I := fun p hp e => absurd (Heap.lt_size (S.pin p hp).1) (by rw [e]; exact Nat.not_lt.mpr hI)
  have hown0 : ∀ (i : Nat) a ds, σ[i]? = some (some (.own a ds)) → a ≠ I := fun j a es e q' => by
    have hlt : j < c.N.length := (hlen 0 σ h0) ▸ getElem?_lt e
    obtain ⟨_, _, vs, n, e1, _⟩ := S.owned (List.getElem?_eq_getElem hlt) e
    exact absurd (Heap.lt_size e1) (by rw [q']; exact Nat.not_lt.mpr hI)
  have hnt : I ≠ 44 ∧ I ≠ 37 := by
    obtain ⟨o, e, ik⟩ := hIk 0 _ s0
    exact S₀.gd.ne e ik.1
  refine codeAny_forLoop_any (FJ c s ds.length J Sw z₀ I) ?_ (ds.length + 1)
    ⟨0, σ, z₀, h₀, t₀, rfl, rfl, Nat.zero_le _, h0, S₀, s0, .refl _, zI, hown0⟩
  rintro n s' ⟨k, σ₁, z₁, h, tk, rfl, hn, hk, hJ, S₁, sw, le₁, zI₁, hown₁⟩
  obtain ⟨o, eo, ik⟩ := hIk k h sw
  by_cases hlt : k < ds.length
  · refine W.item k _ _ _ hlt sw fun v h₁ t₁ hv sw₁ hk₁ => ?_
    have kb : ∀ b ob, b ≠ I → h.get? b = some ob → h₁.get? b = some ob := fun b ob hb e => hk₁ b ob (fun hm => hb (List.mem_singleton.mp hm)) e
    have S₂ : St c σ₁ z₁ h₁ := S₁.but kb eo ik zI₁ hge hL hcl hown₁ hpin (hlen k σ₁ hJ)
    obtain ⟨d, ed, rd⟩ := hP k v z₁ le₁ hv
    obtain ⟨o₁, eo₁, ik₁⟩ := hIk (k + 1) h₁ sw₁
    have S₂' : St (c.pin (I, o₁)) σ₁ z₁ h₁ := S₂.repin eo₁ hL (fun y a e q' => hcl y a e q'.symm) hnt.1 hnt.2 zI₁ fun j a es e q' => hown₁ j a es e q'.symm
    refine wpAny_pure (wpAny_assign_Name (store (c := c.pin (I, o₁)) (u := .dat d) ⟨hx.at', hx.kind⟩ S₂' rd trivial fun h₂ t₂ S₃ => ?_))
    refine (turn k d σ₁ (I, o₁) ed hJ).run _ z₁ _ _ S₃ fun f h₃ t₃ z₃ le₃ p₃ => ?_
    have again : ∀ σ₄, J (k + 1) σ₄ → St (c.pin (I, o₁)) σ₄ z₃ h₃ → ∃ m, m < n ∧ FJ c s ds.length J Sw z₀ I m { s with heap := h₃, toks := t₃ } := fun σ₄ hJ₄ S₄ => by
      have pI := S₄.pin (I, o₁) (.head _)
      refine ⟨n - 1, by lia, k + 1, σ₄, z₃, h₃, t₃, rfl, by lia, hlt, hJ₄, S₄.unpin, W.frame _ _ _ sw₁ fun b hb ob e => ?_, le₁.trans le₃, pI.2.2.2.2.2, fun j a es e q' => S₄.pid j a es e (I, o₁) (.head _) q'.symm⟩
      rcases hfp b hb with rfl | ⟨ob', e'⟩
      · rw [eo₁] at e; cases e; exact pI.1
      · have e1 := S₂.sub b ob' (le₁ _ _ e')
        rw [e1] at e; cases e
        exact S₄.sub b _ (le₃ _ _ (le₁ _ _ e'))
    cases f with
    | next => obtain ⟨σ₄, hJ₄, S₄⟩ := p₃; exact again σ₄ hJ₄ S₄
    | cont => obtain ⟨σ₄, hJ₄, S₄⟩ := p₃; exact again σ₄ hJ₄ S₄
    | brk => obtain ⟨σ₄, hB, S₄⟩ := p₃; exact q _ h₃ t₃ z₃ ((g.le.trans le₁).trans le₃) (brk σ₄ z₃ h₃ hB S₄.unpin)
    | ret v => exact q _ h₃ t₃ z₃ ((g.le.trans le₁).trans le₃) p₃
  · have hk' : k = ds.length := by lia
    subst hk'
    refine W.done _ _ _ sw fun h₁ t₁ hk₁ => ?_
    have kb : ∀ b ob, b ≠ I → h.get? b = some ob → h₁.get? b = some ob := fun b ob hb e => hk₁ b ob (fun hm => hb (List.mem_singleton.mp hm)) e
    have S₂ : St c σ₁ z₁ h₁ := S₁.but kb eo ik zI₁ hge hL hcl hown₁ hpin (hlen _ σ₁ hJ)
    exact (done σ₁ hJ).run _ z₁ _ _ S₂ fun f h₃ t₃ z₃ le₃ p₃ => q f h₃ t₃ z₃ ((g.le.trans le₁).trans le₃) p₃
theorem sx1_while {test : Expr} {body : List Stmt} {pos : Pos} {P : Flow → Z → Heap → Prop} (J : Nat → List (Option V) → Prop) (Bk : List (Option V) → Prop) {n : Nat} (h0 : J n σ) (tst : ∀ n σ₁, J n σ₁ → ∃ b, Ts c A σ₁ test b ∧
      (b = true → Sx c A σ₁ body (LoopP c (fun σ₂ => ∃ m, m < n ∧ J m σ₂) Bk P)) ∧ (b = false → ∀ z h, St c σ₁ z h → P .next z h)) (brk : ∀ σ₁ z h, Bk σ₁ → St c σ₁ z h → P .next z h) : Sx1 c A σ (.While test body [] pos) P := .mk fun s z E Q S q => by
  refine wpAny_While (codeAny_whileLoop (fun n s' => ∃ σ₁ z₁ h tk, s' = { s with heap := h, toks := tk } ∧ J n σ₁ ∧ St c σ₁ z₁ h ∧ Z.le z z₁) ?_ n ⟨σ, z, s.heap, s.toks, rfl, h0, S, .refl z⟩)
  rintro n s' ⟨σ₁, z₁, h, tk, rfl, hJ, S₁, le₁⟩
  obtain ⟨b, T, hb, hf⟩ := tst n σ₁ hJ
  refine T.run _ z₁ _ _ S₁ fun h₂ t₂ z₂ g₂ => ?_
  cases b with
  | false => exact wpAny_execs_nil (q .next h₂ t₂ z₂ (le₁.trans g₂.le) (hf rfl z₂ h₂ (S₁.grow g₂)))
  | true =>
    refine (hb rfl).run _ z₂ _ _ (S₁.grow g₂) fun f h₃ t₃ z₃ le₃ p₃ => ?_
    cases f with
    | next => obtain ⟨σ₄, ⟨m, hm, hJ₄⟩, S₄⟩ := p₃; exact ⟨m, hm, σ₄, z₃, h₃, t₃, rfl, hJ₄, S₄, (le₁.trans g₂.le).trans le₃⟩
    | cont => obtain ⟨σ₄, ⟨m, hm, hJ₄⟩, S₄⟩ := p₃; exact ⟨m, hm, σ₄, z₃, h₃, t₃, rfl, hJ₄, S₄, (le₁.trans g₂.le).trans le₃⟩
    | brk => obtain ⟨σ₄, hB, S₄⟩ := p₃; exact q _ h₃ t₃ z₃ ((le₁.trans g₂.le).trans le₃) (brk σ₄ z₃ h₃ hB S₄)
    | ret v => exact q _ h₃ t₃ z₃ ((le₁.trans g₂.le).trans le₃) p₃
end
end Mine

-- V9
namespace Mine

theorem cells_new : ∀ (names : List (Str × NameKind)) (h : Heap) (acc : List (Str × Addr)), (∀ x a, (x, a) ∈ acc → a < h.objs.size) → (∀ x y a, (x, a) ∈ acc → (y, a) ∈ acc → x = y) →
    (∀ x a, (x, a) ∈ cellsFrom h.objs.size names acc → (x, a) ∈ acc ∨ (h.objs.size ≤ a ∧ (pushCells h names).IsCell a none)) ∧ (∀ x y a, (x, a) ∈ cellsFrom h.objs.size names acc → (y, a) ∈ cellsFrom h.objs.size names acc → x = y)
  | [], h, acc, hb, hi => ⟨fun _ _ m => .inl m, hi⟩
  | (n, k) :: r, h, acc, hb, hi => by
    unfold cellsFrom pushCells
    split
    · have := cells_new r (h.push { cls := .type "cell", data := .cell none }) ((n, h.objs.size) :: acc) (fun x a m => by
          rw [Heap.size_push]
          rcases List.mem_cons.mp m with e | m
          · cases e; exact Nat.lt_succ_self _
          · exact Nat.lt_succ_of_lt (hb x a m)) (fun x y a m m' => by
          rcases List.mem_cons.mp m with e | m
          · cases e
            rcases List.mem_cons.mp m' with e' | m'
            · cases e'; rfl
            · exact absurd (hb y _ m') (Nat.lt_irrefl _)
          · rcases List.mem_cons.mp m' with e' | m'
            · cases e'; exact absurd (hb x _ m) (Nat.lt_irrefl _)
            · exact hi x y a m m')
      rw [Heap.size_push] at this
      refine ⟨fun x a m => ?_, this.2⟩
      rcases this.1 x a m with m | ⟨q1, q2⟩
      · rcases List.mem_cons.mp m with e | m
        · cases e
          exact .inr ⟨Nat.le_refl _, Heap.IsCell.keeps ⟨_, Heap.get?_push_size _ rfl, rfl⟩ (pushCells_keeps _ _)⟩
        · exact .inl m
      · exact .inr ⟨by lia, q2⟩
    · exact cells_new r h acc hb hi
theorem pushCells_size : ∀ (names : List (Str × NameKind)) (h : Heap), h.objs.size ≤ (pushCells h names).objs.size
  | [], h => Nat.le_refl _
  | (n, k) :: r, h => by
    unfold pushCells
    split
    · exact Nat.le_trans (by rw [Heap.size_push]; lia) (pushCells_size r _)
    · exact pushCells_size r h
theorem clos_sub {env : Env} (f : Str × NameKind → List (Str × Addr) → Sem (ForInStep (List (Str × Addr)))) (hf : ∀ name kind cells, f (name, kind) cells = if kind == .free then (do let a ← cellOf env name; pure (.yield ((name, a) :: cells))) else pure (.yield cells)) :
    ∀ (names : List (Str × NameKind)) (acc cl : List (Str × Addr)), (forIn names acc f >>= fun r => pure r) = (pure cl : Sem (List (Str × Addr))) → ∀ p ∈ cl, p ∈ acc ∨ env.cells.lookup p.1 = some p.2
  | [], acc, cl, h, p, hp => by rw [List.forIn_nil] at h; cases h; exact .inl hp
  | (n, k) :: r, acc, cl, h, p, hp => by
    rw [List.forIn_cons, hf] at h
    by_cases hk : (k == .free) = true
    · rw [if_pos hk] at h
      unfold cellOf at h
      cases e : env.cells.lookup n with
      | none => rw [e] at h; cases h
      | some a =>
        rw [e] at h
        rcases clos_sub f hf r ((n, a) :: acc) cl h p hp with q | q
        · rcases List.mem_cons.mp q with e' | q
          · subst e'; exact .inr e
          · exact .inl q
        · exact .inr q
    · rw [if_neg hk] at h
      exact clos_sub f hf r acc cl h p hp
theorem closure_sub {scope : Scope} {env : Env} {cl : List (Str × Addr)} (h : closureFor scope env = pure cl) : ∀ p ∈ cl, env.cells.lookup p.1 = some p.2 := fun p hp => by
  unfold closureFor at h
  rcases clos_sub _ (fun n k cells => rfl) _ _ _ h p hp with q | q
  · cases q
  · exact q
theorem comp_env {M : Model} {A : Around} {E : Value → Shared → Prop} {s : Shared} {scope : Scope} {g : Addr} {cl : List (Str × Addr)} {qual : Str} {env : Env} {Q : Env → Shared → Prop}
    (h : Q { scope := scope, locals := s.heap.objs.size, globals := g, cells := cellsFrom (s.heap.objs.size + 1) scope.names cl, qual := qual, func := none, code := env.code, frame := env.frame, builtins := env.builtins }
      { s with heap := pushCells (s.heap.push { cls := .type "dict", data := .dict #[] }) scope.names }) : wpAny M A (newFunctionEnv scope g cl [] qual none .none (some env)) Q E s := by
  simp only [newFunctionEnv, Option.isSome_some, if_true]
  refine wpAny_bind (wpAny_alloc ?_)
  refine wpAny_bind (wpAny_layCells _ (fun name kind cells => by cases hkc : kind == NameKind.cell <;> simp) _ _ _ _ ?_)
  rw [show ({ s with heap := s.heap.push { cls := .type "dict", data := .dict #[] } } : Shared).heap.objs.size = s.heap.objs.size + 1 from Heap.size_push ..]
  exact wpAny_bind (wpAny_pure (wpAny_pure h))

noncomputable def cenvG (scope : Scope) (cl : List (Str × Addr)) (C : Addr) (env : Env) : Env :=
  { scope := relabel scope env, locals := C, globals := env.globals, cells := cellsFrom (C + 1) scope.names cl, qual := env.qual, func := none, code := env.code, frame := env.frame, builtins := env.builtins }
noncomputable abbrev cxK (c : Cx) (scope : Scope) (cl : List (Str × Addr)) (N : List Str) (C : Addr) (h0 : Heap) (z0 : Z) (X : List (Addr × Obj)) : Cx := ⟨c.w, cenvG scope cl C c.env, N, h0, z0, X⟩
@[irreducible] noncomputable def TL (c : Cx) (A : Around) (σ : List (Option V)) (ifs : List Expr) (b : Bool) : Prop :=
  ∀ (s : Shared) (z : Z) (E : Value → Shared → Prop) (Q : Bool → Shared → Prop), St c σ z s.heap → (∀ h' tk z', Gr z s.heap z' h' → Q b { s with heap := h', toks := tk }) →
    wpAny (model PR c.w) A (forIn ifs true fun e r => if r = true then do let ok ← isTrue e c.env (eval e c.env); pure (ForInStep.yield ok) else pure (ForInStep.yield r)) Q E s
theorem TL.mk {c : Cx} {A : Around} {σ : List (Option V)} {ifs : List Expr} {b : Bool} (h : ∀ (s : Shared) (z : Z) (E : Value → Shared → Prop) (Q : Bool → Shared → Prop), St c σ z s.heap → (∀ h' tk z', Gr z s.heap z' h' → Q b { s with heap := h', toks := tk }) →
    wpAny (model PR c.w) A (forIn ifs true fun e r => if r = true then do let ok ← isTrue e c.env (eval e c.env); pure (ForInStep.yield ok) else pure (ForInStep.yield r)) Q E s) : TL c A σ ifs b := by delta TL; exact h
theorem TL.run {c : Cx} {A : Around} {σ : List (Option V)} {ifs : List Expr} {b : Bool} (h : TL c A σ ifs b) : ∀ (s : Shared) (z : Z) (E : Value → Shared → Prop) (Q : Bool → Shared → Prop), St c σ z s.heap → (∀ h' tk z', Gr z s.heap z' h' → Q b { s with heap := h', toks := tk }) →
    wpAny (model PR c.w) A (forIn ifs true fun e r => if r = true then do let ok ← isTrue e c.env (eval e c.env); pure (ForInStep.yield ok) else pure (ForInStep.yield r)) Q E s := by delta TL at h; exact h
theorem tl_nil {c : Cx} {A : Around} {σ : List (Option V)} : TL c A σ [] true := .mk fun s z E Q S q => by
  rw [List.forIn_nil]; exact wpAny_pure (q s.heap s.toks z (.refl S.sub))
theorem tl_one {c : Cx} {A : Around} {σ : List (Option V)} {e : Expr} {b : Bool} (h : Ts c A σ e b) : TL c A σ [e] b := .mk fun s z E Q S q => wpAny_tests_one (h.run s z E Q S q)
noncomputable def notOwn : V → Prop
  | .own _ _ => False
  | _ => True
theorem comp_start {c : Cx} {σ us : List (Option V)} {scope : Scope} {cl : List (Str × Addr)} {N : List Str} {z z0 : Z} {h h0 : Heap} (S : St c σ z h) (g : Gr z0 h0 z h) (gd0 : Gd c.w h0) (hclos : closureFor scope c.env = pure cl) (hkind : scope.kind = .function) (hN : N.Nodup) (hlen : us.length = N.length)
    (hcap : ∀ (i : Nat) y v, N[i]? = some y → us[i]? = some (some v) → notOwn v ∧ (∀ C : Addr, ∃ a, (cellsFrom (C + 1) scope.names cl).lookup y = some a ∧ c.env.cells.lookup y = some a) ∧ ((relabel scope c.env).names.lookup y = some .cell ∨ (relabel scope c.env).names.lookup y = some .free) ∧
      (c.env.kindOf y = some .cell ∨ c.env.kindOf y = some .free) ∧ ∃ j : Nat, c.N[j]? = some y ∧ σ[j]? = some (some v)) (lo : Obj) :
    St (cxK c scope cl N (h.push lo).objs.size h0 z0 []) us z (pushCells ((h.push lo).push { cls := .type "dict", data := .dict #[] }) scope.names) := by
  have hk : ∀ b o, h.get? b = some o → (pushCells ((h.push lo).push { cls := .type "dict", data := .dict #[] }) scope.names).get? b = some o := fun b o e => pushCells_keeps _ _ b o (Heap.get?_push_of_some _ (Heap.get?_push_of_some _ e))
  have hsz : h.objs.size ≤ (pushCells ((h.push lo).push { cls := .type "dict", data := .dict #[] }) scope.names).objs.size := Nat.le_trans (by rw [Heap.size_push, Heap.size_push]; lia) (pushCells_size _ _)
  have clm : ∀ y a, (y, a) ∈ cl → c.env.cells.lookup y = some a := fun y a m => closure_sub hclos (y, a) m
  have CN := cells_new scope.names ((h.push lo).push { cls := .type "dict", data := .dict #[] }) cl (fun y a m => by
    obtain ⟨_, v, o, e, _⟩ := S.cl y a (clm y a m)
    have := Heap.lt_size e
    rw [Heap.size_push, Heap.size_push]; exact Nat.lt_succ_of_lt (Nat.lt_succ_of_lt this)) fun x y a m m' => S.ok.inj x y a (clm x a m) (clm y a m')
  rw [show ((h.push lo).push { cls := .type "dict", data := .dict #[] }).objs.size = (h.push lo).objs.size + 1 from Heap.size_push ..] at CN
  have zn : ∀ a, h.objs.size ≤ a → z a = none := fun a ha => by
    cases q : z a with
    | none => rfl
    | some o => exact absurd (Heap.lt_size (S.sub a o q)) (Nat.not_lt.mpr ha)
  have zt : z0.Nf := fun a o e => S.zt a o (g.le a o e)
  have own : ∀ (i : Nat) a ds, us[i]? = some (some (.own a ds)) → False := fun i a ds e => by
    have hlt : i < N.length := hlen ▸ getElem?_lt e
    exact (hcap i _ _ (List.getElem?_eq_getElem hlt) e).1
  refine ⟨⟨hkind, S.ok.glob, S.ok.blt, by show h0.objs.size ≤ (h.push lo).objs.size; rw [Heap.size_push]; exact Nat.le_succ_of_le g.ext.size, fun x y a e e' => CN.2 x y a (mem_lookup e) (mem_lookup e'), hN, zt⟩, g.ext.trans (.of_keeps hk hsz), gd0, fun a o e => hk _ _ (S.sub a o e), g.le, g.new,
    ⟨_, (Heap.Ns.new (h.push lo) (.type "dict")).keeps (pushCells_keeps _ _), fun i y v hy hv => ?_⟩, zn _ (by show h.objs.size ≤ (h.push lo).objs.size; rw [Heap.size_push]; lia), fun y a e => ?_, fun p hp => (nomatch hp), fun i j a ds b es h1 _ _ => (own i a ds h1).elim, fun i a ds _ p hp => (nomatch hp)⟩
  · obtain ⟨no, hc, hr, hko, j, hj, hs⟩ := hcap i y v hy hv
    obtain ⟨a, ha, ha'⟩ := hc (h.push lo).objs.size
    obtain ⟨m, hm, hvs⟩ := S.vars
    have e := hvs j y v hj hs
    have sl : ∀ {u}, Slot c.env m h y u → Slot (cenvG scope cl (h.push lo).objs.size c.env) (fun _ => none) (pushCells ((h.push lo).push { cls := .type "dict", data := .dict #[] }) scope.names) y u := fun q => by
      rcases q with ⟨k, _⟩ | ⟨_, a₂, e1, e2⟩
      · rcases hko with q | q <;> (rw [k] at q; cases q)
      · rw [ha'] at e1; cases e1
        exact .inr ⟨hr, a, ha, e2.keeps hk⟩
    cases v with
    | dat d => obtain ⟨u, q, r⟩ := e; exact ⟨u, sl q, r⟩
    | own a ds => exact no.elim
    | ws cs nt => obtain ⟨u, q, r⟩ := e; exact ⟨u, sl q, r⟩
    | val u => exact sl e
  · rcases CN.1 y a (mem_lookup e) with q | ⟨q1, q2⟩
    · obtain ⟨z1, v, k⟩ := S.cl y a (clm y a q)
      exact ⟨z1, v, k.keeps hk⟩
    · exact ⟨zn a (Nat.le_trans (by rw [Heap.size_push]; lia) q1), _, q2⟩
section
variable {c : Cx} {A : Around} {us : List (Option V)} {elt iter : Expr} {x : Str} {px : Pos} {ifs : List Expr} {scope : Scope} {pos : Pos} {ds : List PyData} {f : PyData → Option PyData}
structure CI (c : Cx) (A : Around) (z : Z) (h : Heap) (I Dd : Addr) (fp : List Addr) (ds : List PyData) (Pv : Nat → Value → Prop) (Sw : Nat → Heap → Prop) : Prop where
  W : Walks PR c.w A I fp [I] ds.length Pv Sw
  fps : ∀ b ∈ fp, b = I ∨ ∃ o, z b = some o
  ik : ∀ i h, Sw i h → ∃ o, h.get? I = some o ∧ Ik o
  items : ∀ i u z'', Z.le z z'' → Pv i u → ∃ d, ds[i]? = some d ∧ Rd z'' u d
  sw : Sw 0 h
  zI : z I = none
  zD : z Dd = none
  gI : c.h0.objs.size ≤ I
  gD : c.h0.objs.size ≤ Dd
  nID : I ≠ Dd
  nIL : I ≠ c.env.locals
  nDL : Dd ≠ c.env.locals
  nIc : ∀ x a, c.env.cells.lookup x = some a → a ≠ I
  nDc : ∀ x a, c.env.cells.lookup x = some a → a ≠ Dd
  nX : ∀ p ∈ c.X, p.1 ≠ I ∧ p.1 ≠ Dd
noncomputable def noOwn (σ : List (Option V)) : Prop := ∀ (i : Nat) a ds, σ[i]? = some (some (.own a ds)) → False
theorem noOwn.set {σ : List (Option V)} (h : noOwn σ) (i : Nat) (d : PyData) : noOwn (σ.set i (some (.dat d))) := fun j a ds e => by
  rcases get_set e with ⟨_, q⟩ | ⟨_, q⟩
  · cases q
  · exact h j a ds q
theorem St.append {z : Z} {h h' : Heap} {σ : List (Option V)} {Dd : Addr} {oD : Obj} (S : St c σ z h) (ho : noOwn σ) (s : Heap.SameBut Dd h h') (gD : c.h0.objs.size ≤ Dd) (zD : z Dd = none) (eD : h.get? Dd = some oD) (hs : ∃ vs n, oD.data = .seq vs n) (hX : ∀ p ∈ c.X, p.1 ≠ Dd) : St c σ z h' := by
  obtain ⟨vsD, nD, hs⟩ := hs
  obtain ⟨m, hm, hv⟩ := S.vars
  have cell : ∀ a' u, h.IsCell a' u → h'.IsCell a' u := fun a' u ⟨oc, e1, e2⟩ => ⟨oc, (s.2 a' fun q => by rw [q, eD] at e1; cases e1; rw [hs] at e2; cases e2).trans e1, e2⟩
  refine S.change s gD zD eD (fun vs q => by rw [hs] at q; cases q) ⟨m, ?_, fun i x v hx hi => (hv i x v hx hi).lift (.refl z) (fun a u q _ => cell a u q) fun a ds q => by subst q; exact (ho i a ds hi).elim⟩ (fun x b e => let ⟨w, k⟩ := (S.cl x b e).2; ⟨w, cell _ _ k⟩) hX S.dis S.pid
  obtain ⟨o', es, ep, e, hd', r⟩ := hm
  exact ⟨o', es, ep, (s.2 _ fun q => by rw [q, eD] at e; cases e; rw [hs] at hd'; cases hd').trans e, hd', r⟩
inductive CJ (c : Cx) (us : List (Option V)) (s : Shared) (z : Z) (ix : Nat) (I Dd : Addr) (Sw : Nat → Heap → Prop) (ds : List PyData) (f : PyData → Option PyData) (es0 : List PyData) (n : Nat) (s' : Shared) : Prop
  | mk (k : Nat) (σ' : List (Option V)) (z₁ : Z) (h : Heap) (tk : Nat) (vs : List Value) (m : Nat) (e : s' = { s with heap := h, toks := tk }) (hn : n + k = ds.length + 1) (hk : k ≤ ds.length) (S : St c σ' z₁ h) (hσ : σ' = us ∨ ∃ d, σ' = us.set ix (some (.dat d))) (hno : noOwn σ') (hl : σ'.length = c.N.length)
      (sw : Sw k h) (le : Z.le z z₁) (zI : z₁ I = none) (zD : z₁ Dd = none) (eD : h.get? Dd = some (lobj vs m)) (r : RdAll z₁ vs (es0 ++ (ds.take k).filterMap f)) : CJ c us s z ix I Dd Sw ds f es0 n s'
theorem comp_loopG {code : Code} {ix : Nat} {s : Shared} {z : Z} {I Dd : Addr} {fp : List Addr} {Pv : Nat → Value → Prop} {Sw : Nat → Heap → Prop} {vs0 : List Value} {n0 : Nat} {es0 : List PyData} {R : Result → Shared → Prop}
    (rule : ∀ (J : Nat → Shared → Prop) (turn : ∀ n s, J n s → wpAny (model PR c.w) A (pyNext (.ref I)) (fun r s₁ => match r with
      | none => R (.ok .next) s₁
      | some v => wpAny (model PR c.w) A (assign (.Name x px) c.env v) (fun _ s₂ =>
          wpAny (model PR c.w) A (forIn ifs true fun e r => if r = true then do let ok ← isTrue e c.env (eval e c.env); pure (ForInStep.yield ok) else pure (ForInStep.yield r)) (fun ok s₃ =>
            if ok = true then wpAny (model PR c.w) A (eval elt c.env) (fun x s₄ =>
              wpAny (model PR c.w) A (call (.builtin "list.append") [.ref Dd, x]) (fun _ s₅ => ∃ m, m < n ∧ J m s₅) (notedBy (model PR c.w) A c.env fun e s' => R (.error e) s') s₄) (notedBy (model PR c.w) A c.env fun e s' => R (.error e) s') s₃
            else ∃ m, m < n ∧ J m s₃) (notedBy (model PR c.w) A c.env fun e s' => R (.error e) s') s₂) (notedBy (model PR c.w) A c.env fun e s' => R (.error e) s') s₁) (notedBy (model PR c.w) A c.env fun e s' => R (.error e) s') s)
      (n : Nat) (h : J n s), codeAny (model PR c.w) A code R s)
    (S : St c us z s.heap) (K : CI c A z s.heap I Dd fp ds Pv Sw) (hno : noOwn us) (hlen : us.length = c.N.length)
    (eD : s.heap.get? Dd = some (lobj vs0 n0)) (r0 : RdAll z vs0 es0) (hsz : es0.length + ds.length ≤ 10000) (hx : Sto c ix x)
    (turn : ∀ X d, d ∈ ds → ∃ b, TL { c with X := X } A (us.set ix (some (.dat d))) ifs b ∧ (b = false → f d = none) ∧ (b = true → ∃ r, f d = some r ∧ Ev { c with X := X } A (us.set ix (some (.dat d))) elt (D r)))
    (hR : ∀ h' tk z' σ' vs n, Z.le z z' → St c σ' z' h' → (σ' = us ∨ ∃ d, σ' = us.set ix (some (.dat d))) → z' Dd = none → h'.get? Dd = some (lobj vs n) → RdAll z' vs (es0 ++ ds.filterMap f) → R (.ok .next) { s with heap := h', toks := tk }) :
    codeAny (model PR c.w) A code R s := by
  have hnt : I ≠ 44 ∧ I ≠ 37 := by
    obtain ⟨o, e, ik⟩ := K.ik 0 _ K.sw
    exact S.gd.ne e ik.1
  have hntD : Dd ≠ 44 ∧ Dd ≠ 37 := S.gd.ne eD (nt_seq rfl)
  refine rule (CJ c us s z ix I Dd Sw ds f es0) ?_ (ds.length + 1) ⟨0, us, z, s.heap, s.toks, vs0, n0, rfl, rfl, Nat.zero_le _, S, .inl rfl, hno, hlen, K.sw, .refl z, K.zI, K.zD, eD, by simpa using r0⟩
  rintro n s' ⟨k, σ', z₁, h, tk, vs, m, rfl, hn, hk, S₁, hσ, hno₁, hlen₁, sw, le₁, zI₁, zD₁, eD₁, r₁⟩
  obtain ⟨o, eo, ik⟩ := K.ik k h sw
  have hX : ∀ p ∈ c.X, p.1 ≠ I := fun p hp => (K.nX p hp).1
  have hσs : ∀ d', σ'.set ix (some (.dat d')) = us.set ix (some (.dat d')) := fun d' => by
    rcases hσ with rfl | ⟨d₀, rfl⟩
    · rfl
    · rw [List.set_set]
  by_cases hlt : k < ds.length
  · refine K.W.item k _ _ _ hlt sw fun v h₁ t₁ hv sw₁ hk₁ => ?_
    have kb : ∀ b ob, b ≠ I → h.get? b = some ob → h₁.get? b = some ob := fun b ob hb e => hk₁ b ob (fun hm => hb (List.mem_singleton.mp hm)) e
    have S₂ : St c σ' z₁ h₁ := S₁.but kb eo ik zI₁ K.gI K.nIL K.nIc (fun i a ds e => (hno₁ i a ds e).elim) hX hlen₁
    obtain ⟨d, ed, rd⟩ := K.items k v z₁ le₁ hv
    obtain ⟨o₁, eo₁, ik₁⟩ := K.ik (k + 1) h₁ sw₁
    have eD₂ : h₁.get? Dd = some (lobj vs m) := kb _ _ K.nID.symm eD₁
    have S₃ : St (c.pin (I, o₁)) σ' z₁ h₁ := S₂.repin eo₁ K.nIL (fun y a e q' => K.nIc y a e q'.symm) hnt.1 hnt.2 zI₁ fun j a es e => (hno₁ j a es e).elim
    have S₄ : St ((c.pin (I, o₁)).pin (Dd, lobj vs m)) σ' z₁ h₁ := S₃.repin eD₂ K.nDL (fun y a e q' => K.nDc y a e q'.symm) hntD.1 hntD.2 zD₁ fun j a es e => (hno₁ j a es e).elim
    refine wpAny_assign_Name (store (c := (c.pin (I, o₁)).pin (Dd, lobj vs m)) (u := .dat d) ⟨hx.at', hx.kind⟩ S₄ rd trivial fun h₂ t₂ S₅ => ?_)
    rw [hσs] at S₅
    have hno₂ : noOwn (us.set ix (some (.dat d))) := hno.set ix d
    have mem : d ∈ ds := List.mem_of_getElem? ed
    obtain ⟨b, T, hf, ht⟩ := turn (((c.pin (I, o₁)).pin (Dd, lobj vs m)).X) d mem
    have frame : ∀ z₃ h₃, Z.le z₁ z₃ → St ((c.pin (I, o₁)).pin (Dd, lobj vs m)) (us.set ix (some (.dat d))) z₃ h₃ → ∀ h₄, (∀ b ob, b ≠ Dd → h₃.get? b = some ob → h₄.get? b = some ob) → Sw (k + 1) h₄ := fun z₃ h₃ le₃ S₆ h₄ k₄ => by
      refine K.W.frame _ _ _ sw₁ fun b hb ob e => ?_
      rcases K.fps b hb with rfl | ⟨ob', e'⟩
      · rw [eo₁] at e; cases e; exact k₄ _ _ K.nID (S₆.pin (b, o₁) (.tail _ (.head _))).1
      · have e1 := S₂.sub b ob' (le₁ _ _ e')
        rw [e1] at e; cases e
        refine k₄ _ _ (fun q => ?_) (S₆.sub b _ (le₃ _ _ (le₁ _ _ e')))
        rw [q, K.zD] at e'; cases e'
    refine T.run _ z₁ _ _ S₅ fun h₃ t₃ z₃ g₃ => ?_
    have S₆ := S₅.grow g₃
    have tk' : (ds.take (k + 1)).filterMap f = (ds.take k).filterMap f ++ (f d).toList := by
      rw [List.take_add_one, ed, List.filterMap_append]
      cases e : f d <;> simp [e]
    cases b with
    | false =>
      simp only [Bool.false_eq_true, if_false]
      refine ⟨n - 1, by lia, k + 1, _, z₃, h₃, t₃, vs, m, rfl, by lia, hlt, S₆.unpin.unpin, (.inr ⟨_, rfl⟩), hno₂, by rw [List.length_set]; exact hlen, frame z₃ h₃ g₃.le S₆ h₃ fun _ _ _ e => e, le₁.trans g₃.le,
        (S₆.pin (I, o₁) (.tail _ (.head _))).2.2.2.2.2, (S₆.pin (Dd, lobj vs m) (.head _)).2.2.2.2.2, (S₆.pin (Dd, lobj vs m) (.head _)).1, ?_⟩
      rw [tk', hf rfl]; simpa using r₁.mono g₃.le
    | true =>
      simp only [if_true]
      obtain ⟨r, hr, E⟩ := ht rfl
      refine E.run _ z₃ _ _ S₆ fun y h₄ t₄ z₄ g₄ p₄ => ?_
      have S₇ := S₆.grow g₄
      have pD := S₇.pin (Dd, lobj vs m) (.head _)
      refine wpAny_list_append_plain (l := Dd) (items := vs.toArray) ⟨m, pD.1⟩ (fun h₅ hp₅ hs₅ => ?_) (by
        rw [List.size_toArray, r₁.length, List.length_append, sizeLine_eq]
        have := List.length_filterMap_le f (ds.take k)
        rw [List.length_take] at this; lia)
      obtain ⟨m₅, e₅⟩ := hp₅
      have e₅' : h₅.get? Dd = some (lobj (vs ++ [y]) m₅) := by rw [e₅]; simp
      have S₈ : St c (us.set ix (some (.dat d))) z₄ h₅ := S₇.unpin.unpin.append hno₂ hs₅ K.gD pD.2.2.2.2.2 pD.1 ⟨_, _, rfl⟩ (fun p hp => (K.nX p hp).2)
      refine ⟨n - 1, by lia, k + 1, _, z₄, h₅, t₄, vs ++ [y], m₅, rfl, by lia, hlt, S₈, (.inr ⟨_, rfl⟩), hno₂, by rw [List.length_set]; exact hlen, frame z₄ h₄ (g₃.le.trans g₄.le) S₇ h₅ fun b ob hb e => (hs₅.2 b hb).trans e, (le₁.trans g₃.le).trans g₄.le,
        (S₇.pin (I, o₁) (.tail _ (.head _))).2.2.2.2.2, pD.2.2.2.2.2, e₅', ?_⟩
      rw [tk', hr, ← List.append_assoc]
      exact (r₁.mono (g₃.le.trans g₄.le)).append (.cons p₄ .nil)
  · have hk' : k = ds.length := by lia
    subst hk'
    refine K.W.done _ _ _ sw fun h₁ t₁ hk₁ => ?_
    have kb : ∀ b ob, b ≠ I → h.get? b = some ob → h₁.get? b = some ob := fun b ob hb e => hk₁ b ob (fun hm => hb (List.mem_singleton.mp hm)) e
    have S₂ : St c σ' z₁ h₁ := S₁.but kb eo ik zI₁ K.gI K.nIL K.nIc (fun i a ds e => (hno₁ i a ds e).elim) hX hlen₁
    exact hR h₁ t₁ z₁ σ' vs m le₁ S₂ hσ zD₁ (kb _ _ K.nID.symm eD₁) (by rw [List.take_length] at r₁; exact r₁)
end
end Mine

-- V10
namespace Mine
section
variable {c : Cx} {A : Around} {σ us : List (Option V)} {elt iter : Expr} {x : Str} {px : Pos} {ifs : List Expr} {scope : Scope} {pos : Pos} {ds : List PyData} {f : PyData → Option PyData} {cl : List (Str × Addr)} {N : List Str}
noncomputable def Cap (c : Cx) (σ : List (Option V)) (scope : Scope) (cl : List (Str × Addr)) (N : List Str) (us : List (Option V)) : Prop :=
  ∀ (i : Nat) y v, N[i]? = some y → us[i]? = some (some v) → notOwn v ∧ (∀ C : Addr, ∃ a, (cellsFrom (C + 1) scope.names cl).lookup y = some a ∧ c.env.cells.lookup y = some a) ∧ ((relabel scope c.env).names.lookup y = some .cell ∨ (relabel scope c.env).names.lookup y = some .free) ∧
      (c.env.kindOf y = some .cell ∨ c.env.kindOf y = some .free) ∧ ∃ j : Nat, c.N[j]? = some y ∧ σ[j]? = some (some v)
noncomputable def Tgt (c : Cx) (scope : Scope) (cl : List (Str × Addr)) (x : Str) : Prop :=
  (relabel scope c.env).names.lookup x = some .local ∨ ((relabel scope c.env).names.lookup x = some .cell ∧ ∀ C : Addr, ∃ a, (cellsFrom (C + 1) scope.names cl).lookup x = some a ∧ C < a)
structure CompOk (c : Cx) (σ : List (Option V)) (scope : Scope) (cl : List (Str × Addr)) (N : List Str) (us : List (Option V)) (x : Str) : Prop where
  clos : closureFor scope c.env = pure cl
  kind : scope.kind = .function
  names : ∀ y ∈ scope.names, y.2 = .local → scope.names.lookup y.1 = some .local
  nodup : N.Nodup
  len : us.length = N.length
  cap : Cap c σ scope cl N us
  x0 : N[0]? = some x
  tgt : Tgt c scope cl x
theorem CompOk.noOwn (o : CompOk c σ scope cl N us x) : noOwn us := fun i a ds e => by
  have hlt : i < N.length := o.len ▸ getElem?_lt e
  exact (o.cap i _ _ (List.getElem?_eq_getElem hlt) e).1
noncomputable def LoopH (c : Cx) (A : Around) (scope : Scope) (cl : List (Str × Addr)) (N : List Str) (us : List (Option V)) (x : Str) (ce : Expr) (ds es : List PyData) : Prop :=
  ∀ (C : Addr) (h0 : Heap) (z0 : Z) (s : Shared) (z : Z) (I Dd : Addr) (fp : List Addr) (Pv : Nat → Value → Prop) (Sw : Nat → Heap → Prop) (R : Result → Shared → Prop), St (cxK c scope cl N C h0 z0 []) us z s.heap → CI (cxK c scope cl N C h0 z0 []) A z s.heap I Dd fp ds Pv Sw → s.heap.get? Dd = some (lobj [] 0) →
    (∀ y, Tgt c scope cl y → ∀ i : Nat, N[i]? = some y → Sto (cxK c scope cl N C h0 z0 []) i y) →
    (∀ h' tk z' σ' vs n, Z.le z z' → St (cxK c scope cl N C h0 z0 []) σ' z' h' → z' Dd = none → h'.get? Dd = some (lobj vs n) → RdAll z' vs es → R (.ok .next) { s with heap := h', toks := tk }) →
    codeAny (model PR c.w) A (.compLoop ce 0 (.ref I) (.ref Dd) (cenvG scope cl C c.env)) R s
theorem comp_core {gs : List Comprehension} {es : List PyData} (o : CompOk c σ scope cl N us x) (hit : EvI c A σ iter ds) (LH : LoopH c A scope cl N us x (.ListComp elt (⟨.Name x px, iter, ifs, 0⟩ :: gs) scope pos) ds es)
    {s : Shared} {z : Z} {E : Value → Shared → Prop} {RR : Value → Addr → Result → Shared → Prop} (S : St c σ z s.heap)
    (hRR : ∀ Dd C h' tk z' m vs n, Gr z s.heap z' h' → s.heap.objs.size ≤ Dd → s.heap.objs.size ≤ C → Dd ≠ C → z' Dd = none → z' C = none → h'.Ns C m → h'.get? Dd = some (lobj vs n) → RdAll z' vs es → RR (.ref Dd) C (.ok .next) { s with heap := h', toks := tk }) :
    wpAny (model PR c.w) A (eval iter c.env) (fun xv s₁ => wpAny (model PR c.w) A (pyIter xv) (fun itv s₂ => wpAny (model PR c.w) A (newList []) (fun acc s₃ =>
      wpAny (model PR c.w) A (newFunctionEnv scope c.env.globals cl [] c.env.qual none .none (some c.env)) (fun cenv s₄ =>
        codeAny (model PR c.w) A (.compStart (.ListComp elt (⟨.Name x px, iter, ifs, 0⟩ :: gs) scope pos) 0 itv acc { cenv with scope := relabel scope c.env }) (RR acc cenv.locals) s₄) E s₃) E s₂) E s₁) E s := by
  refine hit.run s z E _ S fun I fp Pv Sw h₂ t₂ z₂ g hI zI W s0 hfp hIk hP => ?_
  refine wpAny_newObj_type (comp_env ?_) (by size_fits)
  have S₂ := S.grow g
  have S₄ := comp_start S₂ g S.gd o.clos o.kind o.nodup o.len o.cap (lobj [] 0)
  have hIlt : I < h₂.objs.size := by obtain ⟨ob, e, _⟩ := hIk 0 _ s0; exact Heap.lt_size e
  have szs : (h₂.push (lobj [] 0)).objs.size = h₂.objs.size + 1 := Heap.size_push ..
  have keep : ∀ b ob, h₂.get? b = some ob → (pushCells ((h₂.push (lobj [] 0)).push { cls := .type "dict", data := .dict #[] }) scope.names).get? b = some ob := fun b ob e => pushCells_keeps _ _ b ob (Heap.get?_push_of_some _ (Heap.get?_push_of_some _ e))
  have clm : ∀ y a, (y, a) ∈ cl → c.env.cells.lookup y = some a := fun y a m => closure_sub o.clos (y, a) m
  have CN := cells_new scope.names ((h₂.push (lobj [] 0)).push { cls := .type "dict", data := .dict #[] }) cl (fun y a m => by
    obtain ⟨_, v, ob, e, _⟩ := S₂.cl y a (clm y a m)
    have := Heap.lt_size e
    rw [Heap.size_push, Heap.size_push]; exact Nat.lt_succ_of_lt (Nat.lt_succ_of_lt this)) fun x y a m m' => S.ok.inj x y a (clm x a m) (clm y a m')
  rw [show ((h₂.push (lobj [] 0)).push { cls := .type "dict", data := .dict #[] }).objs.size = (h₂.push (lobj [] 0)).objs.size + 1 from Heap.size_push ..] at CN
  have old : ∀ y a, (y, a) ∈ cl → a < s.heap.objs.size := fun y a m => by
    obtain ⟨_, v, ob, e, _⟩ := S.cl y a (clm y a m); exact Heap.lt_size e
  have eD : (pushCells ((h₂.push (lobj [] 0)).push { cls := .type "dict", data := .dict #[] }) scope.names).get? h₂.objs.size = some (lobj [] 0) := pushCells_keeps _ _ _ _ (Heap.get?_push_of_some _ (Heap.get?_push_size _ rfl))
  have K : CI (cxK c scope cl N (h₂.push (lobj [] 0)).objs.size s.heap z []) A z₂ (pushCells ((h₂.push (lobj [] 0)).push { cls := .type "dict", data := .dict #[] }) scope.names) I h₂.objs.size fp ds Pv Sw :=
    ⟨W, hfp, hIk, hP, W.frame _ _ _ s0 fun b _ ob e => keep b ob e, zI, Z.none_of_sub g.sub (get?_size _), hI, g.ext.size, Nat.ne_of_lt hIlt,
      (by show I ≠ (h₂.push (lobj [] 0)).objs.size; rw [szs]; exact Nat.ne_of_lt (Nat.lt_succ_of_lt hIlt)), (by show h₂.objs.size ≠ (h₂.push (lobj [] 0)).objs.size; rw [szs]; exact Nat.ne_of_lt (Nat.lt_succ_self _)),
      (fun y a e q => by
        rcases CN.1 y a (mem_lookup e) with m | ⟨m, _⟩
        · have := old y a m; rw [q] at this; exact absurd this (Nat.not_lt.mpr hI)
        · rw [q, szs] at m; exact absurd hIlt (Nat.not_lt.mpr (Nat.le_trans (Nat.le_succ_of_le (Nat.le_succ _)) m))),
      (fun y a e q => by
        rcases CN.1 y a (mem_lookup e) with m | ⟨m, _⟩
        · have := old y a m; rw [q] at this; exact absurd this (Nat.not_lt.mpr g.ext.size)
        · rw [q, szs] at m; exact absurd m (Nat.not_le.mpr (Nat.lt_succ_of_lt (Nat.lt_succ_self _)))), fun p hp => (nomatch hp)⟩
  have sto : ∀ y, Tgt c scope cl y → ∀ i : Nat, N[i]? = some y → Sto (cxK c scope cl N (h₂.push (lobj [] 0)).objs.size s.heap z []) i y := fun y hy i hi => ⟨hi, hy.imp id fun ⟨k, hc⟩ => ⟨k, by
    obtain ⟨a, ha, hlt⟩ := hc (h₂.push (lobj [] 0)).objs.size
    exact ⟨a, ha, Nat.le_trans (Nat.le_trans g.ext.size (by rw [szs]; exact Nat.le_succ _)) (Nat.le_of_lt hlt)⟩⟩⟩
  have loop : codeAny (model PR c.w) A (.compLoop (.ListComp elt (⟨.Name x px, iter, ifs, 0⟩ :: gs) scope pos) 0 (.ref I) (.ref h₂.objs.size) (cenvG scope cl (h₂.push (lobj [] 0)).objs.size c.env)) (RR (.ref h₂.objs.size) (h₂.push (lobj [] 0)).objs.size)
      { s with heap := pushCells ((h₂.push (lobj [] 0)).push { cls := .type "dict", data := .dict #[] }) scope.names, toks := t₂ } := by
    refine LH _ s.heap z _ z₂ I h₂.objs.size fp Pv Sw _ S₄ K eD sto fun h' tk z' σ' vs n le S' zD' eD' r' => ?_
    obtain ⟨m, hm, _⟩ := S'.vars
    exact hRR _ _ h' tk z' m vs n S'.gr g.ext.size (by rw [szs]; exact Nat.le_succ_of_le g.ext.size) (by rw [szs]; exact Nat.ne_of_lt (Nat.lt_succ_self _)) zD' S'.zl hm eD' r'
  exact codeAny_compStart_list loop (W.self 0 _ _ _ K.sw loop)
theorem gr_let {z z' : Z} {h h₁ h₂ : Heap} {C : Addr} {m : Str → Option Value} (g : Gr z h z' h₁) (hC : h.objs.size ≤ C) (zC : z' C = none) (hm : h₁.Ns C m) (s : Heap.SameBut C h₁ h₂) : Gr z h z' h₂ := by
  obtain ⟨o, es, ep, e, hd, _⟩ := hm
  exact ⟨g.ext.sameBut s hC e (fun vs q => by rw [hd] at q; cases q), g.le, fun b ob q => (s.2 b fun q' => by rw [q', zC] at q; cases q).trans (g.sub b ob q), g.new⟩
theorem St.other {z : Z} {h h' : Heap} {C : Addr} {oC : Obj} (S : St (c.pin (C, oC)) σ z h) (s : Heap.SameBut C h h') (hge : c.h0.objs.size ≤ C) (hf : ∀ vs, oC.data ≠ .fields vs) (hX : ∀ p ∈ c.X, p.1 ≠ C) : St c σ z h' := by
  obtain ⟨e, nL, nc, _, _, zC⟩ := S.pin (C, oC) (.head _)
  obtain ⟨m, hm, hv⟩ := S.vars
  have T := S.unpin
  refine T.change s hge zC e hf ⟨m, hm.sameBut s nL.symm, fun i x v hx hi => (hv i x v hx hi).lift (.refl z) (fun a u q hy => ?_) fun a ds q => ?_⟩ (fun x b e => ?_) hX T.dis T.pid
  · obtain ⟨y, hy⟩ := hy
    exact q.sameBut s (fun q' => nc y a hy q'.symm)
  · subst q
    obtain ⟨_, q1, _⟩ := hv i x _ hx hi
    exact ⟨q1, fun o e => (s.2 a fun q' => S.pid i a ds hi (C, oC) (.head _) q'.symm).trans e⟩
  · obtain ⟨w, k⟩ := (T.cl x b e).2
    exact ⟨w, k.sameBut s (fun q' => nc x b e q'.symm)⟩
theorem loop_one (o : CompOk c σ scope cl N us x) (hsz : ds.length ≤ 1000)
    (turn : ∀ C h0 z0 X d, d ∈ ds → ∃ b, TL (cxK c scope cl N C h0 z0 X) A (us.set 0 (some (.dat d))) ifs b ∧ (b = false → f d = none) ∧ (b = true → ∃ r, f d = some r ∧ Ev (cxK c scope cl N C h0 z0 X) A (us.set 0 (some (.dat d))) elt (D r))) :
    LoopH c A scope cl N us x (.ListComp elt [⟨.Name x px, iter, ifs, 0⟩] scope pos) ds (ds.filterMap f) := fun C h0 z0 s z I Dd fp Pv Sw R S K eD sto hR =>
  comp_loopG (c := cxK c scope cl N C h0 z0 []) (es0 := []) (ix := 0) (f := f) (fun J turn n h => codeAny_compLoop_tests J turn n h) S K o.noOwn o.len eD .nil (by simp; lia) (sto x o.tgt 0 o.x0) (fun X d hd => turn _ _ _ X d hd) fun h' tk z' σ' vs n le S' _ zD' eD' r' => hR h' tk z' σ' vs n le S' zD' eD' (by simpa using r')
theorem evn_compG {gs : List Comprehension} {es : List PyData} (o : CompOk c σ scope cl N us x) (hit : EvI c A σ iter ds) (LH : LoopH c A scope cl N us x (.ListComp elt (⟨.Name x px, iter, ifs, 0⟩ :: gs) scope pos) ds es)
    (hs : ∀ x, foldedSetIterable iter c.env x = pure x := by intro _; rfl) : EvN c A σ (.ListComp elt (⟨.Name x px, iter, ifs, 0⟩ :: gs) scope pos) es := .mk fun s z E Q S q => by
  rw [eval_ListComp]
  refine wpAny_comprehension_free (use := none) rfl hs o.clos o.kind o.names ?_
  refine comp_core (RR := fun acc C => compPost (model PR c.w) A E none Q acc C) o hit LH S fun Dd C h' tk z' m vs n g hD hC hne zD zC hm eD r => ⟨m, hm, fun h'' hs'' => ?_⟩
  exact q Dd vs n h'' tk z' (gr_let g hC zC hm hs'') hD zD ((hs''.2 _ hne).trans eD) r
theorem evn_comp (o : CompOk c σ scope cl N us x) (hit : EvI c A σ iter ds) (hsz : ds.length ≤ 1000)
    (turn : ∀ C h0 z0 X d, d ∈ ds → ∃ b, TL (cxK c scope cl N C h0 z0 X) A (us.set 0 (some (.dat d))) ifs b ∧ (b = false → f d = none) ∧ (b = true → ∃ r, f d = some r ∧ Ev (cxK c scope cl N C h0 z0 X) A (us.set 0 (some (.dat d))) elt (D r)))
    (hs : ∀ x, foldedSetIterable iter c.env x = pure x := by intro _; rfl) : EvN c A σ (.ListComp elt [⟨.Name x px, iter, ifs, 0⟩] scope pos) (ds.filterMap f) := evn_compG o hit (loop_one o hsz turn) hs
theorem sx_assign_compG {i : Nat} {y : Str} {py spos : Pos} {rest : List Stmt} {P : Flow → Z → Heap → Prop} {gs : List Comprehension} {es : List PyData} (hy : Sto c i y) (o : CompOk c σ scope cl N us x) (hit : EvI c A σ iter ds) (LH : LoopH c A scope cl N us x (.ListComp elt (⟨.Name x px, iter, ifs, 0⟩ :: gs) scope pos) ds es)
    (h2 : ∀ a, Sx c A (σ.set i (some (.own a es))) rest P)
    (hsw : swapsWith (.ListComp elt (⟨.Name x px, iter, ifs, 0⟩ :: gs) scope pos) (some (.Name y py)) spos.line c.env = pure true := by rfl) (hs : ∀ x, foldedSetIterable iter c.env x = pure x := by intro _; rfl) (hN : σ.length = c.N.length := by rfl) :
    Sx c A σ (.Assign [.Name y py] (.ListComp elt (⟨.Name x px, iter, ifs, 0⟩ :: gs) scope pos) spos :: rest) P :=
  sx_cons (P₁ := fun fl z h => fl = .next ∧ ∃ a, St c (σ.set i (some (.own a es))) z h) (.mk fun s z E Q S q => by
    rw [exec_Assign_Name_used _ _ _ _ hsw]
    refine wpAny_bind (wpAny_standAt (wpAny_bind ?_))
    show wpAny _ A (do let _ ← comprehension (.ListComp elt (⟨.Name x px, iter, ifs, 0⟩ :: gs) scope pos) scope c.env _ (newList []) false (eval iter c.env) (some (assign (.Name y py) c.env))) _ _ s
    refine wpAny_bind (wpAny_mono (wpAny_comprehension_free (use := some (assign (.Name y py) c.env)) (Q := fun _ s' => Q .next s') rfl hs o.clos o.kind o.names ?_) (fun _ s' hq => wpAny_pure (wpAny_pure hq)) fun _ _ e => e)
    refine comp_core (RR := fun acc C => compPost (model PR c.w) A E (some (assign (.Name y py) c.env)) (fun _ s' => Q .next s') acc C) o hit LH S fun Dd C h' tk z' m vs n g hD hC hne zD zC hm eD r => ?_
    show wpAny _ A (assign (.Name y py) c.env (.ref Dd)) _ _ _
    have S' := S.grow g
    obtain ⟨oC, esC, epC, eC, hdC, restC⟩ := hm
    have nt := S'.gd.ne eC (nt_dict hdC)
    have ownlt : ∀ (j : Nat) b es', σ[j]? = some (some (.own b es')) → b < s.heap.objs.size := fun j b es' hb => by
      have hlt : j < c.N.length := hN ▸ getElem?_lt hb
      obtain ⟨_, _, vs', n', e', _⟩ := S.owned (List.getElem?_eq_getElem hlt) hb
      exact Heap.lt_size e'
    have hX : ∀ p ∈ c.X, p.1 < s.heap.objs.size := fun p hp => Heap.lt_size (S.pin p hp).1
    have hL : C ≠ c.env.locals := fun e => by
      obtain ⟨m', hm', _⟩ := S.vars
      exact absurd hm'.lt (by rw [← e]; exact Nat.not_lt.mpr hC)
    have S'' : St (c.pin (C, oC)) σ z' h' := S'.repin eC hL (fun y a e q' => by
      obtain ⟨_, v, ob, e1, _⟩ := S.cl y a e
      exact absurd (Heap.lt_size e1) (by rw [← q']; exact Nat.not_lt.mpr hC)) nt.1 nt.2 zC fun j a es e q' => absurd (ownlt j a es e) (by rw [← q']; exact Nat.not_lt.mpr hC)
    refine wpAny_assign_Name (store (c := c.pin (C, oC)) (u := .own Dd es) ⟨hy.at', hy.kind⟩ S'' ⟨rfl, zD, Nat.le_trans S.lt hD, vs, n, eD, r⟩ ⟨fun j b es hj hb q' => ?_, fun p hp q' => ?_⟩ fun h₂ t₂ S₂ => ?_)
    · exact absurd (ownlt j b es hb) (by rw [q']; exact Nat.not_lt.mpr hD)
    · rcases List.mem_cons.mp hp with rfl | hp
      · exact hne q'.symm
      · exact absurd (hX p hp) (by rw [q']; exact Nat.not_lt.mpr hD)
    · refine ⟨m, ⟨oC, esC, epC, (S₂.pin (C, oC) (.head _)).1, hdC, restC⟩, fun h'' hs'' => ?_⟩
      exact q .next h'' t₂ z' g.le ⟨rfl, Dd, S₂.other hs'' (Nat.le_trans S.lt hC) (fun vs q => by rw [hdC] at q; cases q) fun p hp e => absurd (hX p hp) (by rw [e]; exact Nat.not_lt.mpr hC)⟩)
    fun fl z h p => by obtain ⟨rfl, a, S⟩ := p; exact ⟨_, S, h2 a⟩
theorem sx_assign_comp {i : Nat} {y : Str} {py spos : Pos} {rest : List Stmt} {P : Flow → Z → Heap → Prop} (hy : Sto c i y) (o : CompOk c σ scope cl N us x) (hit : EvI c A σ iter ds) (hsz : ds.length ≤ 1000)
    (turn : ∀ C h0 z0 X d, d ∈ ds → ∃ b, TL (cxK c scope cl N C h0 z0 X) A (us.set 0 (some (.dat d))) ifs b ∧ (b = false → f d = none) ∧ (b = true → ∃ r, f d = some r ∧ Ev (cxK c scope cl N C h0 z0 X) A (us.set 0 (some (.dat d))) elt (D r)))
    (h2 : ∀ a, Sx c A (σ.set i (some (.own a (ds.filterMap f)))) rest P)
    (hsw : swapsWith (.ListComp elt [⟨.Name x px, iter, ifs, 0⟩] scope pos) (some (.Name y py)) spos.line c.env = pure true := by rfl) (hs : ∀ x, foldedSetIterable iter c.env x = pure x := by intro _; rfl) (hN : σ.length = c.N.length := by rfl) :
    Sx c A σ (.Assign [.Name y py] (.ListComp elt [⟨.Name x px, iter, ifs, 0⟩] scope pos) spos :: rest) P := sx_assign_compG hy o hit (loop_one o hsz turn) h2 hsw hs hN
end
end Mine

-- S0
namespace Mine
theorem size_update (h : Heap) (a : Addr) (f : Obj → Obj) : (h.update a f).objs.size = h.objs.size := (Heap.SameBut.update h a f).1
theorem runs_size {M : Model} {Γ : PySem.Ctx} {p : Pos} {t : Sem Fin} {fs : List Frame} {s s' : Shared} {e : End} (h : Runs M Γ p t fs s e s') : s.heap.objs.size ≤ s'.heap.objs.size := by
  induction h <;> (try simp only [Shared.setGen, Heap.size_push, size_update] at *) <;> lia
theorem wakes_size {M : Model} {Γ : PySem.Ctx} {p : Pos} {g : Nat} {r : Resume} {s s' : Shared} {res : GenResult} (h : Wakes M Γ p g r s res s') : s.heap.objs.size ≤ s'.heap.objs.size := by
  unfold Wakes at h
  split at h
  · exact h.elim
  · split at h
    · obtain ⟨e₁, s₁, hr, _, _, rfl⟩ := h; exact (runs_size hr : (s.setGen g .running).heap.objs.size ≤ s₁.heap.objs.size)
    · rw [h.2]; exact Nat.le_refl _
    · rw [h.2]; exact Nat.le_refl _
  · obtain ⟨e₁, s₁, hr, _, _, rfl⟩ := h; exact (runs_size hr : (s.setGen g .running).heap.objs.size ≤ s₁.heap.objs.size)
  · rw [h.2]; exact Nat.le_refl _
  · rw [h.2]; exact Nat.le_refl _
theorem wp_size {α : Type} (M : Model) (Γ : PySem.Ctx) (n : Nat) (t : Sem α) : ∀ (Q : α → Pos → Shared → Prop) (E : Value → Pos → Shared → Prop) (p : Pos) (s : Shared), n ≤ s.heap.objs.size → Sem.wp M Γ t Q E p s →
    Sem.wp M Γ t (fun a p' s' => n ≤ s'.heap.objs.size ∧ Q a p' s') (fun e p' s' => n ≤ s'.heap.objs.size ∧ E e p' s') p s := by
  induction t with
  | pure a => intro Q E p s hn h; exact ⟨hn, h⟩
  | raise e => intro Q E p s hn h; exact ⟨hn, h⟩
  | unsupported _ => intro Q E p s _ h; exact h
  | finish _ => intro Q E p s _ h; exact h
  | rule _ k ih => intro Q E p s hn h; exact ih () Q E p s hn h
  | «at» p' k ih => intro Q E p s hn h; exact ih () Q E p' s hn h
  | load a _ k ih => intro Q E p s hn h; obtain ⟨o, ho, h⟩ := h; exact ⟨o, ho, ih o Q E p s hn h⟩
  | update a _ f k ih => intro Q E p s hn h; exact ⟨h.1, ih () Q E p _ (by rw [size_update]; exact hn) h.2⟩
  | loadIfAlive a k ih => intro Q E p s hn h; exact ih _ Q E p s hn h
  | point _ k ih => intro Q E p s hn h; exact ih () Q E p s hn h
  | register _ _ => intro Q E p s _ h; exact h
  | alloc o k ih => intro Q E p s hn h; exact ih _ Q E p _ (by rw [Heap.size_push]; exact Nat.le_succ_of_le hn) h
  | fresh k ih => intro Q E p s hn h; exact ih _ Q E p _ hn h
  | ask k ih => intro Q E p s hn h; exact ih _ Q E p s hn h
  | choose src m k ih => intro Q E p s hn h; exact ⟨h.1, ih _ Q E p _ hn h.2⟩
  | os q _ k ih => intro Q E p s hn h; exact ih _ Q E p _ hn h
  | call c hd _ _ k ih => intro Q E p s hn h; obtain ⟨r, s', hr, h⟩ := h; exact ⟨r, s', hr, ih r Q E p s' (Nat.le_trans hn (runs_size hr)) h⟩
  | handled own k ih => intro Q E p s hn h; exact ih _ Q E p s hn h
  | genState g k ih => intro Q E p s hn h; obtain ⟨st, hs, h⟩ := h; exact ⟨st, hs, ih _ Q E p s hn h⟩
  | newGen c k ih => intro Q E p s hn h; exact ih _ Q E p _ hn h
  | resume g r _ k ih => intro Q E p s hn h; obtain ⟨res, s', hw, h⟩ := h; exact ⟨res, s', hw, ih res Q E p s' (Nat.le_trans hn (wakes_size hw)) h⟩
  | yield _ _ _ _ => intro Q E p s _ h; exact h
  | stack k ih => intro Q E p s hn h; exact ih _ Q E p s hn h
  | fork _ _ => intro Q E p s _ h; exact h
  | thread k ih => intro Q E p s hn h; exact ih _ Q E p s hn h
  | await _ _ _ _ _ => intro Q E p s _ h; exact h
theorem wpAny_size {α : Type} {M : Model} {A : Around} {s : Shared} {t : Sem α} {Q : α → Shared → Prop} {E : Value → Shared → Prop} (h : wpAny M A t (fun a s' => s.heap.objs.size ≤ s'.heap.objs.size → Q a s') E s) : wpAny M A t Q E s :=
  fun Γ p hΓ => Sem.wp_mono M Γ t (fun a p' s' h' => h'.2 h'.1) (fun _ _ _ h' => h'.2) p s (wp_size M Γ _ t _ _ p s (Nat.le_refl _) (h Γ p hΓ))
end Mine

-- V11
namespace Mine
section
variable {w : World} {A : Around}
noncomputable abbrev intsD (ns : List Int) : List PyData := ns.map .int
theorem bf_len {ds : List PyData} (hs : ds.length ≤ 10000) : Bf w A "len" (Ds [.list ds]) (D (.int ds.length)) := .mk fun s z args E Q g k ha q => by
  obtain ⟨_, rfl, r⟩ := ha.is1
  obtain ⟨_, _, _, rfl, e, r⟩ := r.isList
  · · refine len_list ⟨_, k _ _ e, rfl, _, rfl⟩ (by rw [List.size_toArray, r.length]; lia) ?_
      rw [List.size_toArray, r.length]
      exact q _ s.heap _ z (.refl k) (.int _ _)
theorem bf_len_t {ds : List PyData} (hs : ds.length ≤ 10000) : Bf w A "len" (Ds [.tuple ds]) (D (.int ds.length)) := .mk fun s z args E Q g k ha q => by
  obtain ⟨_, rfl, r⟩ := ha.is1
  obtain ⟨_, _, _, rfl, e, r⟩ := r.isTup
  · · refine len_tuple ⟨_, k _ _ e, rfl, _, rfl⟩ (by rw [List.size_toArray, r.length]; lia) ?_
      rw [List.size_toArray, r.length]
      exact q _ s.heap _ z (.refl k) (.int _ _)
theorem bf_divmod {a b : Int} (hb : b ≠ 0) (hl : b.natAbs.log2 < 9000) : Bf w A "divmod" (Ds [.int a, .int b]) (D (.tuple [.int (a.fdiv b), .int (a.fmod b)])) := .mk fun s z args E Q g k ha q => by
  obtain ⟨_, _, rfl, r, r₂⟩ := ha.is2
  obtain ⟨_, rfl⟩ := r.isInt
  obtain ⟨_, rfl⟩ := r₂.isInt
  · · skip
      refine divmod_int hb ?_ (.inl (PyProof.noPylong_of_log2 hl))
      exact q _ _ _ _ (Gr.put k _) (.tuple (vs := [.int (a.fdiv b) s.toks, .int (a.fmod b) (s.toks + 1)]) (n := 0) (by simp [Z.put]) (.cons (.int _ _) (.cons (.int _ _) .nil)))
theorem bf_max {a b : Int} (hh : A.handled = none) : Bf w A "max" (Ds [.int a, .int b]) (D (.int (if b > a then b else a))) := .mk fun s z args E Q g k ha q => by
  obtain ⟨_, _, rfl, r, r₂⟩ := ha.is2
  obtain ⟨_, rfl⟩ := r.isInt
  obtain ⟨_, rfl⟩ := r₂.isInt
  · · skip
      refine wpAny_size (max_two_ints hh fun h' tk hk => ?_)
      split
      · exact fun hs => q _ h' tk z (Gr.keeps k hk hs) (by rename_i hc; rw [if_pos hc]; exact .int _ _)
      · exact fun hs => q _ h' tk z (Gr.keeps k hk hs) (by rename_i hc; rw [if_neg hc]; exact .int _ _)
theorem bf_hex {a : Int} (hs : (baseText "0x" 16 a).length ≤ 1000) : Bf w A "hex" (Ds [.int a]) (D (.str (baseText "0x" 16 a))) := .mk fun s z args E Q g k ha q => by
  obtain ⟨_, rfl, r⟩ := ha.is1
  obtain ⟨_, rfl⟩ := r.isInt
  · skip
    exact P.hex_of_int (q _ s.heap _ z (.refl k) (.str _ _)) (by rw [sizeLine_eq]; lia)
theorem bf_sum {ns : List Int} (hh : A.handled = none) : Bf w A "sum" (Ds [.list (intsD ns)]) (D (.int ns.sum)) := .mk fun s z args E Q g k ha q => by
  obtain ⟨_, rfl, r⟩ := ha.is1
  obtain ⟨a, vs, n, rfl, e, r⟩ := r.isList
  · · skip
      have hl : s.heap.IsList a vs.toArray := ⟨_, k _ _ e, rfl, n, rfl⟩
      have hne : a ≠ s.heap.objs.size := Nat.ne_of_lt (Heap.lt_size (k _ _ e))
      have hlen : vs.toArray.size = ns.length := by rw [List.size_toArray, r.length, List.length_map]
      have W := Walks.list (prog := PR) (w := w) (A := A.in1) hh s.heap.objs.size a hne vs.toArray
      refine wpAny_size (call_sum_walkG (wpAny_pyIter_list hl ⟨_, _, _, _, _, _, fun i => ns.getD i 0, rfl, W, ⟨⟨_, Heap.get?_push_size _ rfl, rfl, rfl⟩, hl.push _⟩, fun b hb => ?_, fun i v hv => ?_, fun h' tk t' hk hs => ?_⟩))
      · rw [Heap.size_push]
        rcases List.mem_cons.mp hb with q | q
        · rw [q]; exact Nat.lt_succ_self _
        · rw [List.mem_singleton.mp q]; exact Nat.lt_succ_of_lt (Heap.lt_size (k _ _ e))
      · rw [List.getElem?_toArray] at hv
        obtain ⟨d, e1, e2⟩ := r.get i hv
        rw [List.getElem?_map] at e1
        cases e3 : ns[i]? with
        | none => rw [e3] at e1; cases e1
        | some m =>
          rw [e3] at e1; cases e1
          obtain ⟨tt, rfl⟩ := e2.isInt
          refine ⟨tt, ?_⟩
          show Value.int m tt = Value.int (ns.getD i 0) tt
          rw [List.getD_eq_getElem?_getD, e3]; rfl
      · rw [hlen, preSum_getD, List.take_length]
        refine q _ h' tk z ⟨.of_keeps (fun b o e => hk b o (fun hb => ?_) (Heap.get?_push_of_some _ e)) hs, .refl z, fun b o e => hk b o (fun hb => ?_) (Heap.get?_push_of_some _ (k b o e)), fun b o e => .inl e⟩ (.int _ _)
        · rw [List.mem_singleton.mp hb] at e; rw [get?_size] at e; cases e
        · rw [List.mem_singleton.mp hb, Z.none_of_sub k (get?_size _)] at e; cases e
end
end Mine

-- V12
namespace Mine
theorem RdAll.take {z : Z} {vs : List Value} {ds : List PyData} (n : Nat) (r : RdAll z vs ds) : RdAll z (vs.take n) (ds.take n) :=
  RdAll.ind (M := fun vs ds => ∀ n, RdAll z (vs.take n) (ds.take n)) (fun n => by rw [List.take_nil, List.take_nil]; exact .nil) (fun _ _ _ _ h _ ih n => Nat.rec .nil (fun n _ => .cons h (ih n)) n) r n
theorem RdAll.drop {z : Z} {vs : List Value} {ds : List PyData} (n : Nat) (r : RdAll z vs ds) : RdAll z (vs.drop n) (ds.drop n) :=
  RdAll.ind (M := fun vs ds => ∀ n, RdAll z (vs.drop n) (ds.drop n)) (fun n => by rw [List.drop_nil, List.drop_nil]; exact .nil) (fun _ _ _ _ h q ih n => Nat.rec (.cons h q) (fun n _ => ih n) n) r n
theorem RdAll.reverse {z : Z} {vs : List Value} {ds : List PyData} (r : RdAll z vs ds) : RdAll z vs.reverse ds.reverse :=
  RdAll.ind (M := fun vs ds => RdAll z vs.reverse ds.reverse) .nil (fun _ _ _ _ h _ ih => by rw [List.reverse_cons, List.reverse_cons]; exact ih.append (.cons h .nil)) r
theorem RdAll.set {z : Z} {vs : List Value} {ds : List PyData} (n : Nat) {v : Value} {d : PyData} (r : RdAll z vs ds) (hv : Rd z v d) : RdAll z (vs.set n v) (ds.set n d) :=
  RdAll.ind (M := fun vs ds => ∀ n, RdAll z (vs.set n v) (ds.set n d)) (fun _ => .nil) (fun _ _ _ _ h q ih n => Nat.rec (.cons hv q) (fun n _ => .cons h (ih n)) n) r n
section
variable {c : Cx} {A : Around} {σ : List (Option V)} {value slice : Expr} {pos : Pos}
theorem ev_item {ds : List PyData} {k : Int} {d : PyData} (h1 : Ev c A σ value (D (.list ds))) (h2 : Ev c A σ slice (D (.int k))) (h0 : 0 ≤ k) (hk : k < 10000) (hd : ds[k.toNat]? = some d)
    (hs : ∀ o i, subscripted slice false o i = operate [o, i] (getItem o i) := by intro _ _; with_unfolding_all rfl) : Ev c A σ (.Subscript value slice pos) (D d) := .mk fun s z E Q S q => by
  refine Subscript_ (ev_two h1 h2 mo_D S fun u v h' tk z' g p p₂ => ?_)
  obtain ⟨tt, rfl⟩ := p₂.isInt
  obtain ⟨_, _, _, rfl, e, r⟩ := p.isList
  · · obtain ⟨x, ex, rx⟩ := r.get' _ hd
      have hl : h'.IsList _ _ := ⟨_, g.sub _ _ e, rfl, _, rfl⟩
      exact tail_any (s := { s with heap := h', toks := tk }) hl.typeIs slot_list_getitem.lookup (wpAny_getItem_list hl h0 (by lia) (by rw [List.getElem?_toArray]; exact ex) (q x h' tk z' g rx)) (hs _ _)
theorem ev_itemN {ds : List PyData} {k : Nat} {d : PyData} (h1 : Ev c A σ value (D (.list ds))) (h2 : Ev c A σ slice (D (.int (k : Int)))) (hk : k < 10000) (hd : ds[k]? = some d)
    (hs : ∀ o i, subscripted slice false o i = operate [o, i] (getItem o i) := by intro _ _; with_unfolding_all rfl) : Ev c A σ (.Subscript value slice pos) (D d) := ev_item h1 h2 (Int.natCast_nonneg _) (by lia) hd hs
theorem ev_item_neg {ds : List PyData} {k : Int} {d : PyData} (h1 : Ev c A σ value (D (.list ds))) (h2 : Ev c A σ slice (D (.int k))) (h0 : k < 0) (hk : -(ds.length : Int) ≤ k) (hl10 : ds.length ≤ 10000) (hd : ds[(k + ds.length).toNat]? = some d)
    (hs : ∀ o i, subscripted slice false o i = operate [o, i] (getItem o i) := by intro _ _; with_unfolding_all rfl) : Ev c A σ (.Subscript value slice pos) (D d) := .mk fun s z E Q S q => by
  refine Subscript_ (ev_two h1 h2 mo_D S fun u v h' tk z' g p p₂ => ?_)
  obtain ⟨tt, rfl⟩ := p₂.isInt
  obtain ⟨_, _, _, rfl, e, r⟩ := p.isList
  · · obtain ⟨x, ex, rx⟩ := r.get' _ hd
      have hl : h'.IsList _ _ := ⟨_, g.sub _ _ e, rfl, _, rfl⟩
      exact tail_any (s := { s with heap := h', toks := tk }) hl.typeIs slot_list_getitem.lookup (wpAny_getItem_list_neg hl h0 (by rw [List.size_toArray, r.length]; exact hk) (by lia) (by rw [List.size_toArray, r.length, List.getElem?_toArray]; exact ex) (q x h' tk z' g rx)) (hs _ _)
theorem ev_item_t {ds : List PyData} {k : Nat} {d : PyData} (h1 : Ev c A σ value (D (.tuple ds))) (h2 : Ev c A σ slice (D (.int (k : Int)))) (hk : k < 10000) (hd : ds[k]? = some d)
    (hs : ∀ o i, subscripted slice false o i = operate [o, i] (getItem o i) := by intro _ _; with_unfolding_all rfl) : Ev c A σ (.Subscript value slice pos) (D d) := .mk fun s z E Q S q => by
  refine Subscript_ (ev_two h1 h2 mo_D S fun u v h' tk z' g p p₂ => ?_)
  obtain ⟨tt, rfl⟩ := p₂.isInt
  obtain ⟨a, vs, n, rfl, e, r⟩ := p.isTup
  · · skip
      obtain ⟨x, ex, rx⟩ := r.get' _ hd
      have hT : ({ s with heap := h', toks := tk } : Shared).TypeIs (.ref a) "tuple" := ⟨_, g.sub _ _ e, rfl⟩
      have hlt := getElem?_lt ex
      refine tail_any (s := { s with heap := h', toks := tk }) hT PySem.F.slot_tuple_getitem.lookup (getItem_meets hT (by decide) PySem.F.slot_tuple_getitem PySem.F.entry_tuple_getitem (PySem.F.args_tuple_getitem_2 _ _)
        (MeetsSeq.tuple_getitem_at a vs.toArray n (k : Int) tt k x (by lia) (by lia) ?_ (by rw [List.getElem?_toArray]; exact ex)) ⟨g.sub _ _ e, q x h' tk z' g rx⟩) (hs _ _)
      rw [List.size_toArray]
      unfold seqIndex?
      simp; lia
theorem ev_item_s {x : Str} {k n : Nat} (h1 : Ev c A σ value (D (.str x))) (h2 : Ev c A σ slice (D (.int (k : Int)))) (hk : k < 10000) (hd : x.cps[k]? = some n)
    (hs : ∀ o i, subscripted slice false o i = operate [o, i] (getItem o i) := by intro _ _; with_unfolding_all rfl) : Ev c A σ (.Subscript value slice pos) (D (.str ⟨#[n]⟩)) := .mk fun s z E Q S q => by
  refine Subscript_ (ev_two h1 h2 mo_D S fun u v h' tk z' g p p₂ => ?_)
  obtain ⟨tt, rfl⟩ := p₂.isInt
  obtain ⟨ts, rfl⟩ := p.isStr
  · · skip
      refine tail_any (s := { s with heap := h', toks := tk }) (typeIs_str _ _ _) PySem.F.slot_str_getitem.lookup (P.getItem_str (by simp; lia) ?_ (q _ h' _ z' g (.str _ _))) (hs _ _)
      have hlt : k < x.cps.size := by
        rcases Nat.lt_or_ge k x.cps.size with q | q
        · exact q
        · rw [Array.getElem?_eq_none q] at hd; cases hd
      have e : seqIndex? (k : Int) x.length = some k := by
        unfold seqIndex? Str.length
        simp; lia
      rw [e]; exact hd
theorem evn_slice {ds es : List PyData} {lower upper : Option Expr} {p : Pos} {lo hi : Option Int} (h1 : Ev c A σ value (D (.list ds)))
    (hlo : (lower = none ∧ lo = none) ∨ ∃ e i, lower = some e ∧ lo = some i ∧ Ev c A σ e (D (.int i))) (hhi : (upper = none ∧ hi = none) ∨ ∃ e i, upper = some e ∧ hi = some i ∧ Ev c A σ e (D (.int i))) (hsz : ds.length ≤ 10000)
    (pick : ∀ z vs, RdAll z vs ds → RdAll z (slicePick vs.toArray lo hi none).toList es) : EvN c A σ (.Subscript value (.Slice lower upper none p) pos) es := .mk fun s z E Q S q => by
  have part : ∀ {oe : Option Expr} {oi : Option Int}, ((oe = none ∧ oi = none) ∨ ∃ e i, oe = some e ∧ oi = some i ∧ Ev c A σ e (D (.int i))) → ∀ (s : Shared) (z : Z) (Q : Value → Shared → Prop), St c σ z s.heap → (∀ v h' tk z', Gr z s.heap z' h' → IsPart v oi → Q v { s with heap := h', toks := tk }) →
      wpAny (model PR c.w) A (evalPart oe c.env) Q E s := fun {oe oi} h s z Q S q => by
    rcases h with ⟨rfl, rfl⟩ | ⟨e, i, rfl, rfl, h⟩
    · rw [evalPart_none]; exact wpAny_pure (q .none s.heap s.toks z (.refl S.sub) .none)
    · rw [evalPart_some]; exact h.run s z E Q S fun v h' tk z' g p => q v h' tk z' g (by obtain ⟨_, rfl⟩ := p.isInt; exact .int _ _)
  refine Subscript_ (h1.run s z E _ S fun o h₁ t₁ z₁ g₁ p₁ => wpAny_Slice (part hlo _ z₁ _ (S.grow g₁) fun l h₂ t₂ z₂ g₂ pl => part hhi _ z₂ _ ((S.grow g₁).grow g₂) fun u h₃ t₃ z₃ g₃ pu => ?_))
  rw [evalPart_none]
  refine wpAny_pure ?_
  obtain ⟨a, vs, n, rfl, e, r⟩ := p₁.isList
  · skip
    have e₃ := (g₂.trans g₃).le _ _ e
    have hl : (h₃.push { cls := .type "slice", data := .fields #[l, u, .none] }).IsList a vs.toArray := ⟨_, Heap.get?_push_of_some _ (g₃.sub _ _ e₃), rfl, n, rfl⟩
    have gp := (g₁.trans (g₂.trans g₃)).trans (Gr.push g₃.sub { cls := .type "slice", data := .fields #[l, u, .none] })
    refine tail_any (s := { s with heap := h₃.push { cls := .type "slice", data := .fields #[l, u, .none] }, toks := t₃ }) (ops := [.ref h₃.objs.size, .ref a]) hl.typeIs slot_list_getitem.lookup
      (wpAny_getItem_list_slice hl (Heap.IsSliceOf.new _ _ _ _) pl pu .none (by simp) ?_ (by rw [List.size_toArray, r.length, sizeLine_eq]; lia)) rfl
    have rr := pick z₃ vs ((r.mono g₂.le).mono g₃.le)
    exact q _ (slicePick vs.toArray lo hi none).toList 0 _ t₃ z₃ (gp.trans (Gr.push gp.sub _)) gp.ext.size (Z.none_of_sub gp.sub (get?_size _)) (by rw [show lobj (slicePick vs.toArray lo hi none).toList 0 = { cls := .type "list", data := .seq (slicePick vs.toArray lo hi none) } from by simp]; exact Heap.get?_push_size _ rfl) rr
theorem evn_from {ds : List PyData} {e : Expr} {p : Pos} {a : Nat} (h1 : Ev c A σ value (D (.list ds))) (h2 : Ev c A σ e (D (.int (a : Int)))) (hsz : ds.length ≤ 10000) : EvN c A σ (.Subscript value (.Slice (some e) none none p) pos) (ds.drop a) :=
  evn_slice h1 (.inr ⟨e, _, rfl, rfl, h2⟩) (.inl ⟨rfl, rfl⟩) hsz fun z vs r => by rw [slicePick_from']; exact r.drop a
theorem evn_upto {ds : List PyData} {e : Expr} {p : Pos} {a : Nat} (h1 : Ev c A σ value (D (.list ds))) (h2 : Ev c A σ e (D (.int (a : Int)))) (hsz : ds.length ≤ 10000) : EvN c A σ (.Subscript value (.Slice none (some e) none p) pos) (ds.take a) :=
  evn_slice h1 (.inl ⟨rfl, rfl⟩) (.inr ⟨e, _, rfl, rfl, h2⟩) hsz fun z vs r => by rw [slicePick_upto']; exact r.take a
theorem evn_butlast {ds : List PyData} {e : Expr} {p : Pos} (h1 : Ev c A σ value (D (.list ds))) (h2 : Ev c A σ e (D (.int (-1)))) (hsz : ds.length ≤ 10000) : EvN c A σ (.Subscript value (.Slice none (some e) none p) pos) (ds.take (ds.length - 1)) :=
  evn_slice h1 (.inl ⟨rfl, rfl⟩) (.inr ⟨e, _, rfl, rfl, h2⟩) hsz fun z vs r => by
    have := slicePick_butLast vs.toArray 1 (Nat.le_refl _)
    rw [show (-((1 : Nat) : Int)) = -1 from rfl] at this
    rw [this, List.size_toArray, r.length]; exact r.take _
theorem ev_neg {e : Expr} {i : Int} (h : Ev c A σ e (D (.int i))) : Ev c A σ (.UnaryOp .USub e pos) (D (.int (-i))) := .mk fun s z E Q S q =>
  wpAny_UnaryOp (h.run s z E _ S fun v h' tk z' g p => by obtain ⟨_, rfl⟩ := p.isInt; exact P.neg_int (q _ h' _ z' g (.int _ _)))
noncomputable def tru : PyData → Option Bool
  | .bool b => some b
  | .int i => some (i != 0)
  | _ => none
theorem ts_val {e : Expr} {d : PyData} {b : Bool} (h : Ev c A σ e (D d)) (ht : tru d = some b) (hv : ∀ w, isTrue e c.env w = (do let v ← w; standAt e.pos; holding [v] (truthy v)) := by intro _; rfl) : Ts c A σ e b := .mk fun s z E Q S q => by
  rw [hv]
  refine wpAny_bind (h.run s z E _ S fun v h' tk z' g p => wpAny_bind (wpAny_standAt (wpAny_holding ?_)))
  cases d with
  | bool b => obtain rfl := p.isBool; cases ht; exact wpAny_truthy_bool (q h' tk z' g)
  | int i => obtain ⟨_, rfl⟩ := p.isInt; cases ht; exact P.truthy_int (q h' tk z' g)
  | _ => cases ht
theorem ts_list {e : Expr} {ds : List PyData} (h : Ev c A σ e (D (.list ds))) (hs : ds.length ≤ 10000) (hv : ∀ w, isTrue e c.env w = (do let v ← w; standAt e.pos; holding [v] (truthy v)) := by intro _; rfl) : Ts c A σ e (decide (0 < ds.length)) := .mk fun s z E Q S q => by
  rw [hv]
  refine wpAny_bind (h.run s z E _ S fun v h' tk z' g p => wpAny_bind (wpAny_standAt (wpAny_holding ?_)))
  obtain ⟨a, vs, n, rfl, e, r⟩ := p.isList
  · refine wpAny_truthy_list ⟨_, g.sub _ _ e, rfl, _, rfl⟩ (by rw [List.size_toArray, r.length]; lia) ?_
    have e2 : (!vs.toArray.isEmpty) = decide (0 < ds.length) := by
      rw [← r.length]
      cases vs with
      | nil => rfl
      | cons _ _ => simp
    rw [e2]
    exact q h' _ z' g
theorem ts_not {e : Expr} {b : Bool} (h : Ts c A σ e b) : Ts c A σ (.UnaryOp .Not e pos) (!b) := .mk fun s z E Q S q => wpAny_isTrue_Not (h.run s z E _ S q)
theorem ts_or {e₁ e₂ : Expr} {b₁ b₂ : Bool} (h1 : Ts c A σ e₁ b₁) (h2 : b₁ = false → Ts c A σ e₂ b₂) : Ts c A σ (.BoolOp .Or [e₁, e₂] pos) (b₁ || b₂) := .mk fun s z E Q S q => by
  refine wpAny_isTrue_BoolOp (wpAny_allTrue_Or_cons (h1.run s z E _ S fun h' tk z' g => ?_))
  cases b₁ with
  | true => exact q h' tk z' g
  | false => exact wpAny_allTrue_Or_cons ((h2 rfl).run _ z' E _ (S.grow g) fun h₂ t₂ z₂ g₂ => by
      cases b₂ with
      | true => exact q h₂ t₂ z₂ (g.trans g₂)
      | false => exact wpAny_allTrue_Or_nil (q h₂ t₂ z₂ (g.trans g₂)))
theorem ev_ifexp {t e₁ e₂ : Expr} {b : Bool} {P : Value → Z → Prop} (h : Ts c A σ t b) (h1 : b = true → Ev c A σ e₁ P) (h2 : b = false → Ev c A σ e₂ P) : Ev c A σ (.IfExp t e₁ e₂ pos) P := .mk fun s z E Q S q =>
  wpAny_IfExp (h.run s z E _ S fun h' tk z' g => by
    cases hb : b with
    | true => exact (h1 hb).run _ z' E Q (S.grow g) fun v h₂ t₂ z₂ g₂ p => q v h₂ t₂ z₂ (g.trans g₂) p
    | false => exact (h2 hb).run _ z' E Q (S.grow g) fun v h₂ t₂ z₂ g₂ p => q v h₂ t₂ z₂ (g.trans g₂) p)
end
end Mine

-- F1
namespace Mine
theorem fill : PySem.Challenge.rw_re0137_01 = PySem.Challenge.rw_re0137_01 ∧ hd.heap_39 = hd.heap_39 := by
  k_fill
  exact ⟨rfl, rfl⟩
theorem mulok_small {a b : Int} (h1 : -(2 ^ 64) < a) (h2 : a < 2 ^ 64) : IntMulOk a b := .of_left (intBits_le_64 h1 h2)
noncomputable def onInt (f : Int → Option PyData) : PyData → Option PyData
  | .int i => f i
  | _ => none
theorem onInt_map (ns : List Int) (g : Int → Int) : (intsD ns).filterMap (onInt fun r => some (.int (g r))) = intsD (ns.map g) := by
  induction ns with
  | nil => rfl
  | cons n r ih => simp only [intsD, List.map_cons, List.filterMap_cons, onInt] at ih ⊢; rw [ih]
theorem two_args {z : Z} {args : List Value} {a b : PyData} (ha : Ds [a, b] args z) : ∃ v1 v2, Rd z v1 a ∧ Rd z v2 b ∧ args = [v1, v2] := let ⟨v, u, e, h1, h2⟩ := ha.is2; ⟨v, u, h1, h2, e⟩
theorem fn_column {w : World} {ns : List Int} {size : Int} (h0 : 0 < size) (h1 : size < 1000) (hl : ns.length ≤ 1000) : Fn w 154 3 20 (Ds [.list (intsD ns), .int size]) (D (.int (size * (ns.map fun r => r.fdiv size + 1).sum))) := .mk fun A s z args R rm g k zt ha q => by
  obtain ⟨v1, v2, r1, r2, rfl⟩ := two_args ha
  refine enter_cells (N := [Str.ofString "runs", Str.ofString "size"]) (us := [some (.dat (.list (intsD ns))), some (.dat (.int size))]) (Nat.lt_of_le_of_lt (Nat.le_add_right _ _) rm.dp) g k zt (by k_is) (by k_is) (BindsTo.of_eq rfl) rfl (by decide) rfl ?_ ?_ q
  · exact slots_some ⟨v1, r1, .inl ⟨rfl, rfl⟩⟩ (slots_some ⟨v2, r2, .inr ⟨rfl, rfl, rfl⟩⟩ slots_nil)
  · have rm2 := fun env => Rm.deeper (d := 2) (u := 17) (env := env) rm
    refine sx_return (ev_bin (ev_name (i := 1) rfl rfl) (ev_bf (bf_sum rm.hd) rfl (by k_is) boot_sum (evl_cons ?_ evl_nil)) (mul_i (mulok_small (by lia) (by lia))))
    refine EvN.dat ?_
    rw [← onInt_map]
    refine evn_comp (N := [Str.ofString "run", Str.ofString "size"]) (us := [none, some (.dat (.int size))]) ⟨by with_unfolding_all rfl, rfl, by decide, by decide, rfl, ?_, rfl, .inl rfl⟩ (evi_list (ev_name (i := 0) rfl rfl) rm.hd) (by rw [List.length_map]; exact hl) fun C h0 z0 X d hd => ?_
    · exact slots_none (slots_some ⟨trivial, fun C => ⟨_, rfl, rfl⟩, .inl rfl, .inl rfl, 1, rfl, rfl⟩ slots_nil)
    · obtain ⟨n, _, rfl⟩ := List.mem_map.mp hd
      exact ⟨true, tl_nil, (nomatch ·), fun _ => ⟨_, rfl, ev_bin (ev_bin (ev_name (i := 0) rfl rfl) (ev_name (i := 1) rfl rfl) (fdiv_i (by lia) (by lia))) ev_int add_i⟩⟩
end Mine

-- V13
namespace Mine
section
open PySem.SeqAt MeetsSeq MeetsSeq2 MeetsSeq3 SeqRoads2
theorem remove_loopAt (l : Addr) (items : Array Value) (n : Nat) (x : Value) (e : Value → Bool) (j : Nat) (hj : j < items.size) (hit : e items[j] = true) (k : Nat) (hs1 : items.size ≤ sizeLine) :
    ∀ i : Nat, j - i = k → i ≤ j → (∀ m (hm : m < items.size), i ≤ m → m < j → e items[m] = false) → Meets (Builtin.«list.remove.loop» ⟨[.ref l, x, rawInt i], []⟩)
      (fun A R s => s.heap.get? l = some { cls := .type "list", dict := none, data := .seq items n, slots := #[] } ∧ (∀ y, y ∈ items → EqAt A.in1 s y x (e y)) ∧ R (.ok (.ret .none)) { s with heap := s.heap.update l (Obj.mapSeq fun xs => xs.eraseIdxIfInBounds j) }) := by
  induction k with
  | zero =>
    intro i hk hij hno prog w A R s h
    obtain ⟨hp, g, d, tk, os⟩ := s; obtain ⟨hl, he, h⟩ := h
    have hij' : i = j := by lia
    subst hij'
    wp_walk using PySem.AutoSeq1.wpAny_loadPart' hl
    have hi : items[((i : Nat) : Int).toNat]? = some items[i] := by simp [hj]
    rw [hi]
    refine wpAny_bind (he _ (Array.getElem_mem hj) prog w _ _ ?_)
    rw [hit]
    have hz' : (items.eraseIdxIfInBounds i).size ≤ sizeLine + 1 := Nat.le_trans (size_erased items _) (Nat.le_succ_of_le hs1)
    wp_walk using (wpAny_updateSeq hl rfl (hz := hs1) (_hz' := hz')), PySem.AutoSeq1.wpAny_loadPart' hl
    simpa using h
  | succ k ih =>
    intro i hk hij hno prog w A R s h
    obtain ⟨hp, g, d, tk, os⟩ := s; obtain ⟨hl, he, h⟩ := h
    have hlt : i < items.size := by lia
    wp_walk using PySem.AutoSeq1.wpAny_loadPart' hl
    have hi : items[((i : Nat) : Int).toNat]? = some items[i] := by simp [hlt]
    have hc : ((i : Int) + 1) = ((i + 1 : Nat) : Int) := by push_cast; rfl
    rw [hi]
    refine wpAny_bind (he _ (Array.getElem_mem hlt) prog w _ _ ?_)
    rw [hno i hlt (Nat.le_refl _) (by lia)]
    wp_walk
    rw [hc]
    exact ⟨plainId_quiet plain_remove_loop _, codeAny_builtin entry_remove_loop (by
      rw [Around.under_plainId plain_remove_loop _]
      exact ih (i + 1) (by lia) (by lia) (fun m hm h1 h2 => hno m hm (by lia) h2) prog w A R _ ⟨hl, he, h⟩)⟩

theorem list_removeAt (l : Addr) (items : Array Value) (n : Nat) (x : Value) (e : Value → Bool) (j : Nat) (hj : j < items.size)
    (hit : e items[j] = true) (hno : ∀ m (hm : m < items.size), m < j → e items[m] = false) (hs1 : items.size ≤ sizeLine := by size_fits) :
    Meets (Builtin.«list.remove» ⟨[.ref l, x], []⟩)
      (fun A R s => s.heap.get? l = some { cls := .type "list", dict := none, data := .seq items n, slots := #[] } ∧ (∀ y, y ∈ items → EqAt A.in1 s y x (e y)) ∧ R (.ok (.ret .none)) { s with heap := s.heap.update l (Obj.mapSeq fun xs => xs.eraseIdxIfInBounds j) }) := by
  intro prog w A R s h
  obtain ⟨hp, g, d, tk, os⟩ := s; obtain ⟨hl, he, h⟩ := h
  wp_walk using PySem.AutoSeq1.wpAny_loadPart' hl
  exact ⟨plainId_quiet plain_remove_loop _, codeAny_builtin entry_remove_loop (by
    rw [Around.under_plainId plain_remove_loop _]
    exact remove_loopAt l items n x e j hj hit _ hs1 0 rfl (Nat.zero_le _) (fun m hm _ h2 => hno m hm h2) prog w A R _ ⟨hl, he, h⟩)⟩
end
end Mine
namespace Mine
section
variable {c : Cx} {A : Around} {σ : List (Option V)} {i : Nat} {x : Str} {px pa pc pos : Pos} {a : Addr} {ds : List PyData}
theorem St.upd {z : Z} {h : Heap} (S : St c σ z h) (hx : c.N[i]? = some x) (hi : σ[i]? = some (some (.own a ds))) {vs : List Value} {n : Nat} (ho : h.get? a = some (lobj vs n)) (f : Array Value → Array Value) {ds' : List PyData}
    (r : RdAll z (f vs.toArray).toList ds') : St c (σ.set i (some (.own a ds'))) z (h.update a (Obj.mapSeq f)) := by
  have := IsL.update (l := a) (items := vs.toArray) (n := n) ho f
  refine S.mutate hx hi (Heap.SameBut.update ..) (vs' := (f vs.toArray).toList) (n' := if (f vs.toArray).size == vs.toArray.size then n else n + 1) ?_ r
  exact this
theorem name_own {s : Shared} {z : Z} {E : Value → Shared → Prop} {Q : Value → Shared → Prop} (S : St c σ z s.heap) (hx : c.N[i]? = some x) (hi : σ[i]? = some (some (.own a ds))) (h : Q (.ref a) s)
    (hd : (x == ("__debug__" : Str)) = false := by decide) (hn : (x == ("__classdict__" : Str)) = false := by decide) : wpAny (model PR c.w) A (eval (.Name x px) c.env) Q E s := by
  obtain ⟨m, hm, hv⟩ := S.vars
  exact wpAny_Name (load_slot S.ok.kind hm (hv i x _ hx hi).1 h hn) hd
theorem sx1_append {e : Expr} {d : PyData} (hx : c.N[i]? = some x) (hi : σ[i]? = some (some (.own a ds))) (h : Ev c A σ e (D d)) (hl : ds.length ≤ 10000)
    {pl : Sem Bool} (hm : eval (.Call (.Attribute (.Name x px) (Str.ofString "append") pa) [e] [] pc) c.env = (do
      let ov ← eval (.Name x px) c.env
      standAt pa.atName
      let (f, first) ← holding [ov] (getMethod ov (Str.ofString "append") pl)
      callWith pc f first (backTo pc (starEach [e] c.env)) []) := by rfl)
    (hd : (x == ("__debug__" : Str)) = false := by decide) (hn : (x == ("__classdict__" : Str)) = false := by decide)
    (he : starEach [e] c.env = (false, eval e c.env) :: starEach [] c.env := by rfl) (hin : interactive c.env = false := by rfl) (hs : swapsWith (.Call (.Attribute (.Name x px) (Str.ofString "append") pa) [e] [] pc) none pos.line c.env = pure false := by rfl) :
    Sx1 c A σ (.Expr (.Call (.Attribute (.Name x px) (Str.ofString "append") pa) [e] [] pc) pos) (Nx c (σ.set i (some (.own a (ds ++ [d]))))) := .mk fun s z E Q S q => by
  refine wpAny_Expr (MethodCall_ (name_own S hx hi ?_ hd hn) hm) hin hs
  obtain ⟨_, _, vs, n, ho, r⟩ := S.owned hx hi
  refine getMethod_list_of PySem.F.slot_list_append PySem.F.type_list_append (items := vs.toArray) ⟨_, ho, rfl, n, rfl⟩ ⟨_, ho, rfl⟩ (callWith_method1 ?_ he)
  refine (evl_cons h evl_nil he).run s z pc E _ S fun us h' tk z' g p => ?_
  obtain ⟨_, rfl, r1⟩ := p.is1
  · have S' := S.grow g
    obtain ⟨_, _, vs, n, ho, r⟩ := S'.owned hx hi
    refine wpAny_list_append_plain (items := vs.toArray) ⟨n, ho⟩ (fun h₂ hp sb => ?_) (by rw [List.size_toArray, r.length, sizeLine_eq]; lia)
    obtain ⟨n', e'⟩ := hp
    refine q .next h₂ tk z' g.le ⟨rfl, S'.mutate hx hi sb (vs' := vs ++ [_]) (n' := n') (by rw [e']; simp [lobj]) (r.append (.cons r1 .nil))⟩
theorem sx1_reverse (hx : c.N[i]? = some x) (hi : σ[i]? = some (some (.own a ds))) (hl : ds.length ≤ 10000)
    {pl : Sem Bool} (hm : eval (.Call (.Attribute (.Name x px) (Str.ofString "reverse") pa) [] [] pc) c.env = (do
      let ov ← eval (.Name x px) c.env
      standAt pa.atName
      let (f, first) ← holding [ov] (getMethod ov (Str.ofString "reverse") pl)
      callWith pc f first (backTo pc (starEach [] c.env)) []) := by rfl)
    (hd : (x == ("__debug__" : Str)) = false := by decide) (hn : (x == ("__classdict__" : Str)) = false := by decide)
    (hin : interactive c.env = false := by rfl) (hs : swapsWith (.Call (.Attribute (.Name x px) (Str.ofString "reverse") pa) [] [] pc) none pos.line c.env = pure false := by rfl) :
    Sx1 c A σ (.Expr (.Call (.Attribute (.Name x px) (Str.ofString "reverse") pa) [] [] pc) pos) (Nx c (σ.set i (some (.own a ds.reverse)))) := .mk fun s z E Q S q => by
  refine wpAny_Expr (MethodCall_ (name_own S hx hi ?_ hd hn) hm) hin hs
  obtain ⟨_, _, vs, n, ho, r⟩ := S.owned hx hi
  refine getMethod_list_of PySem.F.slot_list_reverse PySem.F.type_list_reverse (items := vs.toArray) ⟨_, ho, rfl, n, rfl⟩ ⟨_, ho, rfl⟩ ?_
  exact P.reverse_list (items := vs.toArray) (n := n) ho (q .next _ s.toks z (.refl z) ⟨rfl, S.upd hx hi ho _ (by rw [List.reverse_toArray]; exact r.reverse)⟩) (by rw [List.size_toArray, r.length, sizeLine_eq]; lia)
theorem RdAll.eraseIdx {z : Z} {vs : List Value} {ds : List PyData} (n : Nat) (r : RdAll z vs ds) : RdAll z (vs.eraseIdx n) (ds.eraseIdx n) :=
  RdAll.ind (M := fun vs ds => ∀ n, RdAll z (vs.eraseIdx n) (ds.eraseIdx n)) (fun n => by rw [List.eraseIdx_nil, List.eraseIdx_nil]; exact .nil) (fun _ _ _ _ h q ih n => Nat.rec q (fun n _ => .cons h (ih n)) n) r n
theorem sx1_setitem {k : Int} {ek ev : Expr} {d : PyData} {ps : Pos} (hx : c.N[i]? = some x) (hi : σ[i]? = some (some (.own a ds))) (hv : Ev c A σ ev (D d)) (hk : Ev c A σ ek (D (.int k))) (h0 : 0 ≤ k) (h1 : k < ds.length) (hl : ds.length ≤ 10000)
    (hd : (x == ("__debug__" : Str)) = false := by decide) (hn : (x == ("__classdict__" : Str)) = false := by decide)
    (hs : swapsWith ev (some (.Subscript (.Name x px) ek ps)) pos.line c.env = pure false := by rfl) : Sx1 c A σ (.Assign [.Subscript (.Name x px) ek ps] ev pos) (Nx c (σ.set i (some (.own a (ds.set k.toNat d))))) := .mk fun s z E Q S q => by
  refine wpAny_Assign_Subscript (hv.run s z E _ S fun v h' tk z' g p => name_own (S.grow g) hx hi (hk.run _ z' E _ (S.grow g) fun u h₂ t₂ z₂ g₂ p₂ => ?_) hd hn) hs
  have S₂ := (S.grow g).grow g₂
  obtain ⟨_, _, vs, n, ho, r⟩ := S₂.owned hx hi
  obtain ⟨_, rfl⟩ := p₂.isInt
  refine ki_setAt (n := n) (items := vs.toArray) ho h0 (by lia) (by rw [List.size_toArray, r.length]; exact h1) (q .next _ t₂ z₂ (g.le.trans g₂.le) ⟨rfl, S₂.upd hx hi ho _ ?_⟩)
  simp only [List.setIfInBounds_toArray]
  exact r.set _ (p.mono g₂.le)
end
end Mine

-- V14
namespace Mine
theorem lobj_inj {vs vs' : List Value} {n n' : Nat} (e : lobj vs n = lobj vs' n') : vs = vs' := by
  have h := congrArg Obj.data e
  have h2 : vs.toArray = vs'.toArray := by injection h
  simpa using congrArg Array.toList h2
theorem tobj_inj {vs vs' : List Value} {n n' : Nat} (e : tobj vs n = tobj vs' n') : vs = vs' := by
  have h := congrArg Obj.data e
  have h2 : vs.toArray = vs'.toArray := by injection h
  simpa using congrArg Array.toList h2
theorem lobj_tobj {vs vs' : List Value} {n n' : Nat} (e : lobj vs n = tobj vs' n') : False := by
  have h := congrArg Obj.cls e
  injection h with h; revert h; decide
noncomputable def RdInvV (z : Z) (d : PyData) : Value → Prop
  | .none => d = .none
  | .bool b => d = .bool b
  | .int i _ => d = .int i
  | .str x _ => d = .str x
  | .ref a => ∃ vs n xs, (d = .list xs ∧ z a = some (lobj vs n) ∧ RdAll z vs xs) ∨ (d = .tuple xs ∧ z a = some (tobj vs n) ∧ RdAll z vs xs)
  | _ => False
theorem Rd.invV {z : Z} {v : Value} {d : PyData} (r : Rd z v d) : RdInvV z d v :=
  Rd.rec (motive_1 := fun v d _ => RdInvV z d v) (motive_2 := fun _ _ _ => True) rfl (fun _ => rfl) (fun _ _ => rfl) (fun _ _ => rfl) (fun h1 h4 _ => ⟨_, _, _, .inl ⟨rfl, h1, h4⟩⟩) (fun h1 h4 _ => ⟨_, _, _, .inr ⟨rfl, h1, h4⟩⟩) trivial (fun _ _ _ _ => trivial) r
theorem RdAll.isConsV {z : Z} {v : Value} {vs : List Value} {es : List PyData} (r : RdAll z (v :: vs) es) : ∃ d ds, es = d :: ds ∧ Rd z v d ∧ RdAll z vs ds :=
  RdAll.ind (M := fun us es => us = v :: vs → ∃ d ds, es = d :: ds ∧ Rd z v d ∧ RdAll z vs ds) (fun e => nomatch e) (fun _ _ _ _ h1 h2 _ e => ⟨_, _, rfl, (List.cons.inj e).1 ▸ h1, (List.cons.inj e).2 ▸ h2⟩) r rfl
theorem Rd.det {z : Z} {v : Value} {d d' : PyData} (r : Rd z v d) (r' : Rd z v d') : d = d' := by
  refine Rd.rec (motive_1 := fun v d _ => ∀ d', Rd z v d' → d = d') (motive_2 := fun vs ds _ => ∀ ds', RdAll z vs ds' → ds = ds') (fun _ q => q.invV.symm) (fun _ _ q => q.invV.symm) (fun _ _ _ q => q.invV.symm) (fun _ _ _ q => q.invV.symm) ?_ ?_ (fun _ q => (List.eq_nil_of_length_eq_zero q.length.symm).symm) (fun _ _ a b es q => ?_) r d' r'
  · intro a vs n xs h1 _ ih d' q
    obtain ⟨vs', n', xs', ⟨rfl, e, q⟩ | ⟨rfl, e, q⟩⟩ := q.invV
    · obtain rfl := lobj_inj (Option.some.inj (h1.symm.trans e))
      rw [ih _ q]
    · exact (lobj_tobj (Option.some.inj (h1.symm.trans e))).elim
  · intro a vs n xs h1 _ ih d' q
    obtain ⟨vs', n', xs', ⟨rfl, e, q⟩ | ⟨rfl, e, q⟩⟩ := q.invV
    · exact (lobj_tobj (Option.some.inj (e.symm.trans h1))).elim
    · obtain rfl := tobj_inj (Option.some.inj (h1.symm.trans e))
      rw [ih _ q]
  · obtain ⟨d, ds, rfl, q1, q2⟩ := q.isConsV
    rw [a _ q1, b _ q2]
section
variable {c : Cx} {A : Around} {σ : List (Option V)} {i : Nat} {x : Str} {px pa pc pos : Pos} {a : Addr} {ds : List PyData}
open Classical in
theorem sx1_remove {e : Expr} {d d' : PyData} {j : Nat} (hx : c.N[i]? = some x) (hi : σ[i]? = some (some (.own a ds))) (h : Ev c A σ e (D d)) (hl : ds.length ≤ 10000) (hu : A.units + 65 < cLine)
    (hsh : ∀ d ∈ ds, SeqAt.shaped d = true) (hsd : SeqAt.shaped d = true) (hj : ds[j]? = some d') (heq : PyData.eqv d' d = true) (hno : ∀ (m : Nat) d'', m < j → ds[m]? = some d'' → PyData.eqv d'' d = false)
    {pl : Sem Bool} (hm : eval (.Call (.Attribute (.Name x px) (Str.ofString "remove") pa) [e] [] pc) c.env = (do
      let ov ← eval (.Name x px) c.env
      standAt pa.atName
      let (f, first) ← holding [ov] (getMethod ov (Str.ofString "remove") pl)
      callWith pc f first (backTo pc (starEach [e] c.env)) []) := by rfl)
    (hd : (x == ("__debug__" : Str)) = false := by decide) (hn : (x == ("__classdict__" : Str)) = false := by decide)
    (he : starEach [e] c.env = (false, eval e c.env) :: starEach [] c.env := by rfl) (hin : interactive c.env = false := by rfl) (hs : swapsWith (.Call (.Attribute (.Name x px) (Str.ofString "remove") pa) [e] [] pc) none pos.line c.env = pure false := by rfl) :
    Sx1 c A σ (.Expr (.Call (.Attribute (.Name x px) (Str.ofString "remove") pa) [e] [] pc) pos) (Nx c (σ.set i (some (.own a (ds.eraseIdx j))))) := .mk fun s z E Q S q => by
  refine wpAny_Expr (MethodCall_ (name_own S hx hi ?_ hd hn) hm) hin hs
  obtain ⟨_, _, vs, n, ho, r⟩ := S.owned hx hi
  refine getMethod_list_of PySem.F.slot_list_remove PySem.F.type_list_remove (items := vs.toArray) ⟨_, ho, rfl, n, rfl⟩ ⟨_, ho, rfl⟩ (callWith_method1 ?_ he)
  refine (evl_cons h evl_nil he).run s z pc E _ S fun us h' tk z' g p => ?_
  obtain ⟨v, rfl, r1⟩ := p.is1
  · skip
    have S' := S.grow g
    obtain ⟨_, _, vs, n, ho, r⟩ := S'.owned hx hi
    have ev : ∀ {m : Nat} {y : Value} {dy : PyData}, vs[m]? = some y → ds[m]? = some dy → (decide (∃ d', Rd z' y d' ∧ PyData.eqv d' d = true)) = PyData.eqv dy d := fun {m y dy} e1 e2 => by
      obtain ⟨d2, e3, e4⟩ := r.get m e1
      rw [e2] at e3; cases e3
      cases hb : PyData.eqv dy d with
      | true => exact decide_eq_true ⟨dy, e4, hb⟩
      | false => exact decide_eq_false fun ⟨d3, r3, h3⟩ => by rw [r3.det e4, hb] at h3; cases h3
    have hjl : j < vs.length := r.length ▸ getElem?_lt hj
    have hsz : vs.toArray.size ≤ sizeLine := by rw [List.size_toArray, r.length, sizeLine_eq]; lia
    refine call_meets PySem.F.slot_list_remove ⟨_, ho, rfl⟩ PySem.F.entry_list_remove (PySem.F.args_list_remove_2 _ _)
      (list_removeAt a vs.toArray n v (fun y => decide (∃ d', Rd z' y d' ∧ PyData.eqv d' d = true)) j (by rw [List.size_toArray]; exact hjl) ?_ (fun m hm hlt => ?_) hsz) ⟨ho, fun y hy => ?_, ?_⟩
    · show decide _ = true
      rw [ev (m := j) (by rw [List.getElem_toArray]; exact List.getElem?_eq_getElem hjl) hj]; exact heq
    · rw [List.size_toArray] at hm
      have hmd : m < ds.length := r.length ▸ hm
      show decide _ = false
      rw [ev (m := m) (by rw [List.getElem_toArray]; exact List.getElem?_eq_getElem hm) (List.getElem?_eq_getElem hmd)]
      exact hno m _ hlt (List.getElem?_eq_getElem hmd)
    · rw [List.mem_toArray] at hy
      obtain ⟨m, hm, rfl⟩ := List.mem_iff_getElem.mp hy
      have hmd : m < ds.length := r.length ▸ hm
      obtain ⟨d2, e3, e4⟩ := r.get m (List.getElem?_eq_getElem hm)
      rw [List.getElem?_eq_getElem hmd] at e3; cases e3
      show SeqAt.EqAt _ _ _ _ (decide _)
      rw [ev (m := m) (List.getElem?_eq_getElem hm) (List.getElem?_eq_getElem hmd)]
      obtain ⟨_, q1⟩ := e4.reads S'.sub
      obtain ⟨_, q2⟩ := r1.reads S'.sub
      refine SeqAt.eqAt_reads _ _ A.in1 _ _ _ _ _ q1 q2 (SeqAt.canLay_of_shaped (hsh _ (List.getElem_mem hmd))) (SeqAt.canLay_of_shaped hsd) (SeqAt.room_of_shaped (hsh _ (List.getElem_mem hmd)) ?_)
      show A.units + 1 + 64 < cLine
      lia
    · refine q .next _ tk z' g.le ⟨rfl, S'.upd hx hi ho _ ?_⟩
      have : (vs.toArray.eraseIdxIfInBounds j).toList = vs.eraseIdx j := by
        unfold Array.eraseIdxIfInBounds
        rw [dif_pos (by rw [List.size_toArray]; exact hjl)]
        simp
      rw [this]
      exact r.eraseIdx j
end
end Mine

-- V15
namespace Mine
section
variable {c : Cx} {A : Around} {σ : List (Option V)} {i j : Nat} {x y : Str} {px py pa pc pos : Pos} {a : Addr} {ds : List PyData}
theorem Gr.extBut {z : Z} {h h' : Heap} (k : Z.sub z h) (x : Heap.ExtBut h.objs.size h h') (hs : h.objs.size ≤ h'.objs.size) : Gr z h z h' := by
  have kk : ∀ b o, h.get? b = some o → h'.get? b = some o := fun b o e => x b o (Nat.ne_of_lt (Heap.lt_size e)) e
  exact Gr.keeps k kk hs
theorem assign_tuple' {s : Shared} {z : Z} {elts : List Expr} {k : Nat} {pt : Pos} {t : Addr} {items : Array Value} {E : Value → Shared → Prop} {Q : Unit → Shared → Prop} (hh : A.handled = none) (ht : s.heap.IsTuple t items) (hz : Z.sub z s.heap)
    (hn : (assignEach elts c.env).length = items.size) (hstar : (assignEach elts c.env).findIdx? (·.1) = none)
    (h : ∀ h', Gr z s.heap z h' → wpAny (model PR c.w) A (assignInOrder ((assignEach elts c.env).map (·.2)) items.toList) Q E { s with heap := h' }) :
    wpAny (model PR c.w) A (assign (.Tuple elts k pt) c.env (.ref t)) Q E s := by
  rw [arm_assign_Tuple]
  refine wpAny_bind (wpAny_standAt ?_)
  unfold unpack
  rw [hn, hstar]
  exact wpAny_bind (wpAny_holding (wpAny_size (wpAny_unpackItems_tuple hh ht fun h₂ x₂ hs => h h₂ (Gr.extBut hz x₂ hs))))
theorem sx1_unpack2 {e : Expr} {k : Nat} {pt : Pos} {d₁ d₂ : PyData} (hh : A.handled = none) (hx : Sto c i x) (hy : Sto c j y) (h : Ev c A σ e (D (.tuple [d₁, d₂])))
    (he : assignEach [.Name x px, .Name y py] c.env = [(false, assign (.Name x px) c.env), (false, assign (.Name y py) c.env)] := by rfl)
    (hs : swapsWithSole [.Tuple [.Name x px, .Name y py] k pt] e pos.line c.env = pure false := by rfl)
    (hw : swappedStores [.Tuple [.Name x px, .Name y py] k pt] e c.env = pure none := by rfl) :
    Sx1 c A σ (.Assign [.Tuple [.Name x px, .Name y py] k pt] e pos) (Nx c ((σ.set i (some (.dat d₁))).set j (some (.dat d₂)))) := .mk fun s z E Q S q => by
  refine Assign_Tuple (h.run s z E _ S fun v h' tk z' g p => ?_) hs hw
  obtain ⟨_, _, _, rfl, e, r⟩ := p.isTup
  obtain ⟨_, _, rfl, r1, r2⟩ := r.is2
  · · · refine assign_tuple' (s := { s with heap := h', toks := tk }) (z := z') hh ⟨_, g.sub _ _ e, rfl, _, rfl⟩ g.sub (by rw [he]; rfl) (by rw [he]; rfl) fun h₂ g₂ => ?_
        rw [he]
        have S₂ := (S.grow g).grow g₂
        exact assignInOrder_cons (wpAny_assign_Name (store (u := .dat d₁) hx S₂ r1 trivial fun h₃ t₃ S₃ => assignInOrder_cons (wpAny_assign_Name (store (u := .dat d₂) hy S₃ r2 trivial fun h₄ t₄ S₄ =>
          assignInOrder_nil (q .next h₄ t₄ z' g.le ⟨rfl, S₄⟩)))))
theorem sx1_aug {e : Expr} {op : Operator} {d₀ d₁ d : PyData} (hx : Sto c i x) (hi : σ[i]? = some (some (.dat d₀))) (h : Ev c A σ e (D d₁)) (ho : Op2 c.w A (inplaceOp op) d₀ d₁ d) (hn : (x == ("__classdict__" : Str)) = false := by decide) :
    Sx1 c A σ (.AugAssign (.Name x px) op e pos) (Nx c (σ.set i (some (.dat d)))) := .mk fun s z E Q S q => by
  obtain ⟨m, hm, hv⟩ := S.vars
  obtain ⟨u, sl, r⟩ := hv i x _ hx.at' hi
  refine wpAny_AugAssign_Name (load_slot S.ok.kind hm sl ?_ hn)
  exact h.run s z E _ S fun v h' tk z' g p => ho.run _ z' u v E _ (S.grow g).gd g.sub (r.mono g.le) p fun w h₂ t₂ z₂ g₂ p₂ => store (u := .dat d) hx ((S.grow g).grow g₂) p₂ trivial fun h₃ t₃ S₃ => q .next h₃ t₃ z₂ (g.le.trans g₂.le) ⟨rfl, S₃⟩
theorem sx1_three {l : Nat} {w : Str} {pw : Pos} {e : Expr} {d : PyData} (hx : Sto c i x) (hy : Sto c j y) (hw : Sto c l w) (h : Ev c A σ e (D d))
    (he : (assignEach [.Name x px, .Name y py, .Name w pw] c.env).map (·.2) = [assign (.Name x px) c.env, assign (.Name y py) c.env, assign (.Name w pw) c.env] := by rfl)
    (hsw : swappedStores [.Name x px, .Name y py, .Name w pw] e c.env = pure none := by rfl) :
    Sx1 c A σ (.Assign [.Name x px, .Name y py, .Name w pw] e pos) (Nx c (((σ.set i (some (.dat d))).set j (some (.dat d))).set l (some (.dat d)))) := .mk fun s z E Q S q =>
  wpAny_Assign_three (h.run s z E _ S fun v h' tk z' g p => wpAny_assign_Name (store (u := .dat d) hx (S.grow g) p trivial fun h₃ t₃ S₃ => wpAny_assign_Name (store (u := .dat d) hy S₃ p trivial fun h₄ t₄ S₄ =>
    wpAny_assign_Name (store (u := .dat d) hw S₄ p trivial fun h₅ t₅ S₅ => q .next h₅ t₅ z' g.le ⟨rfl, S₅⟩)))) he hsw
theorem ev_bitlen {e : Expr} {n : Int} (h : Ev c A σ e (D (.int n))) {pl : Sem Bool} (hm : eval (.Call (.Attribute e (Str.ofString "bit_length") pa) [] [] pc) c.env = (do
      let ov ← eval e c.env
      standAt pa.atName
      let (f, first) ← holding [ov] (getMethod ov (Str.ofString "bit_length") pl)
      callWith pc f first (backTo pc (starEach [] c.env)) []) := by rfl) : Ev c A σ (.Call (.Attribute e (Str.ofString "bit_length") pa) [] [] pc) (D (.int (Builtin.Int.intBits n))) := .mk fun s z E Q S q =>
  MethodCall_ (h.run s z E _ S fun v h' tk z' g p => by obtain ⟨_, rfl⟩ := p.isInt; exact getMethod_int_bit_length (callWith_method0 (call_int_bit_length (q _ h' _ z' g (.int _ _))))) hm
theorem RdAll.strs {z : Z} {texts : List Str} {vs : List Value} (r : RdAll z vs (texts.map .str)) : ∃ l, vs = strValues l ∧ l.map (·.1) = texts := by
  induction texts generalizing vs with
  | nil => exact ⟨[], r.isNil, rfl⟩
  | cons x t ih =>
    obtain ⟨v, us, rfl, h, q⟩ := r.isCons
    obtain ⟨tk, rfl⟩ := h.isStr
    obtain ⟨l, rfl, e⟩ := ih q
    exact ⟨(x, tk) :: l, rfl, by rw [List.map_cons, e]⟩
theorem ev_join {e e₂ : Expr} {sep : Str} {texts : List Str} (h : Ev c A σ e (D (.str sep))) (h2 : Ev c A σ e₂ (D (.list (texts.map .str)))) (hok : JoinOk sep texts = true) {pl : Sem Bool} (hm : eval (.Call (.Attribute e (Str.ofString "join") pa) [e₂] [] pc) c.env = (do
      let ov ← eval e c.env
      standAt pa.atName
      let (f, first) ← holding [ov] (getMethod ov (Str.ofString "join") pl)
      callWith pc f first (backTo pc (starEach [e₂] c.env)) []) := by rfl)
    (he : starEach [e₂] c.env = (false, eval e₂ c.env) :: starEach [] c.env := by rfl) : Ev c A σ (.Call (.Attribute e (Str.ofString "join") pa) [e₂] [] pc) (D (.str (Txt.join sep texts))) := .mk fun s z E Q S q =>
  MethodCall_ (h.run s z E _ S fun v h' tk z' g p => by
    obtain ⟨_, rfl⟩ := p.isStr
    refine GM.join (callWith_method1 ?_ he)
    refine (evl_cons h2 evl_nil he).run _ z' pc E _ (S.grow g) fun us h₂ t₂ z₂ g₂ p₂ => ?_
    obtain ⟨_, rfl, r1⟩ := p₂.is1
    obtain ⟨_, _, _, rfl, e, r⟩ := r1.isList
    · · obtain ⟨l, rfl, hl⟩ := r.strs
        exact SC.join ⟨_, g₂.sub _ _ e, rfl, _, rfl⟩ hl hok fun t' k => q _ h₂ k z₂ (g.trans g₂) (.str _ _)) hm
theorem isnot_b {w : World} {x y : Bool} : Op2 w A (compareOp .IsNot) (.bool x) (.bool y) (.bool (!(x == y))) := .mk fun s z u v E Q g k ru rv h => by
  obtain rfl := ru.isBool
  obtain rfl := rv.isBool
  refine wpAny_isNot_plain rfl ?_
  have : (Value.bool x == Value.bool y) = (x == y) := by cases x <;> cases y <;> rfl
  rw [this]
  exact h _ s.heap s.toks z (.refl k) (.bool _)
theorem evn_listrange {e₁ e₂ : Expr} {p1 p2 p3 p4 : Pos} {a b : Int} {n : Nat} (h1 : Ev c A σ e₁ (D (.int a))) (h2 : Ev c A σ e₂ (D (.int b))) (hh : A.handled = none) (hn : (n : Int) = if a < b then b - a else 0) (hlen : n ≤ 2 ^ 24) (ha : a.natAbs < 2 ^ 61) (hb : b.natAbs < 2 ^ 61)
    (hx : c.env.kindOf (Str.ofString "range") = some .globalImplicit) (hf : nsIn (hd.heap_39 c.w.params) mainGlobals (Str.ofString "range") = some none)
    (hx' : c.env.kindOf (Str.ofString "list") = some .globalImplicit) (hf' : nsIn (hd.heap_39 c.w.params) mainGlobals (Str.ofString "list") = some none) (he : starEach [e₁, e₂] c.env = (false, eval e₁ c.env) :: starEach [e₂] c.env := by rfl)
    (he2 : starEach [e₂] c.env = (false, eval e₂ c.env) :: starEach [] c.env := by rfl) (hp : (backTo p2 (starEach [e₂] c.env)).any (·.1) = false := by rfl)
    (he3 : starEach [.Call (.Name (Str.ofString "range") p1) [e₁, e₂] [] p2] c.env = (false, eval (.Call (.Name (Str.ofString "range") p1) [e₁, e₂] [] p2) c.env) :: starEach [] c.env := by rfl) :
    EvN c A σ (.Call (.Name (Str.ofString "list") p3) [.Call (.Name (Str.ofString "range") p1) [e₁, e₂] [] p2] [] p4) (upTo a n) := .mk fun s z E Q S q => by
  refine Call_Name rfl (boot_name S hf' boot_list hx' (by decide) (Pv.callWith_type1 (wpAny_items_cons ?_ he3) he3) (by decide))
  refine Call_Name rfl (boot_name S hf boot_range hx (by decide) (Pv.callWith_type1 (wpAny_items_cons (h1.run s z E _ S fun v h' tk z' g p => wpAny_items_cons (h2.run _ z' E _ (S.grow g) fun v₂ h₂ t₂ z₂ g₂ p₂ => wpAny_items_nil ?_) he2) he) he hp) (by decide))
  obtain ⟨tt, rfl⟩ := p.isInt
  obtain ⟨tu, rfl⟩ := p₂.isInt
  refine call_range_2 (wpAny_items_nil ?_)
  have g' := (g.trans g₂).trans (Gr.push g₂.sub { cls := .type "range", data := .fields #[.int a tt, .int b tu, .int 1 t₂] })
  refine wpAny_size (call_list_range hh (IsRange.new _ _ _ _ _ _ _) (small_one (by lia) (by lia) (by lia) (by lia)) (n := n) (by rw [rangeSize_one, ← hn]) hlen fun h₃ tk acc c' hk hl hit hs => ?_)
  have g₃ := g'.trans (Gr.keeps g'.sub hk hs)
  refine q _ acc.toList c' h₃ tk z₂ g₃ g'.ext.size (Z.none_of_sub g'.sub (get?_size _)) hl ?_
  obtain ⟨hsz, hit⟩ := hit
  have : ∀ (vs : List Value) (k : Nat), (∀ i (v : Value), vs[i]? = some v → ∃ t, v = .int (a + ((k + i : Nat) : Int)) t) → RdAll z₂ vs ((List.range' k vs.length).map fun (i : Nat) => .int (a + (i : Int))) := fun vs => by
    induction vs with
    | nil => intro k _; exact .nil
    | cons v r ih =>
      intro k h
      obtain ⟨t, rfl⟩ := h 0 v rfl
      refine .cons (.int _ _) (ih (k + 1) fun i v hv => ?_)
      have := h (i + 1) v (by simpa using hv)
      rw [show k + 1 + i = k + (i + 1) by lia]; exact this
  have r := this acc.toList 0 fun i v hv => by
    obtain ⟨t, e⟩ := hit i v (by rw [← Array.getElem?_toList]; exact hv)
    exact ⟨t, by rw [e, Int.mul_one, Nat.zero_add]⟩
  rw [show acc.toList.length = n by simpa using hsz, ← List.range_eq_range'] at r
  exact r
theorem evn_listrangeN {e₁ e₂ : Expr} {p1 p2 p3 p4 : Pos} {a b n : Nat} (h1 : Ev c A σ e₁ (D (.int (a : Int)))) (h2 : Ev c A σ e₂ (D (.int (b : Int)))) (hh : A.handled = none) (hn : a + n = b) (hb : b ≤ 100000)
    (hx : c.env.kindOf (Str.ofString "range") = some .globalImplicit) (hf : nsIn (hd.heap_39 c.w.params) mainGlobals (Str.ofString "range") = some none)
    (hx' : c.env.kindOf (Str.ofString "list") = some .globalImplicit) (hf' : nsIn (hd.heap_39 c.w.params) mainGlobals (Str.ofString "list") = some none) (he : starEach [e₁, e₂] c.env = (false, eval e₁ c.env) :: starEach [e₂] c.env := by rfl)
    (he2 : starEach [e₂] c.env = (false, eval e₂ c.env) :: starEach [] c.env := by rfl) (hp : (backTo p2 (starEach [e₂] c.env)).any (·.1) = false := by rfl)
    (he3 : starEach [.Call (.Name (Str.ofString "range") p1) [e₁, e₂] [] p2] c.env = (false, eval (.Call (.Name (Str.ofString "range") p1) [e₁, e₂] [] p2) c.env) :: starEach [] c.env := by rfl) :
    EvN c A σ (.Call (.Name (Str.ofString "list") p3) [.Call (.Name (Str.ofString "range") p1) [e₁, e₂] [] p2] [] p4) (upTo (a : Int) n) :=
  evn_listrange h1 h2 hh (by split <;> lia) (by lia) (by lia) (by lia) hx hf hx' hf' he he2 hp he3
end
end Mine

-- V16
namespace Mine
section
variable {c : Cx} {A : Around} {σ σ' : List (Option V)}
noncomputable abbrev RtR (c : Cx) (P : Value → Z → Prop) : Flow → Z → Heap → Prop := fun f z h => ∃ v, f = .ret v ∧ P v z ∧ Gr c.z0 c.h0 z h
theorem RtR.rt {P : Value → Z → Prop} {f z h} : RtR c P f z h → Rt c P f z h
  | ⟨v, e, p, g⟩ => ⟨v, by rw [e], .inr ⟨v, e⟩, p, g⟩
theorem sx_returnR {e : Expr} {pos : Pos} {P : Value → Z → Prop} {rest : List Stmt} (h : Ev c A σ e P) : Sx c A σ (.Return (some e) pos :: rest) (RtR c P) :=
  sx_cons (sx1_return h) fun f z h p => by
    obtain ⟨⟨v, rfl, p⟩, S⟩ := p
    exact ⟨v, rfl, p, S.gr⟩
theorem sx_ifret {t : Expr} {b : Bool} {body rest : List Stmt} {pos : Pos} {P : Value → Z → Prop} (h : Ts c A σ t b) (h1 : b = true → Sx c A σ body (RtR c P)) (h2 : b = false → Sx c A σ rest (Rt c P)) : Sx c A σ (.If t body [] pos :: rest) (Rt c P) := by
  cases b with
  | true =>
    exact sx_cons (sx1_if h h1 fun q => by cases q) fun f z h p => by
      obtain ⟨v, rfl, r⟩ := p
      exact RtR.rt ⟨v, rfl, r⟩
  | false => exact sx_step (sx1_if h (fun q => by cases q) fun _ => sx_nil fun z h S => ⟨rfl, S⟩) (h2 rfl)
theorem sx1_if_t {t : Expr} {body orelse : List Stmt} {pos : Pos} {P : Flow → Z → Heap → Prop} (h : Ts c A σ t true) (h1 : Sx c A σ body P) : Sx1 c A σ (.If t body orelse pos) P := sx1_if h (fun _ => h1) fun q => by cases q
theorem sx1_if_f {t : Expr} {body orelse : List Stmt} {pos : Pos} {P : Flow → Z → Heap → Prop} (h : Ts c A σ t false) (h1 : Sx c A σ orelse P) : Sx1 c A σ (.If t body orelse pos) P := sx1_if h (fun q => by cases q) fun _ => h1
theorem sx_done : Sx c A σ [] (Nx c σ) := sx_nil fun z h S => ⟨rfl, S⟩
theorem sx_one {st : Stmt} {P : Flow → Z → Heap → Prop} (h : Sx1 c A σ st P) : Sx c A σ [st] P := .mk fun s z E Q S q =>
  wpAny_execs_cons (h.run s z E _ S fun f h' tk z' le p => by
    cases f with
    | next => exact wpAny_execs_nil (q _ h' tk z' le p)
    | brk => exact q _ h' tk z' le p
    | cont => exact q _ h' tk z' le p
    | ret v => exact q _ h' tk z' le p)
theorem sx1_break {pos : Pos} : Sx1 c A σ (.Break pos) (fun f z h => f = .brk ∧ St c σ z h) := .mk fun s z E Q S q => by
  with_reducible exact wpAny_Break (q .brk s.heap s.toks z (.refl z) ⟨rfl, S⟩)
theorem Ev.to {e : Expr} {d d' : PyData} (h : Ev c A σ e (D d)) (q : d = d') : Ev c A σ e (D d') := q ▸ h
theorem EvN.to {e : Expr} {d d' : List PyData} (h : EvN c A σ e d) (q : d = d') : EvN c A σ e d' := q ▸ h
theorem EvI.to {e : Expr} {d d' : List PyData} (h : EvI c A σ e d) (q : d = d') : EvI c A σ e d' := q ▸ h
theorem Ts.to {e : Expr} {d d' : Bool} (h : Ts c A σ e d) (q : d = d') : Ts c A σ e d' := q ▸ h
noncomputable abbrev Out (c : Cx) (Bk : List (Option V) → Prop) : Flow → Z → Heap → Prop := fun f z h => f = .next ∧ ∃ σ, Bk σ ∧ St c σ z h
theorem sx_for {i : Nat} {x : Str} {px pos : Pos} {it : Expr} {body orelse rest : List Stmt} {ds : List PyData} {P : Flow → Z → Heap → Prop} (J : Nat → List (Option V) → Prop) (Bk : List (Option V) → Prop) (hx : Sto c i x) (hit : EvI c A σ it ds) (h0 : J 0 σ)
    (hlen : ∀ k σ₁, J k σ₁ → σ₁.length = c.N.length)
    (turn : ∀ k d σ₁ p, ds[k]? = some d → J k σ₁ → Sx (c.pin p) A (σ₁.set i (some (.dat d))) body (LoopP (c.pin p) (J (k + 1)) Bk (Out c Bk)))
    (done : ∀ σ₁, J ds.length σ₁ → Sx c A σ₁ orelse (Out c Bk)) (hr : ∀ σ₁, Bk σ₁ → Sx c A σ₁ rest P) (hs : ∀ x, foldedSetIterable it c.env x = pure x := by intro _; rfl) : Sx c A σ (.For (.Name x px) it body orelse pos :: rest) P :=
  sx_cons (sx1_for J Bk hx hit h0 hlen turn done (fun σ₁ z h hB S => ⟨rfl, σ₁, hB, S⟩) hs) fun f z h p => by
    obtain ⟨rfl, σ₁, hB, S⟩ := p
    exact ⟨σ₁, S, hr σ₁ hB⟩
theorem sx_while {test : Expr} {body rest : List Stmt} {pos : Pos} {P : Flow → Z → Heap → Prop} (J : Nat → List (Option V) → Prop) (Bk : List (Option V) → Prop) {n : Nat} (h0 : J n σ) (tst : ∀ n σ₁, J n σ₁ → ∃ b, Ts c A σ₁ test b ∧
      (b = true → Sx c A σ₁ body (LoopP c (fun σ₂ => ∃ m, m < n ∧ J m σ₂) Bk (Out c Bk))) ∧ (b = false → Bk σ₁)) (hr : ∀ σ₁, Bk σ₁ → Sx c A σ₁ rest P) : Sx c A σ (.While test body [] pos :: rest) P :=
  sx_cons (sx1_while J Bk h0 (fun n σ₁ hJ => let ⟨b, h1, h2, h3⟩ := tst n σ₁ hJ; ⟨b, h1, h2, fun hb z h S => ⟨rfl, σ₁, h3 hb, S⟩⟩) (fun σ₁ z h hB S => ⟨rfl, σ₁, hB, S⟩)) fun f z h p => by
    obtain ⟨rfl, σ₁, hB, S⟩ := p
    exact ⟨σ₁, S, hr σ₁ hB⟩
theorem ev_glob {x : Str} {pos : Pos} {v : Value} (e : nsIn (hd.heap_39 c.w.params) mainGlobals x = some (some v)) (hx : c.env.kindOf x = some .globalImplicit) (hd : (x == ("__debug__" : Str)) = false := by decide) : Ev c A σ (.Name x pos) (fun u z => u = v) :=
  .mk fun s z E Q S q => glob_name S e hx (q v s.heap s.toks z (.refl S.sub) rfl) hd
theorem ev_glob_int {x : Str} {pos : Pos} {i : Int} {t : Tok} (e : nsIn (hd.heap_39 c.w.params) mainGlobals x = some (some (.int i t))) (hx : c.env.kindOf x = some .globalImplicit) (hd : (x == ("__debug__" : Str)) = false := by decide) : Ev c A σ (.Name x pos) (D (.int i)) :=
  .mk fun s z E Q S q => glob_name S e hx (q _ s.heap s.toks z (.refl S.sub) (.int _ _)) hd
theorem ev_dictget {x : Str} {px pa pc : Pos} {e₁ e₂ : Expr} {dA : Addr} {es : Array DictEntry} {ep : Nat} {k : Int} {dd d : PyData} (hx : c.env.kindOf x = some .globalImplicit) (hf : nsIn (hd.heap_39 c.w.params) mainGlobals x = some (some (.ref dA)))
    (ho : (hd.heap_39 c.w.params).lookup dA = some { cls := .type "dict", data := .dict es ep }) (hk : ∀ e ∈ es, ∃ k, Value.isInt k e.key = true ∧ e.hash = hashInt k) (hds : (dA == sysModules) = false) (h1 : Ev c A σ e₁ (D (.int k))) (h2 : Ev c A σ e₂ (D dd))
    (hr : ∀ z v, Rd z v dd → Rd z ((findBy Value.isInt es k).getD v) d)
    {pl : Sem Bool} (hm : eval (.Call (.Attribute (.Name x px) (Str.ofString "get") pa) [e₁, e₂] [] pc) c.env = (do
      let ov ← eval (.Name x px) c.env
      standAt pa.atName
      let (f, first) ← holding [ov] (getMethod ov (Str.ofString "get") pl)
      callWith pc f first (backTo pc (starEach [e₁, e₂] c.env)) []) := by rfl)
    (he : starEach [e₁, e₂] c.env = (false, eval e₁ c.env) :: starEach [e₂] c.env := by rfl) (he2 : starEach [e₂] c.env = (false, eval e₂ c.env) :: starEach [] c.env := by rfl) (hp : (backTo pc (starEach [e₂] c.env)).any (·.1) = false := by rfl)
    (hdb : (x == ("__debug__" : Str)) = false := by decide) : Ev c A σ (.Call (.Attribute (.Name x px) (Str.ofString "get") pa) [e₁, e₂] [] pc) (D d) := .mk fun s z E Q S q => by
  refine MethodCall_ (glob_name S hf hx ?_ hdb) hm
  have o1 := S.gd.K _ _ ho
  refine getMethod_builtin (T := "dict") ⟨_, o1, rfl⟩ PySem.F.plainAttrs_dict PySem.F.slot_dict_get PySem.F.type_dict_get (fun a e => by cases e; exact ⟨_, o1, rfl⟩) (callWith_method1 ?_ he hp)
  refine (evl_cons h1 (evl_cons h2 evl_nil he2) he).run s z pc E _ S fun us h' tk z' g p => ?_
  obtain ⟨_, _, rfl, r1, r2⟩ := p.is2
  · · skip
      have o2 := (S.grow g).gd.K _ _ ho
      obtain ⟨_, rfl⟩ := r1.isInt
      refine call_meetsIn PySem.F.slot_dict_get ⟨_, o2, rfl⟩ PySem.F.entry_dict_get (PySem.F.args_dict_get_3 _ _ _) (meets_dict_get_default (intKind PR c.w) (k := k) dA (by simp [intKind, Value.isInt]) hds _)
        ⟨_, ⟨_, es, ep, o2, ⟨rfl, rfl, rfl⟩, rfl, hk, fun k => rfl⟩, ?_⟩
      exact q _ h' _ z' g (hr z' _ r2)
end
end Mine

-- F2
namespace Mine
theorem all_loc {binds : List (Str × Value)} {l : List (Str × NameKind)} (h : (binds.all fun y => l.lookup y.1 == some .local) = true) : ∀ y ∈ binds, l.lookup y.1 = some .local := fun y hy => by
  have := List.all_eq_true.mp h y hy
  exact eq_of_beq this
theorem three_args {z : Z} {args : List Value} {a b c : PyData} (ha : Ds [a, b, c] args z) : ∃ v1 v2 v3, Rd z v1 a ∧ Rd z v2 b ∧ Rd z v3 c ∧ args = [v1, v2, v3] :=
  let ⟨v1, us, e, h1, q⟩ := ha.isCons; let ⟨v2, v3, e2, h2, h3⟩ := q.is2; ⟨v1, v2, v3, h1, h2, h3, by rw [e, e2]⟩
theorem one_arg {z : Z} {args : List Value} {a : PyData} (ha : Ds [a] args z) : ∃ v1, Rd z v1 a ∧ args = [v1] := let ⟨v, e, h⟩ := ha.is1; ⟨v, h, e⟩
theorem fn_div {w : World} {a b n : Int} (hb : b ≠ 0) (hl : b.natAbs.log2 < 9000) (hn : (Builtin.Int.intBits a : Int) - n ≤ 4000) : Fn w 28 1 4 (Ds [.int a, .int b, .int n]) (D (.tuple [.int (a.fdiv b), .int (a.fmod b)])) := .mk fun A s z args R rm g k zt ha q => by
  obtain ⟨v1, v2, v3, r1, r2, r3, rfl⟩ := three_args ha
  refine enter_plain (N := [Str.ofString "a", Str.ofString "b", Str.ofString "n"]) (us := [some (.dat (.int a)), some (.dat (.int b)), some (.dat (.int n))]) (Nat.lt_of_le_of_lt (Nat.le_add_right _ _) rm.dp) g k zt (by k_is) (by k_is) (BindsTo.of_eq rfl) (all_loc rfl) (by decide) (by decide) rfl ?_ ?_ q
  · exact slots_some ⟨rfl, v1, rfl, r1⟩ (slots_some ⟨rfl, v2, rfl, r2⟩ (slots_some ⟨rfl, v3, rfl, r3⟩ slots_nil))
  · refine sx_ifret (b := true) ?_ (fun _ => sx_returnR (ev_bf (bf_divmod hb hl) rfl (by k_is) boot_divmod (evl_cons (ev_name (i := 0) rfl rfl) (evl_cons (ev_name (i := 1) rfl rfl) evl_nil)))) (fun q => by cases q)
    rw [← decide_eq_true hn]
    exact ts_cmp (ev_bin (ev_bitlen (ev_name (i := 0) rfl rfl)) (ev_name (i := 2) rfl rfl) sub_i) (ev_glob_int (by k_is) rfl) le_i
noncomputable def fnames : List Str := ["OPTIMIZED", "NEWLOCALS", "VARARGS", "VARKEYWORDS", "NESTED", "GENERATOR", "NOFREE", "COROUTINE", "ITERABLE_COROUTINE", "ASYNC_GENERATOR"]
noncomputable def digs : Str := "1248"
noncomputable def flagName (p : Nat) : Str := if p < 10 then fnames.getD p "" else ("0x" : Str) ++ ⟨#[digs.cps.getD (p % 4) 0]⟩ ++ Txt.mul "0" ((p / 4 : Nat) : Int)
theorem hexes : ∀ i : Fin 32, 10 ≤ i.val → baseText "0x" 16 ((2 : Int) ^ i.val) = flagName i.val := by decide +kernel
theorem hexlen : ∀ i : Fin 32, (baseText "0x" 16 ((2 : Int) ^ i.val)).length ≤ 1000 := by decide +kernel
theorem mul0_len : ∀ i : Fin 32, (Txt.mul "0" ((i.val / 4 : Nat) : Int)).length ≤ 900 := by decide +kernel
theorem fdiv_nat (a b : Nat) : ((a : Nat) : Int).fdiv (b : Int) = ((a / b : Nat) : Int) := by
  rw [Int.fdiv_eq_ediv_of_nonneg _ (Int.natCast_nonneg b)]; rfl
theorem fmod_nat (a b : Nat) : ((a : Nat) : Int).fmod (b : Int) = ((a % b : Nat) : Int) := by
  rw [Int.fmod_eq_emod_of_nonneg _ (Int.natCast_nonneg b)]; rfl
theorem fn_word {w : World} {p : Nat} (hp : p < 32) : Fn w 144 1 4 (Ds [.int (p : Int)]) (D (.str (flagName p))) := .mk fun A s z args R rm g k zt ha q => by
  obtain ⟨v1, r1, rfl⟩ := one_arg ha
  refine enter_plain (N := [Str.ofString "place", Str.ofString "names"]) (us := [some (.dat (.int p)), none]) (Nat.lt_of_le_of_lt (Nat.le_add_right _ _) rm.dp) g k zt (by k_is) (by k_is) (BindsTo.of_eq rfl) (all_loc rfl) (by decide) (by decide) rfl ?_ ?_ q
  · exact slots_some ⟨rfl, v1, rfl, r1⟩ (slots_none slots_nil)
  · refine sx_step (sx1_assign (i := 1) (d := .list (fnames.map .str)) ⟨rfl, .inl rfl⟩ (EvN.dat (evn_list (evl_cons ev_str (evl_cons ev_str (evl_cons ev_str (evl_cons ev_str (evl_cons ev_str (evl_cons ev_str (evl_cons ev_str (evl_cons ev_str (evl_cons ev_str (evl_cons ev_str evl_nil)))))))))) (by decide)))) ?_
    by_cases h10 : p < 10
    · refine sx_ifret (b := true) ?_ (fun _ => sx_returnR ?_) (fun q => by cases q)
      · rw [← decide_eq_true (show (p : Int) < 10 by lia)]
        exact ts_cmp (ev_name (i := 0) rfl rfl) ev_int lt_i
      · refine ev_item (ev_name (i := 1) rfl rfl) (ev_name (i := 0) rfl rfl) (by lia) (by lia) ?_
        have : p < fnames.length := h10
        rw [flagName, if_pos h10, Int.toNat_natCast, List.getElem?_map, List.getD_eq_getElem?_getD, List.getElem?_eq_getElem this]; rfl
    · refine sx_ifret (b := false) ?_ (fun q => by cases q) fun _ => sx_return ?_
      · rw [← decide_eq_false (show ¬ (p : Int) < 10 by lia)]
        exact ts_cmp (ev_name (i := 0) rfl rfl) ev_int lt_i
      · rw [flagName, if_neg h10]
        have hl4 : (p % 4 : Nat) < 4 := Nat.mod_lt _ (by decide)
        refine ev_bin (ev_bin ev_str (ev_item_s ev_str ((ev_bin (ev_name (i := 0) rfl rfl) ev_int (mod_i (by decide))).to (congrArg PyData.int (fmod_nat p 4))) (by lia) ?_) (add_s ?_)) (ev_bin ev_str ?_ (mul_s (by lia) (by decide))) (add_s ?_)
        · rw [Array.getD_eq_getD_getElem?]
          have : p % 4 < digs.cps.size := hl4
          rw [show (("1248" : Str).cps) = digs.cps from rfl, Array.getElem?_eq_getElem this]; rfl
        · exact show 3 ≤ 1000 by decide
        · exact (ev_bin (ev_name (i := 0) rfl rfl) ev_int (fdiv_i (by decide) (by decide))).to (congrArg PyData.int (fdiv_nat p 4))
        · have := mul0_len ⟨p, hp⟩
          have h2 : (("0x" : Str) ++ ⟨#[digs.cps.getD (p % 4) 0]⟩ : Str).length = 3 := rfl
          rw [h2]; simp only at this; lia
theorem band_nat (a b : Nat) : Builtin.bitAnd (a : Int) (b : Int) = ((a &&& b : Nat) : Int) := rfl
noncomputable def leftOf (n k : Nat) : Nat := (n >>> k) <<< k
noncomputable def bitsOf (n k : Nat) : List Nat := (List.range k).filter fun i => n.testBit i
noncomputable def wordsOf (n k : Nat) : List PyData := (bitsOf n k).map fun i => .str (flagName i)
theorem leftOf_bit (n k i : Nat) : (leftOf n k).testBit i = (decide (k ≤ i) && n.testBit i) := by
  unfold leftOf
  rw [Nat.testBit_shiftLeft, Nat.testBit_shiftRight]
  by_cases h : k ≤ i
  · simp [h, show k + (i - k) = i by lia]
  · simp [h]
theorem leftOf_and (n k : Nat) : leftOf n k &&& 2 ^ k = if n.testBit k then 2 ^ k else 0 := by
  apply Nat.eq_of_testBit_eq
  intro i
  rw [Nat.testBit_and, leftOf_bit, Nat.testBit_two_pow]
  by_cases h : k = i
  · subst h; cases hb : n.testBit k <;> simp
  · cases hb : n.testBit k <;> simp [h]
theorem leftOf_step (n k : Nat) : leftOf n k = leftOf n (k + 1) + (if n.testBit k then 2 ^ k else 0) := by
  unfold leftOf
  rw [Nat.shiftRight_eq_div_pow, Nat.shiftRight_eq_div_pow, Nat.shiftLeft_eq, Nat.shiftLeft_eq]
  have h1 : n / 2 ^ (k + 1) = n / 2 ^ k / 2 := by rw [Nat.pow_succ, Nat.div_div_eq_div_mul]
  have h2 := Nat.div_add_mod (n / 2 ^ k) 2
  have h3 : n.testBit k = decide (n / 2 ^ k % 2 = 1) := by rw [Nat.testBit_eq_decide_div_mod_eq]
  rw [h1, h3, Nat.pow_succ]
  by_cases h : n / 2 ^ k % 2 = 1
  · rw [if_pos (decide_eq_true h)]
    rw [h] at h2
    calc n / 2 ^ k * 2 ^ k = (2 * (n / 2 ^ k / 2) + 1) * 2 ^ k := by rw [h2]
      _ = _ := by rw [Nat.add_mul, Nat.one_mul]; congr 1; rw [Nat.mul_comm 2, Nat.mul_assoc, Nat.mul_comm 2]
  · rw [if_neg (by simpa using h)]
    have h0 : n / 2 ^ k % 2 = 0 := by lia
    rw [h0] at h2
    calc n / 2 ^ k * 2 ^ k = (2 * (n / 2 ^ k / 2) + 0) * 2 ^ k := by rw [h2]
      _ = _ := by rw [Nat.add_zero, Nat.add_zero, Nat.mul_comm 2, Nat.mul_assoc, Nat.mul_comm 2]
theorem leftOf_xor (n k : Nat) (hb : n.testBit k = true) : Builtin.bitXor (leftOf n k : Int) ((2 ^ k : Nat) : Int) = (leftOf n (k + 1) : Int) := by
  rw [bitXor_and, band_nat, leftOf_and, hb, if_pos rfl, leftOf_step n k, hb, if_pos rfl]
  push_cast
  lia
theorem leftOf_skip (n k : Nat) (hb : n.testBit k = false) : leftOf n (k + 1) = leftOf n k := by
  rw [leftOf_step n k, hb]; rfl
theorem bitsOf_succ (n k : Nat) : bitsOf n (k + 1) = bitsOf n k ++ if n.testBit k then [k] else [] := by
  unfold bitsOf
  rw [List.range_succ, List.filter_append]
  cases hb : n.testBit k <;> simp [hb]
theorem bitsOf_all {n k m : Nat} (h : leftOf n k = 0) (hk : k ≤ m) : bitsOf n m = bitsOf n k := by
  induction m with
  | zero => have : k = 0 := by lia
            subst this; rfl
  | succ m ih =>
    by_cases hm : k ≤ m
    · have hb : n.testBit m = false := by
        have := leftOf_bit n k m
        rw [h] at this; simpa [hm] using this.symm
      rw [bitsOf_succ, hb, ih hm]; simp
    · have : k = m + 1 := by lia
      subst this; rfl
theorem leftOf_lt {n k : Nat} (h : n < 2 ^ k) : leftOf n k = 0 := by
  unfold leftOf; rw [Nat.shiftRight_eq_div_pow, Nat.div_eq_of_lt h]; simp
theorem leftOf_zero (n : Nat) : leftOf n 0 = n := by simp [leftOf]
noncomputable abbrev flagDict : Array DictEntry := #[{ hash := 1, key := Value.int 1 278, val := Value.str (Str.ofString "OPTIMIZED") 279 }, { hash := 2, key := Value.int 2 280, val := Value.str (Str.ofString "NEWLOCALS") 281 },
  { hash := 4, key := Value.int 4 282, val := Value.str (Str.ofString "VARARGS") 283 }, { hash := 8, key := Value.int 8 284, val := Value.str (Str.ofString "VARKEYWORDS") 285 },
  { hash := 16, key := Value.int 16 286, val := Value.str (Str.ofString "NESTED") 287 }, { hash := 32, key := Value.int 32 288, val := Value.str (Str.ofString "GENERATOR") 289 },
  { hash := 64, key := Value.int 64 290, val := Value.str (Str.ofString "NOFREE") 291 }, { hash := 128, key := Value.int 128 292, val := Value.str (Str.ofString "COROUTINE") 293 },
  { hash := 256, key := Value.int 256 294, val := Value.str (Str.ofString "ITERABLE_COROUTINE") 295 }, { hash := 512, key := Value.int 512 296, val := Value.str (Str.ofString "ASYNC_GENERATOR") 297 }]
theorem flag_keys : ∀ e ∈ flagDict, ∃ k, Value.isInt k e.key = true ∧ e.hash = hashInt k := by
  intro e he
  simp only [flagDict, List.mem_toArray, List.mem_cons, List.not_mem_nil, or_false] at he
  rcases he with rfl | rfl | rfl | rfl | rfl | rfl | rfl | rfl | rfl | rfl
  · exact ⟨1, rfl, rfl⟩
  · exact ⟨2, rfl, rfl⟩
  · exact ⟨4, rfl, rfl⟩
  · exact ⟨8, rfl, rfl⟩
  · exact ⟨16, rfl, rfl⟩
  · exact ⟨32, rfl, rfl⟩
  · exact ⟨64, rfl, rfl⟩
  · exact ⟨128, rfl, rfl⟩
  · exact ⟨256, rfl, rfl⟩
  · exact ⟨512, rfl, rfl⟩
noncomputable def isWord (x : Str) : Option Value → Bool
  | some (.str y _) => y == x
  | _ => false
noncomputable def isNil : Option Value → Bool
  | none => true
  | _ => false
theorem flag_at : ∀ i : Fin 32, (if i.val < 10 then isWord (flagName i.val) (findBy Value.isInt flagDict ((2 : Int) ^ i.val)) else isNil (findBy Value.isInt flagDict ((2 : Int) ^ i.val))) = true := by decide +kernel
theorem flag_read {k : Nat} (hk : k < 32) (z : Z) (v : Value) (r : Rd z v (.str (baseText "0x" 16 ((2 : Int) ^ k)))) : Rd z ((findBy Value.isInt flagDict ((2 : Int) ^ k)).getD v) (.str (flagName k)) := by
  have h := flag_at ⟨k, hk⟩
  have h2 := hexes ⟨k, hk⟩
  simp only at h h2
  by_cases h10 : k < 10
  · rw [if_pos h10] at h
    generalize findBy Value.isInt flagDict ((2 : Int) ^ k) = o at h ⊢
    match o, h with
    | some (.str y t), h => rw [← eq_of_beq h]; exact .str _ _
  · rw [if_neg h10] at h
    rw [← h2 (by lia)]
    generalize findBy Value.isInt flagDict ((2 : Int) ^ k) = o at h ⊢
    match o, h with
    | none, h => exact r
theorem upTo_get {a : Int} {n k : Nat} {d : PyData} (h : (upTo a n)[k]? = some d) : d = .int (a + (k : Int)) ∧ k < n := by
  have hk : k < (upTo a n).length := getElem?_lt h
  have hk' : k < n := by simpa [upTo] using hk
  refine ⟨?_, hk'⟩
  rw [List.getElem?_map, List.getElem?_range hk'] at h
  cases h; rfl
theorem wordsOf_succ {n k : Nat} (hb : n.testBit k = true) : wordsOf n (k + 1) = wordsOf n k ++ [.str (flagName k)] := by
  unfold wordsOf
  rw [bitsOf_succ, hb, if_pos rfl, List.map_append]; rfl
theorem wordsOf_len (n k : Nat) : (wordsOf n k).length ≤ k := by
  unfold wordsOf bitsOf
  rw [List.length_map]
  exact Nat.le_trans (List.length_filter_le _ _) (by simp)
theorem fn_flags {w : World} {n : Nat} (h0 : n ≠ 0) (hn : n < 2 ^ 32) (hj : JoinOk ", " ((bitsOf n 32).map flagName) = true) : Fn w 71 1 4 (Ds [.int (n : Int)]) (D (.str (Txt.join ", " ((bitsOf n 32).map flagName)))) := .mk fun A s z args R rm g k zt ha q => by
  obtain ⟨v1, r1, rfl⟩ := one_arg ha
  refine enter_plain (N := [Str.ofString "flags", Str.ofString "names", Str.ofString "i", Str.ofString "flag"]) (us := [some (.dat (.int n)), none, none, none]) (Nat.lt_of_le_of_lt (Nat.le_add_right _ _) rm.dp) g k zt (by k_is) (by k_is) (BindsTo.of_eq rfl) (all_loc rfl) (by decide) (by decide) rfl ?_ ?_ q
  · exact slots_some ⟨rfl, v1, rfl, r1⟩ (slots_none (slots_none (slots_none slots_nil)))
  · have hh := rm.hd
    refine sx_assign_own (i := 1) ⟨rfl, .inl rfl⟩ (evn_list evl_nil (by decide)) fun a => ?_
    refine sx_for (i := 2) (fun k σ => leftOf n k ≠ 0 ∧ ∃ u2 u3, σ = [some (.dat (.int (leftOf n k : Int))), some (.own a (wordsOf n k)), u2, u3]) (fun σ => ∃ f u2 u3, σ = [f, some (.own a (wordsOf n 32)), u2, u3])
      ⟨rfl, .inl rfl⟩ (evi_range1 (n := 32) ev_int hh (by decide) (by decide) rfl (by k_is)) ⟨by rw [leftOf_zero]; exact h0, none, none, by rw [leftOf_zero]; rfl⟩ (fun k σ h => by obtain ⟨_, u2, u3, rfl⟩ := h; rfl) ?_ ?_ ?_
    · intro k d σ₁ p hd hJ
      obtain ⟨rfl, hk⟩ := upTo_get hd
      obtain ⟨hl, u2, u3, rfl⟩ := hJ
      have e1 : ((1 : Int) * 2 ^ ((0 : Int) + (k : Int)).toNat) = ((2 ^ k : Nat) : Int) := by
        rw [Int.one_mul, Int.zero_add, Int.toNat_natCast]; push_cast; rfl
      have lp : (0 : Nat) < 2 ^ k := Nat.two_pow_pos k
      refine sx_step (sx1_assign (i := 3) ⟨rfl, .inl rfl⟩ ((ev_bin ev_int (ev_name (i := 2) rfl rfl) (shl_i (by lia) (by rw [show Builtin.Int.intBits 1 = 1 from rfl]; lia))).to (congrArg PyData.int e1))) (sx_one ?_)
      cases hb : n.testBit k with
      | false =>
        refine sx1_if_f (ts_val ((ev_bin (ev_name (i := 0) rfl rfl) (ev_name (i := 3) rfl rfl) and_i).to (congrArg PyData.int (band_nat _ _))) ?_) (sx_nil fun z h S => ?_)
        · rw [leftOf_and, hb]; rfl
        · have e2 : wordsOf n (k + 1) = wordsOf n k := by unfold wordsOf; rw [bitsOf_succ, hb]; simp
          exact ⟨_, ⟨by rw [leftOf_skip n k hb]; exact hl, _, _, by rw [leftOf_skip n k hb, e2]; rfl⟩, S⟩
      | true =>
        refine sx1_if_t (ts_val ((ev_bin (ev_name (i := 0) rfl rfl) (ev_name (i := 3) rfl rfl) and_i).to (congrArg PyData.int (band_nat _ _))) ?_) ?_
        · rw [leftOf_and, hb, if_pos rfl]
          show some (((2 ^ k : Nat) : Int) != 0) = some true
          congr 1
          rw [bne_iff_ne]; lia
        · refine sx_step (sx1_append (i := 1) (d := .str (flagName k)) rfl rfl (ev_dictget rfl (by k_is) (by k_is) flag_keys rfl (ev_name (i := 3) rfl rfl) (ev_bf (bf_hex ?_) rfl (by k_is) boot_hex (evl_cons (ev_name (i := 3) rfl rfl) evl_nil)) ?_) (Nat.le_trans (wordsOf_len n k) (by lia))) ?_
          · rw [show ((2 ^ k : Nat) : Int) = (2 : Int) ^ k by push_cast; rfl]; exact hexlen ⟨k, hk⟩
          · rw [show ((2 ^ k : Nat) : Int) = (2 : Int) ^ k by push_cast; rfl]; exact fun z v r => flag_read hk z v r
          · rw [← wordsOf_succ hb]
            refine sx_step (sx1_aug (i := 0) ⟨rfl, .inl rfl⟩ rfl (ev_name (i := 3) rfl rfl) ixor_i) (sx_one ?_)
            rw [leftOf_xor n k hb]
            by_cases hz : leftOf n (k + 1) = 0
            · refine sx1_if_t ((ts_not (ts_val (ev_name (i := 0) rfl rfl) rfl)).to (by rw [hz]; rfl)) (sx_one (sx1_break.mono fun f z h p => ?_))
              obtain ⟨rfl, S⟩ := p
              have e3 : wordsOf n 32 = wordsOf n (k + 1) := by unfold wordsOf; rw [bitsOf_all hz (by lia)]
              exact ⟨_, ⟨_, _, _, by rw [e3]; rfl⟩, S⟩
            · refine sx1_if_f ((ts_not (ts_val (ev_name (i := 0) rfl rfl) rfl)).to ?_) (sx_nil fun z h S => ⟨_, ⟨hz, _, _, rfl⟩, S⟩)
              have : ((leftOf n (k + 1) : Int) != 0) = true := by rw [bne_iff_ne]; lia
              rw [this]; rfl
    · intro σ₁ hJ
      obtain ⟨h, _⟩ := hJ
      exact absurd (leftOf_lt (k := 32) hn) h
    · intro σ₁ hB
      obtain ⟨f, u2, u3, rfl⟩ := hB
      refine sx_freeze (i := 1) rfl rfl (sx_return (ev_join ev_str ?_ hj))
      refine (ev_name (i := 1) rfl rfl).to ?_
      unfold wordsOf
      rw [List.map_map]; rfl
end Mine

-- V17
namespace Mine
theorem Ext.table {h h' : Heap} {P : Addr} (hx : Heap.ExtBut P h h') (hP : h.get? P = some (tabObj #[])) (hs : h.objs.size ≤ h'.objs.size) (hPP : P = 44 ∨ P = 37) (t1 : P = 44 → Tab1 h') (t2 : P = 37 → Tab2 h') : Ext h h' := by
  have other : ∀ {P' : Addr} {l c : Nat} {q : Str}, P' ≠ P → TabSt h P' l c q → TabSt h' P' l c q := fun hne t => by
    rcases t with e | ⟨c', e, c₂, oc, vs, t, h1, h2, h3, h4⟩
    · exact .inl (hx _ _ hne e)
    · refine .inr ⟨c', hx _ _ hne e, c₂, oc, vs, t, h1, hx _ _ (fun q => ?_) h2, h3, h4⟩
      rw [q, hP] at h2; cases h2; cases h3; cases h4
  refine ⟨fun a o p q e => hx a o (fun r => hPP.elim (fun h => p (r.trans h)) fun h => q (r.trans h)) e, hs, fun t => ?_, fun t => ?_⟩
  · by_cases h : P = 44
    · exact t1 h
    · exact other (fun q => h q.symm) t
  · by_cases h : P = 37
    · exact t2 h
    · exact other (fun q => h q.symm) t
section
variable {c : Cx} {A : Around} {σ : List (Option V)} {name qual : Str} {params : Arguments} {body : List Stmt} {scope : Scope} {cc P : Addr} {pos : Pos} {clos : List (Str × Addr)} {firstLine : Nat}
theorem make_fn {s : Shared} {z : Z} {E Q : Value → Shared → Prop} (S : St c σ z s.heap) (hcl : closureFor scope c.env = pure clos) (hcode : c.env.code = .ref cc) (C : CodeHd s.heap cc P) (hPP : P = 44 ∨ P = 37)
    (hq : (P = 44 ∧ pos.line = 50 ∧ pos.col = 4 ∧ qual = Str.ofString "_digits2int.<locals>.inner") ∨ (P = 37 ∧ pos.line = 35 ∧ pos.col = 4 ∧ qual = Str.ofString "_int2digits.<locals>.inner"))
    (h : ∀ f doc pm c' ctv h' tk, Gr z s.heap z h' → s.heap.objs.size ≤ f → h'.get? f = some (fnMade name qual params body scope clos doc pm c' ctv) → h'.CodeRec (.ref c') qual → Q (.ref f) { s with heap := h', toks := tk }) :
    wpAny (model PR c.w) A (makeFunction name qual params (.stmts body) scope c.env [] [] [] pos firstLine) Q E s := by
  obtain ⟨p, l, me, mg, mb, T⟩ := S.gd.T
  have hz := S.gd.zn S.sub S.zt
  have hT : TabSt s.heap P pos.line pos.col qual := by
    rcases hq with ⟨rfl, h1, h2, h3⟩ | ⟨rfl, h1, h2, h3⟩
    · rw [h1, h2, h3]; exact S.gd.t1
    · rw [h1, h2, h3]; exact S.gd.t2
  have zP : z P = none := by rcases hPP with rfl | rfl; exact hz.1; exact hz.2
  obtain ⟨bm, ob, b1, b2, b3, b4, b5, b6⟩ := T.bmain
  have hbP : ∀ {ps}, s.heap.get? P = some (tabObj ps) → bm ≠ P := fun e q => by rw [q, e] at b3; cases b3; cases b4
  have hbG : bm ≠ mainGlobals := fun q => by
    obtain ⟨o, es, ep, e, hd, _⟩ := T.g
    rw [q, e] at b3; cases b3; rw [hd] at b6; cases b6
  rcases hT with e | ⟨c₀, e, rec⟩
  · have hgP : mainGlobals ≠ P := fun q => by
      obtain ⟨o, es, ep, e', hd, _⟩ := T.g
      rw [q, e] at e'; cases e'; cases hd
    refine makeFunction_K (mg := mg) hcl S.ok.glob T.g hcode C e True.intro rfl hgP ⟨bm, ob, b1, b2, hbG, hbP e, b3, b4, b5, b6⟩ fun c' ctv doc h' tk hx hge hlt hrec htb => ?_
    have tab : TabSt h' P pos.line pos.col qual := .inr ⟨c', by rw [htb]; rfl, hrec⟩
    have hs : s.heap.objs.size ≤ h'.objs.size := Nat.le_of_lt (Nat.lt_of_le_of_lt hge hlt)
    have gr : Gr z s.heap z h' := ⟨Ext.table hx e hs hPP (fun q => ?_) (fun q => ?_), .refl z, fun b o q => hx b o (fun r => by rw [r, zP] at q; cases q) (S.sub b o q), fun b o q => .inl q⟩
    · refine h _ doc _ c' ctv _ tk (gr.trans (Gr.push gr.sub _)) hs (Heap.get?_push_size _ rfl) (hrec.keeps fun b o q => Heap.get?_push_of_some _ q)
    · rcases hq with ⟨_, h1, h2, h3⟩ | ⟨h0, _⟩
      · rw [q, h1, h2, h3] at tab; exact tab
      · rw [q] at h0; cases h0
    · rcases hq with ⟨h0, _⟩ | ⟨_, h1, h2, h3⟩
      · rw [q] at h0; cases h0
      · rw [q, h1, h2, h3] at tab; exact tab
  · refine makeFunction_hit (mg := mg) (cv := .ref c₀) hcl S.ok.glob T.g hcode C e (by simp [TriplesOk, rawInt]) (by simp [codeAmong, rawInt]) ⟨bm, ob, b1, b2, hbG, hbP e, b3, b4, b5, b6⟩ fun ctv doc h' tk hk hs => ?_
    have gr : Gr z s.heap z h' := Gr.keeps S.sub hk hs
    exact h _ doc _ c₀ ctv _ tk (gr.trans (Gr.push gr.sub _)) hs (Heap.get?_push_size _ rfl) ((rec.keeps hk).keeps fun b o q => Heap.get?_push_of_some _ q)
theorem sx_def {i : Nat} {rest : List Stmt} {R : Flow → Z → Heap → Prop} (hx : Sto c i name) (hcl : closureFor scope c.env = pure clos) (hcode : c.env.code = .ref cc) (hC : (cc = 48 ∧ P = 44) ∨ (cc = 41 ∧ P = 37))
    (hqual : qualnameIn c.env name name = qual)
    (hq : (P = 44 ∧ pos.line = 50 ∧ pos.col = 4 ∧ qual = Str.ofString "_digits2int.<locals>.inner") ∨ (P = 37 ∧ pos.line = 35 ∧ pos.col = 4 ∧ qual = Str.ofString "_int2digits.<locals>.inner"))
    (hd0 : params.defaults = []) (hk0 : params.kw_defaults = []) (ha : annTrees params none c.env = []) (hN : σ.length = c.N.length)
    (hr : ∀ f doc pm c' ctv oc vs t, oc.data = .fields vs → vs[1]? = some (.str qual t) → Sx ((c.pin (f, fnMade name qual params body scope clos doc pm c' ctv)).pin (c', oc)) A (σ.set i (some (.val (.ref f)))) rest R) :
    Sx c A σ (.FunctionDef name params body [] none [] scope none name pos :: rest) R := .mk fun s z E Q S q => by
  refine wpAny_execs_cons (nestDef_K hd0 hk0 ha ?_)
  rw [hqual]
  have C : CodeHd s.heap cc P := by
    rcases hC with ⟨rfl, rfl⟩ | ⟨rfl, rfl⟩
    · exact S.gd.c1.keeps fun _ _ e => of_hideAll _ e
    · exact S.gd.c2.keeps fun _ _ e => of_hideAll _ e
  refine make_fn S hcl hcode C (by rcases hC with ⟨_, h⟩ | ⟨_, h⟩; exact .inl h; exact .inr h) hq fun f doc pm c' ctv h' tk g hf ho hrec => ?_
  have S' := S.grow g
  have hown : ∀ (j : Nat) a ds, σ[j]? = some (some (.own a ds)) → ∃ vs n, h'.get? a = some (lobj vs n) := fun j a ds e => by
    have hlt : j < c.N.length := hN ▸ getElem?_lt e
    obtain ⟨_, _, vs, n, e1, _⟩ := S'.owned (List.getElem?_eq_getElem hlt) e
    exact ⟨vs, n, e1⟩
  have old : ∀ {b : Addr} {o : Obj}, s.heap.get? b = some o → f ≠ b := fun e q => absurd (Heap.lt_size e) (by rw [← q]; exact Nat.not_lt.mpr hf)
  have SF : St (c.pin (f, fnMade name qual params body scope clos doc pm c' ctv)) σ z h' := by
    refine S'.repin ho ?_ ?_ ?_ ?_ (Z.none_of_sub S.sub (Heap.get?_none_of_le hf)) ?_
    · obtain ⟨m, ⟨o, es, ep, e, _⟩, _⟩ := S.vars; exact old e
    · intro x a e; obtain ⟨_, v, o, e1, _⟩ := S.cl x a e; exact old e1
    · intro q; exact absurd S.gd.t1.lt (by rw [← q]; exact Nat.not_lt.mpr hf)
    · intro q; exact absurd S.gd.t2.lt (by rw [← q]; exact Nat.not_lt.mpr hf)
    · intro j a ds e q
      obtain ⟨vs, n, e1⟩ := hown j a ds e
      rw [← q, ho] at e1
      have := congrArg Obj.data (Option.some.inj e1); cases this
  obtain ⟨c₂, oc, vs, t, e2, hoc, hd, hv⟩ := hrec
  cases e2
  have SC : St ((c.pin (f, fnMade name qual params body scope clos doc pm c' ctv)).pin (c', oc)) σ z h' := by
    refine SF.repin hoc ?_ ?_ ?_ ?_ ?_ ?_
    · obtain ⟨m, ⟨o, es, ep, e, hd', _⟩, _⟩ := S'.vars
      intro q; rw [show c' = c.env.locals from q] at hoc; rw [hoc] at e; cases e; rw [hd] at hd'; cases hd'
    · intro x a e q; obtain ⟨_, v, o, e1, e2⟩ := S'.cl x a e
      rw [show c' = a from q] at hoc; rw [hoc] at e1; cases e1; rw [hd] at e2; cases e2
    · intro q
      rw [show c' = 44 from q] at hoc
      rcases S'.gd.t1 with e | ⟨_, e, _⟩ <;> (rw [hoc] at e; cases e; cases hd; cases hv)
    · intro q
      rw [show c' = 37 from q] at hoc
      rcases S'.gd.t2 with e | ⟨_, e, _⟩ <;> (rw [hoc] at e; cases e; cases hd; cases hv)
    · cases e : z c' with
      | none => rfl
      | some o =>
        have e3 := S'.sub _ _ e
        rw [hoc] at e3; cases e3
        exact absurd hd (S.zt _ _ e _)
    · intro j a ds e q
      obtain ⟨vs', n, e1⟩ := hown j a ds e
      rw [show c' = a from q] at hoc; rw [hoc] at e1; cases e1; cases hd
  refine store (c := (c.pin (f, fnMade name qual params body scope clos doc pm c' ctv)).pin (c', oc)) (u := .val (.ref f)) ⟨hx.at', hx.kind⟩ SC rfl trivial fun h₂ t₂ S₂ => ?_
  exact (hr f doc pm c' ctv oc vs t hd hv).run _ z E Q S₂ fun fl h₃ t₃ z₃ le p => q fl h₃ t₃ z₃ le p
end
end Mine

-- V18
namespace Mine
structure Clo (z : Z) (h : Heap) (f : Addr) (fd : FuncData) (fv : List (Str × V)) : Prop where
  fn : h.get? f = some { cls := .type "function", data := .func fd }
  code : h.CodeRec fd.code fd.qualname
  cl : ∀ x a, fd.closure.lookup x = some a → z a = none ∧ ∃ v, h.IsCell a v
  inj : ∀ x y a, fd.closure.lookup x = some a → fd.closure.lookup y = some a → x = y
  fv : ∀ x u, (x, u) ∈ fv → ∃ a v, fd.closure.lookup x = some a ∧ h.IsCell a (some v) ∧ Arg z v u
theorem code_up {w : World} {h h' : Heap} (g : Gd w h) (x : Ext h h') {v : Value} {q : Str} (r : h.CodeRec v q) : h'.CodeRec v q := by
  obtain ⟨c', oc, vs, t, e, hoc, hd, hv⟩ := r
  refine ⟨c', oc, vs, t, e, x.keep _ _ (fun q => ?_) (fun q => ?_) hoc, hd, hv⟩
  · subst q
    rcases g.t1 with e | ⟨_, e, _⟩ <;> (rw [hoc] at e; cases e; cases hd; cases hv)
  · subst q
    rcases g.t2 with e | ⟨_, e, _⟩ <;> (rw [hoc] at e; cases e; cases hd; cases hv)
noncomputable abbrev cxX (w : World) (qual : Str) (scope : Scope) (f : Addr) (cdv : Value) (cl : List (Str × Addr)) (N : List Str) (L : Addr) (h0 : Heap) (z0 : Z) (X : List (Addr × Obj)) : Cx := ⟨w, envX qual scope L f cdv cl, N, h0, z0, X⟩
section
variable {w : World} {A : Around} {s : Shared} {z : Z} {R : Result → Shared → Prop} {name qual : Str} {params : Arguments} {body : List Stmt} {scope : Scope} {doc pm cdv ct : Value} {f : Addr} {args : List Value} {binds : List (Str × Value)} {cl : List (Str × Addr)} {fv : List (Str × V)}
theorem enter_clo {N : List Str} {us : List (Option V)} {P : Value → Z → Prop} (rm : A.depth < recursionLimit) (g : Gd w s.heap) (k : Z.sub z s.heap) (zt : z.Nf) (C : Clo z s.heap f (fnX name qual params body scope cl .none .none doc pm none cdv ct) fv)
    (hbind : BindsTo s (fnX name qual params body scope cl .none .none doc pm none cdv ct) ⟨args, []⟩ binds) (hloc : ∀ y ∈ binds, scope.names.lookup y.1 = some .local) (hcell : ∀ x ∈ scope.names, x.2 ≠ .cell)
    (hN : N.Nodup) (hlen : us.length = N.length) (hv : ∀ (i : Nat) x u, N[i]? = some x → us[i]? = some (some u) → (scope.names.lookup x = some .local ∧ ∃ v, binds.reverse.lookup x = some v ∧ Arg z v u) ∨ (scope.names.lookup x = some .free ∧ (x, u) ∈ fv))
    (hb : Sx (cxX w qual scope f cdv cl N s.heap.objs.size s.heap z []) (A.deeper (envX qual scope s.heap.objs.size f cdv cl)) us body (Rt (cxX w qual scope f cdv cl N s.heap.objs.size s.heap z []) P))
    (h : ∀ r h' tk z', Gr z s.heap z' h' → P r z' → R (.ok (.ret r)) { s with heap := h', toks := tk })
    (hco : scope.isCoroutine = false := by rfl) (hgen : scope.isGenerator = false := by rfl) (hk : scope.kind = .function := by rfl) : codeAny (model PR w) A (.call (.ref f) ⟨args, []⟩) R s := by
  obtain ⟨p, l, me, mg, mb, T⟩ := g.T
  refine codeAny_call_def (fd := fnX name qual params body scope cl .none .none doc pm none cdv ct) (body := body) (binds := binds) rm C.fn rfl T.nolimit C.code rfl hbind hcell hloc (fun h₁ hns hk₁ => ?_) hco hgen hk
  have hsz : s.heap.objs.size ≤ h₁.objs.size := Nat.le_of_lt hns.lt
  have own : ∀ (i : Nat) a ds, us[i]? = some (some (.own a ds)) → False := fun i a ds e => by
    have hlt : i < N.length := hlen ▸ getElem?_lt e
    rcases hv i _ _ (List.getElem?_eq_getElem hlt) e with ⟨_, v, _, r⟩ | ⟨_, m⟩
    · exact r.elim
    · obtain ⟨_, _, _, _, r⟩ := C.fv _ _ m; exact r.elim
  have S : St (cxX w qual scope f cdv cl N s.heap.objs.size s.heap z []) us z h₁ := by
    refine ⟨⟨hk, rfl, rfl, Nat.le_refl _, fun x y a e e' => C.inj x y a e e', hN, zt⟩, .of_keeps hk₁ hsz, g, fun a o e => hk₁ _ _ (k a o e), .refl z, fun a o e => .inl e, ⟨_, hns, fun i x u hx hu => ?_⟩, Z.none_of_sub k (get?_size _), fun x a e => ?_,
      fun p hp => (nomatch hp), fun i j a ds b es h1 _ _ => (own i a ds h1).elim, fun i a ds _ p hp => (nomatch hp)⟩
    · have fin : ∀ v, Slot (envX qual scope s.heap.objs.size f cdv cl) (fun x => binds.reverse.lookup x) h₁ x v → Arg z v u → At (cxX w qual scope f cdv cl N s.heap.objs.size s.heap z []) (fun x => binds.reverse.lookup x) z h₁ x u := fun v sl r => by
        cases u with
        | dat d => exact ⟨v, sl, r⟩
        | own a ds => exact r.elim
        | ws cs nt => exact ⟨v, sl, r⟩
        | val u => cases r; exact sl
      rcases hv i x u hx hu with ⟨e1, v, e2, r⟩ | ⟨e1, m⟩
      · exact fin v (.inl ⟨e1, e2⟩) r
      · obtain ⟨a, v, e2, e3, r⟩ := C.fv _ _ m
        exact fin v (.inr ⟨.inr e1, a, e2, e3.keeps hk₁⟩) r
    · obtain ⟨z1, v, c1⟩ := C.cl x a e
      exact ⟨z1, v, c1.keeps hk₁⟩
  refine hb.run _ z _ _ S fun fl h' tk z' le p => ?_
  obtain ⟨v, rfl, _, pv, gr⟩ := p
  exact h _ h' tk z' gr pv
theorem Clo.of_st {N : List Str} {σ : List (Option V)} {h : Heap} {L : Addr} {h0 : Heap} {z0 : Z} {X : List (Addr × Obj)} {fv' : List (Str × V)} (S : St (cxX w qual scope f cdv cl N L h0 z0 X) σ z h) (C : Clo z0 h0 f (fnX name qual params body scope cl .none .none doc pm none cdv ct) fv)
    (hv : ∀ x u, (x, u) ∈ fv' → scope.names.lookup x = some .free ∧ notOwn u ∧ ∃ i : Nat, N[i]? = some x ∧ σ[i]? = some (some u)) : Clo z h f (fnX name qual params body scope cl .none .none doc pm none cdv ct) fv' := by
  refine ⟨S.gd0.up S.ext C.fn (fun ps q => ?_), code_up S.gd0 S.ext C.code, fun x a e => S.cl x a e, C.inj, fun x u m => ?_⟩
  · have := congrArg Obj.data q; cases this
  · obtain ⟨e1, no, i, hi, hs⟩ := hv x u m
    obtain ⟨mm, hm, hvs⟩ := S.vars
    have at' := hvs i x u hi hs
    have sl : ∀ {v}, Slot (envX qual scope L f cdv cl) mm h x v → ∃ a, cl.lookup x = some a ∧ h.IsCell a (some v) := fun q => by
      rcases q with ⟨q1, _⟩ | ⟨_, a, q2, q3⟩
      · rw [show (envX qual scope L f cdv cl).kindOf x = scope.names.lookup x from rfl, e1] at q1; cases q1
      · exact ⟨a, q2, q3⟩
    cases u with
    | dat d => obtain ⟨v, q, r⟩ := at'; obtain ⟨a, h1, h2⟩ := sl q; exact ⟨a, v, h1, h2, r⟩
    | own a ds => exact no.elim
    | ws cs nt => obtain ⟨v, q, r⟩ := at'; obtain ⟨a, h1, h2⟩ := sl q; exact ⟨a, v, h1, h2, r⟩
    | val v => obtain ⟨a, h1, h2⟩ := sl at'; exact ⟨a, v, h1, h2, rfl⟩
theorem Clo.of_outer {c : Cx} {σ : List (Option V)} {h : Heap} {c' : Addr} {ctv : Value} {oc : Obj} {vs : Array Value} {t : Tok} {fv' : List (Str × V)} (S : St c σ z h) (hcl : closureFor scope c.env = pure cl) (hf : (f, fnMade name qual params body scope cl doc pm c' ctv) ∈ c.X) (hc : (c', oc) ∈ c.X)
    (hd : oc.data = .fields vs) (hv1 : vs[1]? = some (.str qual t))
    (hv : ∀ x u, (x, u) ∈ fv' → (c.env.kindOf x = some .cell ∨ c.env.kindOf x = some .free) ∧ (cl.lookup x).isSome = true ∧ notOwn u ∧ ∃ i : Nat, c.N[i]? = some x ∧ σ[i]? = some (some u)) :
    Clo z h f (fnX name qual params body scope cl .none .none doc pm none (.ref c') ctv) fv' := by
  have cc : ∀ x a, cl.lookup x = some a → c.env.cells.lookup x = some a := fun x a e => closure_sub hcl (x, a) (mem_lookup e)
  refine ⟨(S.pin _ hf).1, ⟨c', oc, vs, t, rfl, (S.pin _ hc).1, hd, hv1⟩, fun x a e => S.cl x a (cc x a e), fun x y a e e' => S.ok.inj x y a (cc x a e) (cc y a e'), fun x u m => ?_⟩
  obtain ⟨e1, e2, no, i, hi, hs⟩ := hv x u m
  obtain ⟨a, ha⟩ := Option.isSome_iff_exists.mp e2
  obtain ⟨mm, hm, hvs⟩ := S.vars
  have at' := hvs i x u hi hs
  have sl : ∀ {v}, Slot c.env mm h x v → h.IsCell a (some v) := fun q => by
    rcases q with ⟨q1, _⟩ | ⟨_, a', q2, q3⟩
    · rcases e1 with q | q <;> (rw [q1] at q; cases q)
    · rw [cc x a ha] at q2; cases q2; exact q3
  cases u with
  | dat d => obtain ⟨v, q, r⟩ := at'; exact ⟨a, v, ha, sl q, r⟩
  | own a ds => exact no.elim
  | ws cs nt => obtain ⟨v, q, r⟩ := at'; exact ⟨a, v, ha, sl q, r⟩
  | val v => exact ⟨a, v, ha, sl at', rfl⟩
end
theorem ev_clo {c : Cx} {A : Around} {σ : List (Option V)} {i : Nat} {x : Str} {px pos : Pos} {f : Addr} {e : Expr} {es : List Expr} {As : List Value → Z → Prop} {P : Value → Z → Prop} (hx : c.N[i]? = some x) (hi : σ[i]? = some (some (.val (.ref f)))) (ha : EvL c A σ (e :: es) As)
    (hfn : ∀ z h, St c σ z h → FnAt f h)
    (F : ∀ (s : Shared) (z : Z) (args : List Value) (R : Result → Shared → Prop), St c σ z s.heap → As args z → (∀ r h' tk z', Gr z s.heap z' h' → P r z' → R (.ok (.ret r)) { s with heap := h', toks := tk }) → codeAny (model PR c.w) A (.call (.ref f) ⟨args, []⟩) R s)
    (hdb : (x == ("__debug__" : Str)) = false := by decide) (hn : (x == ("__classdict__" : Str)) = false := by decide)
    (he : starEach (e :: es) c.env = (false, eval e c.env) :: starEach es c.env := by rfl) (hplain : (backTo pos (starEach es c.env)).any (·.1) = false := by rfl) : Ev c A σ (.Call (.Name x px) (e :: es) [] pos) P := .mk fun s z E Q S q => by
  refine Call_Name rfl ((ev_name_val hx hi hdb hn).run s z E _ S fun v h' tk z' g p => ?_)
  subst p
  have S' := S.grow g
  refine callWith_F (hfn _ _ S') ?_ he hplain
  refine ha.run _ z' pos E _ S' fun vs h₂ t₂ z₂ g₂ p₂ => ⟨hfn _ _ (S'.grow g₂), ?_⟩
  rw [List.nil_append]
  exact wpAny_call (F _ z₂ vs _ (S'.grow g₂) p₂ fun r h₃ t₃ z₃ g₃ p₃ => q r h₃ t₃ z₃ ((g.trans g₂).trans g₃) p₃)
end Mine

-- P0
namespace Mine
noncomputable def dval (n : Nat) : List Nat → Nat
  | [] => 0
  | d :: r => d + 2 ^ n * dval n r
noncomputable abbrev natsD (ns : List Nat) : List PyData := ns.map fun (k : Nat) => .int (k : Int)
noncomputable def seg (ns : List Nat) (L R : Nat) : List Nat := (ns.drop L).take (R - L)
theorem dval_append (n : Nat) : ∀ xs ys : List Nat, dval n (xs ++ ys) = dval n xs + 2 ^ (n * xs.length) * dval n ys
  | [], ys => by simp [dval]
  | d :: r, ys => by
    rw [List.cons_append, dval, dval, dval_append n r ys, List.length_cons, Nat.mul_add, Nat.mul_succ, Nat.pow_add, Nat.mul_comm (2 ^ (n * r.length)) (2 ^ n), Nat.mul_assoc, Nat.add_assoc]
theorem dval_lt (n : Nat) : ∀ xs : List Nat, (∀ d ∈ xs, d < 2 ^ n) → dval n xs < 2 ^ (n * xs.length)
  | [], _ => by simp [dval]
  | d :: r, h => by
    have h1 := h d (.head _)
    have h2 := dval_lt n r fun d hd => h d (.tail _ hd)
    rw [dval, List.length_cons, Nat.mul_succ, Nat.pow_add, Nat.mul_comm (2 ^ (n * r.length))]
    calc d + 2 ^ n * dval n r < 2 ^ n + 2 ^ n * dval n r := by lia
      _ = 2 ^ n * (dval n r + 1) := by rw [Nat.mul_succ]; lia
      _ ≤ 2 ^ n * 2 ^ (n * r.length) := Nat.mul_le_mul_left _ h2
theorem seg_split (ns : List Nat) {L m R : Nat} (h1 : L ≤ m) (h2 : m ≤ R) : seg ns L R = seg ns L m ++ seg ns m R := by
  unfold seg
  have e : R - L = (m - L) + (R - m) := by lia
  rw [e, List.take_add, List.drop_drop, show L + (m - L) = m by lia]
theorem seg_len (ns : List Nat) {L R : Nat} (h : R ≤ ns.length) : (seg ns L R).length = R - L := by
  unfold seg; rw [List.length_take, List.length_drop]; lia
theorem seg_mem {ns : List Nat} {L R d : Nat} (h : d ∈ seg ns L R) : d ∈ ns := List.mem_of_mem_drop (List.mem_of_mem_take h)
theorem seg_one {ns : List Nat} {L : Nat} (h : L < ns.length) : seg ns L (L + 1) = [ns[L]] := by
  unfold seg
  rw [show L + 1 - L = 1 by lia, List.drop_eq_getElem_cons h, List.take_succ_cons, List.take_zero]
theorem seg_all (ns : List Nat) : seg ns 0 ns.length = ns := by
  unfold seg; simp
theorem intBits_le {a : Int} {k : Nat} (h : a.natAbs < 2 ^ k) : Builtin.Int.intBits a ≤ k := by
  unfold Builtin.Int.intBits
  split
  · exact Nat.zero_le _
  · rename_i h0
    have h1 : a.natAbs ≠ 0 := by intro q; apply h0; simp; lia
    exact (Nat.log2_lt h1).mpr h
theorem intBits_nat_le {a k : Nat} (h : a < 2 ^ k) : Builtin.Int.intBits (a : Int) ≤ k := intBits_le (by simpa using h)
theorem lt_intBits (a : Nat) : a < 2 ^ Builtin.Int.intBits (a : Int) := by
  unfold Builtin.Int.intBits
  split
  · rename_i h; have : a = 0 := by simpa using h
    subst this; decide
  · have := Nat.lt_log2_self (n := a)
    simpa using this
theorem mid_in {L R : Nat} (h : L < R) (hb : ¬ L + 1 = R) : L < (L + R) / 2 ∧ (L + R) / 2 < R := by lia
structure Mid (L M R : Nat) : Prop where
  a1 : M - L ≤ R - L - 1
  a2 : 3 * (M - L) + 4 ≤ 3 * (R - L) + 1
  a3 : M - L < R - L
  a4 : R - M ≤ R - L - 1
  a5 : 3 * (R - M) + 4 ≤ 3 * (R - L) + 1
  a6 : R - M < R - L
  a7 : R - L = M - L + (R - M)
  a8 : R - M + (M - L) = R - L
  a9 : L + (M - L) = M
theorem mid_of {L M R : Nat} (h1 : L < M) (h2 : M < R) : Mid L M R := ⟨by lia, by lia, by lia, by lia, by lia, by lia, by lia, by lia, by lia⟩
theorem span1 {L R : Nat} (h : L < R) : R - L - 1 + 1 ≤ R - L := Nat.le_of_eq (Nat.sub_add_cancel (Nat.sub_pos_of_lt h))
theorem mulok_r {a : Int} {n : Nat} (h : n ≤ 1000) : IntMulOk a (n : Int) := .of_right (intBits_le_64 (by lia) (by lia))
theorem bits_shift {b n k : Nat} (h1 : b ≤ n) (h2 : n ≤ 1000 * 100) (h3 : k ≤ 100 * 1000) : (b : Int) + (k : Int) ≤ 2 ^ 27 := by lia
theorem natsD_at {l : List Nat} {k : Nat} (h : k < l.length) : (natsD l)[k]? = some (.int ((l.getD k 0 : Nat) : Int)) := by
  rw [List.getElem?_map, List.getD_eq_getElem?_getD, List.getElem?_eq_getElem h]; rfl
theorem natsD_len (l : List Nat) : (natsD l).length = l.length := List.length_map ..
theorem upTo_len (a : Int) (n : Nat) : (upTo a n).length = n := by simp [upTo]
theorem small_len {α : Type} {l : List α} {n k : Nat} (h : l.length ≤ n) (hk : n ≤ k) : l.length ≤ k := Nat.le_trans h hk
theorem getLast_at {r : List Nat} (h : r ≠ []) : (natsD r)[((-1 : Int) + ((natsD r).length : Int)).toNat]? = some (.int (r.getLast! : Nat)) := by
  have lp : 0 < r.length := List.length_pos_iff.mpr h
  have el : (natsD r).length = r.length := List.length_map ..
  have e1 : ((-1 : Int) + ((natsD r).length : Int)).toNat = r.length - 1 := by rw [el]; lia
  rw [e1, List.getElem?_map, List.getElem?_eq_getElem (show r.length - 1 < r.length by lia)]
  rw [show r.getLast! = r[r.length - 1]'(by lia) from ?_]; rfl
  rw [List.getLast!_eq_getLast?_getD, List.getLast?_eq_some_getLast h, List.getLast_eq_getElem]; rfl
end Mine

-- F3
namespace Mine
noncomputable def CloFn (w : World) (f : Addr) (fd : FuncData) (fv : List (Str × V)) (d u : Nat) (As : List Value → Z → Prop) (P : Value → Z → Prop) : Prop :=
  ∀ (A : Around) (s : Shared) (z : Z) (args : List Value) (R : Result → Shared → Prop), Rm A d u → Gd w s.heap → Z.sub z s.heap → z.Nf → Clo z s.heap f fd fv → As args z →
    (∀ r h' tk z', Gr z s.heap z' h' → P r z' → R (.ok (.ret r)) { s with heap := h', toks := tk }) → codeAny (model PR w) A (.call (.ref f) ⟨args, []⟩) R s
theorem clo_wf {w : World} {f : Addr} {fd : FuncData} {fv : List (Str × V)} (As : Nat → Nat → List Value → Z → Prop) (P : Nat → Nat → Value → Z → Prop) (ok : Nat → Nat → Prop)
    (step : ∀ L R, ok L R → (∀ L' R', ok L' R' → R' - L' < R - L → CloFn w f fd fv (R' - L') (3 * (R' - L') + 4) (As L' R') (P L' R')) → CloFn w f fd fv (R - L) (3 * (R - L) + 4) (As L R) (P L R)) :
    ∀ L R, ok L R → CloFn w f fd fv (R - L) (3 * (R - L) + 4) (As L R) (P L R) := by
  have H : ∀ k L R, R - L ≤ k → ok L R → CloFn w f fd fv (R - L) (3 * (R - L) + 4) (As L R) (P L R) := by
    intro k
    induction k with
    | zero => intro L R h ho; exact step L R ho fun L' R' _ hlt => absurd hlt (by lia)
    | succ k ih => intro L R h ho; exact step L R ho fun L' R' ho' hlt => ih L' R' (by lia) ho'
  intro L R ho
  exact H _ L R (Nat.le_refl _) ho
noncomputable abbrev sInner := Str.ofString "inner"
theorem fn_d2i {w : World} {ns : List Nat} {n : Nat} (hn : n ≤ 1000) (hl : ns.length ≤ 100) (hd : ∀ d ∈ ns, d < 2 ^ n) : Fn w 49 (ns.length + 3) (3 * ns.length + 20) (Ds [.list (natsD ns), .int (n : Int)]) (D (.int (dval n ns : Nat))) := .mk fun A s z args R rm g k zt ha q => by
  obtain ⟨v1, v2, r1, r2, rfl⟩ := two_args ha
  refine enter_cells (N := [Str.ofString "digits", Str.ofString "n", Str.ofString "inner"]) (us := [some (.dat (.list (natsD ns))), some (.dat (.int n)), none]) (Nat.lt_of_le_of_lt (Nat.le_add_right _ _) rm.dp) g k zt (by k_is) (by k_is) (BindsTo.of_eq rfl) rfl (by decide) rfl ?_ ?_ q
  · exact slots_some ⟨v1, r1, .inr ⟨rfl, rfl, rfl⟩⟩ (slots_some ⟨v2, r2, .inr ⟨rfl, rfl, rfl⟩⟩ (slots_none slots_nil))
  · have rm2 := fun env => Rm.deeper (d := ns.length + 2) (u := 3 * ns.length + 17) (env := env) rm
    refine sx_def (i := 2) (P := 44) (cc := 48) ⟨rfl, .inr ⟨rfl, _, rfl, ?_⟩⟩ rfl rfl (.inl ⟨rfl, rfl⟩) rfl (.inl ⟨rfl, rfl, rfl, rfl⟩) rfl rfl rfl rfl ?_
    · exact Nat.le_trans (Nat.le_succ _) (by simp)
    intro f doc pm c' ctv oc vs t hoc hvs
    have e1 : (natsD ns).length = ns.length := List.length_map ..
    refine sx_return (ev_ifexp (ts_list (ev_name (i := 0) rfl rfl) (by rw [e1]; lia)) (fun hb => ?_) fun hb => ?_)
    · have hpos : 0 < ns.length := by rw [e1] at hb; simpa using hb
      refine ev_clo (i := 2) (P := D (.int (dval n ns : Nat))) rfl rfl (evl_cons ev_int (evl_cons (ev_bf (bf_len (by rw [e1]; lia)) rfl (by k_is) boot_len (evl_cons (ev_name (i := 0) rfl rfl) evl_nil)) evl_nil)) (fun z h S => ⟨_, _, _, _, (S.pin _ (.tail _ (.head _))).1⟩) fun s z args R S ha q => ?_
      have q' : ∀ r h' tk z', Gr z s.heap z' h' → D (.int (dval n (seg ns 0 ns.length) : Nat)) r z' → R (.ok (.ret r)) { s with heap := h', toks := tk } := by rw [seg_all]; exact q
      refine clo_wf (fv := [(Str.ofString "digits", .dat (.list (natsD ns))), (Str.ofString "n", .dat (.int n)), (sInner, .val (.ref f))]) (fun L R => Ds [.int (L : Int), .int (R : Int)]) (fun L R => D (.int (dval n (seg ns L R) : Nat))) (fun L R => L < R ∧ R ≤ ns.length) ?_ 0 ns.length ⟨hpos, Nat.le_refl _⟩ _ s z args R
        ((rm2 _).mono (by lia) (by lia)) S.gd S.sub S.zt (Clo.of_outer S rfl (.tail _ (.head _)) (.head _) hoc hvs ?_) (by rw [e1] at ha; exact ha) q'
      · intro L R ⟨hLR, hRl⟩ IH A s z args R' rm g k zt C ha q
        obtain ⟨v1, v2, r1, r2, rfl⟩ := two_args ha
        refine enter_clo (N := [Str.ofString "L", Str.ofString "R", Str.ofString "digits", Str.ofString "n", Str.ofString "inner", Str.ofString "mid", Str.ofString "shift"]) (us := [some (.dat (.int L)), some (.dat (.int R)), some (.dat (.list (natsD ns))), some (.dat (.int n)), some (.val (.ref f)), none, none])
          (Nat.lt_of_le_of_lt (Nat.le_add_right _ _) rm.dp) g k zt C (BindsTo.of_eq rfl) (all_loc rfl) (by decide) (by decide) rfl ?_ ?_ q
        · exact slots_some (.inl ⟨rfl, v1, rfl, r1⟩) (slots_some (.inl ⟨rfl, v2, rfl, r2⟩) (slots_some (.inr ⟨rfl, .head _⟩) (slots_some (.inr ⟨rfl, .tail _ (.head _)⟩) (slots_some (.inr ⟨rfl, .tail _ (.tail _ (.head _))⟩) (slots_none (slots_none slots_nil))))))
        · have tst : ∀ {c : Cx} {A : Around} {us : List (Option V)} {p1 p2 p3 p4 p5 : Pos} {k1 : Nat}, c.N[0]? = some (Str.ofString "L") → c.N[1]? = some (Str.ofString "R") → us[0]? = some (some (.dat (.int L))) → us[1]? = some (some (.dat (.int R))) →
              Ts c A us (.Compare (.BinOp (.Name (Str.ofString "L") p1) .Add (.Constant (.int 1) k1 p2) p3) [.Eq] [.Name (Str.ofString "R") p4] p5) (decide (L + 1 = R)) := fun h1 h2 h3 h4 => by
            refine (ts_cmp (ev_bin (ev_name (i := 0) h1 h3) ev_int add_i) (ev_name (i := 1) h2 h4) eq_i).to ?_
            by_cases e : L + 1 = R
            · rw [decide_eq_true e, beq_iff_eq]; lia
            · rw [decide_eq_false e, beq_eq_false_iff_ne]; lia
          refine sx_ifret (tst rfl rfl rfl rfl) (fun hb => ?_) fun hb => ?_
          · have hb : L + 1 = R := by simpa using hb
            refine sx_returnR (ev_item (ev_name (i := 2) rfl rfl) (ev_name (i := 0) rfl rfl) (by lia) (by lia) ?_)
            have hlt : L < ns.length := by lia
            rw [← hb, seg_one hlt, Int.toNat_natCast, List.getElem?_map, List.getElem?_eq_getElem hlt]
            simp [dval]
          · have hb : ¬ L + 1 = R := by simpa using hb
            have rm3 := fun env => Rm.deeper (d := R - L - 1) (u := 3 * (R - L) + 1) (env := env) (rm.mono (span1 hLR) (Nat.le_refl _))
            have ⟨hm1, hm2⟩ := mid_in hLR hb
            have md := mid_of hm1 hm2
            have hR2 : R ≤ 100 := Nat.le_trans hRl hl
            have hM1 : (L + R) / 2 - L ≤ 100 := Nat.le_trans (Nat.sub_le _ _) (Nat.le_trans (Nat.le_of_lt hm2) hR2)
            have es : ((((L + R) / 2 : Nat) : Int) - (L : Int)) * (n : Int) = ((((L + R) / 2 - L) * n : Nat) : Int) := by push_cast; rw [Int.ofNat_sub (Nat.le_of_lt hm1)]; push_cast; rfl
            have lo : ∀ {a b : Nat}, b ≤ ns.length → dval n (seg ns a b) < 2 ^ (n * (b - a)) := fun {a b} hb => by
              have := dval_lt n (seg ns a b) fun d h => hd d (seg_mem h)
              rw [seg_len ns hb] at this; exact this
            refine sx_step (sx1_assign (i := 5) (d := .int (((L + R) / 2 : Nat) : Int)) ⟨rfl, .inl rfl⟩ ((ev_bin (ev_bin (ev_name (i := 0) rfl rfl) (ev_name (i := 1) rfl rfl) add_i) ev_int (shr_i (by decide))).to (congrArg PyData.int (fdiv_nat (L + R) 2)))) ?_
            refine sx_step (sx1_assign (i := 6) ⟨rfl, .inl rfl⟩ ((ev_bin (ev_bin (ev_name (i := 5) rfl rfl) (ev_name (i := 0) rfl rfl) sub_i) (ev_name (i := 3) rfl rfl) (mul_i (mulok_r hn))).to (congrArg PyData.int es))) ?_
            have key : (dval n (seg ns ((L + R) / 2) R) : Int) * 2 ^ ((((L + R) / 2 - L) * n : Nat) : Int).toNat + (dval n (seg ns L ((L + R) / 2)) : Int) = ((dval n (seg ns L R) : Nat) : Int) := by
              rw [seg_split ns (Nat.le_of_lt hm1) (Nat.le_of_lt hm2), dval_append, seg_len ns (Nat.le_trans (Nat.le_of_lt hm2) hRl), Int.toNat_natCast, Nat.mul_comm n, Nat.mul_comm (2 ^ _)]
              push_cast; lia
            refine sx_return ((ev_bin (ev_bin (ev_clo (i := 4) (P := D (.int (dval n (seg ns ((L + R) / 2) R) : Nat))) rfl rfl (evl_cons (ev_name (i := 5) rfl rfl) (evl_cons (ev_name (i := 1) rfl rfl) evl_nil)) ?_ fun s z args R'' S ha q => ?_) (ev_name (i := 6) rfl rfl) (shl_i (Int.natCast_nonneg _) ?_))
              (ev_clo (i := 4) (P := D (.int (dval n (seg ns L ((L + R) / 2)) : Nat))) rfl rfl (evl_cons (ev_name (i := 0) rfl rfl) (evl_cons (ev_name (i := 5) rfl rfl) evl_nil)) ?_ fun s z args R'' S ha q => ?_) add_i).to (congrArg PyData.int key))
            · exact fun z h S => ⟨_, _, _, _, S.gd0.up S.ext C.fn (fun ps q => by have := congrArg Obj.data q; cases this)⟩
            · refine IH ((L + R) / 2) R ⟨hm2, hRl⟩ md.a6 _ s z args R'' ((rm3 _).mono md.a4 md.a5) S.gd S.sub S.zt (Clo.of_st S C ?_) ha q
              intro x u m
              simp only [List.mem_cons, List.not_mem_nil, or_false, Prod.mk.injEq] at m
              rcases m with ⟨rfl, rfl⟩ | ⟨rfl, rfl⟩ | ⟨rfl, rfl⟩
              · exact ⟨rfl, trivial, 2, rfl, rfl⟩
              · exact ⟨rfl, trivial, 3, rfl, rfl⟩
              · exact ⟨rfl, trivial, 4, rfl, rfl⟩
            · have h1 := intBits_nat_le (lo (a := (L + R) / 2) hRl)
              have h2 : n * (R - (L + R) / 2) ≤ 1000 * 100 := Nat.mul_le_mul hn (Nat.le_trans (Nat.sub_le _ _) hR2)
              have h3 : ((L + R) / 2 - L) * n ≤ 100 * 1000 := Nat.mul_le_mul hM1 hn
              exact bits_shift h1 h2 h3
            · exact fun z h S => ⟨_, _, _, _, S.gd0.up S.ext C.fn (fun ps q => by have := congrArg Obj.data q; cases this)⟩
            · refine IH L ((L + R) / 2) ⟨hm1, Nat.le_trans (Nat.le_of_lt hm2) hRl⟩ md.a3 _ s z args R'' ((rm3 _).mono md.a1 md.a2) S.gd S.sub S.zt (Clo.of_st S C ?_) ha q
              intro x u m
              simp only [List.mem_cons, List.not_mem_nil, or_false, Prod.mk.injEq] at m
              rcases m with ⟨rfl, rfl⟩ | ⟨rfl, rfl⟩ | ⟨rfl, rfl⟩
              · exact ⟨rfl, trivial, 2, rfl, rfl⟩
              · exact ⟨rfl, trivial, 3, rfl, rfl⟩
              · exact ⟨rfl, trivial, 4, rfl, rfl⟩
      · intro x u m
        simp only [List.mem_cons, List.not_mem_nil, or_false, Prod.mk.injEq] at m
        rcases m with ⟨rfl, rfl⟩ | ⟨rfl, rfl⟩ | ⟨rfl, rfl⟩
        · exact ⟨.inl rfl, rfl, trivial, 0, rfl, rfl⟩
        · exact ⟨.inl rfl, rfl, trivial, 1, rfl, rfl⟩
        · exact ⟨.inl rfl, rfl, trivial, 2, rfl, rfl⟩
    · have : ns = [] := by rw [e1] at hb; simpa using hb
      subst this
      exact ev_int
theorem fn_d2iK {w : World} {ns : List Nat} {n : Nat} (hn : n ≤ 1000) (hl : ns.length ≤ 100) (hd : ∀ d ∈ ns, d < 2 ^ n) : Fn w 49 103 320 (Ds [.list (natsD ns), .int (n : Int)]) (D (.int (dval n ns : Nat))) :=
  (fn_d2i hn hl hd).weak (Nat.add_le_add_right hl 3) (Nat.add_le_add_right (Nat.mul_le_mul_left 3 hl) 20)
end Mine

-- V19
namespace Mine
structure Fs (w : World) (h00 : Heap) (z00 : Z) (X : List (Addr × Obj)) (cl : List (Str × Addr)) (fv : List (Str × V)) (y : Str) (a : Addr) (ds : List PyData) (z : Z) (h : Heap) : Prop where
  ext : Ext h00 h
  gd0 : Gd w h00
  sub : Z.sub z h
  le : Z.le z00 z
  new : ∀ a o, z a = some o → z00 a = some o ∨ (h00.objs.size ≤ a ∧ nf o)
  zt : z00.Nf
  pin : ∀ p ∈ X, h.get? p.1 = some p.2 ∧ (∀ x b, cl.lookup x = some b → p.1 ≠ b) ∧ p.1 ≠ 44 ∧ p.1 ≠ 37 ∧ z p.1 = none ∧ p.1 ≠ a
  cls : ∀ x b, cl.lookup x = some b → z b = none ∧ ∃ v, h.IsCell b v
  inj : ∀ x x' b, cl.lookup x = some b → cl.lookup x' = some b → x = x'
  fvs : ∀ x u, (x, u) ∈ fv → notOwn u ∧ ∃ b v, cl.lookup x = some b ∧ h.IsCell b (some v) ∧ Arg z v u
  own : ∃ b, cl.lookup y = some b ∧ h.IsCell b (some (.ref a))
  za : z a = none
  ge : h00.objs.size ≤ a
  lst : ∃ vs n, h.get? a = some (lobj vs n) ∧ RdAll z vs ds
section
variable {w : World} {A : Around} {z : Z} {h : Heap} {c : Cx} {σ : List (Option V)} {cl : List (Str × Addr)} {fv : List (Str × V)} {y : Str} {a : Addr} {ds : List PyData}
theorem slot_cell {m : Str → Option Value} {x : Str} {v : Value} {b : Addr} (sl : Slot c.env m h x v) (hk : c.env.kindOf x = some .cell ∨ c.env.kindOf x = some .free) (hb : c.env.cells.lookup x = some b) : h.IsCell b (some v) := by
  rcases sl with ⟨q1, _⟩ | ⟨_, a', q2, q3⟩
  · rcases hk with q | q <;> (rw [q1] at q; cases q)
  · rw [hb] at q2; cases q2; exact q3
theorem Fs.of_st (S : St c σ z h) (cc : ∀ x b, cl.lookup x = some b → c.env.cells.lookup x = some b)
    (hv : ∀ x u, (x, u) ∈ fv → (c.env.kindOf x = some .cell ∨ c.env.kindOf x = some .free) ∧ (cl.lookup x).isSome = true ∧ notOwn u ∧ ∃ i : Nat, c.N[i]? = some x ∧ σ[i]? = some (some u))
    {iy : Nat} (hy : c.N[iy]? = some y) (hs : σ[iy]? = some (some (.own a ds))) (hk : c.env.kindOf y = some .cell ∨ c.env.kindOf y = some .free) (hyl : (cl.lookup y).isSome = true) : Fs c.w c.h0 c.z0 c.X cl fv y a ds z h := by
  obtain ⟨m, hm, hvs⟩ := S.vars
  obtain ⟨sl, za, ge, lst⟩ := hvs iy y _ hy hs
  refine ⟨S.ext, S.gd0, S.sub, S.le, S.new, S.ok.zt, fun p hp => ?_, fun x b e => S.cl x b (cc x b e), fun x x' b e e' => S.ok.inj x x' b (cc x b e) (cc x' b e'), fun x u mm => ?_, ?_, za, ge, lst⟩
  · obtain ⟨q1, q2, q3, q4, q5, q6⟩ := S.pin p hp
    exact ⟨q1, fun x b e => q3 x b (cc x b e), q4, q5, q6, S.pid iy a ds hs p hp⟩
  · obtain ⟨e1, e2, no, i, hi, hsi⟩ := hv x u mm
    obtain ⟨b, hb⟩ := Option.isSome_iff_exists.mp e2
    have at' := hvs i x u hi hsi
    refine ⟨no, b, ?_⟩
    cases u with
    | dat d => obtain ⟨v, q, r⟩ := at'; exact ⟨v, hb, slot_cell q e1 (cc x b hb), r⟩
    | own a ds => exact no.elim
    | ws cs nt => obtain ⟨v, q, r⟩ := at'; exact ⟨v, hb, slot_cell q e1 (cc x b hb), r⟩
    | val v => exact ⟨v, hb, slot_cell at' e1 (cc x b hb), rfl⟩
  · obtain ⟨b, hb⟩ := Option.isSome_iff_exists.mp hyl
    exact ⟨b, hb, slot_cell sl hk (cc y b hb)⟩
theorem Fs.pinL {X : List (Addr × Obj)} (F : Fs w c.h0 c.z0 X cl fv y a ds z h) (S : St c σ z h) {o : Obj} (ho : h.get? c.env.locals = some o) (hd : ∃ es n, o.data = .dict es n) : Fs w c.h0 c.z0 ((c.env.locals, o) :: X) cl fv y a ds z h := by
  obtain ⟨es, n, hd⟩ := hd
  refine ⟨F.ext, F.gd0, F.sub, F.le, F.new, F.zt, fun p hp => ?_, F.cls, F.inj, F.fvs, F.own, F.za, F.ge, F.lst⟩
  rcases List.mem_cons.mp hp with rfl | hp
  · refine ⟨ho, fun x b e q => ?_, (S.gd.ne ho (nt_dict hd)).1, (S.gd.ne ho (nt_dict hd)).2, S.zl, fun q => ?_⟩
    · obtain ⟨_, v, oc, e1, e2⟩ := F.cls x b e
      rw [← show c.env.locals = b from q, ho] at e1; cases e1; rw [hd] at e2; cases e2
    · obtain ⟨vs, n, e, _⟩ := F.lst
      rw [← show c.env.locals = a from q, ho] at e; cases e; cases hd
  · exact F.pin p hp
theorem Fs.back {X : List (Addr × Obj)} {z' : Z} {h' : Heap} {ds' : List PyData} {o : Obj} (S : St c σ z h) (hzz : Z.le z z') (ho : h.get? c.env.locals = some o) (hX : X = (c.env.locals, o) :: c.X) (F : Fs c.w c.h0 c.z0 X cl fv y a ds' z' h') (cc : ∀ x b, cl.lookup x = some b → c.env.cells.lookup x = some b)
    (cc' : ∀ x b, c.env.cells.lookup x = some b → cl.lookup x = some b) {iy : Nat} (hy : c.N[iy]? = some y) (hs : σ[iy]? = some (some (.own a ds))) (hk : c.env.kindOf y = some .cell ∨ c.env.kindOf y = some .free)
    (hvars : ∀ (i : Nat) x u, c.N[i]? = some x → σ[i]? = some (some u) → i ≠ iy → notOwn u ∧ (c.env.kindOf x = some .local ∨ ((c.env.kindOf x = some .cell ∨ c.env.kindOf x = some .free) ∧ (x, u) ∈ fv))) (hN : σ.length = c.N.length) : St c (σ.set iy (some (.own a ds'))) z' h' := by
  subst hX
  have pl := F.pin _ (.head _)
  have ownat : ∀ (i : Nat) b es, (σ.set iy (some (.own a ds')))[i]? = some (some (.own b es)) → i = iy ∧ b = a := fun i b es e => by
    rcases get_set e with ⟨q1, q2⟩ | ⟨q1, q2⟩
    · cases q2; exact ⟨q1, rfl⟩
    · have hlt : i < c.N.length := hN ▸ getElem?_lt q2
      exact (hvars i _ _ (List.getElem?_eq_getElem hlt) q2 q1).1.elim
  refine ⟨S.ok, F.ext, S.gd0, F.sub, F.le, F.new, ?_, pl.2.2.2.2.1, fun x b e => F.cls x b (cc' x b e), fun p hp => ?_, fun i j b es b' es' h1 h2 hne => ?_, fun i b es h1 p hp => ?_⟩
  · obtain ⟨m, ⟨o', es, ep, e, hd, hr⟩, hvs⟩ := S.vars
    rw [ho] at e; cases e
    refine ⟨m, ⟨o, es, ep, pl.1, hd, hr⟩, fun i x u hx hu => ?_⟩
    rcases get_set hu with ⟨rfl, rfl⟩ | ⟨hne, hu⟩
    · rw [hy] at hx; cases hx
      obtain ⟨b, hb, hc⟩ := F.own
      exact ⟨.inr ⟨hk, b, cc y b hb, hc⟩, F.za, F.ge, F.lst⟩
    · obtain ⟨no, q | ⟨q, mm⟩⟩ := hvars i x u hx hu hne
      · have at' := hvs i x u hx hu
        have sl : ∀ {v}, Slot c.env m h x v → Slot c.env m h' x v := fun s => by
          rcases s with ⟨q1, q2⟩ | ⟨q1, _⟩
          · exact .inl ⟨q1, q2⟩
          · rcases q1 with q1 | q1 <;> (rw [q] at q1; cases q1)
        cases u with
        | dat d => obtain ⟨v, s, r⟩ := at'; exact ⟨v, sl s, r.mono hzz⟩
        | own a ds => exact no.elim
        | ws cs nt => obtain ⟨v, s, r⟩ := at'; exact ⟨v, sl s, r.mono hzz⟩
        | val v => exact sl at'
      · obtain ⟨_, b, v, hb, hc, r⟩ := F.fvs x u mm
        have sl : Slot c.env m h' x v := .inr ⟨q, b, cc x b hb, hc⟩
        cases u with
        | dat d => exact ⟨v, sl, r⟩
        | own a ds => exact no.elim
        | ws cs nt => exact ⟨v, sl, r⟩
        | val u => cases r; exact sl
  · obtain ⟨q1, q2, q3, q4, q5, q6⟩ := F.pin p (.tail _ hp)
    obtain ⟨r1, r2, r3, _⟩ := S.pin p hp
    exact ⟨q1, r2, r3, q3, q4, q5⟩
  · exact absurd ((ownat i b es h1).1.trans (ownat j b' es' h2).1.symm) hne
  · rw [(ownat i b es h1).2]; exact (F.pin p (.tail _ hp)).2.2.2.2.2
end
section
variable {w : World} {A : Around} {s : Shared} {z : Z} {R : Result → Shared → Prop} {name qual : Str} {params : Arguments} {body : List Stmt} {scope : Scope} {doc pm ctv : Value} {c' f : Addr} {args : List Value} {binds : List (Str × Value)} {cl : List (Str × Addr)} {fv : List (Str × V)}
  {y : Str} {a : Addr} {ds ds' : List PyData} {h00 : Heap} {z00 : Z} {X : List (Addr × Obj)} {oc : Obj} {vs : Array Value} {t : Tok}
theorem enter_mut {N : List Str} {us : List (Option V)} (rm : A.depth < recursionLimit) (F : Fs w h00 z00 X cl fv y a ds z s.heap) (hf : (f, fnMade name qual params body scope cl doc pm c' ctv) ∈ X) (hc : (c', oc) ∈ X) (hd : oc.data = .fields vs) (hv1 : vs[1]? = some (.str qual t))
    (hbind : BindsTo s (fnX name qual params body scope cl .none .none doc pm none (.ref c') ctv) ⟨args, []⟩ binds) (hloc : ∀ y ∈ binds, scope.names.lookup y.1 = some .local) (hcell : ∀ x ∈ scope.names, x.2 ≠ .cell)
    (hN : N.Nodup) (hlen : us.length = N.length) {iy : Nat} (hy : N[iy]? = some y) (hys : us[iy]? = some (some (.own a ds))) (hyk : scope.names.lookup y = some .free)
    (hv : ∀ (i : Nat) x u, N[i]? = some x → us[i]? = some (some u) → i ≠ iy → notOwn u ∧ ((scope.names.lookup x = some .local ∧ ∃ v, binds.reverse.lookup x = some v ∧ Arg z v u) ∨ (scope.names.lookup x = some .free ∧ (x, u) ∈ fv)))
    (hb : Sx (cxX w qual scope f (.ref c') cl N s.heap.objs.size h00 z00 X) (A.deeper (envX qual scope s.heap.objs.size f (.ref c') cl)) us body (fun fl z' h' => (fl = .next ∨ fl = .ret .none) ∧ ∃ us', (∀ x u, (x, u) ∈ fv → ∃ i : Nat, N[i]? = some x ∧ us'[i]? = some (some u) ∧ scope.names.lookup x = some .free) ∧ us'[iy]? = some (some (.own a ds')) ∧
      St (cxX w qual scope f (.ref c') cl N s.heap.objs.size h00 z00 X) us' z' h'))
    (h : ∀ h' tk z', Z.le z z' → Fs w h00 z00 X cl fv y a ds' z' h' → R (.ok (.ret .none)) { s with heap := h', toks := tk })
    (hco : scope.isCoroutine = false := by rfl) (hgen : scope.isGenerator = false := by rfl) (hk : scope.kind = .function := by rfl) : codeAny (model PR w) A (.call (.ref f) ⟨args, []⟩) R s := by
  have g : Gd w s.heap := F.gd0.ext F.ext
  obtain ⟨p, l, me, mg, mb, T⟩ := g.T
  refine codeAny_call_def (fd := fnX name qual params body scope cl .none .none doc pm none (.ref c') ctv) (body := body) (binds := binds) rm (F.pin _ hf).1 rfl T.nolimit ⟨c', oc, vs, t, rfl, (F.pin _ hc).1, hd, hv1⟩ rfl hbind hcell hloc (fun h₁ hns hk₁ => ?_) hco hgen hk
  have hsz : s.heap.objs.size ≤ h₁.objs.size := Nat.le_of_lt hns.lt
  have own : ∀ (i : Nat) b es, us[i]? = some (some (.own b es)) → i = iy ∧ b = a := fun i b es e => by
    by_cases hi : i = iy
    · subst hi; rw [hys] at e; cases e; exact ⟨rfl, rfl⟩
    · have hlt : i < N.length := hlen ▸ getElem?_lt e
      exact (hv i _ _ (List.getElem?_eq_getElem hlt) e hi).1.elim
  have S : St (cxX w qual scope f (.ref c') cl N s.heap.objs.size h00 z00 X) us z h₁ := by
    refine ⟨⟨hk, rfl, rfl, F.ext.size, fun x y a e e' => F.inj x y a e e', hN, F.zt⟩, F.ext.trans (.of_keeps hk₁ hsz), F.gd0, fun a o e => hk₁ _ _ (F.sub a o e), F.le, F.new, ⟨_, hns, fun i x u hx hu => ?_⟩, Z.none_of_sub F.sub (get?_size _), fun x a e => ?_,
      fun p hp => ?_, fun i j b es b' es' h1 h2 hne => absurd ((own i b es h1).1.trans (own j b' es' h2).1.symm) hne, fun i b es h1 p hp => ?_⟩
    · by_cases hi : i = iy
      · subst hi
        rw [hy] at hx; cases hx; rw [hys] at hu; cases hu
        obtain ⟨b, hb, hcc⟩ := F.own
        obtain ⟨vs, n, e, r⟩ := F.lst
        exact ⟨.inr ⟨.inr hyk, b, hb, hcc.keeps hk₁⟩, F.za, F.ge, vs, n, hk₁ _ _ e, r⟩
      · have fin : ∀ v, Slot (envX qual scope s.heap.objs.size f (.ref c') cl) (fun x => binds.reverse.lookup x) h₁ x v → Arg z v u → At (cxX w qual scope f (.ref c') cl N s.heap.objs.size h00 z00 X) (fun x => binds.reverse.lookup x) z h₁ x u := fun v sl r => by
          cases u with
          | dat d => exact ⟨v, sl, r⟩
          | own a ds => exact r.elim
          | ws cs nt => exact ⟨v, sl, r⟩
          | val u => cases r; exact sl
        rcases (hv i x u hx hu hi).2 with ⟨e1, v, e2, r⟩ | ⟨e1, m⟩
        · exact fin v (.inl ⟨e1, e2⟩) r
        · obtain ⟨_, b, v, e2, e3, r⟩ := F.fvs _ _ m
          exact fin v (.inr ⟨.inr e1, b, e2, e3.keeps hk₁⟩) r
    · obtain ⟨z1, v, c1⟩ := F.cls x a e
      exact ⟨z1, v, c1.keeps hk₁⟩
    · obtain ⟨q1, q2, q3, q4, q5, q6⟩ := F.pin p hp
      exact ⟨hk₁ _ _ q1, Nat.ne_of_lt (Heap.lt_size q1), q2, q3, q4, q5⟩
    · rw [(own i b es h1).2]; exact (F.pin p hp).2.2.2.2.2
  refine hb.run _ z _ _ S fun fl h' tk z' le p => ?_
  obtain ⟨hfl, us', hfv, hys', S'⟩ := p
  have fin : R (.ok (.ret .none)) { s with heap := h', toks := tk } := by
    refine h h' tk z' le (Fs.of_st S' (fun x b e => e) (fun x u m => ?_) hy hys' (.inr hyk) ?_)
    · obtain ⟨i, hi, hs, hk⟩ := hfv x u m
      obtain ⟨no, b, v, hb, _⟩ := F.fvs x u m
      exact ⟨.inr hk, by rw [hb]; rfl, no, i, hi, hs⟩
    · obtain ⟨b, hb, _⟩ := F.own; rw [hb]; rfl
  rcases hfl with rfl | rfl <;> exact fin
end
theorem sx1_clo {c : Cx} {A : Around} {σ : List (Option V)} {i iy : Nat} {x y : Str} {px pc pos : Pos} {f a : Addr} {e : Expr} {es : List Expr} {As : List Value → Z → Prop} {cl : List (Str × Addr)} {fv : List (Str × V)} {ds ds' : List PyData}
    (hx : c.N[i]? = some x) (hi : σ[i]? = some (some (.val (.ref f)))) (ha : EvL c A σ (e :: es) As) {name qual : Str} {params : Arguments} {body : List Stmt} {scope : Scope} {doc pm ctv : Value} {c' : Addr} (hfm : (f, fnMade name qual params body scope cl doc pm c' ctv) ∈ c.X)
    (cc : ∀ x b, cl.lookup x = some b → c.env.cells.lookup x = some b) (cc' : ∀ x b, c.env.cells.lookup x = some b → cl.lookup x = some b) (hy : c.N[iy]? = some y) (hs : σ[iy]? = some (some (.own a ds))) (hk : c.env.kindOf y = some .cell ∨ c.env.kindOf y = some .free) (hyl : (cl.lookup y).isSome = true)
    (hvars : ∀ (i : Nat) x u, c.N[i]? = some x → σ[i]? = some (some u) → i ≠ iy → notOwn u ∧ (c.env.kindOf x = some .local ∨ ((c.env.kindOf x = some .cell ∨ c.env.kindOf x = some .free) ∧ (x, u) ∈ fv))) (hN : σ.length = c.N.length)
    (hv : ∀ x u, (x, u) ∈ fv → (c.env.kindOf x = some .cell ∨ c.env.kindOf x = some .free) ∧ (cl.lookup x).isSome = true ∧ notOwn u ∧ ∃ i : Nat, c.N[i]? = some x ∧ σ[i]? = some (some u))
    (F : ∀ (s : Shared) (z : Z) (X : List (Addr × Obj)) (args : List Value) (R : Result → Shared → Prop), (∀ p ∈ c.X, p ∈ X) → Fs c.w c.h0 c.z0 X cl fv y a ds z s.heap → As args z →
      (∀ h' tk z', Z.le z z' → Fs c.w c.h0 c.z0 X cl fv y a ds' z' h' → R (.ok (.ret .none)) { s with heap := h', toks := tk }) → codeAny (model PR c.w) A (.call (.ref f) ⟨args, []⟩) R s)
    (hdb : (x == ("__debug__" : Str)) = false := by decide) (hn : (x == ("__classdict__" : Str)) = false := by decide)
    (he : starEach (e :: es) c.env = (false, eval e c.env) :: starEach es c.env := by rfl) (hplain : (backTo pc (starEach es c.env)).any (·.1) = false := by rfl)
    (hin : interactive c.env = false := by rfl) (hsw : swapsWith (.Call (.Name x px) (e :: es) [] pc) none pos.line c.env = pure false := by rfl) :
    Sx1 c A σ (.Expr (.Call (.Name x px) (e :: es) [] pc) pos) (Nx c (σ.set iy (some (.own a ds')))) := .mk fun s z E Q S q => by
  have hfn : ∀ z h, St c σ z h → FnAt f h := fun z h S => ⟨_, _, _, _, (S.pin _ hfm).1⟩
  refine wpAny_Expr (Call_Name rfl ((ev_name_val hx hi hdb hn).run s z E _ S fun v h' tk z' g p => ?_)) hin hsw
  subst p
  have S' := S.grow g
  refine callWith_F (hfn _ _ S') ?_ he hplain
  refine ha.run _ z' pc E _ S' fun vs h₂ t₂ z₂ g₂ p₂ => ⟨hfn _ _ (S'.grow g₂), ?_⟩
  rw [List.nil_append]
  have S₂ := S'.grow g₂
  obtain ⟨m, ⟨o, ens, ep, ho, hd, _⟩, _⟩ := id S₂.vars
  refine wpAny_call (F _ z₂ ((c.env.locals, o) :: c.X) vs _ (fun p hp => .tail _ hp) ((Fs.of_st S₂ cc hv hy hs hk hyl).pinL S₂ ho ⟨ens, ep, hd⟩) p₂ fun h₃ t₃ z₃ le F₃ => ?_)
  exact q .next h₃ t₃ z₃ ((g.le.trans g₂.le).trans le) ⟨rfl, Fs.back S₂ le ho rfl F₃ cc cc' hy hs hk hvars hN⟩
end Mine

-- P1
namespace Mine
noncomputable def figs (n : Nat) : Nat → Nat → List Nat
  | _, 0 => []
  | x, k + 1 => x % 2 ^ n :: figs n (x / 2 ^ n) k
theorem figs_len (n : Nat) : ∀ x k, (figs n x k).length = k
  | _, 0 => rfl
  | x, k + 1 => by rw [figs, List.length_cons, figs_len]
theorem figs_lt (n : Nat) : ∀ x k, ∀ d ∈ figs n x k, d < 2 ^ n
  | _, 0, d, h => by cases h
  | x, k + 1, d, h => by
    rw [figs] at h
    rcases List.mem_cons.mp h with rfl | h
    · exact Nat.mod_lt _ (Nat.two_pow_pos n)
    · exact figs_lt n _ k d h
theorem figs_add (n : Nat) : ∀ x i j, figs n x (i + j) = figs n x i ++ figs n (x / 2 ^ (n * i)) j
  | x, 0, j => by simp [figs]
  | x, i + 1, j => by
    rw [show i + 1 + j = (i + j) + 1 by lia, figs, figs, figs_add n _ i j, Nat.div_div_eq_div_mul, ← Nat.pow_add, Nat.mul_succ, Nat.add_comm n]; rfl
theorem figs_mod (n : Nat) : ∀ x i, figs n (x % 2 ^ (n * i)) i = figs n x i
  | x, 0 => rfl
  | x, i + 1 => by
    rw [figs, figs, Nat.mul_succ, Nat.pow_add, Nat.mul_comm (2 ^ (n * i)), Nat.mod_mul_right_mod, Nat.mod_mul_right_div_self, figs_mod]
theorem dval_figs (n : Nat) : ∀ x k, x < 2 ^ (n * k) → dval n (figs n x k) = x
  | x, 0, h => by simp at h; subst h; rfl
  | x, k + 1, h => by
    rw [figs, dval, dval_figs n (x / 2 ^ n) k]
    · have := Nat.div_add_mod x (2 ^ n); lia
    · rw [Nat.div_lt_iff_lt_mul (Nat.two_pow_pos n), ← Nat.pow_add, ← Nat.mul_succ]; exact h
noncomputable def put (ds : List Nat) (L : Nat) (xs : List Nat) : List Nat := ds.take L ++ xs ++ ds.drop (L + xs.length)
theorem put_len {ds : List Nat} {L : Nat} {xs : List Nat} (h : L + xs.length ≤ ds.length) : (put ds L xs).length = ds.length := by
  unfold put; simp; lia
theorem put_put {ds : List Nat} {L : Nat} {xs ys : List Nat} (h : L + xs.length + ys.length ≤ ds.length) : put (put ds L xs) (L + xs.length) ys = put ds L (xs ++ ys) := by
  unfold put
  have hl : (ds.take L ++ xs).length = L + xs.length := by simp; lia
  rw [show (ds.take L ++ xs ++ ds.drop (L + xs.length)).take (L + xs.length) = ds.take L ++ xs from by rw [← hl, List.take_left']; rfl]
  rw [show (ds.take L ++ xs ++ ds.drop (L + xs.length)).drop (L + xs.length + ys.length) = ds.drop (L + (xs ++ ys).length) from by
    rw [← hl, List.drop_append, hl, List.drop_eq_nil_of_le (by rw [hl]; lia), List.nil_append, show L + xs.length + ys.length - (L + xs.length) = ys.length by lia, List.drop_drop, List.length_append]; congr 1; lia]
  simp only [List.append_assoc]
theorem put_one {ds : List Nat} {L x : Nat} (h : L < ds.length) : put ds L [x] = ds.set L x := by
  unfold put
  rw [List.set_eq_take_append_cons_drop, if_pos h]; simp
theorem put_all {ds xs : List Nat} (h : xs.length = ds.length) : put ds 0 xs = xs := by
  unfold put; rw [Nat.zero_add, h]; simp
theorem bxor_low (x s : Nat) : Builtin.bitXor (x : Int) (((x / 2 ^ s) * 2 ^ s : Nat) : Int) = ((x % 2 ^ s : Nat) : Int) := by
  rw [bitXor_and, band_nat]
  have e : x &&& (x / 2 ^ s * 2 ^ s) = x / 2 ^ s * 2 ^ s := by
    apply Nat.eq_of_testBit_eq
    intro i
    rw [Nat.testBit_and, ← Nat.shiftLeft_eq, ← Nat.shiftRight_eq_div_pow, Nat.testBit_shiftLeft, Nat.testBit_shiftRight]
    by_cases h : s ≤ i
    · rw [show s + (i - s) = i by lia]; cases x.testBit i <;> simp
    · simp [h]
  rw [e]
  have := Nat.div_add_mod x (2 ^ s)
  rw [Nat.mul_comm (2 ^ s)] at this
  lia
end Mine

-- F4
namespace Mine
section
variable {c : Cx} {A : Around} {σ : List (Option V)}
theorem sx_if_gen {t : Expr} {b : Bool} {body rest : List Stmt} {pos : Pos} {P : Flow → Z → Heap → Prop} (h : Ts c A σ t b) (h1 : b = true → Sx c A σ body (fun f z h => f ≠ .next ∧ P f z h)) (h2 : b = false → Sx c A σ rest P) : Sx c A σ (.If t body [] pos :: rest) P := by
  cases b with
  | true =>
    exact sx_cons (sx1_if h h1 fun q => by cases q) fun f z h p => by
      cases f with
      | next => exact absurd rfl p.1
      | brk => exact p.2
      | cont => exact p.2
      | ret v => exact p.2
  | false => exact sx_step (sx1_if h (fun q => by cases q) fun _ => sx_nil fun z h S => ⟨rfl, S⟩) (h2 rfl)
theorem sx_return_none {pos : Pos} {rest : List Stmt} {P : Flow → Z → Heap → Prop} (h : ∀ z h, St c σ z h → P (.ret .none) z h) : Sx c A σ (.Return none pos :: rest) P := .mk fun s z E Q S q =>
  wpAny_execs_cons (wpAny_Return_none (q _ s.heap s.toks z (.refl z) (h z s.heap S)))
end
theorem lookup_all {α : Type} {l cl : List (Str × α)} (h : ∀ p ∈ l, cl.lookup p.1 = some p.2) : ∀ x b, l.lookup x = some b → cl.lookup x = some b := fun x b e => h (x, b) (mem_lookup e)
noncomputable def CloM (w : World) (h00 : Heap) (z00 : Z) (cl : List (Str × Addr)) (fv : List (Str × V)) (y : Str) (a f : Addr) (fo : Obj) (c' : Addr) (oc : Obj) (d u : Nat) (As : List Value → Z → Prop) (ds ds' : List PyData) : Prop :=
  ∀ (A : Around) (s : Shared) (z : Z) (X : List (Addr × Obj)) (args : List Value) (R : Result → Shared → Prop), Rm A d u → (f, fo) ∈ X → (c', oc) ∈ X → Fs w h00 z00 X cl fv y a ds z s.heap → As args z →
    (∀ h' tk z', Z.le z z' → Fs w h00 z00 X cl fv y a ds' z' h' → R (.ok (.ret .none)) { s with heap := h', toks := tk }) → codeAny (model PR w) A (.call (.ref f) ⟨args, []⟩) R s
theorem clom_wf {w : World} {h00 : Heap} {z00 : Z} {cl : List (Str × Addr)} {fv : List (Str × V)} {y : Str} {a f : Addr} {fo : Obj} {c' : Addr} {oc : Obj} (As : Nat → Nat → Nat → List Value → Z → Prop) (ok : Nat → Nat → Nat → List Nat → Prop) (post : Nat → Nat → Nat → List Nat → List Nat)
    (step : ∀ x L R ds, ok x L R ds → (∀ x' L' R' ds', ok x' L' R' ds' → R' - L' < R - L → CloM w h00 z00 cl fv y a f fo c' oc (R' - L') (3 * (R' - L') + 4) (As x' L' R') (natsD ds') (natsD (post x' L' R' ds'))) →
      CloM w h00 z00 cl fv y a f fo c' oc (R - L) (3 * (R - L) + 4) (As x L R) (natsD ds) (natsD (post x L R ds))) :
    ∀ x L R ds, ok x L R ds → CloM w h00 z00 cl fv y a f fo c' oc (R - L) (3 * (R - L) + 4) (As x L R) (natsD ds) (natsD (post x L R ds)) := by
  have H : ∀ k x L R ds, R - L ≤ k → ok x L R ds → CloM w h00 z00 cl fv y a f fo c' oc (R - L) (3 * (R - L) + 4) (As x L R) (natsD ds) (natsD (post x L R ds)) := by
    intro k
    induction k with
    | zero => intro x L R ds h ho; exact step x L R ds ho fun x' L' R' ds' _ hlt => absurd hlt (by lia)
    | succ k ih => intro x L R ds h ho; exact step x L R ds ho fun x' L' R' ds' ho' hlt => ih x' L' R' ds' (by lia) ho'
  intro x L R ds ho
  exact H _ x L R ds (Nat.le_refl _) ho
noncomputable def figN (n a : Nat) : Nat := (Builtin.Int.intBits (a : Int) + n - 1) / n
theorem fn_i2d {w : World} {a n : Nat} (h0 : 0 < n) (hn : n ≤ 1000) (hk : figN n a ≤ 100) : Fn w 42 (figN n a + 3) (3 * figN n a + 20) (Ds [.int (a : Int), .int (n : Int)]) (D (.list (natsD (figs n a (figN n a))))) := .mk fun A s z args R rm g k zt ha q => by
  obtain ⟨v1, v2, r1, r2, rfl⟩ := two_args ha
  refine enter_cells (N := [Str.ofString "a", Str.ofString "n", Str.ofString "a_digits", Str.ofString "inner"]) (us := [some (.dat (.int a)), some (.dat (.int n)), none, none]) (Nat.lt_of_le_of_lt (Nat.le_add_right _ _) rm.dp) g k zt (by k_is) (by k_is) (BindsTo.of_eq rfl) rfl (by decide) rfl ?_ ?_ q
  · exact slots_some ⟨v1, r1, .inl ⟨rfl, rfl⟩⟩ (slots_some ⟨v2, r2, .inr ⟨rfl, rfl, rfl⟩⟩ (slots_none (slots_none slots_nil)))
  · have rm2 := fun env => Rm.deeper (d := figN n a + 2) (u := 3 * figN n a + 17) (env := env) rm
    have e0 : ((Builtin.Int.intBits (a : Int) : Int) + (n : Int) - 1).fdiv (n : Int) = (figN n a : Int) := by
      rw [show ((Builtin.Int.intBits (a : Int) : Int) + (n : Int) - 1) = ((Builtin.Int.intBits (a : Int) + n - 1 : Nat) : Int) by lia, fdiv_nat]; rfl
    have hw : a < 2 ^ (n * figN n a) := by
      refine Nat.lt_of_lt_of_le (lt_intBits a) (Nat.pow_le_pow_right (by decide) ?_)
      unfold figN
      have := Nat.div_add_mod (Builtin.Int.intBits (a : Int) + n - 1) n
      have := Nat.mod_lt (Builtin.Int.intBits (a : Int) + n - 1) h0
      lia
    refine sx_assign_own (i := 2) (ds := natsD (List.replicate (figN n a) 0)) ⟨rfl, .inr ⟨rfl, _, rfl, ?_⟩⟩ ((evn_bin (EvN.dat (evn_list (evl_cons ev_int evl_nil) (by decide))) ((ev_bin (ev_bin (ev_bin (ev_bitlen (ev_name (i := 0) rfl rfl)) (ev_name (i := 1) rfl rfl) add_i) ev_int sub_i) (ev_name (i := 1) rfl rfl) (fdiv_i (by lia) (by lia))).to (congrArg PyData.int e0)) (mul_l1 (by lia))).to ?_) fun al => ?_
    · exact Nat.le_trans (Nat.le_succ _) (by simp)
    · rw [Int.toNat_natCast]; simp [natsD]
    refine sx_def (i := 3) (P := 37) (cc := 41) ⟨rfl, .inr ⟨rfl, _, rfl, ?_⟩⟩ rfl rfl (.inr ⟨rfl, rfl⟩) rfl (.inr ⟨rfl, rfl, rfl, rfl⟩) rfl rfl rfl rfl ?_
    · exact Nat.le_trans (Nat.le_succ _) (by simp)
    intro f doc pm c' ctv oc vs t hoc hvs
    by_cases ha0 : a = 0
    · subst ha0
      have e1 : figN n 0 = 0 := by unfold figN; rw [show Builtin.Int.intBits ((0 : Nat) : Int) = 0 from rfl]; exact Nat.div_eq_of_lt (by lia)
      rw [e1]
      refine sx_step (sx1_if_f (ts_val (ev_name (i := 0) rfl rfl) rfl) sx_done) (sx_freeze (i := 2) rfl rfl (sx_return (ev_name (i := 2) rfl rfl)))
    · have hpos : 0 < figN n a := by
        rcases Nat.eq_zero_or_pos (figN n a) with h | h
        · rw [h] at hw; simp at hw; exact absurd hw ha0
        · exact h
      refine sx_step (σ' := [some (.dat (.int a)), some (.dat (.int n)), some (.own al (natsD (figs n a (figN n a)))), some (.val (.ref f))]) (sx1_if_t (ts_val (ev_name (i := 0) rfl rfl) ?_) (sx_one ?_)) (sx_freeze (i := 2) rfl rfl (sx_return (ev_name (i := 2) rfl rfl)))
      · show some ((a : Int) != 0) = some true
        congr 1; rw [bne_iff_ne]; lia
      · have el : (natsD (List.replicate (figN n a) 0)).length = figN n a := by simp [natsD]
        have ep : natsD (put (List.replicate (figN n a) 0) 0 (figs n a (figN n a - 0))) = natsD (figs n a (figN n a)) := by rw [put_all (by rw [figs_len]; simp)]; rfl
        refine sx1_clo (i := 3) (iy := 2) (fv := [(Str.ofString "n", .dat (.int n)), (sInner, .val (.ref f))]) rfl rfl (evl_cons (ev_name (i := 0) rfl rfl) (evl_cons ev_int (evl_cons (ev_borrow (i := 2) rfl rfl (ev_bf (bf_len (by rw [el]; lia)) rfl (by k_is) boot_len (evl_cons (ev_name (i := 2) rfl rfl) evl_nil))) evl_nil)))
          (.tail _ (.head _)) (lookup_all (List.forall_mem_cons.mpr ⟨rfl, List.forall_mem_cons.mpr ⟨rfl, List.forall_mem_cons.mpr ⟨rfl, fun _ h => nomatch h⟩⟩⟩)) (lookup_all (List.forall_mem_cons.mpr ⟨rfl, List.forall_mem_cons.mpr ⟨rfl, List.forall_mem_cons.mpr ⟨rfl, fun _ h => nomatch h⟩⟩⟩)) rfl rfl (.inl rfl) rfl ?_ rfl ?_ fun s z X args R hX F ha q => ?_
        · exact slots_some (fun _ => ⟨trivial, .inl rfl⟩) (slots_some (fun _ => ⟨trivial, .inr ⟨.inl rfl, .head _⟩⟩) (slots_some (fun h => absurd rfl h) (slots_some (fun _ => ⟨trivial, .inr ⟨.inl rfl, .tail _ (.head _)⟩⟩) slots_nil)))
        · intro x u m
          simp only [List.mem_cons, List.not_mem_nil, or_false, Prod.mk.injEq] at m
          rcases m with ⟨rfl, rfl⟩ | ⟨rfl, rfl⟩
          · exact ⟨.inl rfl, rfl, trivial, 1, rfl, rfl⟩
          · exact ⟨.inl rfl, rfl, trivial, 3, rfl, rfl⟩
        · rw [← ep] at q
          refine clom_wf (fun x L R => Ds [.int (x : Int), .int (L : Int), .int (R : Int)]) (fun x L R ds => L < R ∧ R ≤ ds.length ∧ ds.length ≤ 100 ∧ x < 2 ^ (n * (R - L))) (fun x L R ds => put ds L (figs n x (R - L))) ?_ a 0 (figN n a) (List.replicate (figN n a) 0) ⟨hpos, by simp, by simp; lia, hw⟩ _ s z X args R
            ((rm2 _).mono (by lia) (by lia)) (hX _ (.tail _ (.head _))) (hX _ (.head _)) F (by rw [el] at ha; exact ha) q
          intro x L R ds ⟨hLR, hRl, hR1, hx⟩ IH A s z X args R' rm hf hc F ha q
          obtain ⟨v1, v2, v3, r1, r2, r3, rfl⟩ := three_args ha
          refine enter_mut (iy := 3) (N := [Str.ofString "x", Str.ofString "L", Str.ofString "R", Str.ofString "a_digits", Str.ofString "n", Str.ofString "inner", Str.ofString "mid", Str.ofString "shift", Str.ofString "upper", Str.ofString "lower"])
            (us := [some (.dat (.int x)), some (.dat (.int L)), some (.dat (.int R)), some (.own al (natsD ds)), some (.dat (.int n)), some (.val (.ref f)), none, none, none, none])
            (Nat.lt_of_le_of_lt (Nat.le_add_right _ _) rm.dp) F hf hc hoc hvs (BindsTo.of_eq rfl) (all_loc rfl) (by decide) (by decide) rfl rfl rfl rfl ?_ ?_ q
          · exact slots_some (fun _ => ⟨trivial, .inl ⟨rfl, v1, rfl, r1⟩⟩) (slots_some (fun _ => ⟨trivial, .inl ⟨rfl, v2, rfl, r2⟩⟩) (slots_some (fun _ => ⟨trivial, .inl ⟨rfl, v3, rfl, r3⟩⟩) (slots_some (fun h => absurd rfl h) (slots_some (fun _ => ⟨trivial, .inr ⟨rfl, .head _⟩⟩) (slots_some (fun _ => ⟨trivial, .inr ⟨rfl, .tail _ (.head _)⟩⟩) (slots_none (slots_none (slots_none (slots_none slots_nil)))))))))
          · have edl : (natsD ds).length = ds.length := by simp [natsD]
            have tst : ∀ {c : Cx} {A : Around} {us : List (Option V)} {p1 p2 p3 p4 p5 : Pos} {k1 : Nat}, c.N[1]? = some (Str.ofString "L") → c.N[2]? = some (Str.ofString "R") → us[1]? = some (some (.dat (.int L))) → us[2]? = some (some (.dat (.int R))) →
                Ts c A us (.Compare (.BinOp (.Name (Str.ofString "L") p1) .Add (.Constant (.int 1) k1 p2) p3) [.Eq] [.Name (Str.ofString "R") p4] p5) (decide (L + 1 = R)) := fun h1 h2 h3 h4 => by
              refine (ts_cmp (ev_bin (ev_name (i := 1) h1 h3) ev_int add_i) (ev_name (i := 2) h2 h4) eq_i).to ?_
              by_cases e : L + 1 = R
              · rw [decide_eq_true e, beq_iff_eq]; lia
              · rw [decide_eq_false e, beq_eq_false_iff_ne]; lia
            refine sx_if_gen (tst rfl rfl rfl rfl) (fun hb => ?_) fun hb => ?_
            · have hb : L + 1 = R := by simpa using hb
              refine sx_step (sx1_setitem (i := 3) rfl rfl (ev_name (i := 0) rfl rfl) (ev_name (i := 1) rfl rfl) (by lia) (by rw [edl]; lia) (by rw [edl]; lia)) (sx_return_none fun z h S => ⟨by simp, .inr rfl, _, ?_, ?_, S⟩)
              · intro y u m
                simp only [List.mem_cons, List.not_mem_nil, or_false, Prod.mk.injEq] at m
                rcases m with ⟨rfl, rfl⟩ | ⟨rfl, rfl⟩
                · exact ⟨4, rfl, rfl, rfl⟩
                · exact ⟨5, rfl, rfl, rfl⟩
              · subst hb
                rw [show L + 1 - L = 1 by lia, Nat.mul_one] at hx
                rw [show L + 1 - L = 1 by lia, figs, figs, Nat.mod_eq_of_lt hx, put_one (by lia)]
                show some (some (V.own al _)) = _
                rw [Int.toNat_natCast, natsD, natsD, List.map_set]
            · have hb : ¬ L + 1 = R := by simpa using hb
              have rm3 := fun env => Rm.deeper (d := R - L - 1) (u := 3 * (R - L) + 1) (env := env) (rm.mono (span1 hLR) (Nat.le_refl _))
              have ⟨hm1, hm2⟩ := mid_in hLR hb
              generalize hM : (L + R) / 2 = M at hm1 hm2
              have md := mid_of hm1 hm2
              have hR2 : R ≤ 100 := Nat.le_trans hRl hR1
              have hMd : M ≤ ds.length := Nat.le_trans (Nat.le_of_lt hm2) hRl
              have hM1 : M - L ≤ 100 := Nat.le_trans (Nat.sub_le _ _) (Nat.le_trans hMd hR1)
              have es : ((M : Int) - (L : Int)) * (n : Int) = (((M - L) * n : Nat) : Int) := by push_cast; rw [Int.ofNat_sub (Nat.le_of_lt hm1)]
              have eu : (x : Int).fdiv (2 ^ (((M - L) * n : Nat) : Int).toNat) = ((x / 2 ^ ((M - L) * n) : Nat) : Int) := by rw [Int.toNat_natCast, show ((2 : Int) ^ ((M - L) * n)) = ((2 ^ ((M - L) * n) : Nat) : Int) by push_cast; rfl, fdiv_nat]
              have elo : Builtin.bitXor (x : Int) (((x / 2 ^ ((M - L) * n) : Nat) : Int) * 2 ^ (((M - L) * n : Nat) : Int).toNat) = ((x % 2 ^ ((M - L) * n) : Nat) : Int) := by
                rw [Int.toNat_natCast, ← bxor_low]; push_cast; rfl
              have b1 : n * (R - L) ≤ 1000 * 100 := Nat.mul_le_mul hn (Nat.le_trans (Nat.sub_le _ _) hR2)
              have b2 : (M - L) * n ≤ 100 * 1000 := Nat.mul_le_mul hM1 hn
              have hxu : x / 2 ^ ((M - L) * n) < 2 ^ (n * (R - M)) := by
                rw [Nat.div_lt_iff_lt_mul (Nat.two_pow_pos _), ← Nat.pow_add, Nat.mul_comm (M - L), ← Nat.mul_add, md.a8]; exact hx
              have hxl : x % 2 ^ ((M - L) * n) < 2 ^ (n * (M - L)) := by rw [Nat.mul_comm n]; exact Nat.mod_lt _ (Nat.two_pow_pos _)
              have hp1 : (put ds L (figs n (x % 2 ^ ((M - L) * n)) (M - L))).length = ds.length := put_len (by rw [figs_len, md.a9]; exact hMd)
              have fin : put (put ds L (figs n (x % 2 ^ ((M - L) * n)) (M - L))) M (figs n (x / 2 ^ ((M - L) * n)) (R - M)) = put ds L (figs n x (R - L)) := by
                have e1 := put_put (ds := ds) (L := L) (xs := figs n x (M - L)) (ys := figs n (x / 2 ^ ((M - L) * n)) (R - M)) (by rw [figs_len, figs_len, md.a9, Nat.add_sub_of_le (Nat.le_of_lt hm2)]; exact hRl)
                rw [figs_len, md.a9] at e1
                rw [Nat.mul_comm (M - L) n, figs_mod, ← Nat.mul_comm (M - L) n, e1, md.a7, figs_add, Nat.mul_comm n (M - L)]
              refine sx_step (sx1_assign (i := 6) (d := .int (M : Int)) ⟨rfl, .inl rfl⟩ ((ev_bin (ev_bin (ev_name (i := 1) rfl rfl) (ev_name (i := 2) rfl rfl) add_i) ev_int (shr_i (by decide))).to (congrArg PyData.int ((fdiv_nat (L + R) 2).trans (by rw [hM]))))) ?_
              refine sx_step (sx1_assign (i := 7) ⟨rfl, .inl rfl⟩ ((ev_bin (ev_bin (ev_name (i := 6) rfl rfl) (ev_name (i := 1) rfl rfl) sub_i) (ev_name (i := 4) rfl rfl) (mul_i (mulok_r hn))).to (congrArg PyData.int es))) ?_
              refine sx_step (sx1_assign (i := 8) ⟨rfl, .inl rfl⟩ ((ev_bin (ev_name (i := 0) rfl rfl) (ev_name (i := 7) rfl rfl) (shr_i (Int.natCast_nonneg _))).to (congrArg PyData.int eu))) ?_
              refine sx_step (sx1_assign (i := 9) ⟨rfl, .inl rfl⟩ ((ev_bin (ev_name (i := 0) rfl rfl) (ev_bin (ev_name (i := 8) rfl rfl) (ev_name (i := 7) rfl rfl) (shl_i (Int.natCast_nonneg _) ?_)) xor_i).to (congrArg PyData.int elo))) ?_
              · have := intBits_nat_le (Nat.lt_of_lt_of_le hxu (Nat.pow_le_pow_right (by decide) (Nat.mul_le_mul_left n (Nat.sub_le_sub_left (Nat.le_of_lt hm1) R))))
                exact bits_shift this b1 b2
              refine sx_step (sx1_clo (i := 5) (iy := 3) (ds' := natsD (put ds L (figs n (x % 2 ^ ((M - L) * n)) (M - L)))) (fv := [(Str.ofString "n", .dat (.int n)), (sInner, .val (.ref f))]) rfl rfl (evl_cons (ev_name (i := 9) rfl rfl) (evl_cons (ev_name (i := 1) rfl rfl) (evl_cons (ev_name (i := 6) rfl rfl) evl_nil)))
                hf (fun _ _ e => e) (fun _ _ e => e) rfl rfl (.inr rfl) rfl ?_ rfl ?_ fun s z X' args R'' hX F ha q => ?_) ?_
              · exact slots_some (fun _ => ⟨trivial, .inl rfl⟩) (slots_some (fun _ => ⟨trivial, .inl rfl⟩) (slots_some (fun _ => ⟨trivial, .inl rfl⟩) (slots_some (fun h => absurd rfl h) (slots_some (fun _ => ⟨trivial, .inr ⟨.inr rfl, .head _⟩⟩) (slots_some (fun _ => ⟨trivial, .inr ⟨.inr rfl, .tail _ (.head _)⟩⟩) (slots_some (fun _ => ⟨trivial, .inl rfl⟩) (slots_some (fun _ => ⟨trivial, .inl rfl⟩) (slots_some (fun _ => ⟨trivial, .inl rfl⟩) (slots_some (fun _ => ⟨trivial, .inl rfl⟩) slots_nil)))))))))
              · intro y u m
                simp only [List.mem_cons, List.not_mem_nil, or_false, Prod.mk.injEq] at m
                rcases m with ⟨rfl, rfl⟩ | ⟨rfl, rfl⟩
                · exact ⟨.inr rfl, rfl, trivial, 4, rfl, rfl⟩
                · exact ⟨.inr rfl, rfl, trivial, 5, rfl, rfl⟩
              · exact IH _ L M ds ⟨hm1, hMd, hR1, hxl⟩ md.a3 _ s z X' args R'' ((rm3 _).mono md.a1 md.a2) (hX _ hf) (hX _ hc) F ha q
              refine sx_step (sx1_clo (i := 5) (iy := 3) (ds' := natsD (put ds L (figs n x (R - L)))) (fv := [(Str.ofString "n", .dat (.int n)), (sInner, .val (.ref f))]) rfl rfl (evl_cons (ev_name (i := 8) rfl rfl) (evl_cons (ev_name (i := 6) rfl rfl) (evl_cons (ev_name (i := 2) rfl rfl) evl_nil)))
                hf (fun _ _ e => e) (fun _ _ e => e) rfl rfl (.inr rfl) rfl ?_ rfl ?_ fun s z X' args R'' hX F ha q => ?_) (sx_nil fun z h S => ⟨.inl rfl, _, ?_, rfl, S⟩)
              · exact slots_some (fun _ => ⟨trivial, .inl rfl⟩) (slots_some (fun _ => ⟨trivial, .inl rfl⟩) (slots_some (fun _ => ⟨trivial, .inl rfl⟩) (slots_some (fun h => absurd rfl h) (slots_some (fun _ => ⟨trivial, .inr ⟨.inr rfl, .head _⟩⟩) (slots_some (fun _ => ⟨trivial, .inr ⟨.inr rfl, .tail _ (.head _)⟩⟩) (slots_some (fun _ => ⟨trivial, .inl rfl⟩) (slots_some (fun _ => ⟨trivial, .inl rfl⟩) (slots_some (fun _ => ⟨trivial, .inl rfl⟩) (slots_some (fun _ => ⟨trivial, .inl rfl⟩) slots_nil)))))))))
              · intro y u m
                simp only [List.mem_cons, List.not_mem_nil, or_false, Prod.mk.injEq] at m
                rcases m with ⟨rfl, rfl⟩ | ⟨rfl, rfl⟩
                · exact ⟨.inr rfl, rfl, trivial, 4, rfl, rfl⟩
                · exact ⟨.inr rfl, rfl, trivial, 5, rfl, rfl⟩
              · rw [← fin] at q
                exact IH _ M R _ ⟨hm2, by rw [hp1]; exact hRl, by rw [hp1]; exact hR1, hxu⟩ md.a6 _ s z X' args R'' ((rm3 _).mono md.a4 md.a5) (hX _ hf) (hX _ hc) F ha q
              · intro y u m
                simp only [List.mem_cons, List.not_mem_nil, or_false, Prod.mk.injEq] at m
                rcases m with ⟨rfl, rfl⟩ | ⟨rfl, rfl⟩
                · exact ⟨4, rfl, rfl, rfl⟩
                · exact ⟨5, rfl, rfl, rfl⟩
theorem fn_i2dK {w : World} {a n : Nat} (h0 : 0 < n) (hn : n ≤ 1000) (hk : figN n a ≤ 100) : Fn w 42 103 320 (Ds [.int (a : Int), .int (n : Int)]) (D (.list (natsD (figs n a (figN n a))))) :=
  (fn_i2d h0 hn hk).weak (Nat.add_le_add_right hk 3) (Nat.add_le_add_right (Nat.mul_le_mul_left 3 hk) 20)
end Mine

-- F5
namespace Mine
theorem figN_lt {n a : Nat} (h0 : 0 < n) : a < 2 ^ (n * figN n a) := by
  refine Nat.lt_of_lt_of_le (lt_intBits a) (Nat.pow_le_pow_right (by decide) ?_)
  unfold figN
  have := Nat.div_add_mod (Builtin.Int.intBits (a : Int) + n - 1) n
  have := Nat.mod_lt (Builtin.Int.intBits (a : Int) + n - 1) h0
  lia
theorem long_div {pv b n d : Nat} (hb : 0 < b) : (2 ^ n * pv + d) / b = 2 ^ n * (pv / b) + ((pv % b) * 2 ^ n + d) / b ∧ (2 ^ n * pv + d) % b = ((pv % b) * 2 ^ n + d) % b := by
  have e : 2 ^ n * pv + d = ((pv % b) * 2 ^ n + d) + b * (2 ^ n * (pv / b)) := by
    have := Nat.div_add_mod pv b
    calc 2 ^ n * pv + d = 2 ^ n * (b * (pv / b) + pv % b) + d := by rw [this]
      _ = _ := by rw [Nat.mul_add, Nat.mul_left_comm, Nat.mul_comm (2 ^ n) (pv % b)]; lia
  constructor
  · rw [e, Nat.add_mul_div_left _ _ hb]; lia
  · rw [e, Nat.add_mul_mod_self_left]
theorem fn_pos {w : World} {a b : Nat} (hb : 0 < b) (hn : Builtin.Int.intBits (b : Int) ≤ 1000) (hk : figN (Builtin.Int.intBits (b : Int)) a ≤ 100) : Fn w 56 110 350 (Ds [.int (a : Int), .int (b : Int)]) (D (.tuple [.int ((a / b : Nat) : Int), .int ((a % b : Nat) : Int)])) := .mk fun A s z args R rm g k zt ha q => by
  obtain ⟨v1, v2, r1, r2, rfl⟩ := two_args ha
  have hbn : b < 2 ^ Builtin.Int.intBits (b : Int) := lt_intBits b
  have hn0 : 0 < Builtin.Int.intBits (b : Int) := by
    rcases Nat.eq_zero_or_pos (Builtin.Int.intBits (b : Int)) with h | h
    · rw [h] at hbn; lia
    · exact h
  have hlog : (b : Int).natAbs.log2 < 9000 := by
    have h1 : (b : Int).natAbs = b := by simp
    rw [h1]
    exact Nat.lt_of_lt_of_le ((Nat.log2_lt (by lia)).mpr hbn) (by lia)
  refine enter_plain (N := [Str.ofString "a", Str.ofString "b", Str.ofString "n", Str.ofString "a_digits", Str.ofString "r", Str.ofString "q_digits", Str.ofString "a_digit", Str.ofString "q_digit", Str.ofString "q"]) (us := [some (.dat (.int a)), some (.dat (.int b)), none, none, none, none, none, none, none])
    (Nat.lt_of_le_of_lt (Nat.le_add_right _ _) rm.dp) g k zt (by k_is) (by k_is) (BindsTo.of_eq rfl) (all_loc rfl) (by decide) (by decide) rfl ?_ ?_ q
  · exact slots_some ⟨rfl, v1, rfl, r1⟩ (slots_some ⟨rfl, v2, rfl, r2⟩ (slots_none (slots_none (slots_none (slots_none (slots_none (slots_none (slots_none slots_nil))))))))
  · have rm2 := fun env => Rm.deeper (d := 109) (u := 347) (env := env) rm
    have hh := rm.hd
    refine sx_step (sx1_assign (i := 2) ⟨rfl, .inl rfl⟩ (ev_bitlen (ev_name (i := 1) rfl rfl))) ?_
    generalize hnn : Builtin.Int.intBits (b : Int) = n at *
    refine sx_step (sx1_assign (i := 3) ⟨rfl, .inl rfl⟩ (ev_call (fn_i2dK hn0 hn hk) rfl (by k_is) (by k_is) (evl_cons (ev_name (i := 0) rfl rfl) (evl_cons (ev_name (i := 2) rfl rfl) evl_nil)) ((rm2 _).mono (by decide) (by decide)))) ?_
    refine sx_step (sx1_assign (i := 4) ⟨rfl, .inl rfl⟩ ev_int) ?_
    refine sx_assign_own (i := 5) ⟨rfl, .inl rfl⟩ (evn_list evl_nil (by decide)) fun al => ?_
    have hfl : (figs n a (figN n a)).reverse.length = figN n a := by rw [List.length_reverse, figs_len]
    refine sx_for (i := 6) (fun k σ => ∃ qs u6 u7, σ = [some (.dat (.int a)), some (.dat (.int b)), some (.dat (.int n)), some (.dat (.list (natsD (figs n a (figN n a))))), some (.dat (.int ((dval n ((figs n a (figN n a)).reverse.take k).reverse % b : Nat) : Int))), some (.own al (natsD qs)), u6, u7, none] ∧
        qs.length = k ∧ (∀ d ∈ qs, d < 2 ^ n) ∧ dval n qs.reverse = dval n ((figs n a (figN n a)).reverse.take k).reverse / b)
      (fun σ => ∃ qs u6 u7, σ = [some (.dat (.int a)), some (.dat (.int b)), some (.dat (.int n)), some (.dat (.list (natsD (figs n a (figN n a))))), some (.dat (.int ((a % b : Nat) : Int))), some (.own al (natsD qs)), u6, u7, none] ∧
        qs.length = figN n a ∧ (∀ d ∈ qs, d < 2 ^ n) ∧ dval n qs.reverse = a / b)
      ⟨rfl, .inl rfl⟩ (evi_rev (ev_name (i := 3) rfl rfl) hh rfl (by k_is)) ⟨[], none, none, ?_, rfl, fun _ h => (nomatch h), ?_⟩ (fun k σ h => by obtain ⟨qs, u6, u7, rfl, _⟩ := h; rfl) ?_ ?_ ?_
    · simp [dval]
    · simp [dval]
    · intro k d σ₁ p hd hJ
      obtain ⟨qs, u6, u7, rfl, hql, hqd, hqv⟩ := hJ
      rw [← List.map_reverse] at hd
      have hkl : k < (figs n a (figN n a)).reverse.length := by simpa using getElem?_lt hd
      rw [List.getElem?_map, List.getElem?_eq_getElem hkl] at hd
      cases hd
      generalize hxs : (figs n a (figN n a)).reverse = xs at *
      have hdl : xs[k] < 2 ^ n := figs_lt n a (figN n a) _ (by rw [← List.mem_reverse, hxs]; exact List.getElem_mem hkl)
      generalize hpv : dval n (xs.take k).reverse = pv at *
      have hr : pv % b < b := Nat.mod_lt _ hb
      have hnum : pv % b * 2 ^ n + xs[k] < b * 2 ^ n := by
        calc pv % b * 2 ^ n + xs[k] < pv % b * 2 ^ n + 2 ^ n := by lia
          _ = (pv % b + 1) * 2 ^ n := by rw [Nat.add_mul]; lia
          _ ≤ b * 2 ^ n := Nat.mul_le_mul_right _ hr
      have hnum2 : pv % b * 2 ^ n + xs[k] < 2 ^ (n + n) := by
        rw [Nat.pow_add]; exact Nat.lt_of_lt_of_le hnum (Nat.mul_le_mul_right _ (Nat.le_of_lt hbn))
      have ea : ((pv % b : Nat) : Int) * 2 ^ ((n : Nat) : Int).toNat + ((xs[k] : Nat) : Int) = ((pv % b * 2 ^ n + xs[k] : Nat) : Int) := by rw [Int.toNat_natCast]; push_cast; rfl
      have hpv' : dval n (xs.take (k + 1)).reverse = 2 ^ n * pv + xs[k] := by
        rw [List.take_succ_eq_append_getElem hkl, List.reverse_append, List.reverse_cons, List.reverse_nil, List.nil_append, List.cons_append, List.nil_append, dval, hpv]; lia
      obtain ⟨ld1, ld2⟩ := long_div (pv := pv) (b := b) (n := n) (d := xs[k]) hb
      have bq : (pv % b * 2 ^ n + xs[k]) / b < 2 ^ n := by rw [Nat.div_lt_iff_lt_mul hb, Nat.mul_comm (2 ^ n) b]; exact hnum
      refine sx_step (sx1_unpack2 (i := 7) (j := 4) hh ⟨rfl, .inl rfl⟩ ⟨rfl, .inl rfl⟩ ((ev_call (fn_div (a := ((pv % b * 2 ^ n + xs[k] : Nat) : Int)) (b := (b : Int)) (n := (n : Int)) (by lia) hlog ?_) rfl (by k_is) (by k_is)
        (evl_cons ((ev_bin (ev_bin (ev_name (i := 4) rfl rfl) (ev_name (i := 2) rfl rfl) (shl_i (by lia) ?_)) (ev_name (i := 6) rfl rfl) add_i).to (congrArg PyData.int ea)) (evl_cons (ev_name (i := 1) rfl rfl) (evl_cons (ev_name (i := 2) rfl rfl) evl_nil))) ((rm2 _).mono (by decide) (by decide))).to (by rw [fdiv_nat, fmod_nat]))) ?_
      · have := intBits_nat_le hnum2; lia
      · have := intBits_nat_le (Nat.lt_trans hr hbn); lia
      · refine sx_step (sx1_append (i := 5) rfl rfl (ev_name (i := 7) rfl rfl) ?_) (sx_nil fun z h S => ⟨_, ⟨qs ++ [(pv % b * 2 ^ n + xs[k]) / b], some (.dat (.int (xs[k] : Nat))), some (.dat (.int ((pv % b * 2 ^ n + xs[k]) / b : Nat))), ?_, ?_, ?_, ?_⟩, S⟩)
        · have : k < figN n a := by rw [← hfl]; exact hkl
          simp [natsD, hql]; lia
        · rw [hpv', ld2]; simp [natsD]
        · simp [hql]
        · intro d hd
          rcases List.mem_append.mp hd with h | h
          · exact hqd d h
          · rw [List.mem_singleton.mp h]; exact bq
        · rw [hpv', ld1, List.reverse_append, List.reverse_cons, List.reverse_nil, List.nil_append, List.cons_append, List.nil_append, dval, hqv]; lia
    · intro σ₁ hJ
      obtain ⟨qs, u6, u7, rfl, hql, hqd, hqv⟩ := hJ
      have e1 : (natsD (figs n a (figN n a))).reverse.length = figN n a := by simp [natsD, figs_len]
      rw [e1, List.take_of_length_le (by rw [hfl]; exact Nat.le_refl _), List.reverse_reverse, dval_figs n a _ (figN_lt hn0)] at hqv ⊢
      exact sx_nil fun z h S => ⟨rfl, _, ⟨qs, u6, u7, rfl, by rw [hql, e1], hqd, hqv⟩, S⟩
    · intro σ₁ hB
      obtain ⟨qs, u6, u7, rfl, hql, hqd, hqv⟩ := hB
      refine sx_step (sx1_reverse (i := 5) rfl rfl (by simp [natsD, hql]; lia)) (sx_freeze (i := 5) rfl rfl ?_)
      have e2 : (natsD qs).reverse = natsD qs.reverse := by rw [natsD, natsD, List.map_reverse]
      rw [e2]
      refine sx_step (sx1_assign (i := 8) ⟨rfl, .inl rfl⟩ (ev_call (fn_d2iK hn (by simp [hql]; lia) (fun d h => hqd d (List.mem_reverse.mp h))) rfl (by k_is) (by k_is) (evl_cons (ev_name (i := 5) rfl rfl) (evl_cons (ev_name (i := 2) rfl rfl) evl_nil)) ((rm2 _).mono (by decide) (by decide)))) ?_
      refine sx_return ((ev_tuple (evl_cons (ev_name (i := 8) rfl rfl) (evl_cons (ev_name (i := 4) rfl rfl) evl_nil)) (show 2 ≤ 1000 by decide)).to ?_)
      rw [hqv]
theorem fn_divmod {w : World} {a b : Nat} (hb : 0 < b) (hn : Builtin.Int.intBits (b : Int) ≤ 1000) (hk : figN (Builtin.Int.intBits (b : Int)) a ≤ 100) : Fn w 63 112 360 (Ds [.int (a : Int), .int (b : Int)]) (D (.tuple [.int ((a / b : Nat) : Int), .int ((a % b : Nat) : Int)])) := .mk fun A s z args R rm g k zt ha q => by
  obtain ⟨v1, v2, r1, r2, rfl⟩ := two_args ha
  refine enter_plain (N := [Str.ofString "a", Str.ofString "b"]) (us := [some (.dat (.int a)), some (.dat (.int b))])
    (Nat.lt_of_le_of_lt (Nat.le_add_right _ _) rm.dp) g k zt (by k_is) (by k_is) (BindsTo.of_eq rfl) (all_loc rfl) (by decide) (by decide) rfl ?_ ?_ q
  · exact slots_some ⟨rfl, v1, rfl, r1⟩ (slots_some ⟨rfl, v2, rfl, r2⟩ slots_nil)
  · have rm2 := fun env => Rm.deeper (d := 111) (u := 357) (env := env) rm
    refine sx_one (sx1_if_f ((ts_cmp (ev_name (i := 1) rfl rfl) ev_int eq_i).to ?_) (sx_one (sx1_if_f ((ts_cmp (ev_name (i := 1) rfl rfl) ev_int lt_i).to ?_) (sx_one (sx1_if_f ((ts_cmp (ev_name (i := 0) rfl rfl) ev_int lt_i).to ?_) (sx_return (ev_call (fn_pos hb hn hk) rfl (by k_is) (by k_is) (evl_cons (ev_name (i := 0) rfl rfl) (evl_cons (ev_name (i := 1) rfl rfl) evl_nil)) ((rm2 _).mono (by decide) (by decide)))))))))
    · rw [beq_eq_false_iff_ne]; lia
    · rw [decide_eq_false_iff_not]; lia
    · rw [decide_eq_false_iff_not]; lia
end Mine

-- V20
namespace Mine
theorem inst_at {h : Heap} {x dx n : Nat} {es : List DictEntry} (h1 : h.get? x = some (instObj 133 dx)) (h2 : h.get? dx = some (dictOf es n)) : InstAt h x (instObj 133 dx) 133 (some (dictOf es n)) := ⟨h1, rfl, rfl, h2⟩
section
variable {c : Cx} {A : Around} {σ : List (Option V)} {i : Nat} {x : Str} {px pos : Pos} {cs : List Int} {nt : Int}
theorem ev_norm (hx : c.N[i]? = some x) (hi : σ[i]? = some (some (.ws cs nt))) (hdb : (x == ("__debug__" : Str)) = false := by decide) (hn : (x == ("__classdict__" : Str)) = false := by decide) :
    Ev c A σ (.Attribute (.Name x px) (Str.ofString "norm") pos) (D (.tuple [.tuple (cs.map .int), .int 0])) := .mk fun s z E Q S q =>
  Attribute_name ((ev_name_ws hx hi hdb hn).run s z E _ S fun v h' tk z' g p => by
    obtain ⟨xa, dx, n, hs, ts, vs, rfl, h2, h3, h4, h5⟩ := p
    have I := inst_at (g.sub _ _ h2) (g.sub _ _ h3)
    have hv : handedIn (vs 3) = true := by generalize vs 3 = w at h4; cases h4; rfl
    exact get_value (K := hd.heap_39 c.w.params) (s := { s with heap := h', toks := tk }) (S.grow g).gd.K I (plainGet_of (name := Str.ofString "norm") (by k_is)).1 (findObj_own (v := vs 3) (by k_is) (by k_is) (by k_is) rfl) hv (q _ h' _ z' g h4))
theorem ev_nt (hx : c.N[i]? = some x) (hi : σ[i]? = some (some (.ws cs nt))) (hdb : (x == ("__debug__" : Str)) = false := by decide) (hn : (x == ("__classdict__" : Str)) = false := by decide) :
    Ev c A σ (.Attribute (.Name x px) (Str.ofString "nt") pos) (D (.int nt)) := .mk fun s z E Q S q =>
  Attribute_name ((ev_name_ws hx hi hdb hn).run s z E _ S fun v h' tk z' g p => by
    obtain ⟨xa, dx, n, hs, ts, vs, rfl, h2, h3, h4, t5, h5⟩ := p
    have I := inst_at (g.sub _ _ h2) (g.sub _ _ h3)
    have hv : handedIn (vs 2) = true := by rw [h5]; rfl
    exact get_value (K := hd.heap_39 c.w.params) (s := { s with heap := h', toks := tk }) (S.grow g).gd.K I (plainGet_of (name := Str.ofString "nt") (by k_is)).1 (findObj_own (v := vs 2) (by k_is) (by k_is) (by k_is) rfl) hv (q _ h' _ z' g (by rw [h5]; exact .int _ _)))
noncomputable abbrev Self (cs : List Int) (nt : Int) (As : List Value → Z → Prop) : List Value → Z → Prop := fun args z => ∃ v us, args = v :: us ∧ WsAt z v cs nt ∧ As us z
theorem ev_meth {name : Str} {f : Addr} {d u : Nat} {e : Expr} {es : List Expr} {pa pc : Pos} {As : List Value → Z → Prop} {P : Value → Z → Prop} (F : Fn c.w f d u (Self cs nt As) P) (hx : c.N[i]? = some x) (hi : σ[i]? = some (some (.ws cs nt)))
    (hg : plainGet (hd.heap_39 c.w.params) 133 name = true) (hf : findIn (hd.heap_39 c.w.params) (.ref 133) name = some (some (.ref f))) (ht : isFn (hd.heap_39 c.w.params) (.ref f) = true) (hk : keepIn (hd.heap_39 c.w.params) (.ref f) = true)
    (hl : ∀ hs ts vs, getL name (wsE hs ts vs) = some none) (ha : EvL c A σ (e :: es) As) (rm : Rm A d u) {pl : Sem Bool} (hm : eval (.Call (.Attribute (.Name x px) name pa) (e :: es) [] pc) c.env = (do
      let ov ← eval (.Name x px) c.env
      standAt pa.atName
      let (f, first) ← holding [ov] (getMethod ov name pl)
      callWith pc f first (backTo pc (starEach (e :: es) c.env)) []) := by rfl)
    (hdb : (x == ("__debug__" : Str)) = false := by decide) (hn : (x == ("__classdict__" : Str)) = false := by decide)
    (he : starEach (e :: es) c.env = (false, eval e c.env) :: starEach es c.env := by rfl) (hplain : (backTo pc (starEach es c.env)).any (·.1) = false := by rfl) : Ev c A σ (.Call (.Attribute (.Name x px) name pa) (e :: es) [] pc) P := .mk fun s z E Q S q =>
  MethodCall_ ((ev_name_ws hx hi hdb hn).run s z E _ S fun v h' tk z' g p => by
    obtain ⟨xa, dx, n, hs, ts, vs, rfl, h2, h3, h4⟩ := id p
    have S' := S.grow g
    have I := inst_at (g.sub _ _ h2) (g.sub _ _ h3)
    refine method_fn (K := hd.heap_39 c.w.params) (s := { s with heap := h', toks := tk }) S'.gd.K I (plainGet_of hg).1 (plainGet_of hg).2 hf (beq_iff_eq.mp ht) (by show (lookIn name (dictOf (wsE hs ts vs) n)).map _ = _; rw [lookIn_dict, hl]; rfl) ?_
    refine callWith_K (K := hd.heap_39 c.w.params) S'.gd.K hk ?_ he hplain
    refine ha.run _ z' pc E _ S' fun us h₂ t₂ z₂ g₂ p₂ => ⟨(S'.grow g₂).gd.K, ?_⟩
    exact wpAny_call (F.run A _ z₂ (.ref xa :: us) _ rm (S'.grow g₂).gd g₂.sub (S'.grow g₂).zt ⟨_, us, rfl, WsAt.mono g₂.le p, p₂⟩ fun r h₃ t₃ z₃ g₃ p₃ => q r h₃ t₃ z₃ ((g.trans g₂).trans g₃) p₃)) hm
theorem ev_meth0 {name : Str} {f : Addr} {d u : Nat} {pa pc : Pos} {P : Value → Z → Prop} (F : Fn c.w f d u (Self cs nt (Ds [])) P) (hx : c.N[i]? = some x) (hi : σ[i]? = some (some (.ws cs nt)))
    (hg : plainGet (hd.heap_39 c.w.params) 133 name = true) (hf : findIn (hd.heap_39 c.w.params) (.ref 133) name = some (some (.ref f))) (ht : isFn (hd.heap_39 c.w.params) (.ref f) = true) (hk : keepIn (hd.heap_39 c.w.params) (.ref f) = true)
    (hl : ∀ hs ts vs, getL name (wsE hs ts vs) = some none) (rm : Rm A d u) {pl : Sem Bool} (hm : eval (.Call (.Attribute (.Name x px) name pa) [] [] pc) c.env = (do
      let ov ← eval (.Name x px) c.env
      standAt pa.atName
      let (f, first) ← holding [ov] (getMethod ov name pl)
      callWith pc f first (backTo pc (starEach [] c.env)) []) := by rfl)
    (hdb : (x == ("__debug__" : Str)) = false := by decide) (hn : (x == ("__classdict__" : Str)) = false := by decide) : Ev c A σ (.Call (.Attribute (.Name x px) name pa) [] [] pc) P := .mk fun s z E Q S q =>
  MethodCall_ ((ev_name_ws hx hi hdb hn).run s z E _ S fun v h' tk z' g p => by
    obtain ⟨xa, dx, n, hs, ts, vs, rfl, h2, h3, h4⟩ := id p
    have S' := S.grow g
    have I := inst_at (g.sub _ _ h2) (g.sub _ _ h3)
    refine method_fn (K := hd.heap_39 c.w.params) (s := { s with heap := h', toks := tk }) S'.gd.K I (plainGet_of hg).1 (plainGet_of hg).2 hf (beq_iff_eq.mp ht) (by show (lookIn name (dictOf (wsE hs ts vs) n)).map _ = _; rw [lookIn_dict, hl]; rfl) ?_
    refine callWith_K0 (K := hd.heap_39 c.w.params) S'.gd.K hk ?_
    exact wpAny_call (F.run A _ z' [.ref xa] _ rm S'.gd g.sub S'.zt ⟨_, [], rfl, p, .nil⟩ fun r h₃ t₃ z₃ g₃ p₃ => q r h₃ t₃ z₃ (g.trans g₃) p₃)) hm
end
end Mine

-- W1
namespace Mine
noncomputable def longest (cs : List Int) : Nat := cs.length - 1
theorem fn_longest {w : World} {cs : List Int} {nt : Int} (h1 : 1 ≤ cs.length) (h2 : cs.length ≤ 1000) : Fn w 95 1 4 (Self cs nt (Ds [])) (D (.int (longest cs : Nat))) := .mk fun A s z args R rm g k zt ha q => by
  obtain ⟨v1, us, rfl, r1, r2⟩ := ha
  cases r2
  refine enter_plain (N := [Str.ofString "self", Str.ofString "count", Str.ofString "trailing"]) (us := [some (.ws cs nt), none, none]) (Nat.lt_of_le_of_lt (Nat.le_add_right _ _) rm.dp) g k zt (by k_is) (by k_is) (BindsTo.of_eq rfl) (all_loc rfl) (by decide) (by decide) rfl ?_ ?_ q
  · exact slots_some ⟨rfl, v1, rfl, r1⟩ (slots_none (slots_none slots_nil))
  · have hh := rm.hd
    refine sx_step (sx1_unpack2 (i := 1) (j := 2) hh ⟨rfl, .inl rfl⟩ ⟨rfl, .inl rfl⟩ (ev_norm (i := 0) rfl rfl)) ?_
    refine sx_return (Ev.to (ev_bf (bf_max hh) rfl (by k_is) boot_max (evl_cons (ev_bin (ev_bf (bf_len_t (by rw [List.length_map]; lia)) rfl (by k_is) boot_len (evl_cons (ev_name (i := 1) rfl rfl) evl_nil)) ev_int sub_i) (evl_cons (ev_name (i := 2) rfl rfl) evl_nil))) ?_)
    rw [List.length_map, if_neg (by lia)]
    congr 1
    unfold longest
    lia
noncomputable def ilv (ts : Nat) (cs : List Int) : Nat → Int
  | 0 => 0
  | k + 1 => ilv ts cs k + (((ts + k) / ts : Nat) : Int) * cs.getD (ts + k) 0
noncomputable def level (cs : List Int) (nt : Int) (ts : Nat) : Int := (ts : Int) * (ilv ts cs (cs.length - ts) + nt)
theorem fn_level {w : World} {cs : List Int} {nt : Int} {ts : Nat} (h2 : cs.length ≤ 1000) (h3 : 0 < ts) (h4 : ts ≤ 1000) : Fn w 102 1 4 (Self cs nt (Ds [.int (ts : Int)])) (D (.int (level cs nt ts))) := .mk fun A s z args R rm g k zt ha q => by
  obtain ⟨v1, us, rfl, r1, r2⟩ := ha
  obtain ⟨v2, r3, rfl⟩ := one_arg r2
  refine enter_plain (N := [Str.ofString "self", Str.ofString "tabsize", Str.ofString "count", Str.ofString "trailing", Str.ofString "il", Str.ofString "i"]) (us := [some (.ws cs nt), some (.dat (.int ts)), none, none, none, none]) (Nat.lt_of_le_of_lt (Nat.le_add_right _ _) rm.dp) g k zt (by k_is) (by k_is) (BindsTo.of_eq rfl) (all_loc rfl) (by decide) (by decide) rfl ?_ ?_ q
  · exact slots_some ⟨rfl, v1, rfl, r1⟩ (slots_some ⟨rfl, v2, rfl, r3⟩ (slots_none (slots_none (slots_none (slots_none slots_nil)))))
  · have hh := rm.hd
    have ecl : (cs.map PyData.int).length = cs.length := List.length_map ..
    refine sx_step (sx1_unpack2 (i := 2) (j := 3) hh ⟨rfl, .inl rfl⟩ ⟨rfl, .inl rfl⟩ (ev_norm (i := 0) rfl rfl)) ?_
    refine sx_step (sx1_assign (i := 4) ⟨rfl, .inl rfl⟩ ev_int) ?_
    refine sx_for (i := 5) (fun k σ => ∃ u5, σ = [some (.ws cs nt), some (.dat (.int ts)), some (.dat (.tuple (cs.map .int))), some (.dat (.int 0)), some (.dat (.int (ilv ts cs k))), u5])
      (fun σ => ∃ u5, σ = [some (.ws cs nt), some (.dat (.int ts)), some (.dat (.tuple (cs.map .int))), some (.dat (.int 0)), some (.dat (.int (ilv ts cs (cs.length - ts)))), u5])
      ⟨rfl, .inl rfl⟩ (evi_range2 (n := cs.length - ts) (ev_name (i := 1) rfl rfl) (ev_bf (bf_len_t (by rw [ecl]; lia)) rfl (by k_is) boot_len (evl_cons (ev_name (i := 2) rfl rfl) evl_nil)) hh ?_ (by lia) (by rw [ecl]; lia) rfl (by k_is)) ⟨none, rfl⟩ (fun k σ h => by obtain ⟨u5, rfl⟩ := h; rfl) ?_ ?_ ?_
    · rw [ecl]; split <;> lia
    · intro k d σ₁ p hd hJ
      obtain ⟨rfl, hk⟩ := upTo_get hd
      obtain ⟨u5, rfl⟩ := hJ
      have hlt : ts + k < cs.length := by lia
      have e1 : ((ts : Int) + (k : Int)) = ((ts + k : Nat) : Int) := by push_cast; rfl
      rw [e1]
      refine sx_step (sx1_assign (i := 4) (d := .int (ilv ts cs (k + 1))) ⟨rfl, .inl rfl⟩ (ev_bin (ev_name (i := 4) rfl rfl) (ev_bin (Ev.to (ev_bin (ev_name (i := 5) rfl rfl) (ev_name (i := 1) rfl rfl) (fdiv_i (by lia) (by lia))) (congrArg PyData.int (fdiv_nat (ts + k) ts)))
        (ev_item_t (k := ts + k) (d := .int (cs.getD (ts + k) 0)) (ev_name (i := 2) rfl rfl) (ev_name (i := 5) rfl rfl) (by lia) ?_) (mul_i (mulok_small ?_ ?_))) add_i)) (sx_nil fun z h S => ⟨_, ⟨_, rfl⟩, S⟩)
      · rw [List.getElem?_map, List.getD_eq_getElem?_getD, List.getElem?_eq_getElem hlt]; rfl
      · exact Int.lt_of_lt_of_le (show (-(2 ^ 64) : Int) < 0 by decide) (Int.natCast_nonneg _)
      · exact Int.lt_of_le_of_lt (Int.ofNat_le.mpr (Nat.div_le_self _ _)) (by lia)
    · intro σ₁ hJ
      obtain ⟨u5, rfl⟩ := hJ
      have : (upTo (ts : Int) (cs.length - ts)).length = cs.length - ts := by simp [upTo]
      rw [this]
      exact sx_nil fun z h S => ⟨rfl, _, ⟨u5, rfl⟩, S⟩
    · intro σ₁ hB
      obtain ⟨u5, rfl⟩ := hB
      refine sx_return (Ev.to (ev_bin (ev_name (i := 3) rfl rfl) (ev_bin (ev_name (i := 1) rfl rfl) (ev_bin (ev_name (i := 4) rfl rfl) (ev_nt (i := 0) rfl rfl) add_i) (mul_i (mulok_small (by lia) (by lia)))) add_i) ?_)
      rw [Int.zero_add]; rfl
theorem eqvAll_ints : ∀ a b : List Int, PyData.eqvAll (a.map .int) (b.map .int) = (a == b)
  | [], [] => rfl
  | [], _ :: _ => rfl
  | _ :: _, [] => rfl
  | x :: a, y :: b => by
    rw [List.map_cons, List.map_cons, PyData.eqvAll, PyData.eqv, eqvAll_ints a b]; rfl
theorem depthAll_ints : ∀ a : List Int, PyData.depthAll (a.map .int) ≤ 1
  | [] => by simp [PyData.depthAll]
  | x :: a => by
    have := depthAll_ints a
    rw [List.map_cons, PyData.depthAll]
    simp only [PyData.depth]; lia
theorem canLay_ints : ∀ a : List Int, PyData.canLayAll0 (a.map .int) = true
  | [] => rfl
  | x :: a => by rw [List.map_cons, PyData.canLayAll0, PyData.canLay0, canLay_ints a]; rfl
theorem norm_shaped (cs : List Int) : SeqAt.shaped (.tuple [.tuple (cs.map .int), .int 0]) = true := by
  have h1 := canLay_ints cs
  have h2 := depthAll_ints cs
  unfold SeqAt.shaped
  rw [Bool.and_eq_true]
  constructor
  · simp [PyData.canLay0, PyData.canLayAll0, h1]
  · rw [decide_eq_true_eq]
    simp only [PyData.depth, PyData.depthAll]; lia
theorem fn_equal {w : World} {cs cs' : List Int} {nt nt' : Int} : Fn w 109 1 80 (Self cs nt (fun us z => ∃ v, us = [v] ∧ WsAt z v cs' nt')) (D (.bool (cs == cs'))) := .mk fun A s z args R rm g k zt ha q => by
  obtain ⟨v1, us, rfl, r1, v2, rfl, r2⟩ := ha
  refine enter_plain (N := [Str.ofString "self", Str.ofString "other"]) (us := [some (.ws cs nt), some (.ws cs' nt')]) (Nat.lt_of_le_of_lt (Nat.le_add_right _ _) rm.dp) g k zt (by k_is) (by k_is) (BindsTo.of_eq rfl) (all_loc rfl) (by decide) (by decide) rfl ?_ ?_ q
  · exact slots_some ⟨rfl, v1, rfl, r1⟩ (slots_some ⟨rfl, v2, rfl, r2⟩ slots_nil)
  · have rm2 := fun env => Rm.deeper (d := 0) (u := 77) (env := env) rm
    refine sx_return (Ev.to (ev_cmp (ev_norm (i := 0) rfl rfl) (ev_norm (i := 1) rfl rfl) (eq_d (norm_shaped _) (norm_shaped _) ?_)) ?_)
    · have := (rm2 (envOf (Str.ofString "Whitespace.equal") default 0 0 .none)).un
      exact Nat.lt_of_le_of_lt (Nat.add_le_add_left (by decide) _) this
    · simp only [PyData.eqv, PyData.eqvAll, eqvAll_ints]
      simp
noncomputable def witAt (cs cs' : List Int) (nt nt' : Int) (ts : Nat) : List PyData := if level cs nt ts = level cs' nt' ts then [] else [.tuple [.int (ts : Int), .int (level cs nt ts), .int (level cs' nt' ts)]]
noncomputable def wit (cs cs' : List Int) (nt nt' : Int) (n : Nat) : List PyData := (List.range n).flatMap fun k => witAt cs cs' nt nt' (k + 1)
theorem wit_succ (cs cs' : List Int) (nt nt' : Int) (n : Nat) : wit cs cs' nt nt' (n + 1) = wit cs cs' nt nt' n ++ witAt cs cs' nt nt' (n + 1) := by
  unfold wit; rw [List.range_succ, List.flatMap_append]; simp
theorem wit_len (cs cs' : List Int) (nt nt' : Int) : ∀ n, (wit cs cs' nt nt' n).length ≤ n
  | 0 => Nat.le_refl _
  | n + 1 => by
    rw [wit_succ, List.length_append]
    have := wit_len cs cs' nt nt' n
    have : (witAt cs cs' nt nt' (n + 1)).length ≤ 1 := by unfold witAt; split <;> simp
    lia
noncomputable def longer (a b : Nat) : Nat := if b > a then b else a
theorem fn_wit {w : World} {cs cs' : List Int} {nt nt' : Int} (h1 : 1 ≤ cs.length) (h2 : cs.length ≤ 100) (h1' : 1 ≤ cs'.length) (h2' : cs'.length ≤ 100) : Fn w 116 3 20 (Self cs nt (fun us z => ∃ v, us = [v] ∧ WsAt z v cs' nt')) (D (.list (wit cs cs' nt nt' (longer (longest cs) (longest cs') + 1)))) := .mk fun A s z args R rm g k zt ha q => by
  obtain ⟨v1, us, rfl, r1, v2, rfl, r2⟩ := ha
  refine enter_plain (N := [Str.ofString "self", Str.ofString "other", Str.ofString "n", Str.ofString "a", Str.ofString "ts"]) (us := [some (.ws cs nt), some (.ws cs' nt'), none, none, none]) (Nat.lt_of_le_of_lt (Nat.le_add_right _ _) rm.dp) g k zt (by k_is) (by k_is) (BindsTo.of_eq rfl) (all_loc rfl) (by decide) (by decide) rfl ?_ ?_ q
  · exact slots_some ⟨rfl, v1, rfl, r1⟩ (slots_some ⟨rfl, v2, rfl, r2⟩ (slots_none (slots_none (slots_none slots_nil))))
  · have rm2 := fun env => Rm.deeper (d := 2) (u := 17) (env := env) rm
    have hh := rm.hd
    have eN : (if ((longest cs' : Nat) : Int) > ((longest cs : Nat) : Int) then ((longest cs' : Nat) : Int) else ((longest cs : Nat) : Int)) + 1 = ((longer (longest cs) (longest cs') + 1 : Nat) : Int) := by
      unfold longer; split <;> split <;> lia
    have hN : longer (longest cs) (longest cs') + 1 ≤ 100 := by unfold longer longest; split <;> lia
    refine sx_step (sx1_assign (i := 2) ⟨rfl, .inl rfl⟩ (Ev.to (ev_bin (ev_bf (bf_max hh) rfl (by k_is) boot_max (evl_cons (ev_meth0 (i := 0) (fn_longest h1 (by lia)) rfl rfl (by k_is) (by k_is) (by k_is) (by k_is) (fun _ _ _ => rfl) ((rm2 _).mono (by decide) (by decide)))
      (evl_cons (ev_meth0 (i := 1) (fn_longest h1' (by lia)) rfl rfl (by k_is) (by k_is) (by k_is) (by k_is) (fun _ _ _ => rfl) ((rm2 _).mono (by decide) (by decide))) evl_nil))) ev_int add_i) (congrArg PyData.int eN))) ?_
    generalize longer (longest cs) (longest cs') + 1 = n at hN
    refine sx_assign_own (i := 3) ⟨rfl, .inl rfl⟩ (evn_list evl_nil (by decide)) fun al => ?_
    refine sx_for (i := 4) (fun k σ => ∃ u4, σ = [some (.ws cs nt), some (.ws cs' nt'), some (.dat (.int n)), some (.own al (wit cs cs' nt nt' k)), u4])
      (fun σ => ∃ u4, σ = [some (.ws cs nt), some (.ws cs' nt'), some (.dat (.int n)), some (.own al (wit cs cs' nt nt' n)), u4])
      ⟨rfl, .inl rfl⟩ (evi_range2 (n := n) ev_int (ev_bin (ev_name (i := 2) rfl rfl) ev_int add_i) hh ?_ (by decide) (by lia) rfl (by k_is)) ⟨none, rfl⟩ (fun k σ h => by obtain ⟨u4, rfl⟩ := h; rfl) ?_ ?_ ?_
    · split <;> lia
    · intro k d σ₁ p hd hJ
      obtain ⟨rfl, hk⟩ := upTo_get hd
      obtain ⟨u4, rfl⟩ := hJ
      have e1 : ((1 : Int) + (k : Int)) = ((k + 1 : Nat) : Int) := by lia
      rw [e1]
      refine sx_one ?_
      by_cases hL : level cs nt (k + 1) = level cs' nt' (k + 1)
      · refine sx1_if_f (Ts.to (ts_cmp (ev_meth (i := 0) (fn_level (ts := k + 1) (by lia) (by lia) (by lia)) rfl rfl (by k_is) (by k_is) (by k_is) (by k_is) (fun _ _ _ => rfl) (evl_cons (ev_name (i := 4) rfl rfl) evl_nil) ((rm2 _).mono (by decide) (by decide)))
          (ev_meth (i := 1) (fn_level (ts := k + 1) (by lia) (by lia) (by lia)) rfl rfl (by k_is) (by k_is) (by k_is) (by k_is) (fun _ _ _ => rfl) (evl_cons (ev_name (i := 4) rfl rfl) evl_nil) ((rm2 _).mono (by decide) (by decide))) ne_i) ?_) (sx_nil fun z h S => ⟨_, ⟨some (.dat (.int ((k + 1 : Nat) : Int))), ?_⟩, S⟩)
        · rw [hL]; simp
        · rw [wit_succ, witAt, if_pos hL, List.append_nil]; rfl
      · refine sx1_if_t (Ts.to (ts_cmp (ev_meth (i := 0) (fn_level (ts := k + 1) (by lia) (by lia) (by lia)) rfl rfl (by k_is) (by k_is) (by k_is) (by k_is) (fun _ _ _ => rfl) (evl_cons (ev_name (i := 4) rfl rfl) evl_nil) ((rm2 _).mono (by decide) (by decide)))
          (ev_meth (i := 1) (fn_level (ts := k + 1) (by lia) (by lia) (by lia)) rfl rfl (by k_is) (by k_is) (by k_is) (by k_is) (fun _ _ _ => rfl) (evl_cons (ev_name (i := 4) rfl rfl) evl_nil) ((rm2 _).mono (by decide) (by decide))) ne_i) ?_) ?_
        · rw [bne_iff_ne]; exact hL
        · refine sx_step (sx1_append (i := 3) (d := .tuple [.int ((k + 1 : Nat) : Int), .int (level cs nt (k + 1)), .int (level cs' nt' (k + 1))]) rfl rfl (ev_tuple (evl_cons (ev_name (i := 4) rfl rfl) (evl_cons (ev_meth (i := 0) (fn_level (ts := k + 1) (by lia) (by lia) (by lia)) rfl rfl (by k_is) (by k_is) (by k_is) (by k_is) (fun _ _ _ => rfl) (evl_cons (ev_name (i := 4) rfl rfl) evl_nil) ((rm2 _).mono (by decide) (by decide)))
            (evl_cons (ev_meth (i := 1) (fn_level (ts := k + 1) (by lia) (by lia) (by lia)) rfl rfl (by k_is) (by k_is) (by k_is) (by k_is) (fun _ _ _ => rfl) (evl_cons (ev_name (i := 4) rfl rfl) evl_nil) ((rm2 _).mono (by decide) (by decide))) evl_nil))) (show 3 ≤ 1000 by decide)) (Nat.le_trans (wit_len _ _ _ _ k) (by lia)))
            (sx_nil fun z h S => ⟨_, ⟨some (.dat (.int ((k + 1 : Nat) : Int))), ?_⟩, S⟩)
          rw [wit_succ, witAt, if_neg hL]; rfl
    · intro σ₁ hJ
      obtain ⟨u4, rfl⟩ := hJ
      have : (upTo 1 n).length = n := by simp [upTo]
      rw [this]
      exact sx_nil fun z h S => ⟨rfl, _, ⟨u4, rfl⟩, S⟩
    · intro σ₁ hB
      obtain ⟨u4, rfl⟩ := hB
      exact sx_freeze (i := 3) rfl rfl (sx_return (ev_name (i := 3) rfl rfl))
end Mine

-- V21
namespace Mine
section
variable {prog : Program} {w : World} {A : Around} {K : Frag} {C x dx : Addr} {s : Shared} {R : Result → Shared → Prop} {es : List DictEntry} {n : Nat} {name : Str} {v : Value} {tk : Tok}
theorem store_at (X : K.In s.heap) (I : InstAt s.heap x (instObj C dx) C (some (dictOf es n))) (hp : plainOver K C = true) (ht : takerIn K C name = some none) (hh : hasDictIn K C = true) (hl : (getL name es).isSome = true)
    (hz : (putL name (PyData.keyHash w.params name) (.str name s.toks) v es).length ≤ 1000)
    (h : ∀ h', Heap.SameBut dx s.heap h' → h'.get? dx = some (dictOf (putL name (PyData.keyHash w.params name) (.str name s.toks) v es) (putN name es n)) → R (.ok (.ret .none)) { s with heap := h', toks := s.toks + 1 }) :
    codeAny (model prog w) A (.call (.builtin "object.__setattr__") ⟨[.ref x, .str name tk, v], []⟩) R s := by
  refine osa_open X I hp ht fun b => ?_
  obtain ⟨cd, hc, hd'⟩ := any_some hh
  have D : s.heap.get? dx = some (dictOf es n) := I.dict
  have D' : (s.heap.update dx (Obj.putName name (PyData.keyHash w.params name) (.str name s.toks) v)).get? dx = some (dictOf (putL name (PyData.keyHash w.params name) (.str name s.toks) v es) (putN name es n)) := by
    rw [← putName_dict]
    exact Heap.get?_update_self _ D (by rw [putName_dict]; rfl)
  refine wpAny_bind (wpAny_pure (wpAny_bind (wpAny_bind (wpAny_loadPart I.at_ (wpAny_bind ((looks_clsIn X hc).here ?_))))))
  rw [hd']
  refine wpAny_pure (a := some dx) (wpAny_bind (wpAny_pure (wpAny_bind ?_)))
  unfold nsSet
  refine wpAny_bind (wpAny_bind (wpAny_askSetting (wpAny_pure (wpAny_bind (wpAny_mkText (wpAny_bind (wpAny_loadPart D ?_)))))))
  have cnd : aRefKeyMayBeTheName name es.toArray = false := by
    rw [aRefKeyMayBeTheName_at]
    unfold getL at hl
    have e1 : es.toArray.any (·.key.isStr name) = es.any (·.key.isStr name) := by simp
    have e2 : es.toArray.any (·.refKey) = es.any (·.refKey) := by simp
    rw [e1, e2]
    cases hf : es.find? (·.key.isStr name) with
    | some en => rw [List.any_eq_true.mpr ⟨en, List.mem_of_find?_eq_some hf, List.find?_some hf⟩]; rfl
    | none =>
      rw [hf] at hl
      cases hr : es.any (·.refKey) with
      | true => rw [hr] at hl; cases hl
      | false => rw [Bool.and_false]
  dsimp only
  rw [cnd]
  refine wpAny_updatePart D (wpAny_bind (wpAny_lookBehind D' (pastItsLine_dict (by rw [List.size_toArray, sizeLine_eq]; lia)) ?_))
  exact wpAny_pure (h _ (Heap.SameBut.update ..) D')
end
noncomputable abbrev cxI (c : Cx) (x dx : Addr) (es : List DictEntry) (n : Nat) : Cx := (c.pin (x, instObj 133 dx)).pin (dx, dictOf es n)
section
variable {c : Cx} {A : Around} {σ : List (Option V)} {i j : Nat} {px pa pos : Pos} {x dx : Addr} {es : List DictEntry} {n : Nat} {name self : Str}
theorem inst_st {z : Z} {h : Heap} (S : St (cxI c x dx es n) σ z h) : InstAt h x (instObj 133 dx) 133 (some (dictOf es n)) := inst_at (S.pin _ (.tail _ (.head _))).1 (S.pin _ (.head _)).1
theorem ev_self {v : Value} {d : PyData} (hx : c.N[i]? = some self) (hi : σ[i]? = some (some (.val (.ref x)))) (hg : plainGet (hd.heap_39 c.w.params) 133 name = true) (hh : hasDictIn (hd.heap_39 c.w.params) 133 = true) {attr : Option Value} (ha : findIn (hd.heap_39 c.w.params) (.ref 133) name = some attr) (hno : noGet (hd.heap_39 c.w.params) attr = true)
    (hl : getL name es = some (some v)) (hv : handedIn v = true) (hr : ∀ z, Z.le c.z0 z → Rd z v d) (hdb : (self == ("__debug__" : Str)) = false := by decide) (hn : (self == ("__classdict__" : Str)) = false := by decide) :
    Ev (cxI c x dx es n) A σ (.Attribute (.Name self px) name pos) (D d) := .mk fun s z E Q S q =>
  Attribute_name ((ev_name_val (c := cxI c x dx es n) hx hi hdb hn).run s z E _ S fun v h' tk z' g p => by
    subst p
    have S' := S.grow g
    exact get_value (K := hd.heap_39 c.w.params) (s := { s with heap := h', toks := tk }) S'.gd.K (inst_st S') (plainGet_of hg).1 (findObj_own hh ha hno hl) hv (q _ h' _ z' g (hr z' S'.le)))
theorem sx_setself {e : Expr} {d : PyData} {rest : List Stmt} {P : Flow → Z → Heap → Prop} (hx : c.N[i]? = some self) (hi : σ[i]? = some (some (.val (.ref x)))) (he : Ev (cxI c x dx es n) A σ e (D d))
    (hs : findIn (hd.heap_39 c.w.params) (.ref 133) "__setattr__" = some (some (.builtin "object.__setattr__"))) (hp : plainOver (hd.heap_39 c.w.params) 133 = true) (ht : takerIn (hd.heap_39 c.w.params) 133 name = some none) (hh : hasDictIn (hd.heap_39 c.w.params) 133 = true)
    (hl : (getL name es).isSome = true) (hz : ∀ h k v, (putL name h k v es).length ≤ 1000) (hN : σ.length = c.N.length)
    (hr : ∀ v tk z1, Z.le c.z0 z1 → (∀ a o, z1 a = some o → c.z0 a = some o ∨ (c.h0.objs.size ≤ a ∧ nf o)) → Rd z1 v d → Sx (cxI { c with z0 := z1 } x dx (putL name (PyData.keyHash c.w.params name) (.str name tk) v es) (putN name es n)) A σ rest P) (hge : c.h0.objs.size ≤ dx) (hX : c.X = [])
    (hdb : (self == ("__debug__" : Str)) = false := by decide) (hn : (self == ("__classdict__" : Str)) = false := by decide) (hsw : swapsWith e (some (.Attribute (.Name self px) name pa)) pos.line c.env = pure false := by rfl) :
    Sx (cxI c x dx es n) A σ (.Assign [.Attribute (.Name self px) name pa] e pos :: rest) P := .mk fun s z E Q S q => by
  refine wpAny_execs_cons (plainObj_wpAny_Assign_Attribute (he.run s z E _ S fun v h' tk z' g p => (ev_name_val (c := cxI c x dx es n) hx hi hdb hn).run _ z' E _ (S.grow g) fun u h₂ t₂ z₂ g₂ p₂ => ?_) hsw)
  subst p₂
  have S₂ := (S.grow g).grow g₂
  have pI := S₂.pin _ (.head _)
  have px' := S₂.pin _ (.tail _ (.head _))
  refine set_plain (K := hd.heap_39 c.w.params) (s := { s with heap := h₂, toks := t₂ }) S₂.gd.K (inst_st S₂) hs (store_at (K := hd.heap_39 c.w.params) (s := { s with heap := h₂, toks := t₂ + 1 }) S₂.gd.K (inst_st S₂) hp ht hh hl (hz _ _ _) fun h₃ sb e₃ => ?_)
  have hown : ∀ (j : Nat) a ds, σ[j]? = some (some (.own a ds)) → a ≠ dx := fun j a ds e q => S₂.pid j a ds e _ (.head _) q.symm
  have hxd : x ≠ dx := fun q => by
    have := px'.1; rw [show ((x, instObj 133 dx) : Addr × Obj).1 = dx from q, pI.1] at this; cases this
  have keep : ∀ b o, b ≠ dx → h₂.get? b = some o → h₃.get? b = some o := fun b o hb e => (sb.2 b hb).trans e
  have S₃ : St (cxI { c with z0 := z₂ } x dx (putL name (PyData.keyHash c.w.params name) (.str name (t₂ + 1)) v es) (putN name es n)) σ z₂ h₃ := by
    obtain ⟨m, hm, hv⟩ := S₂.vars
    have ho : h₂.get? dx = some (dictOf es n) := pI.1
    refine ⟨⟨S₂.ok.kind, S₂.ok.glob, S₂.ok.blt, S₂.ok.above, S₂.ok.inj, S₂.ok.nodup, S₂.zt⟩, S₂.ext.sameBut sb hge ho (fun vs q => by cases q), S₂.gd0, fun b o e => keep b o (fun q => by rw [q, pI.2.2.2.2.2] at e; cases e) (S₂.sub b o e), .refl _, fun a o e => .inl e,
      ⟨m, ?_, fun k y u hy hu => (hv k y u hy hu).lift (.refl _) (fun a w hcl hyy => ?_) fun a ds q => ?_⟩, S₂.zl, fun y a e => ?_, fun p hp => ?_, S₂.dis, fun k a ds e p hp => ?_⟩
    · exact hm.at' fun o e => keep _ o (fun q => pI.2.1 q.symm) e
    · obtain ⟨y', hy'⟩ := hyy
      obtain ⟨oc, e1, e2⟩ := hcl
      exact ⟨oc, keep _ _ (fun q => pI.2.2.1 y' a hy' q.symm) e1, e2⟩
    · subst q
      obtain ⟨_, q1, _⟩ := hv k y _ hy hu
      exact ⟨q1, fun o e => keep _ _ (hown k a ds hu) e⟩
    · obtain ⟨q1, w, oc, e1, e2⟩ := S₂.cl y a e
      exact ⟨q1, w, oc, keep _ _ (fun q => pI.2.2.1 y a e q.symm) e1, e2⟩
    · rcases List.mem_cons.mp hp with rfl | hp
      · exact ⟨e₃, pI.2⟩
      · rcases List.mem_cons.mp hp with rfl | hp
        · exact ⟨keep _ _ hxd px'.1, px'.2⟩
        · rw [show c.X = [] from hX] at hp; cases hp
    · rcases List.mem_cons.mp hp with rfl | hp
      · exact fun q => hown k a ds e q.symm
      · rcases List.mem_cons.mp hp with rfl | hp
        · exact S₂.pid k a ds e _ (.tail _ (.head _))
        · exact S₂.pid k a ds e p (.tail _ (.tail _ hp))
  exact (hr v (t₂ + 1) z₂ S₂.le S₂.new (p.mono g₂.le)).run _ z₂ E Q S₃ fun f h₄ t₄ z₄ le₄ p₄ => q f h₄ t₄ z₄ ((g.le.trans g₂.le).trans le₄) p₄
theorem ev_clsattr {X y : Str} {mc : Value} {w : Str} {t : Tok} (hx : c.env.kindOf X = some .globalImplicit) (hf : nsIn (hd.heap_39 c.w.params) mainGlobals X = some (some (.ref 133))) (hr : readsIn (hd.heap_39 c.w.params) 133 mc = true)
    (hc : findCls (hd.heap_39 c.w.params) (.ref 133) mc y = some (.val (.str w t))) (hdb : (X == ("__debug__" : Str)) = false := by decide) : Ev c A σ (.Attribute (.Name X px) y pos) (D (.str w)) := .mk fun s z E Q S q =>
  Attribute_name (glob_name S hf hx (cls_value (K := hd.heap_39 c.w.params) S.gd.K hr hc rfl (q _ s.heap _ z (.refl S.sub) (.str _ _))) hdb)
theorem sx1_swap2 {a b : Str} {p1 p2 pt : Pos} {e : Expr} {k : Nat} {d₁ d₂ : PyData} (hh : A.handled = none) (ha : Sto c i a) (hb : Sto c j b) (h : Ev c A σ e (D (.tuple [d₁, d₂])))
    (hs : swapsWithSole [.Tuple [.Name a p1, .Name b p2] k pt] e pos.line c.env = pure false := by rfl) (hw : swappedStores [.Tuple [.Name a p1, .Name b p2] k pt] e c.env = pure (some [a, b]) := by rfl) :
    Sx1 c A σ (.Assign [.Tuple [.Name a p1, .Name b p2] k pt] e pos) (Nx c ((σ.set j (some (.dat d₂))).set i (some (.dat d₁)))) := .mk fun s z E Q S q => by
  refine Assign_Tuple_swapped (h.run s z E _ S fun v h' tk z' g p => ?_) hs hw
  obtain ⟨_, _, _, rfl, e, r⟩ := p.isTup
  obtain ⟨v1, v2, rfl, r1, r2⟩ := r.is2
  · · · skip
        refine wpAny_size (wpAny_unpackItems_tuple (s := { s with heap := h', toks := tk }) (items := #[_, _]) hh ⟨_, g.sub _ _ e, rfl, _, rfl⟩ fun h₂ x₂ hsz => ?_)
        have S₂ := (S.grow g).grow (Gr.extBut g.sub x₂ hsz)
        exact assignInOrder_cons (wpAny_bindName (store (u := .dat d₂) hb S₂ r2 trivial fun h₃ t₃ S₃ => assignInOrder_cons (wpAny_bindName (store (u := .dat d₁) ha S₃ r1 trivial fun h₄ t₄ S₄ =>
          assignInOrder_nil (q .next h₄ t₄ z' g.le ⟨rfl, S₄⟩)))))
end
end Mine

-- W2
namespace Mine
section
variable {prog : Program} {w : World} {A : Around} {E : Value → Shared → Prop} {s : Shared}
theorem collect_s {Q : List Value → Shared → Prop} (it : Addr) {T : String} {o : Obj} {items : Array Value} {n : Nat} (hT : T = "list" ∨ T = "tuple") (ho : s.heap.get? it = some o) (hc : o.cls = .type T) (hd : o.data = .seq items n)
    (hQ : ∀ h', (∀ b o', s.heap.get? b = some o' → h'.get? b = some o') → s.heap.objs.size ≤ h'.objs.size → Q items.toList { s with heap := h' }) (hsz : items.size ≤ sizeLine := by size_fits) : wpAny (model prog w) A (collect (.ref it)) Q E s :=
  wpAny_size (wpAny_collect_seq it hT ho hc hd (fun h' hk hs => hQ h' hk hs) hsz)
end
theorem meets_tuple_s (l : Addr) (o : Obj) (items : Array Value) (n : Nat) (hc : o.cls = .type "list") (hd : o.data = .seq items n) (hsz : items.size ≤ sizeLine := by size_fits) :
    Meets (Builtin.«tuple.__new__» ⟨[.type "tuple", .ref l], []⟩)
      (fun _ R s => s.heap.get? l = some o ∧ ∀ h' : Heap, (∀ b o', s.heap.get? b = some o' → h'.get? b = some o') → s.heap.objs.size ≤ h'.objs.size → R (.ok (.ret (.ref h'.objs.size))) { s with heap := h'.push { cls := .type "tuple", data := .seq items } }) :=
  .of_wp fun prog w A R s h => by
    obtain ⟨hp, g, d, tk, os⟩ := s; obtain ⟨ht, h⟩ := h
    have hsub := sub_tuple_self
    have hinit := init_tuple_lookup
    have hmh := madeHere_tuple
    have hT : Shared.TypeIs ⟨hp, g, d, tk, os⟩ (.ref l) "list" := ⟨o, ht, hc⟩
    wp_walk using PySem.AutoSeq1.wpAny_loadPart' ht, wpAny_typeOf hT, collect_s (hsz := hsz) l (.inl rfl) ht hc hd
    intro h' hk hs
    show wpAny _ _ (Builtin.Tuple.tupleExact items.toList.toArray >>= fun v => ret v) _ _ _
    unfold Builtin.Tuple.tupleExact
    refine wpAny_bind (wpAny_newObj_type ?_ (by show items.toList.toArray.size ≤ sizeLine; simpa using hsz))
    refine wpAny_pure ⟨_, rfl, ?_⟩
    have e : items.toList.toArray = items := by simp
    rw [e]
    exact h h' hk hs
theorem ev_tuple_of {c : Cx} {A : Around} {σ : List (Option V)} {e : Expr} {px pos : Pos} {ds : List PyData} (h : Ev c A σ e (D (.list ds))) (hs : ds.length ≤ 1000) (hx : c.env.kindOf (Str.ofString "tuple") = some .globalImplicit)
    (hf : nsIn (hd.heap_39 c.w.params) mainGlobals (Str.ofString "tuple") = some none) (he : starEach [e] c.env = (false, eval e c.env) :: starEach [] c.env := by rfl) : Ev c A σ (.Call (.Name (Str.ofString "tuple") px) [e] [] pos) (D (.tuple ds)) := .mk fun s z E Q S q => by
  refine Call_Name rfl (boot_name S hf boot_tuple hx (by decide) (Pv.callWith_type1 (wpAny_items_cons (h.run s z E _ S fun v h' tk z' g p => wpAny_items_nil ?_) he) he) (by decide))
  cases p with
  | list e r =>
    rename_i a vs n
    refine callType_new PySem.F.called_tuple (by decide) (PySem.F.typeCall_tuple_1 _) (PySem.F.newCall_tuple_1 _) (fun obj => PySem.F.args_object_init_2 obj _) PySem.F.entry_tuple_new
      (meets_tuple_s a _ vs.toArray n rfl rfl (by rw [List.size_toArray, r.length, sizeLine_eq]; lia)) ⟨g.sub _ _ e, fun h₂ hk hs => ⟨⟨_, Heap.get?_push_size _ rfl, rfl⟩, ?_⟩⟩
    have g₂ := g.trans (Gr.keeps g.sub hk hs)
    exact q _ _ tk _ (g₂.trans (Gr.put g₂.sub (tobj vs 0))) (.tuple (n := 0) (by simp [Z.put]) (r.mono (Z.le_put g₂.sub _)))
noncomputable def WsDone (z0 : Z) (h0 : Heap) (x dx : Addr) (cs : List Int) (nt : Int) (z : Z) (h : Heap) : Prop :=
  (∃ n hs ts vs, h.get? x = some (instObj 133 dx) ∧ h.get? dx = some (dictOf (wsE hs ts vs) n) ∧ z x = none ∧ z dx = none ∧ Rd z (vs 3) (.tuple [.tuple (cs.map .int), .int 0]) ∧ ∃ t, vs 2 = .int nt t) ∧ Gr z0 h0 z h
noncomputable abbrev cx0 (w : World) (qual : Str) (scope : Scope) (f : Addr) (cdv : Value) (N : List Str) (L : Addr) (h0 : Heap) (z0 : Z) : Cx := ⟨w, envOf qual scope L f cdv, N, h0, z0, []⟩
section
variable {w : World} {A : Around} {s : Shared} {z : Z} {R : Result → Shared → Prop} {name qual : Str} {params : Arguments} {body : List Stmt} {scope : Scope} {dV kV doc pm cdv ct oc : Value} {an od : Option Addr} {osl : Array (Option Value)} {args : List Value} {binds : Addr → List (Str × Value)}
theorem enter_init {N : List Str} {us : Addr → List (Option V)} {cs : List Int} {nt : Int} (rm : A.depth + 1 < recursionLimit) (g : Gd w s.heap) (k : Z.sub z s.heap) (zt : z.Nf)
    (hm : makesIn (hd.heap_39 w.params) 133 = true) (hi : findIn (hd.heap_39 w.params) (.ref 133) "__init__" = some (some (.ref 88))) (hfn : typeIn (hd.heap_39 w.params) (.ref 88) = some (.type "function"))
    (ho : (hd.heap_39 w.params).lookup 88 = some ⟨oc, od, .func (fnOf name qual params body scope dV kV doc pm an cdv ct), osl⟩) (hcd : codeIn (hd.heap_39 w.params) cdv qual = true)
    (hbind : ∀ s x, BindsTo s (fnOf name qual params body scope dV kV doc pm an cdv ct) ⟨.ref x :: args, []⟩ (binds x)) (hloc : ∀ x, ∀ y ∈ binds x, scope.names.lookup y.1 = some .local) (hcell : ∀ x ∈ scope.names, x.2 ≠ .cell)
    (hN : N.Nodup) (hlen : ∀ x, (us x).length = N.length) (hv : ∀ x (i : Nat) y u, N[i]? = some y → (us x)[i]? = some (some u) → scope.names.lookup y = some .local ∧ ∃ v, (binds x).reverse.lookup y = some v ∧ Arg z v u)
    (hb : ∀ x dx L A', A'.handled = A.handled → A'.depth = A.depth + 2 → A'.units = A.units + 4 → s.heap.objs.size ≤ dx → Sx (cxI (cx0 w qual scope 88 cdv N L s.heap z) x dx [] 0) A' (us x) body (fun f z' h' => f = .next ∧ WsDone z s.heap x dx cs nt z' h'))
    (h : ∀ r h' tk z', Gr z s.heap z' h' → WsAt z' r cs nt → R (.ok (.ret r)) { s with heap := h', toks := tk })
    (hco : scope.isCoroutine = false := by rfl) (hgen : scope.isGenerator = false := by rfl) (hk : scope.kind = .function := by rfl) : codeAny (model PR w) A (.call (.ref 133) ⟨args, []⟩) R s := by
  obtain ⟨hh, gg, dd, tt, os⟩ := s
  refine make_core (makes_of g.K hm) (looks_findIn g.K hi) (fun self => bind_fn g.K self hfn) (.inl rfl) ?_
  have kp : ∀ b o, hh.get? b = some o → ((hh.push emptyDict).push (instObj 133 hh.objs.size)).get? b = some o := fun b o e => Heap.get?_push_of_some _ (Heap.get?_push_of_some _ e)
  have e1 : (hh.push emptyDict).objs.size = hh.objs.size + 1 := Heap.size_push ..
  have e2 : ((hh.push emptyDict).push (instObj 133 hh.objs.size)).objs.size = hh.objs.size + 2 := by rw [Heap.size_push, e1]
  have hx : ((hh.push emptyDict).push (instObj 133 hh.objs.size)).get? (hh.objs.size + 1) = some (instObj 133 hh.objs.size) := by rw [← e1]; exact Heap.get?_push_size _ rfl
  have hdx : ((hh.push emptyDict).push (instObj 133 hh.objs.size)).get? hh.objs.size = some (dictOf [] 0) := Heap.get?_push_of_some _ (Heap.get?_push_size _ rfl)
  have g2 : Gd w ((hh.push emptyDict).push (instObj 133 hh.objs.size)) := g.ext (.of_keeps kp (by rw [e2]; exact Nat.le_add_right _ _))
  obtain ⟨p, l, me, mg, mb, T⟩ := g2.T
  refine codeAny_call_def (fd := fnOf name qual params body scope dV kV doc pm an cdv ct) (body := body) (binds := binds (hh.objs.size + 1)) (by show A.depth + 1 < _; exact rm) (g2.K _ _ ho) rfl T.nolimit (codeRec_of g2.K hcd) rfl (hbind _ _) hcell (hloc _) (fun h₁ hns hk₁ => ?_) hco hgen hk
  have zn : ∀ a, hh.objs.size ≤ a → z a = none := fun a ha => by
    cases q : z a with
    | none => rfl
    | some o => exact absurd (Heap.lt_size (k a o q)) (Nat.not_lt.mpr ha)
  have own : ∀ (i : Nat) a ds, (us (hh.objs.size + 1))[i]? = some (some (.own a ds)) → False := fun i a ds e => by
    have hlt : i < N.length := (hlen _) ▸ getElem?_lt e
    obtain ⟨_, v, _, r⟩ := hv _ i _ _ (List.getElem?_eq_getElem hlt) e
    exact r.elim
  have S : St (cxI (cx0 w qual scope 88 cdv N ((hh.push emptyDict).push (instObj 133 hh.objs.size)).objs.size hh z) (hh.objs.size + 1) hh.objs.size [] 0) (us (hh.objs.size + 1)) z h₁ := by
    refine ⟨⟨hk, rfl, rfl, by show hh.objs.size ≤ _; rw [e2]; exact Nat.le_add_right _ _, fun x y a e => (nomatch (show (none : Option Addr) = some a from e)), hN, zt⟩, (Ext.of_keeps kp (by rw [e2]; exact Nat.le_add_right _ _)).trans (.of_keeps hk₁ (Nat.le_of_lt hns.lt)), g, fun a o e => hk₁ _ _ (kp _ _ (k a o e)), .refl z, fun a o e => .inl e, ⟨_, hns, fun i x u hx hu => ?_⟩,
      zn _ (by show hh.objs.size ≤ _; rw [e2]; exact Nat.le_add_right _ _), fun x a e => (nomatch (show (none : Option Addr) = some a from e)), fun p hp => ?_, fun i j a ds b es h1 _ _ => (own i a ds h1).elim, fun i a ds e p hp => (own i a ds e).elim⟩
    · obtain ⟨q1, v, q2, r⟩ := hv _ i x u hx hu
      have sl : Slot (envOf qual scope ((hh.push emptyDict).push (instObj 133 hh.objs.size)).objs.size 88 cdv) (fun x => (binds (hh.objs.size + 1)).reverse.lookup x) h₁ x v := .inl ⟨q1, q2⟩
      cases u with
      | dat d => exact ⟨v, sl, r⟩
      | own a ds => exact r.elim
      | ws cs nt => exact ⟨v, sl, r⟩
      | val u => cases r; exact sl
    · have t1 : 44 < hh.objs.size := g.t1.lt
      have t2 : 37 < hh.objs.size := g.t2.lt
      rcases List.mem_cons.mp hp with rfl | hp
      · refine ⟨hk₁ _ _ hdx, ?_, fun x a e => (nomatch (show (none : Option Addr) = some a from e)), show hh.objs.size ≠ 44 from Nat.ne_of_gt t1, show hh.objs.size ≠ 37 from Nat.ne_of_gt t2, zn _ (Nat.le_refl _)⟩
        show hh.objs.size ≠ ((hh.push emptyDict).push (instObj 133 hh.objs.size)).objs.size
        rw [e2]; lia
      · rcases List.mem_cons.mp hp with rfl | hp
        · refine ⟨hk₁ _ _ hx, ?_, fun x a e => (nomatch (show (none : Option Addr) = some a from e)), show hh.objs.size + 1 ≠ 44 from Nat.ne_of_gt (Nat.lt_succ_of_lt t1), show hh.objs.size + 1 ≠ 37 from Nat.ne_of_gt (Nat.lt_succ_of_lt t2), zn _ (Nat.le_succ _)⟩
          show hh.objs.size + 1 ≠ ((hh.push emptyDict).push (instObj 133 hh.objs.size)).objs.size
          rw [e2]; lia
        · cases hp
  refine (hb (hh.objs.size + 1) hh.objs.size _ _ ?_ ?_ ?_ (Nat.le_refl _)).run _ z _ _ S fun fl h' tk z' le p => ?_
  · rfl
  · rfl
  · rfl
  obtain ⟨rfl, ⟨n, hs, ts, vs, w1, w2, w3, w4, w5, w6⟩, gr⟩ := p
  have g₁ := gr.freeze (a := hh.objs.size + 1) (Nat.le_succ _) w3 w1
  have g₂ := g₁.freeze (a := hh.objs.size) (o := dictOf (wsE hs ts vs) n) (Nat.le_refl _) (by simp [Z.put, w4]) w2
  have le2 : Z.le z' ((z'.put (hh.objs.size + 1) (instObj 133 hh.objs.size)).put hh.objs.size (dictOf (wsE hs ts vs) n)) := (Z.le_put' w3 _).trans (Z.le_put' (by simp [Z.put, w4]) _)
  exact ⟨rfl, h _ h' tk _ g₂ ⟨hh.objs.size + 1, hh.objs.size, n, hs, ts, vs, rfl, by simp [Z.put], by simp [Z.put], w5.mono le2, w6⟩⟩
end
end Mine

-- W3
namespace Mine
noncomputable def grow (cnt : List Int) (b : Nat) : List Int := if cnt.length ≤ b then cnt ++ List.replicate (b - cnt.length + 1) 0 else cnt
noncomputable def wsGo : List Nat → List Int → Nat → Nat → List Int × Nat × Nat
  | [], cnt, b, nt => (cnt, b, nt)
  | c :: r, cnt, b, nt => if c = 32 then wsGo r cnt (b + 1) nt else if c = 9 then wsGo r ((grow cnt b).set b ((grow cnt b).getD b 0 + 1)) 0 (nt + 1) else (cnt, b, nt)
theorem grow_len (cnt : List Int) (b : Nat) : b < (grow cnt b).length ∧ (grow cnt b).length ≤ max cnt.length (b + 1) := by
  unfold grow
  split
  · simp; lia
  · lia
theorem str1_eq (c d : Nat) : ((⟨#[c]⟩ : Str) == ⟨#[d]⟩) = decide (c = d) := by
  by_cases h : c = d
  · subst h; rw [decide_eq_true rfl, beq_iff_eq]
  · rw [decide_eq_false h, beq_eq_false_iff_ne]
    intro q; apply h
    have := congrArg Str.cps q
    simpa using this
theorem sx_if_own {c : Cx} {A : Around} {σ : List (Option V)} {i : Nat} {t : Expr} {b : Bool} {body rest : List Stmt} {pos : Pos} {P : Flow → Z → Heap → Prop} {ds' : List PyData} (h : Ts c A σ t b) (h1 : b = true → Sx c A σ body (fun f z h => f = .next ∧ ∃ a, St c (σ.set i (some (.own a ds'))) z h))
    (h2 : b = false → ∃ a, σ = σ.set i (some (.own a ds'))) (hr : ∀ a, Sx c A (σ.set i (some (.own a ds'))) rest P) : Sx c A σ (.If t body [] pos :: rest) P := by
  refine sx_cons (P₁ := fun f z h => f = .next ∧ ∃ a, St c (σ.set i (some (.own a ds'))) z h) (sx1_if h h1 fun hb => sx_nil fun z h S => ⟨rfl, ?_⟩) fun f z h p => ?_
  · obtain ⟨a, e⟩ := h2 hb
    exact ⟨a, e ▸ S⟩
  · obtain ⟨rfl, a, S⟩ := p
    exact ⟨_, S, hr a⟩
theorem eq_s {w : World} {A : Around} {x y : Str} : Op2 w A (compareOp .Eq) (.str x) (.str y) (.bool (x == y)) := .mk fun s z u v E Q g k ru rv h => by
  obtain ⟨_, rfl⟩ := ru.isStr
  obtain ⟨_, rfl⟩ := rv.isStr
  exact PyProof.Rows.eq_str (h _ s.heap s.toks z (.refl k) (.bool _))
theorem fn_ws {w : World} {text : Str} {cs : List Int} {nt : Nat} (hl : text.cps.toList.length ≤ 300) (hgo : wsGo text.cps.toList [] 0 0 = (cs, 0, nt)) : Fn w 133 3 100 (Ds [.str text]) (fun v z => WsAt z v cs (nt : Int)) := .mk fun A s z args R rm g k zt ha q => by
  obtain ⟨v1, r1, rfl⟩ := one_arg ha
  refine enter_init (binds := fun x => [(Str.ofString "self", .ref x), (Str.ofString "ws", v1)]) (N := [Str.ofString "self", Str.ofString "ws", Str.ofString "S", Str.ofString "T", Str.ofString "count", Str.ofString "b", Str.ofString "n", Str.ofString "nt", Str.ofString "ch"])
    (us := fun x => [some (.val (.ref x)), some (.dat (.str text)), none, none, none, none, none, none, none]) (Nat.lt_of_le_of_lt (by lia) rm.dp) g k zt (by k_is) (by k_is) (by k_is) (by k_is) (by k_is) (fun s x => BindsTo.of_eq rfl) (fun x => all_loc rfl) (by decide) (by decide) (fun x => rfl) ?_ ?_ q
  · exact fun xa => slots_some ⟨rfl, _, rfl, rfl⟩ (slots_some ⟨rfl, v1, rfl, r1⟩ (slots_none (slots_none (slots_none (slots_none (slots_none (slots_none (slots_none slots_nil))))))))
  · intro xa dx L A' hA1 hA2 hA3 hge
    have hh : A'.handled = none := hA1.trans rm.hd
    have hu : A'.units + 64 < cLine := by have := rm.un; lia
    refine sx_setself (i := 0) rfl rfl (ev_name (i := 1) rfl rfl) (by k_is) (by k_is) (by k_is) (by k_is) rfl (fun _ _ _ => show 1 ≤ 1000 by decide) rfl (fun v tk z1 le1 new1 hr1 => ?_) hge rfl
    obtain ⟨tt, rfl⟩ := hr1.isStr
    refine sx_step (sx1_swap2 (i := 2) (j := 3) (d₁ := .str " ") (d₂ := .str "\t") hh ⟨rfl, .inl rfl⟩ ⟨rfl, .inl rfl⟩ (ev_tuple (evl_cons (ev_clsattr (mc := .type "type") rfl (by k_is) (by k_is) (by k_is)) (evl_cons (ev_clsattr (mc := .type "type") rfl (by k_is) (by k_is) (by k_is)) evl_nil)) (show 2 ≤ 1000 by decide))) ?_
    refine sx_assign_own (i := 4) ⟨rfl, .inl rfl⟩ (evn_list evl_nil (by decide)) fun al => ?_
    refine sx_step (sx1_three (i := 5) (j := 6) (l := 7) ⟨rfl, .inl rfl⟩ ⟨rfl, .inl rfl⟩ ⟨rfl, .inl rfl⟩ ev_int) ?_
    have eS : ∀ c : Nat, ((⟨#[c]⟩ : Str) == " ") = decide (c = 32) := fun c => str1_eq c 32
    have eT : ∀ c : Nat, ((⟨#[c]⟩ : Str) == "\t") = decide (c = 9) := fun c => str1_eq c 9
    refine sx_for (i := 8) (fun k σ => ∃ al cnt b n nt' u8, σ = [some (.val (.ref xa)), some (.dat (.str text)), some (.dat (.str " ")), some (.dat (.str "\t")), some (.own al (intsD cnt)), some (.dat (.int ((b : Nat) : Int))), some (.dat (.int n)), some (.dat (.int ((nt' : Nat) : Int))), u8] ∧
        wsGo (text.cps.toList.drop k) cnt b nt' = (cs, 0, nt) ∧ b ≤ k ∧ cnt.length ≤ k + 1)
      (fun σ => ∃ al n u8, σ = [some (.val (.ref xa)), some (.dat (.str text)), some (.dat (.str " ")), some (.dat (.str "\t")), some (.own al (intsD cs)), some (.dat (.int 0)), some (.dat (.int n)), some (.dat (.int (nt : Int))), u8] ∧ cs.length ≤ 302)
      ⟨rfl, .inl rfl⟩ (evi_str (ev_self (i := 0) (v := .str text tt) rfl rfl (by k_is) (by k_is) (by k_is) (by k_is) rfl rfl (fun z _ => .str _ _)) hh) ⟨al, [], 0, 0, 0, none, rfl, by rw [List.drop_zero]; exact hgo, Nat.le_refl _, Nat.zero_le _⟩
      (fun k σ h => by obtain ⟨al, cnt, b, n, nt', u8, rfl, _⟩ := h; rfl) ?_ ?_ ?_
    · intro k d σ₁ p hd hJ
      obtain ⟨al, cnt, b, n, nt', u8, rfl, hg, hb, hcl⟩ := hJ
      have hkl : k < text.cps.toList.length := by simpa [chr1] using getElem?_lt hd
      rw [List.getElem?_map, List.getElem?_eq_getElem hkl] at hd
      cases hd
      rw [List.drop_eq_getElem_cons hkl, wsGo] at hg
      generalize text.cps.toList[k] = ch at hg
      have ecl : (intsD cnt).length = cnt.length := List.length_map ..
      refine sx_one ?_
      by_cases h32 : ch = 32
      · rw [if_pos h32] at hg
        refine sx1_if_t (Ts.to (ts_cmp (ev_name (i := 8) rfl rfl) (ev_name (i := 2) rfl rfl) eq_s) (by rw [eS]; exact decide_eq_true h32)) ?_
        refine sx_step (sx1_assign (i := 6) ⟨rfl, .inl rfl⟩ (ev_bin (ev_name (i := 6) rfl rfl) ev_int add_i)) (sx_step (sx1_assign (i := 5) ⟨rfl, .inl rfl⟩ (ev_bin (ev_name (i := 5) rfl rfl) ev_int add_i)) (sx_nil fun z h S => ⟨_, ⟨al, cnt, b + 1, n + 1, nt', some (.dat (.str ⟨#[ch]⟩)), ?_, hg, by lia, by lia⟩, S⟩))
        rw [show ((b + 1 : Nat) : Int) = (b : Int) + 1 by push_cast; rfl]; rfl
      · rw [if_neg h32] at hg
        refine sx1_if_f (Ts.to (ts_cmp (ev_name (i := 8) rfl rfl) (ev_name (i := 2) rfl rfl) eq_s) (by rw [eS]; exact decide_eq_false h32)) (sx_one ?_)
        by_cases h9 : ch = 9
        · rw [if_pos h9] at hg
          refine sx1_if_t (Ts.to (ts_cmp (ev_name (i := 8) rfl rfl) (ev_name (i := 3) rfl rfl) eq_s) (by rw [eT]; exact decide_eq_true h9)) ?_
          refine sx_step (sx1_assign (i := 6) ⟨rfl, .inl rfl⟩ (ev_bin (ev_name (i := 6) rfl rfl) ev_int add_i)) (sx_step (sx1_assign (i := 7) ⟨rfl, .inl rfl⟩ (ev_bin (ev_name (i := 7) rfl rfl) ev_int add_i)) ?_)
          have gl := grow_len cnt b
          refine sx_if_own (i := 4) (b := decide (cnt.length ≤ b)) (ds' := intsD (grow cnt b)) (Ts.to (ts_borrow (i := 4) rfl rfl (ts_cmp (ev_name (i := 5) rfl rfl) (ev_bf (bf_len (by rw [ecl]; lia)) rfl (by k_is) boot_len (evl_cons (ev_name (i := 4) rfl rfl) evl_nil)) ge_i)) ?_) (fun hb' => ?_) (fun hb' => ?_) fun al' => ?_
          · rw [ecl]; by_cases q : cnt.length ≤ b
            · rw [decide_eq_true q, decide_eq_true_eq]; lia
            · rw [decide_eq_false q, decide_eq_false_iff_not]; lia
          · have q : cnt.length ≤ b := by simpa using hb'
            have eb : ((b : Int) - (cnt.length : Int) + 1) = ((b - cnt.length + 1 : Nat) : Int) := by lia
            refine sx_assign_own (i := 4) ⟨rfl, .inl rfl⟩ (evn_borrow (i := 4) rfl rfl (EvN.to (evn_bin (ev_name (i := 4) rfl rfl) (EvN.dat (evn_bin (EvN.dat (evn_list (evl_cons ev_int evl_nil) (by decide))) (Ev.to (d' := .int ((b - cnt.length + 1 : Nat) : Int)) (ev_bin (ev_bin (ev_name (i := 5) rfl rfl) (ev_bf (bf_len (by rw [ecl]; lia)) rfl (by k_is) boot_len (evl_cons (ev_name (i := 4) rfl rfl) evl_nil)) sub_i) ev_int add_i) (congrArg PyData.int (by rw [ecl]; exact eb))) (mul_l1 (by lia)))) (add_l' ?_)) ?_) ?_) fun a => sx_nil fun z h S => ⟨rfl, a, S⟩
            · rw [ecl, List.length_replicate]; lia
            · unfold grow; rw [if_pos q, Int.toNat_natCast]; simp [intsD]
            · intro d hd; obtain ⟨m, _, rfl⟩ := List.mem_map.mp hd; rfl
          · have q : ¬ cnt.length ≤ b := by simpa using hb'
            exact ⟨al, by unfold grow; rw [if_neg q]; rfl⟩
          · have egl : (intsD (grow cnt b)).length = (grow cnt b).length := List.length_map ..
            refine sx_step (sx1_setitem (i := 4) (d := .int ((grow cnt b).getD b 0 + 1)) rfl rfl (ev_borrow (i := 4) rfl rfl (ev_bin (ev_item (d := .int ((grow cnt b).getD b 0)) (ev_name (i := 4) rfl rfl) (ev_name (i := 5) rfl rfl) (by lia) (by lia) ?_) ev_int add_i)) (ev_name (i := 5) rfl rfl) (by lia) (by rw [egl]; lia) (by rw [egl]; lia)) ?_
            · rw [Int.toNat_natCast, List.getElem?_map, List.getD_eq_getElem?_getD, List.getElem?_eq_getElem gl.1]; rfl
            · refine sx_step (sx1_assign (i := 5) ⟨rfl, .inl rfl⟩ ev_int) (sx_nil fun z h S => ⟨_, ⟨al', (grow cnt b).set b ((grow cnt b).getD b 0 + 1), 0, n + 1, nt' + 1, some (.dat (.str ⟨#[ch]⟩)), ?_, hg, Nat.zero_le _, by rw [List.length_set]; lia⟩, S⟩)
              rw [show ((nt' + 1 : Nat) : Int) = (nt' : Int) + 1 by push_cast; rfl, Int.toNat_natCast, show intsD ((grow cnt b).set b ((grow cnt b).getD b 0 + 1)) = (intsD (grow cnt b)).set b (.int ((grow cnt b).getD b 0 + 1)) from List.map_set]; rfl
        · rw [if_neg h9] at hg
          refine sx1_if_f (Ts.to (ts_cmp (ev_name (i := 8) rfl rfl) (ev_name (i := 3) rfl rfl) eq_s) (by rw [eT]; exact decide_eq_false h9)) (sx_one (sx1_break.mono fun f z h q => ?_))
          obtain ⟨rfl, S⟩ := q
          cases hg
          exact ⟨_, ⟨al, n, some (.dat (.str ⟨#[ch]⟩)), rfl, by lia⟩, S⟩
    · intro σ₁ hJ
      obtain ⟨al, cnt, b, n, nt', u8, rfl, hg, hb, hcl⟩ := hJ
      have e1 : (chr1 text).length = text.cps.toList.length := by simp [chr1]
      rw [e1, List.drop_length, wsGo] at hg
      cases hg
      exact sx_nil fun z h S => ⟨rfl, _, ⟨al, n, u8, rfl, by rw [e1] at hcl; lia⟩, S⟩
    · intro σ₁ hB
      obtain ⟨al, n, u8, rfl, hcs⟩ := hB
      have ecl : (intsD cs).length = cs.length := List.length_map ..
      refine sx_freeze (i := 4) rfl rfl ?_
      refine sx_setself (i := 0) rfl rfl (ev_name (i := 6) rfl rfl) (by k_is) (by k_is) (by k_is) (by k_is) rfl (fun _ _ _ => show 2 ≤ 1000 by decide) rfl (fun v2 tk2 z2 le2 new2 hr2 => ?_) hge rfl
      refine sx_setself (i := 0) rfl rfl (ev_name (i := 7) rfl rfl) (by k_is) (by k_is) (by k_is) (by k_is) rfl (fun _ _ _ => show 3 ≤ 1000 by decide) rfl (fun v3 tk3 z3 le3 new3 hr3 => ?_) hge rfl
      refine sx_setself (i := 0) rfl rfl (ev_tuple (evl_cons (ev_tuple_of (ev_name (i := 4) rfl rfl) (by rw [ecl]; lia) rfl (by k_is)) (evl_cons (ev_name (i := 5) rfl rfl) evl_nil)) (show 2 ≤ 1000 by decide)) (by k_is) (by k_is) (by k_is) (by k_is) rfl (fun _ _ _ => show 4 ≤ 1000 by decide) rfl (fun v4 tk4 z4 le4 new4 hr4 => ?_) hge rfl
      refine sx_setself (i := 0) rfl rfl (ev_cmp (ev_bf (bf_len (by rw [ecl]; lia)) rfl (by k_is) boot_len (evl_cons (ev_name (i := 4) rfl rfl) evl_nil)) ev_int le_i) (by k_is) (by k_is) (by k_is) (by k_is) rfl (fun _ _ _ => show 5 ≤ 1000 by decide) rfl (fun v5 tk5 z5 le5 new5 hr5 => ?_) hge rfl
      refine sx_nil fun z6 h6 S => ⟨rfl, ?_, ?_⟩
      · obtain ⟨t3, rfl⟩ := hr3.isInt
        have p1 := S.pin _ (.head _)
        have p2 := S.pin _ (.tail _ (.head _))
        refine ⟨_, fun i => match i with | 0 => PyData.keyHash w.params (Str.ofString "raw") | 1 => PyData.keyHash w.params (Str.ofString "n") | 2 => PyData.keyHash w.params (Str.ofString "nt") | 3 => PyData.keyHash w.params (Str.ofString "norm") | _ => PyData.keyHash w.params (Str.ofString "is_simple"),
          fun i => match i with | 0 => tk | 1 => tk2 | 2 => tk3 | 3 => tk4 | _ => tk5, fun i => match i with | 0 => .str text tt | 1 => v2 | 2 => .int nt t3 | 3 => v4 | _ => v5, p2.1, p1.1, p2.2.2.2.2.2, p1.2.2.2.2.2, (hr4.mono le5).mono S.le, t3, rfl⟩
      · have back : ∀ a o, z6 a = some o → z a = some o ∨ (s.heap.objs.size ≤ a ∧ nf o) := fun a o e => by
          rcases S.new a o e with e | e
          · rcases new5 a o e with e | e
            · rcases new4 a o e with e | e
              · rcases new3 a o e with e | e
                · rcases new2 a o e with e | e
                  · exact new1 a o e
                  · exact .inr e
                · exact .inr e
              · exact .inr e
            · exact .inr e
          · exact .inr e
        exact ⟨S.ext, ((((le1.trans le2).trans le3).trans le4).trans le5).trans S.le, S.sub, back⟩
end Mine

-- W4
namespace Mine
noncomputable def blanks (r : Int) : Str := Txt.mul " " r ++ "\t"
theorem onInt_strs (ns : List Nat) (g : Int → Str) : (natsD ns).filterMap (onInt fun r => some (.str (g r))) = (ns.map fun (r : Nat) => g (r : Int)).map .str := by
  induction ns with
  | nil => rfl
  | cons n r ih => simp only [natsD, List.map_cons, List.filterMap_cons, onInt] at ih ⊢; rw [ih]
theorem blank_len : ∀ r : Fin 4, (Txt.mul " " ((r.val : Nat) : Int)).length + ("\t" : Str).length ≤ 1000 := by decide +kernel
noncomputable def turned (runs : List Nat) (here : Nat) : List Nat := runs.drop here ++ runs.take here
noncomputable def leadText (runs : List Nat) (here : Nat) (tail : Str) : Str := Txt.join "" ((turned runs here).map fun (r : Nat) => blanks (r : Int)) ++ tail
theorem fn_lead {w : World} {runs : List Nat} {turn : Int} {tail : Str} {cs : List Int} {nt here : Nat} (h0 : 0 < runs.length) (hl : runs.length ≤ 100) (h3 : ∀ r ∈ runs, r < 4) (hh' : turn.fmod (runs.length : Int) = (here : Int))
    (hj : JoinOk "" ((turned runs here).map fun (r : Nat) => blanks (r : Int)) = true) (hlen : (Txt.join "" ((turned runs here).map fun (r : Nat) => blanks (r : Int))).length + tail.length ≤ 1000) (hl3 : (leadText runs here tail).cps.toList.length ≤ 300)
    (hgo : wsGo (leadText runs here tail).cps.toList [] 0 0 = (cs, 0, nt)) : Fn w 149 5 110 (Ds [.list (natsD runs), .int turn, .str tail]) (fun v z => WsAt z v cs (nt : Int)) := .mk fun A s z args R rm g k zt ha q => by
  obtain ⟨v1, v2, v3, r1, r2, r3, rfl⟩ := three_args ha
  refine enter_plain (N := [Str.ofString "runs", Str.ofString "turn", Str.ofString "tail", Str.ofString "here"]) (us := [some (.dat (.list (natsD runs))), some (.dat (.int turn)), some (.dat (.str tail)), none]) (Nat.lt_of_le_of_lt (Nat.le_add_right _ _) rm.dp) g k zt (by k_is) (by k_is) (BindsTo.of_eq rfl) (all_loc rfl) (by decide) (by decide) rfl ?_ ?_ q
  · exact slots_some ⟨rfl, v1, rfl, r1⟩ (slots_some ⟨rfl, v2, rfl, r2⟩ (slots_some ⟨rfl, v3, rfl, r3⟩ (slots_none slots_nil)))
  · have rm2 := fun env => Rm.deeper (d := 4) (u := 107) (env := env) rm
    have hh := rm.hd
    have erl : (natsD runs).length = runs.length := List.length_map ..
    refine sx_step (sx1_assign (i := 3) (d := .int (here : Int)) ⟨rfl, .inl rfl⟩ (Ev.to (ev_bin (ev_name (i := 1) rfl rfl) (ev_bf (bf_len (by rw [erl]; lia)) rfl (by k_is) boot_len (evl_cons (ev_name (i := 0) rfl rfl) evl_nil)) (mod_i (by rw [erl]; lia))) (congrArg PyData.int (by rw [erl]; exact hh')))) ?_
    have etu : (natsD runs).drop here ++ (natsD runs).take here = natsD (turned runs here) := by
      unfold turned; rw [natsD, natsD, List.map_append, List.map_drop, List.map_take]
    have etl : (natsD (turned runs here)).length ≤ 1000 := by rw [← etu, List.length_append, List.length_drop, List.length_take, erl]; lia
    refine sx_return (ev_call (fn_ws hl3 hgo) rfl (by k_is) (by k_is) (evl_cons (ev_bin (ev_join ev_str (Ev.to (EvN.dat (evn_comp (f := onInt fun r => some (.str (blanks r))) (ds := natsD (turned runs here)) (N := [Str.ofString "run"]) (us := [none]) ⟨by with_unfolding_all rfl, rfl, by decide, by decide, rfl, ?_, rfl, .inl rfl⟩
      (evi_list (Ev.to (EvN.dat (evn_bin (EvN.dat (evn_from (ev_name (i := 0) rfl rfl) (ev_name (i := 3) rfl rfl) (by rw [erl]; lia))) (EvN.dat (evn_upto (ev_name (i := 0) rfl rfl) (ev_name (i := 3) rfl rfl) (by rw [erl]; lia))) (add_l' ?_))) (congrArg PyData.list etu)) hh) etl fun C h0 z0 X d hd => ?_)) (congrArg PyData.list (onInt_strs _ _))) hj) (ev_name (i := 2) rfl rfl) (add_s hlen)) evl_nil) ((rm2 _).mono (by decide) (by decide)))
    · exact slots_none slots_nil
    · rw [List.length_drop, List.length_take, erl]; lia
    · obtain ⟨n, hn, rfl⟩ := List.mem_map.mp hd
      have hn4 : n < 4 := h3 n (by
        rcases List.mem_append.mp hn with h | h
        · exact List.mem_of_mem_drop h
        · exact List.mem_of_mem_take h)
      exact ⟨true, tl_nil, (nomatch ·), fun _ => ⟨_, rfl, ev_bin (ev_bin ev_str (ev_name (i := 0) rfl rfl) (mul_s (by lia) (by decide))) ev_str (add_s (blank_len ⟨n, hn4⟩))⟩⟩
end Mine

-- V22
namespace Mine
theorem RdAll.ints {z : Z} {ns : List Int} {vs : List Value} (r : RdAll z vs (intsD ns)) : IntsAre vs ns := by
  induction ns generalizing vs with
  | nil => obtain rfl := r.isNil; exact .nil
  | cons n t ih =>
    obtain ⟨v, us, rfl, h, q⟩ := r.isCons
    obtain ⟨tk, rfl⟩ := h.isInt
    exact .cons _ _ (ih q)
theorem RdAll.of_ints {z : Z} {ns : List Int} {vs : List Value} (h : IntsAre vs ns) : RdAll z vs (intsD ns) := by
  induction h with
  | nil => exact .nil
  | cons n t _ ih => exact .cons (.int _ _) ih
theorem evn_step {c : Cx} {A : Around} {σ : List (Option V)} {value e₁ e₂ e₃ : Expr} {p pos : Pos} {ns : List Int} {lo hi st : Int} (h1 : Ev c A σ value (D (.list (intsD ns)))) (hlo : Ev c A σ e₁ (D (.int lo))) (hhi : Ev c A σ e₂ (D (.int hi))) (hst : Ev c A σ e₃ (D (.int st))) (hs0 : st ≠ 0) (hsz : ns.length ≤ 10000)
    (hsub : ∀ o i, subscripted (.Slice (some e₁) (some e₂) (some e₃) p) false o i = operate [o, i] (getItem o i) := by intro _ _; with_unfolding_all rfl) :
    EvN c A σ (.Subscript value (.Slice (some e₁) (some e₂) (some e₃) p) pos) (intsD (pickNums ns (some lo) (some hi) (some st))) := .mk fun s z E Q S q => by
  have part : ∀ {e : Expr} {i : Int}, Ev c A σ e (D (.int i)) → ∀ (s : Shared) (z : Z) (Q : Value → Shared → Prop), St c σ z s.heap → (∀ v h' tk z', Gr z s.heap z' h' → IsPart v (some i) → Q v { s with heap := h', toks := tk }) →
      wpAny (model PR c.w) A (evalPart (some e) c.env) Q E s := fun {e i} h s z Q S q => by
    rw [evalPart_some]; exact h.run s z E Q S fun v h' tk z' g p => q v h' tk z' g (by obtain ⟨_, rfl⟩ := p.isInt; exact .int _ _)
  refine Subscript_ (h1.run s z E _ S fun o h₁ t₁ z₁ g₁ p₁ => wpAny_Slice (part hlo _ z₁ _ (S.grow g₁) fun l h₂ t₂ z₂ g₂ pl => part hhi _ z₂ _ ((S.grow g₁).grow g₂) fun u h₃ t₃ z₃ g₃ pu => part hst _ z₃ _ (((S.grow g₁).grow g₂).grow g₃) fun k h₄ t₄ z₄ g₄ pk => ?_))
  obtain ⟨a, vs, n, rfl, e, r⟩ := p₁.isList
  · skip
    have g234 := (g₂.trans g₃).trans g₄
    have e₃ := g234.le _ _ e
    have hl : (h₄.push { cls := .type "slice", data := .fields #[l, u, k] }).IsList a vs.toArray := ⟨_, Heap.get?_push_of_some _ (g₄.sub _ _ e₃), rfl, n, rfl⟩
    have gp := (g₁.trans g234).trans (Gr.push g₄.sub { cls := .type "slice", data := .fields #[l, u, k] })
    have hlen : vs.length = ns.length := by rw [r.length, List.length_map]
    refine tail_any (s := { s with heap := h₄.push { cls := .type "slice", data := .fields #[l, u, k] }, toks := t₄ }) (ops := [.ref a, .ref h₄.objs.size]) hl.typeIs slot_list_getitem.lookup
      (wpAny_getItem_list_slice hl (Heap.IsSliceOf.new _ _ _ _) pl pu pk (by simpa using hs0) ?_ (by rw [List.size_toArray, hlen, sizeLine_eq]; lia)) (hsub _ _)
    have rr : RdAll z₄ (slicePick vs.toArray (some lo) (some hi) (some st)).toList (intsD (pickNums ns (some lo) (some hi) (some st))) := RdAll.of_ints ((r.mono g234.le).ints.pick _ _ _)
    exact q _ (slicePick vs.toArray (some lo) (some hi) (some st)).toList 0 _ t₄ z₄ (gp.trans (Gr.push gp.sub _)) gp.ext.size (Z.none_of_sub gp.sub (get?_size _)) (by rw [show lobj (slicePick vs.toArray (some lo) (some hi) (some st)).toList 0 = { cls := .type "list", data := .seq (slicePick vs.toArray (some lo) (some hi) (some st)) } from by simp]; exact Heap.get?_push_size _ rfl) rr
end Mine

-- V23
namespace Mine
noncomputable abbrev lc2 (elt : Expr) (x : Str) (px : Pos) (iter : Expr) (y : Str) (py : Pos) (iter2 : Expr) (scope : Scope) (pos : Pos) : Expr := .ListComp elt [⟨.Name x px, iter, [], 0⟩, ⟨.Name y py, iter2, [], 0⟩] scope pos
section
variable {elt iter iter2 : Expr} {x y : Str} {px py pos : Pos} {scope : Scope} {it acc : Value} {env : Env}
theorem turn0 : compTurn (lc2 elt x px iter y py iter2 scope pos) 0 it acc env = (standAt iter.pos >>= fun _ => pyNext it >>= fun r => match r with
      | none => pure (.done .next)
      | some v => letOwnedTupleGo (.Name x px) it v >>= fun _ => assign (.Name x px) env v >>= fun _ =>
        eval iter2 env >>= fun xx => standAt iter2.pos >>= fun _ => foldedSetIterable iter2 env xx >>= fun xx => holding [xx] (pyIter xx) >>= fun it2 => runOwn (.compStart (lc2 elt x px iter y py iter2 scope pos) 1 it2 acc env) env >>= fun _ =>
          again (.compLoop (lc2 elt x px iter y py iter2 scope pos) 0 it acc env)) := by rfl
theorem turn1 : compTurn (lc2 elt x px iter y py iter2 scope pos) 1 it acc env = (do
      standAt iter2.pos
      match ← pyNext it with
      | none => pure (.done .next)
      | some v =>
        letOwnedTupleGo (.Name y py) it v
        assign (.Name y py) env v
        let mut ok := true
        for c in ([] : List Expr) do
          if ok then ok ← isTrue c env (eval c env)
        if ok then
          (do let _ ← call (.builtin "list.append") [acc, ← eval elt env])
        again (.compLoop (lc2 elt x px iter y py iter2 scope pos) 1 it acc env)) := by rfl
variable {prog : Program} {w : World} {A : Around} {E : Value → Shared → Prop} {R : Result → Shared → Prop} {s : Shared}
theorem loop_in (I : Nat → Shared → Prop)
    (turn : ∀ n s, I n s → wpAny (model prog w) A (pyNext it) (fun r s₁ => match r with
      | none => R (.ok .next) s₁
      | some v => wpAny (model prog w) A (assign (.Name y py) env v) (fun _ s₂ =>
          wpAny (model prog w) A (forIn ([] : List Expr) true fun c r => if r = true then do let ok ← isTrue c env (eval c env); pure (ForInStep.yield ok) else pure (ForInStep.yield r)) (fun ok s₃ =>
            if ok = true then wpAny (model prog w) A (eval elt env) (fun x s₄ =>
              wpAny (model prog w) A (call (.builtin "list.append") [acc, x]) (fun _ s₅ => ∃ m, m < n ∧ I m s₅) (notedBy (model prog w) A env fun e s' => R (.error e) s') s₄) (notedBy (model prog w) A env fun e s' => R (.error e) s') s₃
            else ∃ m, m < n ∧ I m s₃) (notedBy (model prog w) A env fun e s' => R (.error e) s') s₂) (notedBy (model prog w) A env fun e s' => R (.error e) s') s₁) (notedBy (model prog w) A env fun e s' => R (.error e) s') s)
    (n : Nat) (h : I n s) :
    codeAny (model prog w) A (.compLoop (lc2 elt x px iter y py iter2 scope pos) 1 it acc env) R s := by
  refine codeAny_loop rfl I (fun n s hI => ?_) n h
  show wpAny _ A ((compTurn (lc2 elt x px iter y py iter2 scope pos) 1 it acc env).onRaise (fun x => do noteFrame x env; theTreesLotGoes x)) _ _ s
  refine wpAny_noted ?_
  rw [turn1]
  refine wpAny_bind (wpAny_standAt (wpAny_bind (wpAny_mono (turn n s hI) (fun r s₁ h₁ => ?_) fun _ _ h' => h')))
  cases r with
  | none => exact wpAny_pure h₁
  | some v =>
    refine wpAny_bind (wpAny_of_eq (show letOwnedTupleGo (.Name y py) it v = pure () from rfl) ?_)
    refine wpAny_bind (wpAny_mono h₁ (fun _ s₂ h₂ => wpAny_bind (wpAny_mono h₂ (fun ok s₃ h₃ => ?_) fun _ _ h' => h')) fun _ _ h' => h')
    cases ok with
    | false => exact wpAny_pure ⟨rfl, h₃⟩
    | true =>
      exact wpAny_bind (wpAny_bind (wpAny_mono h₃ (fun x s₄ h₄ => wpAny_bind (wpAny_mono h₄ (fun _ s₅ h₅ => wpAny_pure (wpAny_pure ⟨rfl, h₅⟩)) fun _ _ h' => h')) fun _ _ h' => h'))
theorem start_in
    (h0 : codeAny (model prog w) A (.compLoop (lc2 elt x px iter y py iter2 scope pos) 1 it acc env) R s)
    (h : wpAny (model prog w) A (pyIter it) (fun it' s' => codeAny (model prog w) A (.compLoop (lc2 elt x px iter y py iter2 scope pos) 1 it' acc env) R s')
      (notedBy (model prog w) A env fun x s' => R (.error x) s') s) :
    codeAny (model prog w) A (.compStart (lc2 elt x px iter y py iter2 scope pos) 1 it acc env) R s := by
  refine codeAny_of_tree ?_
  show wpAny _ _ ((compStart (lc2 elt x px iter y py iter2 scope pos) 1 it acc env).onRaise (fun x => do noteFrame x env; standAt theWindowsPlace)) _ _ s
  refine wpAny_notedAt ?_
  unfold compStart
  show wpAny _ _ (ask >>= _) _ _ s
  refine wpAny_bind (wpAny_askSetting (wpAny_ite ?_))
  split
  · first
      | exact wpAny_bind (wpAny_pure (wpAny_pure (And.intro rfl h0)))
      | exact wpAny_pure (And.intro rfl h0)
  · first
      | exact wpAny_bind (wpAny_rule (wpAny_bind (wpAny_standAt (wpAny_bind (wpAny_mono h (fun it' s' h' => wpAny_pure (And.intro rfl h')) fun _ _ x => x)))))
      | (refine wpAny_bind (wpAny_rule ?_); show wpAny _ _ (standAt iter2.pos >>= _) _ _ s; exact wpAny_bind (wpAny_standAt (wpAny_bind (wpAny_mono h (fun it' s' h' => wpAny_pure (And.intro rfl h')) fun _ _ x => x))))
theorem loop_out (I : Nat → Shared → Prop)
    (turn : ∀ n s, I n s → wpAny (model prog w) A (pyNext it) (fun r s₁ => match r with
      | none => R (.ok .next) s₁
      | some v => wpAny (model prog w) A (assign (.Name x px) env v) (fun _ s₂ =>
          wpAny (model prog w) A (eval iter2 env) (fun xx s₃ => wpAny (model prog w) A (pyIter xx) (fun it2 s₄ =>
            codeAny (model prog w) A (.compStart (lc2 elt x px iter y py iter2 scope pos) 1 it2 acc env) (fun r s₅ => match r with
              | .ok _ => ∃ m, m < n ∧ I m s₅
              | .error e => cameBackBy (model prog w) A env (notedBy (model prog w) A env fun e s' => R (.error e) s') e s₅) s₄) (notedBy (model prog w) A env fun e s' => R (.error e) s') s₃)
            (notedBy (model prog w) A env fun e s' => R (.error e) s') s₂) (notedBy (model prog w) A env fun e s' => R (.error e) s') s₁) (notedBy (model prog w) A env fun e s' => R (.error e) s') s)
    (n : Nat) (h : I n s) (hs : ∀ x, foldedSetIterable iter2 env x = pure x := by intro _; rfl) :
    codeAny (model prog w) A (.compLoop (lc2 elt x px iter y py iter2 scope pos) 0 it acc env) R s := by
  refine codeAny_loop rfl I (fun n s hI => ?_) n h
  show wpAny _ A ((compTurn (lc2 elt x px iter y py iter2 scope pos) 0 it acc env).onRaise (fun x => do noteFrame x env; theTreesLotGoes x)) _ _ s
  refine wpAny_noted ?_
  rw [turn0]
  refine wpAny_bind (wpAny_standAt (wpAny_bind (wpAny_mono (turn n s hI) (fun r s₁ h₁ => ?_) fun _ _ h' => h')))
  cases r with
  | none => exact wpAny_pure h₁
  | some v =>
    refine wpAny_bind (wpAny_of_eq (show letOwnedTupleGo (.Name x px) it v = pure () from rfl) ?_)
    refine wpAny_bind (wpAny_mono h₁ (fun _ s₂ h₂ => wpAny_bind (wpAny_mono h₂ (fun xx s₃ h₃ => wpAny_bind (wpAny_standAt (wpAny_bind (wpAny_of_eq (hs xx) ?_)))) fun _ _ h' => h')) fun _ _ h' => h')
    refine wpAny_bind (wpAny_holding (wpAny_mono h₃ (fun it2 s₄ h₄ => wpAny_bind (wpAny_runOwn (codeAny_mono h₄ fun r s₅ h₅ => ?_))) fun _ _ h' => h'))
    cases r with
    | ok f => exact wpAny_pure ⟨rfl, h₅⟩
    | error e => exact h₅
end
end Mine

-- V24
namespace Mine
noncomputable def dn : Option V → Prop
  | none => True
  | some (.dat _) => True
  | _ => False
theorem dn_noOwn {u0 u1 : Option V} {ur : List (Option V)} (h0 : dn u0) (h1 : dn u1) (hr : noOwn ur) : noOwn (u0 :: u1 :: ur) := fun i a ds e => by
  match i with
  | 0 => cases e; exact h0
  | 1 => cases e; exact h1
  | i + 2 => exact hr i a ds (by simpa using e)
inductive TJ (c : Cx) (ur : List (Option V)) (s : Shared) (z : Z) (I Dd : Addr) (Sw : Nat → Heap → Prop) (ds : List PyData) (g : PyData → List PyData) (f : PyData → PyData → PyData) (n : Nat) (s' : Shared) : Prop
  | mk (k : Nat) (u0 u1 : Option V) (z₁ : Z) (h : Heap) (tk : Nat) (vs : List Value) (m : Nat) (e : s' = { s with heap := h, toks := tk }) (hn : n + k = ds.length + 1) (hk : k ≤ ds.length) (S : St c (u0 :: u1 :: ur) z₁ h) (d0 : dn u0) (d1 : dn u1)
      (sw : Sw k h) (le : Z.le z z₁) (zI : z₁ I = none) (zD : z₁ Dd = none) (eD : h.get? Dd = some (lobj vs m)) (r : RdAll z₁ vs ((ds.take k).flatMap fun d => (g d).map (f d))) : TJ c ur s z I Dd Sw ds g f n s'
section
variable {c : Cx} {A : Around} {σ ur : List (Option V)} {elt iter iter2 : Expr} {x y : Str} {px py pos : Pos} {scope : Scope} {ds : List PyData} {g : PyData → List PyData} {f : PyData → PyData → PyData} {cl : List (Str × Addr)} {N : List Str}
theorem loop_two (o : CompOk c σ scope cl N (none :: none :: ur) x) (N1 : N[1]? = some y) (tgt2 : Tgt c scope cl y) (hsz : ds.length ≤ 100) (hsz2 : ∀ d ∈ ds, (g d).length ≤ 50)
    (it2 : ∀ C h0 z0 X d u1, d ∈ ds → EvI (cxK c scope cl N C h0 z0 X) A (some (.dat d) :: u1 :: ur) iter2 (g d))
    (turn : ∀ C h0 z0 X d d2, d ∈ ds → d2 ∈ g d → Ev (cxK c scope cl N C h0 z0 X) A (some (.dat d) :: some (.dat d2) :: ur) elt (D (f d d2)))
    (hs : ∀ C x, foldedSetIterable iter2 (cenvG scope cl C c.env) x = pure x := by intro _ _; rfl) :
    LoopH c A scope cl N (none :: none :: ur) x (lc2 elt x px iter y py iter2 scope pos) ds (ds.flatMap fun d => (g d).map (f d)) := fun C h0 z0 s z I Dd fp Pv Sw R S K eD sto hR => by
  have hnu : noOwn ur := fun i a ds e => o.noOwn (i + 2) a ds (by simpa using e)
  have hlN : (none :: none :: ur : List (Option V)).length = N.length := o.len
  have hlen : ∀ u0 u1 : Option V, (u0 :: u1 :: ur).length = N.length := fun u0 u1 => by rw [← hlN]; rfl
  have hnt : I ≠ 44 ∧ I ≠ 37 := by
    obtain ⟨ob, e, ik⟩ := K.ik 0 _ K.sw
    exact S.gd.ne e ik.1
  have hntD : Dd ≠ 44 ∧ Dd ≠ 37 := S.gd.ne eD (nt_seq rfl)
  refine loop_out (TJ (cxK c scope cl N C h0 z0 []) ur s z I Dd Sw ds g f) ?_ (ds.length + 1) ⟨0, none, none, z, s.heap, s.toks, [], 0, rfl, rfl, Nat.zero_le _, S, trivial, trivial, K.sw, .refl z, K.zI, K.zD, eD, .nil⟩ (hs C)
  rintro n s' ⟨k, u0, u1, z₁, h, tk, vs, m, rfl, hn, hk, S₁, hd0, hd1, sw, le₁, zI₁, zD₁, eD₁, r₁⟩
  obtain ⟨ob, eo, ik⟩ := K.ik k h sw
  have hno₁ := dn_noOwn hd0 hd1 hnu
  have hX : ∀ p ∈ (cxK c scope cl N C h0 z0 []).X, p.1 ≠ I := fun p hp => (K.nX p hp).1
  by_cases hlt : k < ds.length
  · refine K.W.item k _ _ _ hlt sw fun v h₁ t₁ hv sw₁ hk₁ => ?_
    have kb : ∀ b ob, b ≠ I → h.get? b = some ob → h₁.get? b = some ob := fun b ob hb e => hk₁ b ob (fun hm => hb (List.mem_singleton.mp hm)) e
    have S₂ := S₁.but kb eo ik zI₁ K.gI K.nIL K.nIc (fun i a ds e => (hno₁ i a ds e).elim) hX (hlen u0 u1)
    obtain ⟨d, ed, rd⟩ := K.items k v z₁ le₁ hv
    obtain ⟨o₁, eo₁, ik₁⟩ := K.ik (k + 1) h₁ sw₁
    have eD₂ : h₁.get? Dd = some (lobj vs m) := kb _ _ K.nID.symm eD₁
    have S₃ : St ((cxK c scope cl N C h0 z0 []).pin (I, o₁)) (u0 :: u1 :: ur) z₁ h₁ := S₂.repin eo₁ K.nIL (fun y a e q' => K.nIc y a e q'.symm) hnt.1 hnt.2 zI₁ fun j a es e => (hno₁ j a es e).elim
    have S₄ : St (((cxK c scope cl N C h0 z0 []).pin (I, o₁)).pin (Dd, lobj vs m)) (u0 :: u1 :: ur) z₁ h₁ := S₃.repin eD₂ K.nDL (fun y a e q' => K.nDc y a e q'.symm) hntD.1 hntD.2 zD₁ fun j a es e => (hno₁ j a es e).elim
    have st0 := sto x o.tgt 0 o.x0
    have st1 := sto y tgt2 1 N1
    refine wpAny_assign_Name (store (c := ((cxK c scope cl N C h0 z0 []).pin (I, o₁)).pin (Dd, lobj vs m)) (u := .dat d) ⟨st0.at', st0.kind⟩ S₄ rd trivial fun h₂ t₂ S₅ => ?_)
    have S₅ : St (((cxK c scope cl N C h0 z0 []).pin (I, o₁)).pin (Dd, lobj vs m)) (some (.dat d) :: u1 :: ur) z₁ h₂ := S₅
    have mem : d ∈ ds := List.mem_of_getElem? ed
    refine (it2 C h0 z0 (((cxK c scope cl N C h0 z0 []).pin (I, o₁)).pin (Dd, lobj vs m)).X d u1 mem).run { s with heap := h₂, toks := t₂ } z₁ _ _ S₅ fun I2 fp2 Pv2 Sw2 h₃ t₃ z₃ g₃ hI2 zI2 W2 s02 hfp2 hIk2 hP2 => ?_
    have S₆ := S₅.grow g₃
    have pD := S₆.pin (Dd, lobj vs m) (.head _)
    have pI := S₆.pin (I, o₁) (.tail _ (.head _))
    have lD : Dd < h₂.objs.size := Heap.lt_size (S₅.pin (Dd, lobj vs m) (.head _)).1
    have lI : I < h₂.objs.size := Heap.lt_size (S₅.pin (I, o₁) (.tail _ (.head _))).1
    have K2 : CI ((cxK c scope cl N C h0 z0 []).pin (I, o₁)) A z₃ h₃ I2 Dd fp2 (g d) Pv2 Sw2 := by
      refine ⟨W2, hfp2, hIk2, hP2, s02, zI2, pD.2.2.2.2.2, Nat.le_trans S₅.lt hI2, K.gD, fun q => ?_, fun q => ?_, K.nDL, fun y a e q => ?_, K.nDc, fun p hp => ?_⟩
      · rw [q] at hI2; exact absurd lD (Nat.not_lt.mpr hI2)
      · obtain ⟨m', hm', _⟩ := S₅.vars
        exact absurd hm'.lt (by rw [← show I2 = (((cxK c scope cl N C h0 z0 []).pin (I, o₁)).pin (Dd, lobj vs m)).env.locals from q]; exact Nat.not_lt.mpr hI2)
      · obtain ⟨_, v', o', e1, _⟩ := S₅.cl y a e
        exact absurd (Heap.lt_size e1) (by rw [q]; exact Nat.not_lt.mpr hI2)
      · rw [List.mem_singleton.mp hp]
        exact ⟨fun q => absurd lI (by show ¬ I < _; rw [show I = I2 from q]; exact Nat.not_lt.mpr hI2), K.nID⟩
    have frame : ∀ z₅ h₅, Z.le z₃ z₅ → St ((cxK c scope cl N C h0 z0 []).pin (I, o₁)) (some (.dat d) :: u1 :: ur) z₅ h₅ ∨ True → (∀ p, p = (I, o₁) → h₅.get? I = some o₁) → Z.sub z₅ h₅ → Sw (k + 1) h₅ := fun z₅ h₅ le₅ _ hp hs₅ => by
      refine K.W.frame _ _ _ sw₁ fun b hb ob e => ?_
      rcases K.fps b hb with rfl | ⟨ob', e'⟩
      · rw [eo₁] at e; cases e; exact hp _ rfl
      · have e1 := S₂.sub b ob' (le₁ _ _ e')
        rw [e1] at e; cases e
        exact hs₅ b _ (le₅ _ _ (g₃.le _ _ (le₁ _ _ e')))
    have hle : ((ds.take k).flatMap fun d => (g d).map (f d)).length ≤ k * 50 := by
      have : ∀ l : List PyData, (∀ d ∈ l, (g d).length ≤ 50) → (l.flatMap fun d => (g d).map (f d)).length ≤ l.length * 50 := fun l => by
        induction l with
        | nil => intro _; exact Nat.le_refl _
        | cons a r ih =>
          intro h
          have h1 := h a (.head _)
          have h2 := ih fun d hd => h d (.tail _ hd)
          rw [List.flatMap_cons, List.length_append, List.length_map, List.length_cons]; lia
      have h3 := this (ds.take k) fun d hd => hsz2 d (List.mem_of_mem_take hd)
      rw [List.length_take] at h3
      have : min k ds.length ≤ k := Nat.min_le_left _ _
      lia
    have loop : codeAny (model PR c.w) A (.compLoop (lc2 elt x px iter y py iter2 scope pos) 1 (.ref I2) (.ref Dd) (cenvG scope cl C c.env)) (fun r s₅ => match r with
              | .ok _ => (∃ m, m < n ∧ TJ (cxK c scope cl N C h0 z0 []) ur s z I Dd Sw ds g f m s₅)
              | .error e => cameBackBy (model PR c.w) A (cenvG scope cl C c.env) (notedBy (model PR c.w) A (cenvG scope cl C c.env) fun e s' => R (.error e) s') e s₅) { s with heap := h₃, toks := t₃ } := by
      refine comp_loopG (c := (cxK c scope cl N C h0 z0 []).pin (I, o₁)) (x := y) (px := py) (ifs := []) (elt := elt) (ix := 1) (us := some (.dat d) :: u1 :: ur) (ds := g d) (f := fun d2 => some (f d d2)) (fun J turn n h => loop_in J turn n h) (s := { s with heap := h₃, toks := t₃ }) S₆.unpin K2 (dn_noOwn (u0 := some (.dat d)) trivial hd1 hnu) (hlen _ _) pD.1 ((r₁.mono g₃.le)) ?_ ⟨st1.at', st1.kind⟩ (fun X d2 hd2 => ?_) fun h' tk' z' σ' vs' n' le' S' hσ' zD' eD' r' => ?_
      · have := hsz2 d mem
        lia
      · exact ⟨true, tl_nil, (nomatch ·), fun _ => ⟨_, rfl, turn C h0 z0 X d d2 mem hd2⟩⟩
      · have pI' := S'.pin (I, o₁) (.head _)
        have hu : ∃ u1', dn u1' ∧ σ' = some (.dat d) :: u1' :: ur := by
          rcases hσ' with rfl | ⟨d₂, rfl⟩
          · exact ⟨u1, hd1, rfl⟩
          · exact ⟨some (.dat d₂), trivial, rfl⟩
        obtain ⟨u1', hd1', rfl⟩ := hu
        refine ⟨n - 1, by lia, k + 1, some (.dat d), u1', z', h', tk', vs', n', rfl, by lia, hlt, S'.unpin, trivial, hd1', frame z' h' le' (.inr trivial) (fun p hp => pI'.1) S'.sub, (le₁.trans g₃.le).trans le', pI'.2.2.2.2.2, zD', eD', ?_⟩
        have e2 : (ds.take (k + 1)).flatMap (fun d => (g d).map (f d)) = (ds.take k).flatMap (fun d => (g d).map (f d)) ++ (g d).filterMap (fun d2 => some (f d d2)) := by
          rw [List.take_add_one, ed, List.flatMap_append]; simp [List.filterMap_eq_map']
        rw [e2]; exact r'
    exact start_in loop (W2.self 0 _ _ _ s02 loop)
  · have hk' : k = ds.length := by lia
    subst hk'
    refine K.W.done _ _ _ sw fun h₁ t₁ hk₁ => ?_
    have kb : ∀ b ob, b ≠ I → h.get? b = some ob → h₁.get? b = some ob := fun b ob hb e => hk₁ b ob (fun hm => hb (List.mem_singleton.mp hm)) e
    have S₂ := S₁.but kb eo ik zI₁ K.gI K.nIL K.nIc (fun i a ds e => (hno₁ i a ds e).elim) hX (hlen u0 u1)
    exact hR h₁ t₁ z₁ _ vs m le₁ S₂ zD₁ (kb _ _ K.nID.symm eD₁) (by rw [List.take_length] at r₁; exact r₁)
theorem sx_assign_comp2 {i : Nat} {v : Str} {pv spos : Pos} {rest : List Stmt} {P : Flow → Z → Heap → Prop} {es : List PyData} (hy : Sto c i v) (o : CompOk c σ scope cl N (none :: none :: ur) x) (hit : EvI c A σ iter ds) (N1 : N[1]? = some y) (tgt2 : Tgt c scope cl y) (hsz : ds.length ≤ 100) (hsz2 : ∀ d ∈ ds, (g d).length ≤ 50)
    (it2 : ∀ C h0 z0 X d u1, d ∈ ds → EvI (cxK c scope cl N C h0 z0 X) A (some (.dat d) :: u1 :: ur) iter2 (g d))
    (turn : ∀ C h0 z0 X d d2, d ∈ ds → d2 ∈ g d → Ev (cxK c scope cl N C h0 z0 X) A (some (.dat d) :: some (.dat d2) :: ur) elt (D (f d d2)))
    (hes : (ds.flatMap fun d => (g d).map (f d)) = es)
    (h2 : ∀ a, Sx c A (σ.set i (some (.own a es))) rest P)
    (hsw : swapsWith (lc2 elt x px iter y py iter2 scope pos) (some (.Name v pv)) spos.line c.env = pure true := by rfl) (hs : ∀ x, foldedSetIterable iter c.env x = pure x := by intro _; rfl) (hN : σ.length = c.N.length := by rfl)
    (hs2 : ∀ C x, foldedSetIterable iter2 (cenvG scope cl C c.env) x = pure x := by intro _ _; rfl) :
    Sx c A σ (.Assign [.Name v pv] (lc2 elt x px iter y py iter2 scope pos) spos :: rest) P := by
  subst hes
  exact sx_assign_compG hy o hit (loop_two o N1 tgt2 hsz hsz2 it2 turn hs2) h2 hsw hs hN
end
end Mine

-- L0
namespace Mine
noncomputable def stmtBody : Stmt → List Stmt
  | .FunctionDef _ _ b _ _ _ _ _ _ _ => b
  | .For _ _ b _ _ => b
  | .While _ b _ _ => b
  | _ => []
noncomputable def stmtScope : Stmt → Scope
  | .FunctionDef _ _ _ _ _ _ s _ _ _ => s
  | _ => default
noncomputable def lawDef : Stmt := PySem.Challenge.pw_re0137_01.main.body.getLast!
noncomputable def lawBody : List Stmt := stmtBody lawDef
noncomputable def lawScope : Scope := stmtScope lawDef
noncomputable def LN : List Str := [Str.ofString "script", Str.ofString "cells", Str.ofString "start", Str.ofString "tabs", Str.ofString "most", Str.ofString "many", Str.ofString "base", Str.ofString "width", Str.ofString "tail", Str.ofString "waiting", Str.ofString "k", Str.ofString "runs", Str.ofString "tally", Str.ofString "rounds",
  Str.ofString "first", Str.ofString "begin", Str.ofString "lead", Str.ofString "mask", Str.ofString "steps", Str.ofString "back", Str.ofString "blanks", Str.ofString "grown", Str.ofString "sizes", Str.ofString "after", Str.ofString "due", Str.ofString "over", Str.ofString "stay", Str.ofString "words", Str.ofString "power",
  Str.ofString "upper", Str.ofString "lower", Str.ofString "number", Str.ofString "left", Str.ofString "fixed"]
end Mine

-- L1
namespace Mine
noncomputable abbrev lawC (w : World) (f : Addr) (cdv : Value) (h0 : Heap) (z0 : Z) : Cx := cxC w (Str.ofString "law") lawScope f cdv LN h0 z0
noncomputable abbrev vi (n : Nat) : Option V := some (.dat (.int (n : Int)))
noncomputable abbrev wtD (wt : List (List Nat)) : List PyData := wt.map fun r => .list (natsD r)
theorem sto_cell {w : World} {f : Addr} {cdv : Value} {h0 : Heap} {z0 : Z} {i : Nat} {x : Str} {n : Nat} (hx : LN[i]? = some x) (hk : (lawC w f cdv h0 z0).env.kindOf x = some .cell) (hc : (lawC w f cdv h0 z0).env.cells.lookup x = some (h0.objs.size + n)) : Sto (lawC w f cdv h0 z0) i x :=
  ⟨hx, .inr ⟨hk, _, hc, Nat.le_add_right _ _⟩⟩
theorem sto_most {w : World} {f : Addr} {cdv : Value} {h0 : Heap} {z0 : Z} : Sto (lawC w f cdv h0 z0) 4 (Str.ofString "most") := sto_cell (n := 1) rfl rfl rfl
theorem sto_base {w : World} {f : Addr} {cdv : Value} {h0 : Heap} {z0 : Z} : Sto (lawC w f cdv h0 z0) 6 (Str.ofString "base") := sto_cell (n := 2) rfl rfl rfl
theorem sto_runs {w : World} {f : Addr} {cdv : Value} {h0 : Heap} {z0 : Z} : Sto (lawC w f cdv h0 z0) 11 (Str.ofString "runs") := sto_cell (n := 3) rfl rfl rfl
theorem sto_rounds {w : World} {f : Addr} {cdv : Value} {h0 : Heap} {z0 : Z} : Sto (lawC w f cdv h0 z0) 13 (Str.ofString "rounds") := sto_cell (n := 4) rfl rfl rfl
theorem sto_grown {w : World} {f : Addr} {cdv : Value} {h0 : Heap} {z0 : Z} : Sto (lawC w f cdv h0 z0) 21 (Str.ofString "grown") := sto_cell (n := 5) rfl rfl rfl
end Mine

-- L2
namespace Mine
noncomputable abbrev no23 : List (Option V) := [none, none, none, none, none, none, none, none, none, none, none, none, none, none, none, none, none, none, none, none, none, none, none]
noncomputable def starts : List Int := [1, 1, 3, 10, 2, 0]
noncomputable def tails : List Str := ["", "x", "x \t", "\n\t "]
theorem cellsLoop {w : World} {f : Addr} {cdv : Value} {h0 : Heap} {z0 : Z} {A : Around} {ns : List Int} {P : Flow → Z → Heap → Prop} (hh : A.handled = none) (hl : ns.length ≤ 63)
    (H : ∀ (cs : List Int) (u2 : Option V), cs.length = 6 → Sx (lawC w f cdv h0 z0) A (some (.dat (.list (intsD ns))) :: some (.dat (.list (intsD cs))) :: u2 :: none :: none :: none :: none :: none :: none :: none :: none :: no23) (lawBody.drop 2) P) :
    Sx (lawC w f cdv h0 z0) A (some (.dat (.list (intsD ns))) :: none :: none :: none :: none :: none :: none :: none :: none :: none :: none :: no23) lawBody P := by
  show Sx _ _ _ (_ :: _) _
  refine sx_assign_own (i := 1) (ds := []) ⟨rfl, .inl rfl⟩ (evn_list evl_nil (by decide)) fun a => ?_
  refine sx_for (i := 2) (ds := intsD starts) (fun k σ => ∃ cs u2, cs.length = k ∧ σ = some (.dat (.list (intsD ns))) :: some (.own a (intsD cs)) :: u2 :: none :: none :: none :: none :: none :: none :: none :: none :: no23)
    (fun σ => ∃ cs u2, cs.length = 6 ∧ σ = some (.dat (.list (intsD ns))) :: some (.own a (intsD cs)) :: u2 :: none :: none :: none :: none :: none :: none :: none :: none :: no23)
    ⟨rfl, .inl rfl⟩ (evi_list (EvN.dat (evn_list (evl_cons ev_int (evl_cons ev_int (evl_cons ev_int (evl_cons ev_int (evl_cons ev_int (evl_cons ev_int evl_nil)))))) (by decide))) hh) ⟨[], none, rfl, rfl⟩ (fun k σ h => by obtain ⟨cs, u2, _, rfl⟩ := h; rfl) ?_ ?_ ?_
  · intro k d σ₁ p hd hJ
    obtain ⟨cs, u2, hk, rfl⟩ := hJ
    have hkl : k < 6 := by simpa [starts] using getElem?_lt hd
    rw [List.getElem?_map, List.getElem?_eq_getElem (show k < starts.length from hkl)] at hd
    cases hd
    generalize starts[k]'hkl = m
    have ecl : (intsD cs).length = k := by rw [List.length_map, hk]
    refine sx_step (sx1_append (i := 1) rfl rfl (ev_bin (ev_name (i := 2) rfl rfl) (ev_bf (bf_sum (ns := pickNums ns (some (k : Int)) (some 60) (some 6)) hh) rfl (by k_is) boot_sum (evl_cons (EvN.dat (evn_step (ev_name (i := 0) rfl rfl) (ev_borrow (i := 1) rfl rfl (Ev.to (ev_bf (bf_len (by rw [ecl]; lia)) rfl (by k_is) boot_len (evl_cons (ev_name (i := 1) rfl rfl) evl_nil)) (by rw [ecl]))) ev_int ev_int (by decide) (by lia))) evl_nil)) add_i) (by rw [ecl]; lia)) (sx_nil fun z h S => ⟨_, ⟨cs ++ [m + (pickNums ns (some (k : Int)) (some 60) (some 6)).sum], some (.dat (.int m)), by rw [List.length_append, hk]; rfl, ?_⟩, S⟩)
    rw [show intsD (cs ++ [m + (pickNums ns (some (k : Int)) (some 60) (some 6)).sum]) = intsD cs ++ [.int (m + (pickNums ns (some (k : Int)) (some 60) (some 6)).sum)] from List.map_append]; rfl
  · intro σ₁ hJ
    obtain ⟨cs, u2, hk, rfl⟩ := hJ
    exact sx_nil fun z h S => ⟨rfl, _, ⟨cs, u2, hk, rfl⟩, S⟩
  · intro σ₁ hB
    obtain ⟨cs, u2, hk, rfl⟩ := hB
    exact sx_freeze (i := 1) rfl rfl (H cs u2 hk)

noncomputable def waits (most : Nat) : Nat → List (List Nat)
  | 0 => (List.range (most + 1)).map fun r => [r]
  | k + 1 => (waits most k).flatMap fun r => (List.range (most + 1 - r.getLast!)).map fun i => r ++ [r.getLast! + i]
theorem waits_ok : ∀ m : Fin 3, ∀ k : Fin 3, ((waits (m.val + 1) k.val).length ≤ 100 ∧ ∀ r ∈ waits (m.val + 1) k.val, r ≠ [] ∧ r.length ≤ 10 ∧ r.getLast! ≤ m.val + 1) := by decide +kernel
theorem fmod_ofNat (c : Int) (n : Nat) (h : 0 < n) : ∃ m : Nat, c.fmod (n : Int) = (m : Int) ∧ m < n := by
  rw [Int.fmod_eq_emod_of_nonneg c (Int.natCast_nonneg n)]
  have h1 := Int.emod_nonneg c (show (n : Int) ≠ 0 by lia)
  have h2 := Int.emod_lt_of_pos c (show (0 : Int) < n by lia)
  exact ⟨(c % (n : Int)).toNat, by lia, by lia⟩
noncomputable def gW (most : Nat) : PyData → List PyData
  | .list xs => match xs.getLast? with
    | some (.int i) => upTo i (most + 1 - i.toNat)
    | _ => []
  | _ => []
noncomputable def fW : PyData → PyData → PyData
  | .list xs, d => .list (xs ++ [d])
  | _, _ => .none
theorem gW_at (most : Nat) {r : List Nat} (h : r ≠ []) : gW most (.list (natsD r)) = upTo (r.getLast! : Nat) (most + 1 - r.getLast!) := by
  have : (natsD r).getLast? = some (.int (r.getLast! : Nat)) := by
    rw [natsD, List.getLast?_map, List.getLast?_eq_some_getLast h]
    cases r with
    | nil => exact absurd rfl h
    | cons a l => rfl
  rw [gW, this]; simp
theorem wtD_next (most : Nat) : ∀ wt : List (List Nat), (∀ r ∈ wt, r ≠ []) → (wtD wt).flatMap (fun d => (gW most d).map (fW d)) = wtD (wt.flatMap fun r => (List.range (most + 1 - r.getLast!)).map fun i => r ++ [r.getLast! + i])
  | [], _ => rfl
  | r :: l, h => by
    have ih := wtD_next most l fun r hr => h r (.tail _ hr)
    have e1 : ∀ a b : List (List Nat), wtD (a ++ b) = wtD a ++ wtD b := fun a b => List.map_append
    rw [show wtD (r :: l) = .list (natsD r) :: wtD l from rfl, List.flatMap_cons, List.flatMap_cons, ih, e1]
    congr 1
    rw [gW_at most (h r (.head _))]
    simp [upTo, fW, natsD]
end Mine

-- L3
namespace Mine
theorem six {cs : List Int} (h : cs.length = 6) : ∃ c0 c1 c2 c3 c4 c5, cs = [c0, c1, c2, c3, c4, c5] := by
  match cs, h with
  | [c0, c1, c2, c3, c4, c5], _ => exact ⟨c0, c1, c2, c3, c4, c5, rfl⟩
theorem paramsWalk {w : World} {f : Addr} {cdv : Value} {h0 : Heap} {z0 : Z} {A : Around} {ns cs : List Int} {u2 : Option V} {P : Flow → Z → Heap → Prop} (hh : A.handled = none) (hl : ns.length ≤ 63) (hc : cs.length = 6)
    (H : ∀ (a : Addr) (u10 : Option V) (tabs most base width t4 : Nat) (turn : Int), cs[5]? = some turn → tabs < 3 → most < 3 → base < 12 → width < 64 → t4 < 4 → Sx (lawC w f cdv h0 z0) A (some (.dat (.list (intsD ns))) :: some (.dat (.list (intsD cs))) :: u2 :: vi (tabs + 1) :: vi (most + 1) :: vi (tabs + 1 + (most + 1)) :: vi base :: vi (width + 6) ::
      some (.dat (.str (tails.getD t4 ""))) :: some (.own a (wtD (waits (most + 1) tabs))) :: u10 :: no23) (lawBody.drop 10) P) :
    Sx (lawC w f cdv h0 z0) A (some (.dat (.list (intsD ns))) :: some (.dat (.list (intsD cs))) :: u2 :: none :: none :: none :: none :: none :: none :: none :: none :: no23) (lawBody.drop 2) P := by
  obtain ⟨c0, c1, c2, c3, c4, c5, rfl⟩ := six hc
  obtain ⟨tabs, e0, ht⟩ := fmod_ofNat c0 3 (by decide)
  obtain ⟨most, e1, hm⟩ := fmod_ofNat c1 3 (by decide)
  obtain ⟨base, e2, hb⟩ := fmod_ofNat c2 12 (by decide)
  obtain ⟨width, e3, hw⟩ := fmod_ofNat c3 64 (by decide)
  obtain ⟨t4, e4, h4⟩ := fmod_ofNat c4 4 (by decide)
  have H' := fun a u10 => H a u10 tabs most base width t4 c5 rfl ht hm hb hw h4
  show Sx _ _ _ (_ :: _) _
  refine sx_step (sx1_assign (i := 3) (d := .int ((tabs + 1 : Nat) : Int)) ⟨rfl, .inl rfl⟩ (Ev.to (ev_bin ev_int (ev_bin (ev_item (d := .int c0) (ev_name (i := 1) rfl rfl) ev_int (by decide) (by decide) rfl) ev_int (mod_i (by decide))) add_i) (congrArg PyData.int ?_))) ?_
  · rw [show ((3 : Int)) = ((3 : Nat) : Int) from rfl, e0]; lia
  refine sx_step (sx1_assign (i := 4) (d := .int ((most + 1 : Nat) : Int)) sto_most (Ev.to (ev_bin ev_int (ev_bin (ev_item (d := .int c1) (ev_name (i := 1) rfl rfl) ev_int (by decide) (by decide) rfl) ev_int (mod_i (by decide))) add_i) (congrArg PyData.int ?_))) ?_
  · rw [show ((3 : Int)) = ((3 : Nat) : Int) from rfl, e1]; lia
  refine sx_step (sx1_assign (i := 5) (d := .int ((tabs + 1 + (most + 1) : Nat) : Int)) ⟨rfl, .inl rfl⟩ (Ev.to (ev_bin (ev_name (i := 3) rfl rfl) (ev_name (i := 4) rfl rfl) add_i) (congrArg PyData.int (by lia)))) ?_
  refine sx_step (sx1_assign (i := 6) (d := .int (base : Int)) sto_base (Ev.to (ev_bin (ev_item (d := .int c2) (ev_name (i := 1) rfl rfl) ev_int (by decide) (by decide) rfl) ev_int (mod_i (by decide))) (congrArg PyData.int e2))) ?_
  refine sx_step (sx1_assign (i := 7) (d := .int ((width + 6 : Nat) : Int)) ⟨rfl, .inl rfl⟩ (Ev.to (ev_bin ev_int (ev_bin (ev_item (d := .int c3) (ev_name (i := 1) rfl rfl) ev_int (by decide) (by decide) rfl) ev_int (mod_i (by decide))) add_i) (congrArg PyData.int ?_))) ?_
  · rw [show ((64 : Int)) = ((64 : Nat) : Int) from rfl, e3]; lia
  refine sx_step (sx1_assign (i := 8) (d := .str (tails.getD t4 "")) ⟨rfl, .inl rfl⟩ (ev_item (ds := tails.map .str) (k := (t4 : Int)) (EvN.dat (evn_list (evl_cons ev_str (evl_cons ev_str (evl_cons ev_str (evl_cons ev_str evl_nil)))) (by decide))) (Ev.to (ev_bin (ev_item (d := .int c4) (ev_name (i := 1) rfl rfl) ev_int (by decide) (by decide) rfl) ev_int (mod_i (by decide))) (congrArg PyData.int e4)) (by lia) (by lia) ?_)) ?_
  · rw [Int.toNat_natCast, List.getElem?_map, List.getD_eq_getElem?_getD, List.getElem?_eq_getElem (show t4 < tails.length from h4)]; rfl
  have efm : ∀ l : List Nat, ((l.map fun (i : Nat) => PyData.int ((0 : Int) + (i : Int))).filterMap (onInt fun r => some (.list [.int r]))) = wtD (l.map fun r => [r]) := fun l => by
    induction l with
    | nil => rfl
    | cons a r ih => simp only [List.map_cons, List.filterMap_cons, onInt, Int.zero_add, wtD] at ih ⊢; rw [ih]; rfl
  have e5 : (upTo 0 (most + 1 + 1)).filterMap (onInt fun r => some (.list [.int r])) = wtD (waits (most + 1) 0) := efm _
  refine sx_assign_comp (i := 9) (N := [Str.ofString "run"]) (us := [none]) (f := onInt fun r => some (.list [.int r])) (ds := upTo 0 (most + 1 + 1)) ⟨rfl, .inl rfl⟩ ⟨by with_unfolding_all rfl, rfl, by decide, by decide, rfl, ?_, rfl, .inl rfl⟩
    (evi_rangeN (n := most + 1 + 1) (ev_bin (ev_name (i := 4) rfl rfl) ev_int add_n) hh (by lia) rfl (by k_is)) (by rw [upTo_len]; lia) (fun C h0 z0 X d hd => ?_) fun a => ?_
  · exact slots_none slots_nil
  · obtain ⟨n, _, rfl⟩ := List.mem_map.mp hd
    exact ⟨true, tl_nil, (nomatch ·), fun _ => ⟨_, rfl, EvN.dat (evn_list (evl_cons (ev_name (i := 0) rfl rfl) evl_nil) (show 1 ≤ 1000 by decide))⟩⟩
  rw [e5]
  have wok := fun k (hk : k < 3) => waits_ok ⟨most, hm⟩ ⟨k, hk⟩
  refine sx_for (i := 10) (ds := upTo 0 tabs) (fun k σ => ∃ a u10, k ≤ tabs ∧ σ = some (.dat (.list (intsD ns))) :: some (.dat (.list (intsD [c0, c1, c2, c3, c4, c5]))) :: u2 :: vi (tabs + 1) :: vi (most + 1) :: vi (tabs + 1 + (most + 1)) :: vi base :: vi (width + 6) :: some (.dat (.str (tails.getD t4 ""))) :: some (.own a (wtD (waits (most + 1) k))) :: u10 :: no23)
    (fun σ => ∃ a u10, σ = some (.dat (.list (intsD ns))) :: some (.dat (.list (intsD [c0, c1, c2, c3, c4, c5]))) :: u2 :: vi (tabs + 1) :: vi (most + 1) :: vi (tabs + 1 + (most + 1)) :: vi base :: vi (width + 6) :: some (.dat (.str (tails.getD t4 ""))) :: some (.own a (wtD (waits (most + 1) tabs))) :: u10 :: no23)
    ⟨rfl, .inl rfl⟩ (evi_range1 (ev_bin (ev_name (i := 3) rfl rfl) ev_int sub_i) hh ?_ ?_ rfl (by k_is)) ⟨a, none, Nat.zero_le _, rfl⟩ (fun k σ h => by obtain ⟨a, u10, _, rfl⟩ := h; rfl) ?_ ?_ ?_
  · split <;> lia
  · lia
  · intro k d σ₁ p hd hJ
    obtain ⟨a, u10, _, rfl⟩ := hJ
    obtain ⟨rfl, hk⟩ := upTo_get hd
    obtain ⟨wl, wr⟩ := wok k (by lia)
    simp only at wl wr
    refine sx_freeze (i := 9) rfl rfl ?_
    have mem : ∀ d ∈ wtD (waits (most + 1) k), ∃ r, d = .list (natsD r) ∧ r ≠ [] ∧ r.length ≤ 10 ∧ r.getLast! ≤ most + 1 := fun d hd => by
      obtain ⟨r, hr, rfl⟩ := List.mem_map.mp hd
      obtain ⟨q1, q2, q3⟩ := wr r hr
      exact ⟨r, rfl, q1, q2, q3⟩
    refine sx_assign_comp2 (i := 9) (N := [Str.ofString "runs", Str.ofString "run", Str.ofString "most"]) (ur := [vi (most + 1)]) (ds := wtD (waits (most + 1) k)) (es := wtD (waits (most + 1) (k + 1))) (g := gW (most + 1)) (f := fW) ⟨rfl, .inl rfl⟩ ⟨by with_unfolding_all rfl, rfl, by decide, by decide, rfl, ?_, rfl, .inl rfl⟩
      (evi_list (ev_name (i := 9) rfl rfl) hh) rfl (.inl rfl) (by rw [List.length_map]; exact wl) (fun d hd => ?_) (fun C h0 z0 X d u1 hd => ?_) (fun C h0 z0 X d d2 hd hd2 => ?_) (wtD_next (most + 1) (waits (most + 1) k) fun r hr => (wr r hr).1) fun a' => ?_
    · exact slots_none (slots_none (slots_some ⟨trivial, fun C => ⟨_, rfl, rfl⟩, .inl rfl, .inl rfl, 4, rfl, rfl⟩ slots_nil))
    · obtain ⟨r, rfl, q1, q2, q3⟩ := mem d hd
      rw [gW_at _ q1]
      simp [upTo]; lia
    · obtain ⟨r, rfl, q1, q2, q3⟩ := mem d hd
      rw [gW_at _ q1]
      have el : (natsD r).length = r.length := List.length_map ..
      have lp : 0 < r.length := List.length_pos_iff.mpr q1
      refine evi_range2N (a := r.getLast!) (b := most + 1 + 1) (ev_item_neg (k := -1) (ev_name (i := 0) rfl rfl) (ev_neg ev_int) (by decide) (by rw [el]; lia) (by rw [el]; lia) (getLast_at q1)) (ev_bin (ev_name (i := 2) rfl rfl) ev_int add_n) hh (by lia) (by lia) rfl (by k_is)
    · obtain ⟨r, rfl, q1, q2, q3⟩ := mem d hd
      rw [gW_at _ q1] at hd2
      obtain ⟨i, _, rfl⟩ := List.mem_map.mp hd2
      have el : (natsD r).length = r.length := List.length_map ..
      exact EvN.dat (evn_bin (ev_name (i := 0) rfl rfl) (EvN.dat (evn_list (evl_cons (ev_name (i := 1) rfl rfl) evl_nil) (show 1 ≤ 1000 by decide))) (add_l' (by rw [el]; show r.length + 1 ≤ 1000; lia)))
    · exact sx_nil fun z h S => ⟨_, ⟨a', _, hk, rfl⟩, S⟩
  · intro σ₁ hJ
    obtain ⟨a, u10, _, rfl⟩ := hJ
    rw [upTo_len]
    exact sx_nil fun z h S => ⟨rfl, _, ⟨a, u10, rfl⟩, S⟩
  · intro σ₁ hB
    obtain ⟨a, u10, rfl⟩ := hB
    exact H' a u10
end Mine

-- P2
namespace Mine
noncomputable def cnts (r : List Nat) : List Int := (List.range (r.foldl max 0 + 1)).map fun i => ((r.count i : Nat) : Int)
noncomputable def leadOk (r : List Nat) (here : Nat) (tl : Str) : Bool :=
  JoinOk "" ((turned r here).map fun (x : Nat) => blanks (x : Int)) && (decide ((Txt.join "" ((turned r here).map fun (x : Nat) => blanks (x : Int))).length + tl.length ≤ 1000) &&
    (decide ((leadText r here tl).cps.toList.length ≤ 300) && decide (wsGo (leadText r here tl).cps.toList [] 0 0 = (cnts r, 0, r.length))))
noncomputable def leadsOk (tabs most : Nat) : Bool := (waits most (tabs - 1)).all fun r => r.length == tabs && (r.all (fun x => decide (x < 4)) && ((List.range tabs).all fun here => tails.all fun tl => leadOk r here tl))
noncomputable def firstOf (r : List Nat) : Nat := ((List.range r.length).map fun k => 2 ^ (r.getD k 0 + k)).sum
noncomputable def grownOf (most : Nat) (r : List Nat) : List Nat := if r.getLast! = most then 0 :: r.take (r.length - 1) else r.map (· + 1)
noncomputable def sizesOf (most : Nat) (r gr : List Nat) : List Nat := if r.getLast! = most then (List.range most).map (· + 1) else ((List.range most).map (· + 1)).filter fun s => gr.any fun x => x % s == 0
noncomputable def colOf (r : List Nat) (s : Nat) : Int := (s : Int) * ((r.map fun (x : Nat) => (x : Int)).map fun x => x.fdiv (s : Int) + 1).sum
noncomputable def dueOf (most : Nat) (r gr : List Nat) : List PyData := (sizesOf most r gr).map fun (s : Nat) => .tuple [.int (s : Int), .int (colOf r s), .int (colOf gr s)]
structure PS where
  wt : List (List Nat)
  tl : List Nat
  rn : List Nat
  msk : Nat
  st : Nat
  bk : Bool
noncomputable def mk1 (many mk : Nat) : Nat := 2 * mk / 2 ^ many + 2 * mk % 2 ^ many
noncomputable def stepI (most many : Nat) (r0 : List Nat) (s : PS) : PS :=
  { wt := s.wt.eraseIdx (s.wt.idxOf s.rn), tl := s.tl.set s.rn.sum (s.tl.getD s.rn.sum 0 + 1), rn := grownOf most s.rn, msk := mk1 many s.msk, st := s.st + 1, bk := cnts (grownOf most s.rn) == cnts r0 }
noncomputable def bitsOk (tabs base m : Nat) (gr : List Nat) : Bool :=
  decide (m * 2 ^ base ≠ 0) && (decide (m * 2 ^ base < 2 ^ 32) && (JoinOk ", " ((bitsOf (m * 2 ^ base) 32).map flagName) && (decide (bitsOf (m * 2 ^ base) 32 = (List.range tabs).map fun k => base + gr.getD k 0 + k) && (List.range tabs).all fun k => decide (base + gr.getD k 0 + k < 32))))
noncomputable def witOf (tabs : Nat) (r gr : List Nat) : List PyData := wit (cnts r) (cnts gr) (tabs : Int) (tabs : Int) (longer (longest (cnts r)) (longest (cnts gr)) + 1)
noncomputable def okI (tabs most : Nat) (r0 : List Nat) (s : PS) : Bool :=
  let gr := grownOf most s.rn
  let m := mk1 (tabs + most) s.msk
  (waits most (tabs - 1)).contains s.rn && ((waits most (tabs - 1)).contains gr && (s.wt.contains s.rn && (decide (s.wt.length ≤ 100) && (decide (s.tl.length ≤ 100) && (decide (level (cnts s.rn) (tabs : Int) 1 - (tabs : Int) = ((s.rn.sum : Nat) : Int)) && (decide (s.rn.sum < s.tl.length) &&
    (PyData.eqv (.list (witOf tabs s.rn gr)) (.list (dueOf most s.rn gr)) && (SeqAt.shaped (.list (witOf tabs s.rn gr)) && (SeqAt.shaped (.list (dueOf most s.rn gr)) && (decide (2 * s.msk < 2 ^ 20) && ((cnts gr == cnts r0) == (m == firstOf r0) && (List.range 12).all fun base => bitsOk tabs base m gr)))))))))))
noncomputable def runI (tabs most : Nat) (r0 : List Nat) : Nat → PS → Option PS
  | 0, s => if s.bk then some s else none
  | n + 1, s => if s.bk then some s else if okI tabs most r0 s then runI tabs most r0 n (stepI most (tabs + most) r0 s) else none
structure OS where
  wt : List (List Nat)
  tl : List Nat
  rd : List (Nat × Nat)
noncomputable def startI (wt : List (List Nat)) (tl : List Nat) : PS := { wt := wt, tl := tl, rn := wt.headD [], msk := firstOf (wt.headD []), st := 0, bk := false }
noncomputable def runO (tabs most : Nat) : Nat → OS → Option OS
  | 0, s => if s.wt.isEmpty then some s else none
  | n + 1, s => if s.wt.isEmpty then some s else
    if (waits most (tabs - 1)).contains (s.wt.headD []) && (decide (s.wt.length ≤ 100) && decide (s.rd.length ≤ 100)) then
      match runI tabs most (s.wt.headD []) 20 (startI s.wt s.tl) with
      | some t => if decide (0 < t.st) && decide (t.st < 100) then runO tabs most n ⟨t.wt, t.tl, s.rd ++ [((tabs + most) / t.st, (tabs + most) % t.st)]⟩ else none
      | none => none
    else none
noncomputable def beginO (tabs most : Nat) : OS := ⟨waits most (tabs - 1), List.replicate (tabs * most + 1) 0, []⟩
noncomputable def prods (q : Nat) (m : Nat) : Nat → Nat
  | 0 => 1
  | k + 1 => prods q m k * (q ^ (m + (k + 1)) - 1)
noncomputable def fixedOf (many : Nat) (rd : List (Nat × Nat)) : List Nat := (List.range many).map fun p => (rd.filter fun o => p % o.1 == 0).length
noncomputable def endOk (tabs most : Nat) (s : OS) : Bool :=
  s.rd.all (fun o => o.2 == 0 && o.1 != 0 && decide (o.1 < 100)) && (decide (s.rd.length ≤ 100) && ((List.range 64).all fun wd =>
    let n := wd + 6
    let q := 2 ^ n
    let u := prods q most tabs
    let l := prods q 0 tabs
    let g := u / l
    let b := q ^ (tabs + most) - 1
    decide (0 < l) && (decide (u % l = 0) && (decide (figN n g ≤ 100) && (decide (figs n g (figN n g) = s.tl) && (decide (figN n (g % b) ≤ 100) && (decide (figs n (g % b) (figN n (g % b)) = fixedOf (tabs + most) s.rd) &&
      (decide (figN (Builtin.Int.intBits (l : Int)) u ≤ 100) && (decide (figN (Builtin.Int.intBits (b : Int)) g ≤ 100) && (decide (l < 2 ^ 1000) && (decide (u < 2 ^ 2000) && (decide (0 < b) && decide (b < 2 ^ 1000)))))))))))))
noncomputable def allOk (tabs most : Nat) : Bool := leadsOk tabs most && match runO tabs most 20 (beginO tabs most) with
  | some s => endOk tabs most s
  | none => false
theorem all11 : allOk 1 1 = true := by decide +kernel
theorem all12 : allOk 1 2 = true := by decide +kernel
theorem all13 : allOk 1 3 = true := by decide +kernel
theorem all21 : allOk 2 1 = true := by decide +kernel
theorem all22 : allOk 2 2 = true := by decide +kernel
theorem all23 : allOk 2 3 = true := by decide +kernel
theorem all31 : allOk 3 1 = true := by decide +kernel
theorem all32 : allOk 3 2 = true := by decide +kernel
theorem all33 : allOk 3 3 = true := by decide +kernel
end Mine

-- V25
namespace Mine
section
variable {c : Cx} {A : Around} {σ : List (Option V)} {slice : Expr} {pos px : Pos} {i : Nat} {x : Str} {a : Addr}
theorem ev_own_item {ds : List PyData} {k : Int} {d : PyData} (hx : c.N[i]? = some x) (hi : σ[i]? = some (some (.own a ds))) (h2 : Ev c A σ slice (D (.int k))) (h0 : 0 ≤ k) (hk : k < 10000) (hd : ds[k.toNat]? = some d)
    (hs : ∀ o i, subscripted slice false o i = operate [o, i] (getItem o i) := by intro _ _; with_unfolding_all rfl)
    (hdb : (x == ("__debug__" : Str)) = false := by decide) (hn : (x == ("__classdict__" : Str)) = false := by decide) : Ev c A σ (.Subscript (.Name x px) slice pos) (D d) := .mk fun s z E Q S q => by
  refine Subscript_ (name_own S hx hi ?_ hdb hn)
  refine h2.run s z E _ S fun v h' tk z' g p₂ => ?_
  have S' := S.grow g
  obtain ⟨_, _, vs, n, ho, r⟩ := S'.owned hx hi
  cases p₂ with
  | int _ tt =>
    obtain ⟨y, ey, ry⟩ := r.get' _ hd
    have hl : h'.IsList a vs.toArray := ⟨_, ho, rfl, _, rfl⟩
    exact tail_any (s := { s with heap := h', toks := tk }) hl.typeIs slot_list_getitem.lookup (wpAny_getItem_list hl h0 (by lia) (by rw [List.getElem?_toArray]; exact ey) (q y h' tk z' g ry)) (hs _ _)
theorem EvL.mono {es : List Expr} {P P' : List Value → Z → Prop} (h : EvL c A σ es P) (hp : ∀ vs z, P vs z → P' vs z) : EvL c A σ es P' := .mk fun s z pos E Q S q => h.run s z pos E Q S fun vs h' tk z' g p => q vs h' tk z' g (hp _ _ p)
theorem mo_ws {cs : List Int} {nt : Int} : Mo (fun v z => WsAt z v cs nt) := fun _ _ _ k r => WsAt.mono k r
theorem evl_ws {e : Expr} {cs : List Int} {nt : Int} (h : Ev c A σ e (fun v z => WsAt z v cs nt)) (he : starEach [e] c.env = (false, eval e c.env) :: starEach [] c.env := by rfl) : EvL c A σ [e] (fun us z => ∃ v, us = [v] ∧ WsAt z v cs nt) :=
  (evl_consP h evl_nil mo_ws he).mono fun vs z p => by
    obtain ⟨v, us, rfl, pv, pu⟩ := p
    cases pu
    exact ⟨v, rfl, pv⟩
theorem sx1_if_n {σ' : List (Option V)} {t : Expr} {b : Bool} {body orelse : List Stmt} (h : Ts c A σ t b) (h1 : b = true → Sx c A σ body (Nx c σ')) (h2 : b = false → Sx c A σ orelse (Nx c σ')) : Sx1 c A σ (.If t body orelse pos) (Nx c σ') := sx1_if h h1 h2
theorem sx_skip {t : Expr} {body rest : List Stmt} {P : Flow → Z → Heap → Prop} (h : Ts c A σ t false) (hr : Sx c A σ rest P) : Sx c A σ (.If t body [] pos :: rest) P := sx_step (sx1_if_f h sx_done) hr
end
theorem natsD_ints (ns : List Nat) : natsD ns = intsD (ns.map fun (x : Nat) => (x : Int)) := by simp [natsD, intsD]
theorem sum_nats : ∀ ns : List Nat, (ns.map fun (x : Nat) => (x : Int)).sum = ((ns.sum : Nat) : Int)
  | [] => rfl
  | n :: r => by rw [List.map_cons, List.sum_cons, List.sum_cons, sum_nats r]; push_cast; rfl
theorem eqvAll_nats : ∀ a b : List Nat, PyData.eqvAll (natsD a) (natsD b) = decide (a = b)
  | [], [] => rfl
  | [], _ :: _ => rfl
  | _ :: _, [] => rfl
  | x :: a, y :: b => by
    rw [natsD, natsD, List.map_cons, List.map_cons, PyData.eqvAll, PyData.eqv, ← natsD, ← natsD, eqvAll_nats a b]
    by_cases h : x = y
    · subst h
      by_cases h2 : a = b
      · subst h2; simp
      · simp [h2]
    · have : ¬ (x : Int) = (y : Int) := by lia
      simp [h, this]
theorem eqv_nats (a b : List Nat) : PyData.eqv (.list (natsD a)) (.list (natsD b)) = decide (a = b) := by rw [PyData.eqv, eqvAll_nats]
theorem canLay_nats : ∀ a : List Nat, PyData.canLayAll0 (natsD a) = true
  | [] => rfl
  | x :: a => by rw [natsD, List.map_cons, ← natsD, PyData.canLayAll0, PyData.canLay0, canLay_nats a]; rfl
theorem depthAll_nats : ∀ a : List Nat, PyData.depthAll (natsD a) ≤ 1
  | [] => by simp [PyData.depthAll]
  | x :: a => by
    have := depthAll_nats a
    rw [natsD, List.map_cons, ← natsD, PyData.depthAll]
    simp only [PyData.depth]; lia
theorem shaped_nats (a : List Nat) : SeqAt.shaped (.list (natsD a)) = true := by
  have h1 := canLay_nats a
  have h2 := depthAll_nats a
  unfold SeqAt.shaped
  rw [Bool.and_eq_true]
  constructor
  · simp [PyData.canLay0, h1]
  · rw [decide_eq_true_eq]
    simp only [PyData.depth]; lia
theorem canLay_wt : ∀ a : List (List Nat), PyData.canLayAll0 (wtD a) = true
  | [] => rfl
  | x :: a => by rw [wtD, List.map_cons, ← wtD, PyData.canLayAll0, PyData.canLay0, canLay_nats, canLay_wt a]; rfl
theorem depthAll_wt : ∀ a : List (List Nat), PyData.depthAll (wtD a) ≤ 3
  | [] => by simp [PyData.depthAll]
  | x :: a => by
    have := depthAll_wt a
    have := depthAll_nats x
    rw [wtD, List.map_cons, ← wtD, PyData.depthAll]
    simp only [PyData.depth]; lia
theorem shaped_wt (a : List (List Nat)) : SeqAt.shaped (.list (wtD a)) = true := by
  have h1 := canLay_wt a
  have h2 := depthAll_wt a
  unfold SeqAt.shaped
  rw [Bool.and_eq_true]
  constructor
  · simp [PyData.canLay0, h1]
  · rw [decide_eq_true_eq]
    simp only [PyData.depth]; lia
theorem eqv_wt_nil (wt : List (List Nat)) : PyData.eqv (.list (wtD wt)) (.list []) = wt.isEmpty := by
  cases wt <;> rfl
theorem wt_erase (wt : List (List Nat)) (j : Nat) : (wtD wt).eraseIdx j = wtD (wt.eraseIdx j) := by
  induction wt generalizing j with
  | nil => rfl
  | cons a l ih =>
    cases j with
    | zero => rfl
    | succ j => rw [List.eraseIdx_cons_succ, wtD, wtD, List.map_cons, List.map_cons, List.eraseIdx_cons_succ]; congr 1; exact ih j
theorem idx_at (r : List Nat) : ∀ wt : List (List Nat), r ∈ wt → wt[wt.idxOf r]? = some r ∧ ∀ m r', m < wt.idxOf r → wt[m]? = some r' → r' ≠ r
  | [], h => by cases h
  | a :: l, h => by
    rw [List.idxOf_cons]
    by_cases q : a = r
    · subst q; simp
    · have hl : r ∈ l := (List.mem_cons.mp h).resolve_left fun e => q e.symm
      obtain ⟨h1, h2⟩ := idx_at r l hl
      have e : (a == r) = false := beq_eq_false_iff_ne.mpr q
      rw [e]
      refine ⟨h1, fun m r' hm e' => ?_⟩
      cases m with
      | zero => cases e'; exact q
      | succ m => exact h2 m r' (by simpa using hm) (by simpa using e')
theorem sx1_removeWt {c : Cx} {A : Around} {σ : List (Option V)} {i : Nat} {x : Str} {px pa pc pos : Pos} {a : Addr} {e : Expr} {wt : List (List Nat)} {r : List Nat} (hx : c.N[i]? = some x) (hi : σ[i]? = some (some (.own a (wtD wt)))) (h : Ev c A σ e (D (.list (natsD r)))) (hl : wt.length ≤ 10000) (hu : A.units + 65 < cLine) (hm' : r ∈ wt)
    {pl : Sem Bool} (hm : eval (.Call (.Attribute (.Name x px) (Str.ofString "remove") pa) [e] [] pc) c.env = (do
      let ov ← eval (.Name x px) c.env
      standAt pa.atName
      let (f, first) ← holding [ov] (getMethod ov (Str.ofString "remove") pl)
      callWith pc f first (backTo pc (starEach [e] c.env)) []) := by rfl)
    (hd : (x == ("__debug__" : Str)) = false := by decide) (hn : (x == ("__classdict__" : Str)) = false := by decide)
    (he : starEach [e] c.env = (false, eval e c.env) :: starEach [] c.env := by rfl) (hin : interactive c.env = false := by rfl) (hs : swapsWith (.Call (.Attribute (.Name x px) (Str.ofString "remove") pa) [e] [] pc) none pos.line c.env = pure false := by rfl) :
    Sx1 c A σ (.Expr (.Call (.Attribute (.Name x px) (Str.ofString "remove") pa) [e] [] pc) pos) (Nx c (σ.set i (some (.own a (wtD (wt.eraseIdx (wt.idxOf r))))))) := by
  obtain ⟨h1, h2⟩ := idx_at r wt hm'
  rw [← wt_erase]
  refine sx1_remove (j := wt.idxOf r) (d' := .list (natsD r)) hx hi h (by rw [List.length_map]; exact hl) hu (fun d hd => ?_) (shaped_nats r) ?_ (by rw [eqv_nats]; simp) (fun m d'' hm e => ?_) hm hd hn he hin hs
  · obtain ⟨r', _, rfl⟩ := List.mem_map.mp hd
    exact shaped_nats r'
  · rw [List.getElem?_map, h1]; rfl
  · rw [List.getElem?_map] at e
    cases e' : wt[m]? with
    | none => rw [e'] at e; cases e
    | some r' =>
      rw [e'] at e; cases e
      have := h2 m r' hm e'
      rw [eqv_nats]; exact decide_eq_false this
end Mine

-- L4
namespace Mine
noncomputable def outerBody : List Stmt := stmtBody lawBody[12]!
noncomputable def innerBody : List Stmt := stmtBody outerBody[7]!
noncomputable abbrev rdD (rd : List (Nat × Nat)) : List PyData := rd.map fun o => .tuple [.int (o.1 : Int), .int (o.2 : Int)]
structure Ks where
  ns : List Int
  cs : List Int
  u2 : Option V
  u10 : Option V
  tabs : Nat
  most : Nat
  base : Nat
  width : Nat
  t4 : Nat
  turn : Int
structure Ks.Ok (K : Ks) : Prop where
  c5 : K.cs[5]? = some K.turn
  lc : K.cs.length = 6
  t0 : 0 < K.tabs
  t3 : K.tabs ≤ 3
  m0 : 0 < K.most
  m3 : K.most ≤ 3
  b : K.base < 12
  h4 : K.t4 < 4
  wd : K.width < 70
  leads : leadsOk K.tabs K.most = true
noncomputable abbrev sIn (K : Ks) (aw at' ar : Addr) (wt : List (List Nat)) (rn tl : List Nat) (rd : List (Nat × Nat)) (first : Nat) (b0 ld : List Int) (mk st : Nat) (bk : Bool) (u : Nat → Option V) : List (Option V) :=
  [some (.dat (.list (intsD K.ns))), some (.dat (.list (intsD K.cs))), K.u2, vi K.tabs, vi K.most, vi (K.tabs + K.most), vi K.base, vi K.width, some (.dat (.str (tails.getD K.t4 ""))), some (.own aw (wtD wt)), K.u10, some (.dat (.list (natsD rn))), some (.own at' (natsD tl)), some (.own ar (rdD rd)),
    vi first, some (.ws b0 (K.tabs : Int)), some (.ws ld (K.tabs : Int)), vi mk, vi st, some (.dat (.bool bk)), u 20, u 21, u 22, u 23, u 24, u 25, u 26, u 27, none, none, none, none, none, none]
theorem sx_norm {c : Cx} {A : Around} {σ : List (Option V)} {st : List Stmt} {P : Flow → Z → Heap → Prop} (F : (Nat → Option V) → List (Option V)) (e : σ = F fun i => σ.getD i none) (h : Sx c A (F fun i => σ.getD i none) st P) : Sx c A σ st P := e ▸ h
theorem eq_norm {σ : List (Option V)} (F : (Nat → Option V) → List (Option V)) (e : σ = F fun i => σ.getD i none) : ∃ u, σ = F u := ⟨_, e⟩
theorem lead_facts {tabs most : Nat} (h : leadsOk tabs most = true) {r : List Nat} (hr : (waits most (tabs - 1)).contains r = true) : r.length = tabs ∧ (∀ x ∈ r, x < 4) ∧ ∀ here t4, here < tabs → t4 < 4 → leadOk r here (tails.getD t4 "") = true := by
  have hr' : r ∈ waits most (tabs - 1) := by simpa using hr
  have h1 := List.all_eq_true.mp h r hr'
  simp only [Bool.and_eq_true] at h1
  obtain ⟨h2, h3, h4⟩ := h1
  refine ⟨by simpa using h2, fun x hx => by simpa using List.all_eq_true.mp h3 x hx, fun here t4 hh ht => ?_⟩
  have h5 := List.all_eq_true.mp h4 here (List.mem_range.mpr hh)
  refine List.all_eq_true.mp h5 _ ?_
  rw [List.getD_eq_getElem?_getD, List.getElem?_eq_getElem (show t4 < tails.length from ht)]
  exact List.getElem_mem _
theorem leadFn {w : World} {tabs most t4 : Nat} {r : List Nat} {turn : Int} (h : leadsOk tabs most = true) (hr : (waits most (tabs - 1)).contains r = true) (ht0 : 0 < tabs) (ht3 : tabs ≤ 3) (h4 : t4 < 4) :
    Fn w 149 5 110 (Ds [.list (natsD r), .int turn, .str (tails.getD t4 "")]) (fun v z => WsAt z v (cnts r) (tabs : Int)) := by
  obtain ⟨f1, f2, f3⟩ := lead_facts h hr
  obtain ⟨here, e, hl⟩ := fmod_ofNat turn tabs ht0
  have h5 := f3 here t4 hl h4
  unfold leadOk at h5
  simp only [Bool.and_eq_true, decide_eq_true_eq] at h5
  obtain ⟨g1, g2, g3, g4⟩ := h5
  rw [f1] at g4
  exact fn_lead (by lia) (by lia) f2 (by rw [f1]; exact e) g1 g2 g3 g4
end Mine

-- L5
namespace Mine
theorem foldmax_lt : ∀ (r : List Nat) (a n : Nat), a < n → (∀ x ∈ r, x < n) → r.foldl max a < n
  | [], a, n, h, _ => h
  | x :: l, a, n, h, hx => by
    rw [List.foldl_cons]
    exact foldmax_lt l _ n (by have := hx x (.head _); lia) fun y hy => hx y (.tail _ hy)
theorem cnts_len {r : List Nat} (h : ∀ x ∈ r, x < 4) : 1 ≤ (cnts r).length ∧ (cnts r).length ≤ 4 := by
  have := foldmax_lt r 0 4 (by decide) h
  simp [cnts]; lia
theorem ne_s_same {w : World} {A : Around} {x : Str} : Op2 w A (compareOp .NotEq) (.str x) (.str x) (.bool false) := .mk fun s z u v E Q g k ru rv h => by
  obtain ⟨_, rfl⟩ := ru.isStr
  obtain ⟨_, rfl⟩ := rv.isStr
  refine P.ne_str ?_
  rw [bne_self_eq_false]
  exact h _ s.heap s.toks z (.refl k) (.bool _)
theorem natsD_set (l : List Nat) (n v : Nat) : natsD (l.set n v) = (natsD l).set n (.int (v : Int)) := List.map_set
theorem upTo1 (m : Nat) : upTo 1 m = natsD ((List.range m).map (· + 1)) := by
  simp only [upTo, natsD, List.map_map]
  refine List.map_congr_left fun i _ => ?_
  simp only [Function.comp]; congr 1; push_cast; lia
theorem plus1 (r : List Nat) : (natsD r).filterMap (onInt fun x => some (.int (x + 1))) = natsD (r.map (· + 1)) := by
  induction r with
  | nil => rfl
  | cons a l ih => simp only [natsD, List.map_cons, List.filterMap_cons, onInt] at ih ⊢; rw [ih]; congr 2
noncomputable def divs (s : Nat) : PyData → Option PyData := onInt fun x => if x.fmod (s : Int) = 0 then some (.int x) else none
theorem divs_at (s x : Nat) : divs s (.int (x : Int)) = if x % s == 0 then some (.int (x : Int)) else none := by
  unfold divs
  simp only [onInt, fmod_nat]
  by_cases h : x % s = 0
  · simp [h]
  · have : ¬ ((x % s : Nat) : Int) = 0 := by lia
    rw [if_neg this]; simp [h]
theorem divs_all (s : Nat) : ∀ r : List Nat, (natsD r).filterMap (divs s) = natsD (r.filter fun x => x % s == 0)
  | [] => rfl
  | a :: l => by
    rw [natsD, List.map_cons, ← natsD, List.filterMap_cons, divs_at, divs_all s l, List.filter_cons]
    by_cases h : (a % s == 0) = true
    · rw [if_pos h, if_pos h]; rfl
    · rw [if_neg h, if_neg h]
noncomputable def hits (gr : List Nat) : PyData → Option PyData := onInt fun s => if gr.any (fun x => x % s.toNat == 0) then some (.int s) else none
theorem hits_all (gr : List Nat) : ∀ r : List Nat, (natsD r).filterMap (hits gr) = natsD (r.filter fun s => gr.any fun x => x % s == 0)
  | [] => rfl
  | a :: l => by
    rw [natsD, List.map_cons, ← natsD, List.filterMap_cons, hits_all gr l, List.filter_cons]
    have e : hits gr (.int (a : Int)) = if gr.any (fun x => x % a == 0) then some (.int (a : Int)) else none := by
      unfold hits; simp only [onInt, Int.toNat_natCast]
    rw [e]
    by_cases h : (gr.any fun x => x % a == 0) = true
    · rw [if_pos h, if_pos h]; rfl
    · rw [if_neg h, if_neg h]
theorem eqv_nats_nil (r : List Nat) : PyData.eqv (.list (natsD r)) (.list []) = r.isEmpty := by
  cases r <;> rfl
theorem filter_any (s : Nat) (r : List Nat) : (!(r.filter fun x => x % s == 0).isEmpty) = r.any fun x => x % s == 0 := by
  induction r with
  | nil => rfl
  | cons a l ih =>
    rw [List.filter_cons, List.any_cons, ← ih]
    by_cases h : (a % s == 0) = true
    · rw [if_pos h, h]; rfl
    · rw [if_neg h]; simp [h]
set_option maxHeartbeats 2000000 in
theorem innerTurn {w : World} {f : Addr} {cdv : Value} {h0 : Heap} {z0 : Z} {A : Around} {K : Ks} (O : K.Ok) (rm : Rm A 200 500) {aw at' ar : Addr} {wt : List (List Nat)} {rn tl r0 : List Nat} {rd : List (Nat × Nat)} {mk st : Nat} {u : Nat → Option V} {bk : Bool}
    (ok : okI K.tabs K.most r0 ⟨wt, tl, rn, mk, st, bk⟩ = true) {P : Flow → Z → Heap → Prop}
    (H : ∀ v, Sx (lawC w f cdv h0 z0) A (sIn K aw at' ar (wt.eraseIdx (wt.idxOf rn)) (grownOf K.most rn) (tl.set rn.sum (tl.getD rn.sum 0 + 1)) rd (firstOf r0) (cnts r0) (cnts (grownOf K.most rn)) (mk1 (K.tabs + K.most) mk) (st + 1) (cnts (grownOf K.most rn) == cnts r0) v) [] P) :
    Sx (lawC w f cdv h0 z0) A (sIn K aw at' ar wt rn tl rd (firstOf r0) (cnts r0) (cnts rn) mk st bk u) innerBody P := by
  have hh := rm.hd
  have hun := rm.un
  unfold okI at ok
  simp only [Bool.and_eq_true, decide_eq_true_eq] at ok
  obtain ⟨o1, o2, o3, o4, o5, o6, o7, o8, o9, o10, o11, o12, o13⟩ := ok
  obtain ⟨f1, f2, f3⟩ := lead_facts O.leads o1
  obtain ⟨g1, g2, g3⟩ := lead_facts O.leads o2
  generalize hgr : grownOf K.most rn = gr at *
  obtain ⟨cl1, cl2⟩ := cnts_len f2
  obtain ⟨cg1, cg2⟩ := cnts_len g2
  have t0 := O.t0
  have t3 := O.t3
  have m0 := O.m0
  have m3 := O.m3
  have el : (natsD rn).length = rn.length := List.length_map ..
  have elg : (natsD gr).length = gr.length := List.length_map ..
  have etl : (natsD tl).length = tl.length := List.length_map ..
  have hne : rn ≠ [] := fun q => by rw [q] at f1; simp at f1; lia
  show Sx _ _ _ (_ :: _) _
  refine sx_step (sx1_removeWt (i := 9) rfl rfl (ev_name (i := 11) rfl rfl) (by lia) (by lia) (by simpa using o3)) ?_
  refine sx_step (sx1_assign (i := 20) (d := .int ((rn.sum : Nat) : Int)) ⟨rfl, .inl rfl⟩ (Ev.to (ev_bin (ev_meth (i := 16) (fn_level (ts := 1) (by lia) (by lia) (by lia)) rfl rfl (by k_is) (by k_is) (by k_is) (by k_is) (fun _ _ _ => rfl) (evl_cons ev_int evl_nil) (rm.mono (by decide) (by decide))) (ev_name (i := 3) rfl rfl) sub_i) (congrArg PyData.int o6))) ?_
  refine sx_skip (Ts.to (ts_cmp (ev_name (i := 20) rfl rfl) (ev_bf (bf_sum (ns := rn.map fun (x : Nat) => (x : Int)) hh) rfl (by k_is) boot_sum (evl_cons (Ev.to (ev_name (i := 11) rfl rfl) (congrArg PyData.list (natsD_ints rn))) evl_nil)) ne_i) (by rw [sum_nats]; simp)) ?_
  refine sx_step (sx1_setitem (i := 12) (k := ((rn.sum : Nat) : Int)) (d := .int ((tl.getD rn.sum 0 + 1 : Nat) : Int)) rfl rfl (Ev.to (ev_borrow (i := 12) rfl rfl (ev_bin (ev_itemN (ev_name (i := 12) rfl rfl) (ev_name (i := 20) rfl rfl) (by lia) (natsD_at o7)) ev_int add_i)) rfl) (ev_name (i := 20) rfl rfl) (Int.natCast_nonneg _) (by rw [etl]; exact Int.ofNat_lt.mpr o7) (by rw [etl]; exact Nat.le_trans o5 (by decide))) ?_
  rw [Int.toNat_natCast, ← natsD_set]
  generalize wt.eraseIdx (wt.idxOf rn) = wt' at *
  generalize tl.set rn.sum (tl.getD rn.sum 0 + 1) = tl' at *
  generalize hsz : sizesOf K.most rn gr = sz at *
  have hsz1 : ∀ s ∈ sz, 0 < s ∧ s < 5 := fun s hs => by
    rw [← hsz] at hs
    unfold sizesOf at hs
    split at hs
    · obtain ⟨i, hi, rfl⟩ := List.mem_map.mp hs
      have := List.mem_range.mp hi; lia
    · obtain ⟨hs, _⟩ := List.mem_filter.mp hs
      obtain ⟨i, hi, rfl⟩ := List.mem_map.mp hs
      have := List.mem_range.mp hi; lia
  have hszl : sz.length ≤ 3 := by
    rw [← hsz]; unfold sizesOf
    split
    · simp; lia
    · exact Nat.le_trans (List.length_filter_le _ _) (by simp; lia)
  refine sx_step (sx1_if_n (b := decide (rn.getLast! = K.most)) (σ' := sIn K aw at' ar wt' rn tl' rd (firstOf r0) (cnts r0) (cnts rn) mk st bk (fun i => if i = 20 then vi rn.sum else if i = 21 then some (.dat (.list (natsD gr))) else if i = 22 then some (.dat (.list (natsD sz))) else u i))
    (Ts.to (ts_cmp (ev_item_neg (k := -1) (d := .int (rn.getLast! : Nat)) (ev_name (i := 11) rfl rfl) (ev_neg ev_int) (by decide) (by rw [el]; lia) (by rw [el]; lia) (getLast_at hne)) (ev_name (i := 4) rfl rfl) eq_i) ?_) (fun hb => ?_) (fun hb => ?_)) ?_
  · by_cases q : rn.getLast! = K.most
    · rw [decide_eq_true q, q]; simp
    · rw [decide_eq_false q, beq_eq_false_iff_ne]; lia
  · have q : rn.getLast! = K.most := by simpa using hb
    rw [grownOf, if_pos q] at hgr
    rw [sizesOf, if_pos q] at hsz
    refine sx_step (sx1_assign (i := 21) (d := .list (natsD gr)) sto_grown (Ev.to (EvN.dat (evn_bin (EvN.dat (evn_list (evl_cons ev_int evl_nil) (show 1 ≤ 1000 by decide))) (EvN.dat (evn_butlast (ev_name (i := 11) rfl rfl) (ev_neg ev_int) (by rw [el]; lia))) (add_l' ?_))) (congrArg PyData.list ?_))) ?_
    · rw [List.length_take, el]; show 1 + _ ≤ 1000; lia
    · rw [← hgr, el, natsD, natsD, List.map_cons, List.map_take]; rfl
    refine sx_step (sx1_assign (i := 22) (d := .list (natsD sz)) ⟨rfl, .inl rfl⟩ (Ev.to (EvN.dat (evn_listrangeN (a := 1) (b := K.most + 1) (n := K.most) ev_int (ev_bin (ev_name (i := 4) rfl rfl) ev_int add_n) hh (Nat.add_comm _ _) (Nat.le_trans (Nat.succ_le_succ m3) (by decide)) rfl (by k_is) rfl (by k_is))) (congrArg PyData.list ((upTo1 K.most).trans (by rw [hsz]))))) sx_done
  · have q : ¬ rn.getLast! = K.most := by simpa using hb
    rw [grownOf, if_neg q] at hgr
    rw [sizesOf, if_neg q] at hsz
    refine sx_step (sx1_assign (i := 21) (d := .list (natsD gr)) sto_grown (Ev.to (EvN.dat (evn_comp (f := onInt fun x => some (.int (x + 1))) (ds := natsD rn) (N := [Str.ofString "run"]) (us := [none]) ⟨by with_unfolding_all rfl, rfl, by decide, by decide, rfl, ?_, rfl, .inl rfl⟩ (evi_list (ev_name (i := 11) rfl rfl) hh) (by rw [el]; lia) fun C h0 z0 X d hd => ?_)) (congrArg PyData.list ((plus1 rn).trans (by rw [hgr]))))) ?_
    · exact slots_none slots_nil
    · obtain ⟨n, _, rfl⟩ := List.mem_map.mp hd
      exact ⟨true, tl_nil, (nomatch ·), fun _ => ⟨_, rfl, ev_bin (ev_name (i := 0) rfl rfl) ev_int add_i⟩⟩
    have e1 : (upTo 1 K.most).filterMap (hits gr) = natsD sz := by rw [upTo1, hits_all, hsz]
    refine sx_assign_comp (i := 22) (N := [Str.ofString "size", Str.ofString "grown"]) (us := [none, some (.dat (.list (natsD gr)))]) (f := hits gr) (ds := upTo 1 K.most) ⟨rfl, .inl rfl⟩ ⟨by with_unfolding_all rfl, rfl, by decide, by decide, rfl, ?_, rfl, .inr ⟨rfl, fun C => ⟨_, rfl, Nat.lt_succ_self _⟩⟩⟩
      (evi_range2N (a := 1) (b := K.most + 1) (n := K.most) ev_int (ev_bin (ev_name (i := 4) rfl rfl) ev_int add_n) hh (Nat.add_comm _ _) (Nat.le_trans (Nat.succ_le_succ m3) (by decide)) rfl (by k_is)) (by rw [upTo_len]; exact Nat.le_trans m3 (by decide)) (fun C h0 z0 X d hd => ?_) fun a => sx_freeze (i := 22) rfl rfl ?_
    · exact slots_none (slots_some ⟨trivial, fun C => ⟨_, rfl, rfl⟩, .inl rfl, .inl rfl, 21, rfl, rfl⟩ slots_nil)
    · rw [upTo1] at hd
      obtain ⟨s, hs, rfl⟩ := List.mem_map.mp hd
      obtain ⟨i, hi, rfl⟩ := List.mem_map.mp hs
      have hi := List.mem_range.mp hi
      refine ⟨gr.any fun x => x % (i + 1) == 0, tl_one (Ts.to (ts_cmp (Ev.to (EvN.dat (evn_comp (f := divs (i + 1)) (ds := natsD gr) (N := [Str.ofString "run", Str.ofString "size"]) (us := [none, vi (i + 1)]) ⟨by with_unfolding_all rfl, rfl, by decide, by decide, rfl, ?_, rfl, .inl rfl⟩
        (evi_list (ev_name (i := 1) rfl rfl) hh) (by rw [elg]; lia) fun C h0 z0 X d hd => ?_)) (congrArg PyData.list (divs_all (i + 1) gr))) (EvN.dat (evn_list evl_nil (by decide))) (ne_d (shaped_nats _) rfl (by lia))) (by rw [eqv_nats_nil, filter_any])), fun hb => ?_, fun hb => ⟨_, ?_, ev_name (i := 0) rfl rfl⟩⟩
      · exact slots_none (slots_some ⟨trivial, fun C => ⟨_, rfl, rfl⟩, .inl rfl, .inl rfl, 0, rfl, rfl⟩ slots_nil)
      · obtain ⟨x, _, rfl⟩ := List.mem_map.mp hd
        refine ⟨x % (i + 1) == 0, tl_one (Ts.to (ts_cmp (ev_bin (ev_name (i := 0) rfl rfl) (ev_name (i := 1) rfl rfl) (mod_i (by lia))) ev_int eq_i) ?_), fun hb => ?_, fun hb => ⟨_, ?_, ev_name (i := 0) rfl rfl⟩⟩
        · rw [fmod_nat]
          by_cases q : x % (i + 1) = 0
          · rw [q]; rfl
          · have e1 : (x % (i + 1) == 0) = false := beq_eq_false_iff_ne.mpr q
            rw [e1, beq_eq_false_iff_ne]; lia
        · rw [divs_at, hb]; rfl
        · rw [divs_at, hb]; rfl
      · unfold hits; simp only [onInt, Int.toNat_natCast]; exact if_neg (by rw [hb]; decide)
      · unfold hits; simp only [onInt, Int.toNat_natCast]; exact if_pos hb
    · rw [e1]; exact sx_done
  -- steps, after
  refine sx_step (sx1_assign (i := 18) (d := .int ((st + 1 : Nat) : Int)) ⟨rfl, .inl rfl⟩ (Ev.to (ev_bin (ev_name (i := 18) rfl rfl) ev_int add_n) rfl)) ?_
  have ecs : (intsD K.cs)[(5 : Int).toNat]? = some (.int K.turn) := by
    rw [show (5 : Int).toNat = 5 from rfl, List.getElem?_map, O.c5]; rfl
  refine sx_step (sx1_assign_ws (i := 23) ⟨rfl, .inl rfl⟩ (ev_call (leadFn (r := gr) (t4 := K.t4) (turn := K.turn + ((st + 1 : Nat) : Int) + 1) O.leads o2 t0 t3 O.h4) rfl (by k_is) (by k_is) (evl_cons (ev_name (i := 21) rfl rfl) (evl_cons (ev_bin (ev_bin (ev_item (ev_name (i := 1) rfl rfl) ev_int (by decide) (by decide) ecs) (ev_name (i := 18) rfl rfl) add_i) ev_int add_i) (evl_cons (ev_name (i := 8) rfl rfl) evl_nil))) (rm.mono (by decide) (by decide)))) ?_
  -- due
  have edue : (natsD sz).filterMap (onInt fun s => some (.tuple [.int s, .int (colOf rn s.toNat), .int (colOf gr s.toNat)])) = dueOf K.most rn gr := by
    rw [dueOf, hsz]
    have : ∀ l : List Nat, (natsD l).filterMap (onInt fun s => some (.tuple [.int s, .int (colOf rn s.toNat), .int (colOf gr s.toNat)])) = l.map fun (s : Nat) => .tuple [.int (s : Int), .int (colOf rn s), .int (colOf gr s)] := fun l => by
      induction l with
      | nil => rfl
      | cons a r ih => simp only [natsD, List.map_cons, List.filterMap_cons, onInt, Int.toNat_natCast] at ih ⊢; rw [ih]
    exact this sz
  refine sx_assign_comp (i := 24) (N := [Str.ofString "size", Str.ofString "grown", Str.ofString "runs"]) (us := [none, some (.dat (.list (natsD gr))), some (.dat (.list (natsD rn)))]) (f := onInt fun s => some (.tuple [.int s, .int (colOf rn s.toNat), .int (colOf gr s.toNat)])) (ds := natsD sz) ⟨rfl, .inl rfl⟩ ⟨by with_unfolding_all rfl, rfl, by decide, by decide, rfl, ?_, rfl, .inl rfl⟩
    (evi_list (ev_name (i := 22) rfl rfl) hh) (by rw [List.length_map]; lia) (fun C h0 z0 X d hd => ?_) fun a => sx_freeze (i := 24) rfl rfl ?_
  · exact slots_none (slots_some ⟨trivial, fun C => ⟨_, rfl, rfl⟩, .inl rfl, .inl rfl, 21, rfl, rfl⟩ (slots_some ⟨trivial, fun C => ⟨_, rfl, rfl⟩, .inl rfl, .inl rfl, 11, rfl, rfl⟩ slots_nil))
  · obtain ⟨s, hs, rfl⟩ := List.mem_map.mp hd
    obtain ⟨s0, s5⟩ := hsz1 s hs
    refine ⟨true, tl_nil, (nomatch ·), fun _ => ⟨_, rfl, ev_tuple (evl_cons (ev_name (i := 0) rfl rfl) (evl_cons (ev_call (fn_column (ns := rn.map fun (x : Nat) => (x : Int)) (size := (s : Int)) (by lia) (by lia) (by rw [List.length_map]; lia)) rfl (by k_is) (by k_is) (evl_cons (Ev.to (ev_name (i := 2) rfl rfl) (congrArg PyData.list (natsD_ints rn))) (evl_cons (ev_name (i := 0) rfl rfl) evl_nil)) (rm.mono (by decide) (by decide)))
      (evl_cons (ev_call (fn_column (ns := gr.map fun (x : Nat) => (x : Int)) (size := (s : Int)) (by lia) (by lia) (by rw [List.length_map]; lia)) rfl (by k_is) (by k_is) (evl_cons (Ev.to (ev_name (i := 1) rfl rfl) (congrArg PyData.list (natsD_ints gr))) (evl_cons (ev_name (i := 0) rfl rfl) evl_nil)) (rm.mono (by decide) (by decide))) evl_nil))) (show 3 ≤ 1000 by decide)⟩⟩
  rw [edue]
  -- witness
  refine sx_skip (Ts.to (ts_cmp (ev_meth (i := 16) (fn_wit (cs' := cnts gr) (nt' := (K.tabs : Int)) (by lia) (by lia) (by lia) (by lia)) rfl rfl (by k_is) (by k_is) (by k_is) (by k_is) (fun _ _ _ => rfl) (evl_ws (ev_name_ws (i := 23) rfl rfl)) (rm.mono (by decide) (by decide))) (ev_name (i := 24) rfl rfl) (ne_d o9 o10 (by lia))) (by rw [show wit (cnts rn) (cnts gr) (K.tabs : Int) (K.tabs : Int) _ = witOf K.tabs rn gr from rfl, o8]; rfl)) ?_
  -- mask
  have hpw : 2 ^ (K.tabs + K.most) < 2 ^ (K.tabs + K.most + 1) := Nat.pow_lt_pow_right (by decide) (by lia)
  have hib := intBits_nat_le hpw
  have hfg : figN (Builtin.Int.intBits ((2 ^ (K.tabs + K.most) : Nat) : Int)) (2 * mk) ≤ 100 := by
    have h1 := intBits_nat_le o11
    unfold figN
    exact Nat.le_trans (Nat.div_le_self _ _) (by lia)
  refine sx_step (sx1_unpack2 (i := 25) (j := 26) hh ⟨rfl, .inl rfl⟩ ⟨rfl, .inl rfl⟩ (ev_call (fn_divmod (a := 2 * mk) (b := 2 ^ (K.tabs + K.most)) (Nat.two_pow_pos _) (by lia) hfg) rfl (by k_is) (by k_is)
    (evl_cons (ev_bin ev_int (ev_name (i := 17) rfl rfl) (mul_n (a := 2) (by decide))) (evl_cons (ev_bin ev_int (ev_name (i := 5) rfl rfl) (pow2 (by lia))) evl_nil)) (rm.mono (by decide) (by decide)))) ?_
  generalize hm1 : mk1 (K.tabs + K.most) mk = m at *
  refine sx_step (sx1_assign (i := 17) (d := .int (m : Int)) ⟨rfl, .inl rfl⟩ (Ev.to (ev_bin (ev_name (i := 25) rfl rfl) (ev_name (i := 26) rfl rfl) add_n) (congrArg (fun (x : Nat) => PyData.int (x : Int)) hm1))) ?_
  -- words
  have hbk := List.all_eq_true.mp o13 K.base (List.mem_range.mpr O.b)
  unfold bitsOk at hbk
  simp only [Bool.and_eq_true, decide_eq_true_eq] at hbk
  obtain ⟨b1, b2, b3, b4, b5⟩ := hbk
  have b6 : ∀ k, k < K.tabs → K.base + gr.getD k 0 + k < 32 := fun k hk => by simpa using List.all_eq_true.mp b5 k (List.mem_range.mpr hk)
  rw [b4] at b3
  have ewd : (upTo 0 K.tabs).filterMap (onInt fun k => some (.str (flagName (K.base + gr.getD k.toNat 0 + k.toNat)))) = (((List.range K.tabs).map fun k => K.base + gr.getD k 0 + k).map flagName).map .str := by
    have : ∀ l : List Nat, (l.map fun (i : Nat) => PyData.int ((0 : Int) + (i : Int))).filterMap (onInt fun k => some (.str (flagName (K.base + gr.getD k.toNat 0 + k.toNat)))) = ((l.map fun k => K.base + gr.getD k 0 + k).map flagName).map .str := fun l => by
      induction l with
      | nil => rfl
      | cons a r ih => simp only [List.map_cons, List.filterMap_cons, onInt, Int.zero_add, Int.toNat_natCast] at ih ⊢; rw [ih]
    exact this _
  refine sx_assign_comp (i := 27) (N := [Str.ofString "k", Str.ofString "base", Str.ofString "grown"]) (us := [none, vi K.base, some (.dat (.list (natsD gr)))]) (f := onInt fun k => some (.str (flagName (K.base + gr.getD k.toNat 0 + k.toNat)))) (ds := upTo 0 K.tabs) ⟨rfl, .inl rfl⟩ ⟨by with_unfolding_all rfl, rfl, by decide, by decide, rfl, ?_, rfl, .inl rfl⟩
    (evi_rangeN (n := K.tabs) (ev_name (i := 3) rfl rfl) hh (Nat.le_trans t3 (by decide)) rfl (by k_is)) (by rw [upTo_len]; exact Nat.le_trans t3 (by decide)) (fun C h0 z0 X d hd => ?_) fun a => sx_freeze (i := 27) rfl rfl ?_
  · exact slots_none (slots_some ⟨trivial, fun C => ⟨_, rfl, rfl⟩, .inl rfl, .inl rfl, 6, rfl, rfl⟩ (slots_some ⟨trivial, fun C => ⟨_, rfl, rfl⟩, .inl rfl, .inl rfl, 21, rfl, rfl⟩ slots_nil))
  · obtain ⟨k, hk, rfl⟩ := List.mem_map.mp hd
    have hk := List.mem_range.mp hk
    have hkg : k < gr.length := by lia
    rw [Int.zero_add]
    refine ⟨true, tl_nil, (nomatch ·), fun _ => ⟨_, rfl, ?_⟩⟩
    rw [Int.toNat_natCast]
    refine ev_call (fn_word (p := K.base + gr.getD k 0 + k) (b6 k hk)) rfl (by k_is) (by k_is) (evl_cons (ev_bin (ev_bin (ev_name (i := 1) rfl rfl) (ev_itemN (ev_name (i := 2) rfl rfl) (ev_name (i := 0) rfl rfl) (Nat.lt_of_lt_of_le hk (Nat.le_trans t3 (by decide))) (natsD_at hkg)) add_n) (ev_name (i := 0) rfl rfl) add_n) evl_nil) (rm.mono (by decide) (by decide))
  rw [ewd]
  -- flags
  have hmlt : m < 2 ^ 32 := Nat.lt_of_le_of_lt (Nat.le_mul_of_pos_right m (Nat.two_pow_pos K.base)) b2
  have hK := O.b
  refine sx_skip (Ts.to (ts_cmp (Ev.to (ev_call (fn_flags (n := m * 2 ^ K.base) b1 b2 (by rw [b4]; exact b3)) rfl (by k_is) (by k_is) (evl_cons (ev_bin (ev_name (i := 17) rfl rfl) (ev_bin ev_int (ev_name (i := 6) rfl rfl) (pow2 (Nat.le_trans (Nat.le_of_lt hK) (by decide)))) (mul_n (Nat.le_trans (Nat.le_of_lt hmlt) (by decide)))) evl_nil) (rm.mono (by decide) (by decide))) (by rw [b4]))
    (ev_join ev_str (ev_name (i := 27) rfl rfl) b3) ne_s_same) rfl) ?_
  -- back
  refine sx_step (sx1_assign (i := 19) (d := .bool (cnts gr == cnts r0)) ⟨rfl, .inl rfl⟩ (ev_meth (i := 23) (fn_equal (cs' := cnts r0) (nt' := (K.tabs : Int))) rfl rfl (by k_is) (by k_is) (by k_is) (by k_is) (fun _ _ _ => rfl) (evl_ws (ev_name_ws (i := 15) rfl rfl)) (rm.mono (by decide) (by decide)))) ?_
  refine sx_skip (Ts.to (ts_cmp (ev_name (i := 19) rfl rfl) (ev_cmp (ev_name (i := 17) rfl rfl) (ev_name (i := 14) rfl rfl) eq_i) isnot_b) ?_) ?_
  · have e : ((m : Int) == (firstOf r0 : Int)) = (m == firstOf r0) := by
      by_cases q : m = firstOf r0
      · rw [q]; simp
      · rw [beq_eq_false_iff_ne.mpr q, beq_eq_false_iff_ne]; lia
    rw [e, o12]; rfl
  refine sx_step (sx1_assign (i := 11) sto_runs (ev_name (i := 21) rfl rfl)) ?_
  refine sx_step (sx1_assign_ws (i := 16) ⟨rfl, .inl rfl⟩ (ev_name_ws (i := 23) rfl rfl)) ?_
  exact sx_norm (sIn K aw at' ar wt' gr tl' rd (firstOf r0) (cnts r0) (cnts gr) m (st + 1) (cnts gr == cnts r0)) rfl (H _)
end Mine

-- L6
namespace Mine
theorem firstOf_sum (rn : List Nat) : (upTo 0 rn.length).filterMap (onInt fun k => some (.int ((2 ^ (rn.getD k.toNat 0 + k.toNat) : Nat) : Int))) = intsD (((List.range rn.length).map fun k => 2 ^ (rn.getD k 0 + k)).map fun (x : Nat) => (x : Int)) := by
  have : ∀ l : List Nat, (l.map fun (i : Nat) => PyData.int ((0 : Int) + (i : Int))).filterMap (onInt fun k => some (.int ((2 ^ (rn.getD k.toNat 0 + k.toNat) : Nat) : Int))) = intsD ((l.map fun k => 2 ^ (rn.getD k 0 + k)).map fun (x : Nat) => (x : Int)) := fun l => by
    induction l with
    | nil => rfl
    | cons a r ih => simp only [intsD, List.map_cons, List.filterMap_cons, onInt, Int.zero_add, Int.toNat_natCast] at ih ⊢; rw [ih]
  exact this _
theorem firstOf_int (rn : List Nat) : (((List.range rn.length).map fun k => 2 ^ (rn.getD k 0 + k)).map fun (x : Nat) => (x : Int)).sum = (firstOf rn : Int) := sum_nats _
noncomputable abbrev sOut (K : Ks) (aw at' ar : Addr) (wt : List (List Nat)) (tl : List Nat) (rd : List (Nat × Nat)) (u : Nat → Option V) : List (Option V) :=
  [some (.dat (.list (intsD K.ns))), some (.dat (.list (intsD K.cs))), K.u2, vi K.tabs, vi K.most, vi (K.tabs + K.most), vi K.base, vi K.width, some (.dat (.str (tails.getD K.t4 ""))), some (.own aw (wtD wt)), K.u10, u 11, some (.own at' (natsD tl)), some (.own ar (rdD rd)),
    u 14, u 15, u 16, u 17, u 18, u 19, u 20, u 21, u 22, u 23, u 24, u 25, u 26, u 27, none, none, none, none, none, none]
noncomputable def Jout (K : Ks) (aw at' ar : Addr) (fin : OS) (n : Nat) (σ : List (Option V)) : Prop :=
  ∃ s : OS, runO K.tabs K.most n s = some fin ∧ ∃ u, σ = sOut K aw at' ar s.wt s.tl s.rd u
noncomputable def Jin (K : Ks) (aw at' ar : Addr) (r0 : List Nat) (rd : List (Nat × Nat)) (fin : PS) (n : Nat) (σ : List (Option V)) : Prop :=
  ∃ s : PS, runI K.tabs K.most r0 n s = some fin ∧ ∃ u, σ = sIn K aw at' ar s.wt s.rn s.tl rd (firstOf r0) (cnts r0) (cnts s.rn) s.msk s.st s.bk u
theorem runI_fin {tabs most : Nat} {r0 : List Nat} : ∀ (n : Nat) (s fin : PS), runI tabs most r0 n s = some fin → s.bk = true → s = fin := fun n s fin h hb => by
  cases n <;> (unfold runI at h; rw [if_pos hb] at h; cases h; rfl)
theorem runI_step {tabs most : Nat} {r0 : List Nat} {n : Nat} {s fin : PS} (h : runI tabs most r0 n s = some fin) (hb : s.bk = false) : ∃ m, n = m + 1 ∧ okI tabs most r0 s = true ∧ runI tabs most r0 m (stepI most (tabs + most) r0 s) = some fin := by
  cases n with
  | zero => unfold runI at h; rw [if_neg (by rw [hb]; decide)] at h; cases h
  | succ m =>
    unfold runI at h
    rw [if_neg (by rw [hb]; decide)] at h
    split at h
    · rename_i h1; exact ⟨m, rfl, h1, h⟩
    · cases h
set_option maxHeartbeats 2000000 in
theorem innerLoop {w : World} {f : Addr} {cdv : Value} {h0 : Heap} {z0 : Z} {A : Around} {K : Ks} (O : K.Ok) (rm : Rm A 200 500) {aw at' ar : Addr} {r0 : List Nat} {rd : List (Nat × Nat)} {σ : List (Option V)} {n : Nat} {fin : PS} (hJ : Jin K aw at' ar r0 rd fin n σ) {P : Flow → Z → Heap → Prop}
    (H : ∀ v, Sx (lawC w f cdv h0 z0) A (sIn K aw at' ar fin.wt fin.rn fin.tl rd (firstOf r0) (cnts r0) (cnts fin.rn) fin.msk fin.st fin.bk v) (outerBody.drop 8) P) :
    Sx (lawC w f cdv h0 z0) A σ (outerBody.drop 7) P := by
  show Sx _ _ _ (_ :: _) _
  refine sx_while (Jin K aw at' ar r0 rd fin) (fun σ => ∃ v, σ = sIn K aw at' ar fin.wt fin.rn fin.tl rd (firstOf r0) (cnts r0) (cnts fin.rn) fin.msk fin.st fin.bk v) hJ ?_ ?_
  · rintro n σ₁ ⟨s, hr, u, rfl⟩
    refine ⟨!s.bk, ts_not (ts_val (ev_name (i := 19) rfl rfl) rfl), fun hb => ?_, fun hb => ?_⟩
    · have hb : s.bk = false := by simpa using hb
      obtain ⟨m, rfl, ok, hr'⟩ := runI_step hr hb
      refine innerTurn (r0 := r0) O rm ok fun v => sx_nil fun z h S => ?_
      exact ⟨_, ⟨m, Nat.lt_succ_self m, _, hr', v, rfl⟩, S⟩
    · have hb : s.bk = true := by simpa using hb
      have := runI_fin _ _ _ hr hb
      subst this
      exact ⟨_, rfl⟩
  · rintro σ₁ ⟨v, rfl⟩
    exact H _
theorem runO_step {tabs most n : Nat} {s fin : OS} (h : runO tabs most n s = some fin) (hb : s.wt.isEmpty = false) : ∃ m t, n = m + 1 ∧ (waits most (tabs - 1)).contains (s.wt.headD []) = true ∧ s.wt.length ≤ 100 ∧ s.rd.length ≤ 100 ∧
    runI tabs most (s.wt.headD []) 20 (startI s.wt s.tl) = some t ∧ 0 < t.st ∧ t.st < 100 ∧ runO tabs most m ⟨t.wt, t.tl, s.rd ++ [((tabs + most) / t.st, (tabs + most) % t.st)]⟩ = some fin := by
  cases n with
  | zero => unfold runO at h; rw [if_neg (by rw [hb]; decide)] at h; cases h
  | succ m =>
    unfold runO at h
    rw [if_neg (by rw [hb]; decide)] at h
    split at h
    · rename_i h1
      simp only [Bool.and_eq_true, decide_eq_true_eq] at h1
      obtain ⟨h1, h2, h3⟩ := h1
      split at h
      · rename_i t ht
        split at h
        · rename_i h4
          simp only [Bool.and_eq_true, decide_eq_true_eq] at h4
          exact ⟨m, t, rfl, h1, h2, h3, ht, h4.1, h4.2, h⟩
        · cases h
      · cases h
    · cases h
theorem runO_fin {tabs most : Nat} : ∀ (n : Nat) (s fin : OS), runO tabs most n s = some fin → s.wt.isEmpty = true → s = fin := fun n s fin h hb => by
  cases n <;> (unfold runO at h; rw [if_pos hb] at h; cases h; rfl)
set_option maxHeartbeats 2000000 in
theorem outerLoop {w : World} {f : Addr} {cdv : Value} {h0 : Heap} {z0 : Z} {A : Around} {K : Ks} (O : K.Ok) (rm : Rm A 200 500) {aw at' ar : Addr} {σ : List (Option V)} {n : Nat} {fin : OS} (hJ : Jout K aw at' ar fin n σ) {P : Flow → Z → Heap → Prop}
    (H : ∀ u, Sx (lawC w f cdv h0 z0) A (sOut K aw at' ar fin.wt fin.tl fin.rd u) (lawBody.drop 13) P) :
    Sx (lawC w f cdv h0 z0) A σ (lawBody.drop 12) P := by
  have hh := rm.hd
  have hun := rm.un
  have t0 := O.t0
  have t3 := O.t3
  have m0 := O.m0
  have m3 := O.m3
  show Sx _ _ _ (_ :: _) _
  refine sx_while (Jout K aw at' ar fin) (fun σ => ∃ u, σ = sOut K aw at' ar fin.wt fin.tl fin.rd u) hJ ?_ ?_
  · rintro n σ₁ ⟨s, hr, u, rfl⟩
    refine ⟨!s.wt.isEmpty, Ts.to (ts_borrow (i := 9) rfl rfl (ts_cmp (ev_name (i := 9) rfl rfl) (EvN.dat (evn_list evl_nil (by decide))) (ne_d (shaped_wt _) rfl (by lia)))) (by rw [eqv_wt_nil]), fun hb => ?_, fun hb => ?_⟩
    · have hb : s.wt.isEmpty = false := by simpa using hb
      obtain ⟨m, t, rfl, h1, h2, h3, h4, h5, h6, h7⟩ := runO_step hr hb
      obtain ⟨r, l, hwt⟩ : ∃ r l, s.wt = r :: l := by
        cases e : s.wt with
        | nil => rw [e] at hb; cases hb
        | cons r l => exact ⟨r, l, rfl⟩
      have hhd : s.wt.headD [] = r := by rw [hwt]; rfl
      rw [hhd] at h1 h4
      obtain ⟨f1, f2, f3⟩ := lead_facts O.leads h1
      have el : (natsD r).length = r.length := List.length_map ..
      have ecs : (intsD K.cs)[(5 : Int).toNat]? = some (.int K.turn) := by
        rw [show (5 : Int).toNat = 5 from rfl, List.getElem?_map, O.c5]; rfl
      refine sx_step (sx1_assign (i := 11) (d := .list (natsD r)) sto_runs (ev_own_item (i := 9) rfl rfl ev_int (by decide) (by decide) (by rw [hwt]; rfl))) ?_
      refine sx_step (sx1_assign (i := 14) (d := .int (firstOf r : Int)) ⟨rfl, .inl rfl⟩ (Ev.to (ev_bf (bf_sum hh) rfl (by k_is) boot_sum (evl_cons (Ev.to (EvN.dat (evn_comp (f := onInt fun k => some (.int ((2 ^ (r.getD k.toNat 0 + k.toNat) : Nat) : Int))) (ds := upTo 0 r.length) (N := [Str.ofString "k", Str.ofString "runs"]) (us := [none, some (.dat (.list (natsD r)))]) ⟨by with_unfolding_all rfl, rfl, by decide, by decide, rfl, ?_, rfl, .inl rfl⟩
        (evi_rangeN (n := r.length) (Ev.to (ev_name (i := 3) rfl rfl) (congrArg (fun (x : Nat) => PyData.int (x : Int)) f1.symm)) hh (by rw [f1]; exact Nat.le_trans t3 (by decide)) rfl (by k_is)) (by rw [upTo_len, f1]; exact Nat.le_trans t3 (by decide)) fun C h0 z0 X d hd => ?_)) (congrArg PyData.list (firstOf_sum r))) evl_nil)) (congrArg PyData.int (firstOf_int r)))) ?_
      · exact slots_none (slots_some ⟨trivial, fun C => ⟨_, rfl, rfl⟩, .inl rfl, .inl rfl, 11, rfl, rfl⟩ slots_nil)
      · obtain ⟨k, hk, rfl⟩ := List.mem_map.mp hd
        have hk := List.mem_range.mp hk
        rw [Int.zero_add]
        refine ⟨true, tl_nil, (nomatch ·), fun _ => ⟨_, rfl, ?_⟩⟩
        rw [Int.toNat_natCast]
        have hx4 : r.getD k 0 < 4 := by
          rw [List.getD_eq_getElem?_getD, List.getElem?_eq_getElem hk]; exact f2 _ (List.getElem_mem hk)
        exact ev_bin ev_int (ev_bin (ev_itemN (ev_name (i := 1) rfl rfl) (ev_name (i := 0) rfl rfl) (by lia) (natsD_at hk)) (ev_name (i := 0) rfl rfl) add_n) (pow2 (by lia))
      refine sx_step (sx1_assign_ws (i := 15) ⟨rfl, .inl rfl⟩ (ev_call (leadFn (r := r) (t4 := K.t4) (turn := K.turn) O.leads h1 t0 t3 O.h4) rfl (by k_is) (by k_is) (evl_cons (ev_name (i := 11) rfl rfl) (evl_cons (ev_item (ev_name (i := 1) rfl rfl) ev_int (by decide) (by decide) ecs) (evl_cons (ev_name (i := 8) rfl rfl) evl_nil))) (rm.mono (by decide) (by decide)))) ?_
      refine sx_step (sx1_assign_ws (i := 16) ⟨rfl, .inl rfl⟩ (ev_name_ws (i := 15) rfl rfl)) ?_
      refine sx_step (sx1_assign (i := 17) ⟨rfl, .inl rfl⟩ (ev_name (i := 14) rfl rfl)) ?_
      refine sx_step (sx1_assign (i := 18) ⟨rfl, .inl rfl⟩ ev_int) ?_
      refine sx_step (sx1_assign (i := 19) ⟨rfl, .inl rfl⟩ ev_bool) ?_
      refine innerLoop (r0 := r) (n := 20) (fin := t) (rd := s.rd) (aw := aw) (at' := at') (ar := ar) O rm ⟨startI s.wt s.tl, h4, ?_⟩ fun v => ?_
      · unfold startI; rw [hhd]; exact eq_norm (sIn K aw at' ar s.wt r s.tl s.rd (firstOf r) (cnts r) (cnts r) (firstOf r) 0 false) rfl
      show Sx _ _ _ (_ :: _) _
      have hmr : (rdD s.rd).length ≤ 10000 := by rw [List.length_map]; lia
      refine sx_step (sx1_append (i := 13) rfl rfl (ev_call (fn_divmod (a := K.tabs + K.most) (b := t.st) h5 ?_ ?_) rfl (by k_is) (by k_is) (evl_cons (ev_name (i := 5) rfl rfl) (evl_cons (ev_name (i := 18) rfl rfl) evl_nil)) (rm.mono (by decide) (by decide))) hmr) (sx_nil fun z h S => ⟨_, ⟨m, Nat.lt_succ_self m, ⟨t.wt, t.tl, s.rd ++ [((K.tabs + K.most) / t.st, (K.tabs + K.most) % t.st)]⟩, h7, ?_⟩, S⟩)
      · have := intBits_nat_le (a := t.st) (k := 7) (by lia); lia
      · have h8 := intBits_nat_le (a := t.st) (k := 7) (by lia)
        have h9 := intBits_nat_le (a := K.tabs + K.most) (k := 7) (by lia)
        unfold figN
        exact Nat.le_trans (Nat.div_le_self _ _) (by lia)
      · have e : rdD (s.rd ++ [((K.tabs + K.most) / t.st, (K.tabs + K.most) % t.st)]) = rdD s.rd ++ [.tuple [.int (((K.tabs + K.most) / t.st : Nat) : Int), .int (((K.tabs + K.most) % t.st : Nat) : Int)]] := List.map_append
        rw [← e]
        exact eq_norm (sOut K aw at' ar t.wt t.tl (s.rd ++ [((K.tabs + K.most) / t.st, (K.tabs + K.most) % t.st)])) rfl
    · have hb : s.wt.isEmpty = true := by simpa using hb
      have := runO_fin _ _ _ hr hb
      subst this
      exact ⟨_, rfl⟩
  · rintro σ₁ ⟨u, rfl⟩
    exact H _
end Mine

-- L7
namespace Mine
theorem prods_le (n m : Nat) : ∀ k, prods (2 ^ n) m k ≤ 2 ^ (n * (m + k) * k)
  | 0 => by simp [prods]
  | k + 1 => by
    have ih := prods_le n m k
    have h1 : (2 ^ n) ^ (m + (k + 1)) - 1 ≤ 2 ^ (n * (m + (k + 1))) := by rw [← Nat.pow_mul]; exact Nat.sub_le _ _
    rw [prods]
    refine Nat.le_trans (Nat.mul_le_mul ih h1) ?_
    rw [← Nat.pow_add]
    refine Nat.pow_le_pow_right (by decide) ?_
    have h2 : n * (m + k) * k ≤ n * (m + (k + 1)) * k := Nat.mul_le_mul_right _ (Nat.mul_le_mul_left _ (by lia))
    rw [Nat.mul_succ (n * (m + (k + 1))) k]; lia
theorem prods_bits (n m k : Nat) (hn : n ≤ 100) (hm : m ≤ 3) (hk : k ≤ 3) : Builtin.Int.intBits ((prods (2 ^ n) m k : Nat) : Int) ≤ 2 ^ 20 := by
  refine Nat.le_trans (intBits_nat_le (k := 2000) ?_) (by decide)
  refine Nat.lt_of_le_of_lt (prods_le n m k) (Nat.pow_lt_pow_right (by decide) ?_)
  have h1 : n * (m + k) ≤ 100 * 6 := Nat.mul_le_mul hn (by lia)
  have h2 : n * (m + k) * k ≤ 100 * 6 * 3 := Nat.mul_le_mul h1 hk
  lia
theorem powm_int (n e : Nat) : (((2 ^ n) ^ e - 1 : Nat) : Int) = ((2 ^ n : Nat) : Int) ^ e - 1 := by
  rw [Int.ofNat_sub (Nat.pow_pos (Nat.two_pow_pos n))]; push_cast; rfl
theorem powm_bits (n e : Nat) (hn : n ≤ 100) (he : e ≤ 10) : Builtin.Int.intBits (((2 ^ n) ^ e - 1 : Nat) : Int) ≤ 1000 := by
  refine intBits_nat_le ?_
  rw [← Nat.pow_mul]
  have h1 : n * e ≤ 100 * 10 := Nat.mul_le_mul hn he
  have h2 : 2 ^ (n * e) ≤ 2 ^ 1000 := Nat.pow_le_pow_right (by decide) h1
  have h3 := Nat.two_pow_pos (n * e)
  lia
noncomputable def rests : PyData → Option PyData
  | .tuple [.int a, .int b] => if b != 0 then some (.tuple [.int a, .int b]) else none
  | _ => none
theorem rests_none : ∀ rd : List (Nat × Nat), (∀ o ∈ rd, o.2 = 0) → (rdD rd).filterMap rests = []
  | [], _ => rfl
  | o :: l, h => by
    rw [rdD, List.map_cons, ← rdD, List.filterMap_cons]
    have := h o (.head _)
    simp only [rests, this]
    exact rests_none l fun o ho => h o (.tail _ ho)
noncomputable def divides (p : Nat) : PyData → Option PyData
  | .tuple [.int a, .int b] => if (p : Int).fmod a == 0 then some (.tuple [.int a, .int b]) else none
  | _ => none
theorem divides_at (p : Nat) (o : Nat × Nat) : divides p (.tuple [.int (o.1 : Int), .int (o.2 : Int)]) = if p % o.1 == 0 then some (.tuple [.int (o.1 : Int), .int (o.2 : Int)]) else none := by
  unfold divides
  simp only [fmod_nat]
  by_cases h : p % o.1 = 0
  · simp [h]
  · have : ¬ ((p % o.1 : Nat) : Int) = 0 := by lia
    rw [if_neg (by simpa using this)]; simp [h]
theorem divides_len (p : Nat) : ∀ rd : List (Nat × Nat), ((rdD rd).filterMap (divides p)).length = (rd.filter fun o => p % o.1 == 0).length
  | [] => rfl
  | o :: l => by
    rw [rdD, List.map_cons, ← rdD, List.filterMap_cons, divides_at, List.filter_cons]
    by_cases h : (p % o.1 == 0) = true
    · rw [if_pos h, if_pos h]; simp only [List.length_cons]; rw [divides_len p l]
    · rw [if_neg h, if_neg h]; exact divides_len p l
set_option maxHeartbeats 2000000 in
theorem lawEnd {w : World} {f : Addr} {cdv : Value} {h0 : Heap} {z0 : Z} {A : Around} {K : Ks} (O : K.Ok) (rm : Rm A 200 500) {aw at' ar : Addr} {fin : OS} {wd : Nat} (hwd : K.width = wd + 6) (hw64 : wd < 64) (ok : endOk K.tabs K.most fin = true)
    {u : Nat → Option V} :
    Sx (lawC w f cdv h0 z0) A (sOut K aw at' ar fin.wt fin.tl fin.rd u) (lawBody.drop 13) (Rt (lawC w f cdv h0 z0) (D (.bool true))) := by
  have hh := rm.hd
  have hun := rm.un
  have t0 := O.t0
  have t3 := O.t3
  have m0 := O.m0
  have m3 := O.m3
  have hw70 := O.wd
  unfold endOk at ok
  simp only [Bool.and_eq_true, decide_eq_true_eq] at ok
  obtain ⟨k1, k2, k3⟩ := ok
  have k4 : ∀ o ∈ fin.rd, o.2 = 0 ∧ o.1 ≠ 0 ∧ o.1 < 100 := fun o ho => by
    have := List.all_eq_true.mp k1 o ho
    simp only [Bool.and_eq_true, beq_iff_eq, bne_iff_ne, decide_eq_true_eq] at this
    exact ⟨this.1.1, this.1.2, this.2⟩
  have k5 := List.all_eq_true.mp k3 wd (List.mem_range.mpr hw64)
  rw [← hwd] at k5
  simp only [Bool.and_eq_true, decide_eq_true_eq] at k5
  obtain ⟨l0, c0, cg, ct, cb, cf, cu, cq, l1, u1, b0, b1⟩ := k5
  generalize hn : K.width = n at *
  have erd : (rdD fin.rd).length = fin.rd.length := List.length_map ..
  refine sx_freeze (i := 12) rfl rfl (sx_freeze (i := 13) rfl rfl ?_)
  show Sx _ _ _ (_ :: _) _
  refine sx_skip (Ts.to (ts_cmp (Ev.to (EvN.dat (evn_comp (f := rests) (ds := rdD fin.rd) (N := [Str.ofString "one"]) (us := [none]) ⟨by with_unfolding_all rfl, rfl, by decide, by decide, rfl, ?_, rfl, .inl rfl⟩ (evi_list (ev_name (i := 13) rfl rfl) hh) (by rw [erd]; lia) fun C h0 z0 X d hd => ?_)) (congrArg PyData.list (rests_none _ fun o ho => (k4 o ho).1))) (EvN.dat (evn_list evl_nil (by decide))) (ne_d rfl rfl (by lia))) rfl) ?_
  · exact slots_none slots_nil
  · obtain ⟨o, ho, rfl⟩ := List.mem_map.mp hd
    refine ⟨o.2 != 0, tl_one (Ts.to (ts_cmp (ev_item_t (k := 1) (ev_name (i := 0) rfl rfl) ev_int (by decide) rfl) ev_int ne_i) ?_), fun hb => ?_, fun hb => ?_⟩
    · rw [(k4 o ho).1]; rfl
    · rw [(k4 o ho).1]; rfl
    · rw [(k4 o ho).1] at hb; cases hb
  refine sx_step (sx1_assign (i := 28) (d := .int ((2 ^ n : Nat) : Int)) ⟨rfl, .inl rfl⟩ (Ev.to (ev_bin ev_int (ev_name (i := 7) rfl rfl) (pow2 (by lia))) (congrArg (fun (x : Nat) => PyData.int ((2 ^ x : Nat) : Int)) hn))) ?_
  refine sx_step (sx1_assign (i := 29) ⟨rfl, .inl rfl⟩ ev_int) ?_
  refine sx_step (sx1_assign (i := 30) ⟨rfl, .inl rfl⟩ ev_int) ?_
  refine sx_for (i := 10) (fun k σ => ∃ u10, σ = [some (.dat (.list (intsD K.ns))), some (.dat (.list (intsD K.cs))), K.u2, vi K.tabs, vi K.most, vi (K.tabs + K.most), vi K.base, vi n, some (.dat (.str (tails.getD K.t4 ""))), some (.own aw (wtD fin.wt)), u10, u 11, some (.dat (.list (natsD fin.tl))), some (.dat (.list (rdD fin.rd))),
      u 14, u 15, u 16, u 17, u 18, u 19, u 20, u 21, u 22, u 23, u 24, u 25, u 26, u 27, vi (2 ^ n), vi (prods (2 ^ n) K.most k), vi (prods (2 ^ n) 0 k), none, none, none])
    (fun σ => ∃ u10, σ = [some (.dat (.list (intsD K.ns))), some (.dat (.list (intsD K.cs))), K.u2, vi K.tabs, vi K.most, vi (K.tabs + K.most), vi K.base, vi n, some (.dat (.str (tails.getD K.t4 ""))), some (.own aw (wtD fin.wt)), u10, u 11, some (.dat (.list (natsD fin.tl))), some (.dat (.list (rdD fin.rd))),
      u 14, u 15, u 16, u 17, u 18, u 19, u 20, u 21, u 22, u 23, u 24, u 25, u 26, u 27, vi (2 ^ n), vi (prods (2 ^ n) K.most K.tabs), vi (prods (2 ^ n) 0 K.tabs), none, none, none])
    ⟨rfl, .inl rfl⟩ (evi_range2N (a := 1) (b := K.tabs + 1) (n := K.tabs) ev_int (ev_bin (ev_name (i := 3) rfl rfl) ev_int add_n) hh (Nat.add_comm _ _) (Nat.le_trans (Nat.succ_le_succ t3) (by decide)) rfl (by k_is)) ⟨K.u10, ?_⟩ (fun k σ h => by obtain ⟨u10, rfl⟩ := h; rfl) ?_ ?_ ?_
  · subst hn; rfl
  · intro k d σ₁ p hd hJ
    obtain ⟨u10, rfl⟩ := hJ
    obtain ⟨rfl, hk⟩ := upTo_get hd
    have e1 : (((1 : Nat) : Int) + (k : Int)) = ((k + 1 : Nat) : Int) := by push_cast; lia
    rw [e1]
    have pb : Builtin.Int.intBits ((2 ^ n : Nat) : Int) ≤ 71 := intBits_nat_le (Nat.pow_lt_pow_right (by decide) (by lia))
    refine sx_step (sx1_assign (i := 29) (d := .int ((prods (2 ^ n) K.most (k + 1) : Nat) : Int)) ⟨rfl, .inl rfl⟩ (Ev.to (ev_bin (ev_name (i := 29) rfl rfl) (Ev.to (d' := .int (((2 ^ n) ^ (K.most + (k + 1)) - 1 : Nat) : Int)) (ev_bin (ev_bin (ev_name (i := 28) rfl rfl) (ev_bin (ev_name (i := 4) rfl rfl) (ev_name (i := 10) rfl rfl) add_n) (pow_i (by lia) ?_)) ev_int sub_i) (congrArg PyData.int (by rw [Int.toNat_natCast, powm_int]))) (mul_i (.of_bits ?_ ?_))) (congrArg PyData.int (by rw [prods]; push_cast; rfl)))) ?_
    · have : Builtin.Int.intBits ((2 ^ n : Nat) : Int) * (K.most + (k + 1)) ≤ 71 * 6 := Nat.mul_le_mul pb (by lia)
      lia
    · exact prods_bits n K.most k (by lia) m3 (by lia)
    · exact Nat.le_trans (powm_bits n _ (by lia) (by lia)) (by decide)
    refine sx_step (sx1_assign (i := 30) (d := .int ((prods (2 ^ n) 0 (k + 1) : Nat) : Int)) ⟨rfl, .inl rfl⟩ (Ev.to (ev_bin (ev_name (i := 30) rfl rfl) (Ev.to (d' := .int (((2 ^ n) ^ (k + 1) - 1 : Nat) : Int)) (ev_bin (ev_bin (ev_name (i := 28) rfl rfl) (ev_name (i := 10) rfl rfl) (pow_i (by lia) ?_)) ev_int sub_i) (congrArg PyData.int (by rw [Int.toNat_natCast, powm_int]))) (mul_i (.of_bits ?_ ?_))) (congrArg PyData.int (by rw [prods, Nat.zero_add]; push_cast; rfl)))) ?_
    · have : Builtin.Int.intBits ((2 ^ n : Nat) : Int) * (k + 1) ≤ 71 * 6 := Nat.mul_le_mul pb (by lia)
      lia
    · exact prods_bits n 0 k (by lia) (by lia) (by lia)
    · exact Nat.le_trans (powm_bits n _ (by lia) (by lia)) (by decide)
    exact sx_nil fun z h S => ⟨_, ⟨some (.dat (.int ((k + 1 : Nat) : Int))), rfl⟩, S⟩
  · intro σ₁ hJ
    obtain ⟨u10, rfl⟩ := hJ
    rw [upTo_len]
    exact sx_nil fun z h S => ⟨rfl, _, ⟨u10, rfl⟩, S⟩
  · intro σ₁ hB
    obtain ⟨u10, rfl⟩ := hB
    have elow : Builtin.Int.intBits ((prods (2 ^ n) 0 K.tabs : Nat) : Int) ≤ 1000 := intBits_nat_le l1
    have ebig : Builtin.Int.intBits (((2 ^ n) ^ (K.tabs + K.most) - 1 : Nat) : Int) ≤ 1000 := intBits_nat_le b1
    generalize prods (2 ^ n) K.most K.tabs = up at *
    generalize prods (2 ^ n) 0 K.tabs = l at *
    refine sx_step (sx1_unpack2 (i := 31) (j := 32) hh ⟨rfl, .inl rfl⟩ ⟨rfl, .inl rfl⟩ (ev_call (fn_divmod (a := up) (b := l) l0 elow cu) rfl (by k_is) (by k_is) (evl_cons (ev_name (i := 29) rfl rfl) (evl_cons (ev_name (i := 30) rfl rfl) evl_nil)) (rm.mono (by decide) (by decide)))) ?_
    generalize up / l = g at *
    refine sx_skip (Ts.to (ts_or (b₁ := false) (b₂ := false) (Ts.to (ts_cmp (ev_name (i := 32) rfl rfl) ev_int ne_i) (by rw [c0]; rfl)) fun _ => Ts.to (ts_cmp (ev_call (fn_i2dK (a := g) (n := n) (by lia) (by lia) cg) rfl (by k_is) (by k_is) (evl_cons (ev_name (i := 31) rfl rfl) (evl_cons (ev_name (i := 7) rfl rfl) evl_nil)) (rm.mono (by decide) (by decide))) (ev_name (i := 12) rfl rfl) (ne_d (shaped_nats _) (shaped_nats _) (by lia))) (by rw [ct, eqv_nats]; simp)) rfl) ?_
    have efx : (upTo 0 (K.tabs + K.most)).filterMap (onInt fun p => some (.int (((rdD fin.rd).filterMap (divides p.toNat)).length : Nat))) = natsD (fixedOf (K.tabs + K.most) fin.rd) := by
      have : ∀ l : List Nat, (l.map fun (i : Nat) => PyData.int ((0 : Int) + (i : Int))).filterMap (onInt fun p => some (.int (((rdD fin.rd).filterMap (divides p.toNat)).length : Nat))) = natsD (l.map fun p => (fin.rd.filter fun o => p % o.1 == 0).length) := fun l => by
        induction l with
        | nil => rfl
        | cons a r ih => simp only [natsD, List.map_cons, List.filterMap_cons, onInt, Int.zero_add, Int.toNat_natCast] at ih ⊢; rw [ih, divides_len]
      exact this _
    refine sx_assign_comp (i := 33) (N := [Str.ofString "place", Str.ofString "rounds"]) (us := [none, some (.dat (.list (rdD fin.rd)))]) (f := onInt fun p => some (.int (((rdD fin.rd).filterMap (divides p.toNat)).length : Nat))) (ds := upTo 0 (K.tabs + K.most)) ⟨rfl, .inl rfl⟩ ⟨by with_unfolding_all rfl, rfl, by decide, by decide, rfl, ?_, rfl, .inr ⟨rfl, fun C => ⟨_, rfl, Nat.lt_succ_self _⟩⟩⟩
      (evi_rangeN (n := K.tabs + K.most) (ev_name (i := 5) rfl rfl) hh (by lia) rfl (by k_is)) (by rw [upTo_len]; lia) (fun C h0 z0 X d hd => ?_) fun a => sx_freeze (i := 33) rfl rfl ?_
    · exact slots_none (slots_some ⟨trivial, fun C => ⟨_, rfl, rfl⟩, .inl rfl, .inl rfl, 13, rfl, rfl⟩ slots_nil)
    · obtain ⟨p, hp, rfl⟩ := List.mem_map.mp hd
      rw [Int.zero_add]
      refine ⟨true, tl_nil, (nomatch ·), fun _ => ⟨_, rfl, ?_⟩⟩
      rw [Int.toNat_natCast]
      refine ev_bf (bf_len (Nat.le_trans (List.length_filterMap_le _ _) (by rw [erd]; lia))) rfl (by k_is) boot_len (evl_cons (EvN.dat (evn_comp (f := divides p) (ds := rdD fin.rd) (N := [Str.ofString "one", Str.ofString "place"]) (us := [none, vi p]) ⟨by with_unfolding_all rfl, rfl, by decide, by decide, rfl, ?_, rfl, .inl rfl⟩ (evi_list (ev_name (i := 1) rfl rfl) hh) (by rw [erd]; lia) fun C h0 z0 X d hd => ?_)) evl_nil)
      · exact slots_none (slots_some ⟨trivial, fun C => ⟨_, rfl, rfl⟩, .inl rfl, .inl rfl, 0, rfl, rfl⟩ slots_nil)
      · obtain ⟨o, ho, rfl⟩ := List.mem_map.mp hd
        have ho1 := (k4 o ho).2.1
        refine ⟨p % o.1 == 0, tl_one (Ts.to (ts_cmp (ev_bin (ev_name (i := 1) rfl rfl) (ev_item_t (k := 0) (ev_name (i := 0) rfl rfl) ev_int (by decide) rfl) (mod_i (by lia))) ev_int eq_i) ?_), fun hb => ?_, fun hb => ⟨_, ?_, ev_name (i := 0) rfl rfl⟩⟩
        · rw [fmod_nat]
          by_cases q : p % o.1 = 0
          · rw [q]; rfl
          · rw [beq_eq_false_iff_ne.mpr q, beq_eq_false_iff_ne]; lia
        · rw [divides_at, hb]; rfl
        · rw [divides_at, hb]; rfl
    rw [efx]
    have pb : Builtin.Int.intBits ((2 ^ n : Nat) : Int) ≤ 71 := intBits_nat_le (Nat.pow_lt_pow_right (by decide) (by lia))
    have pb2 : Builtin.Int.intBits ((2 ^ n : Nat) : Int) * (K.tabs + K.most) ≤ 71 * 6 := Nat.mul_le_mul pb (by lia)
    refine sx_return (Ev.to (ev_cmp (ev_call (fn_i2dK (a := g % ((2 ^ n) ^ (K.tabs + K.most) - 1)) (n := n) (by lia) (by lia) cb) rfl (by k_is) (by k_is) (evl_cons (ev_item_t (k := 1) (ev_call (fn_divmod (a := g) (b := (2 ^ n) ^ (K.tabs + K.most) - 1) b0 ebig cq) rfl (by k_is) (by k_is) (evl_cons (ev_name (i := 31) rfl rfl) (evl_cons (Ev.to (ev_bin (ev_bin (ev_name (i := 28) rfl rfl) (ev_name (i := 5) rfl rfl) (pow_i (by lia) (by lia))) ev_int sub_i) (congrArg PyData.int (by rw [Int.toNat_natCast, powm_int]))) evl_nil)) (rm.mono (by decide) (by decide))) ev_int (by decide) rfl) (evl_cons (ev_name (i := 7) rfl rfl) evl_nil)) (rm.mono (by decide) (by decide))) (ev_name (i := 33) rfl rfl) (eq_d (shaped_nats _) (shaped_nats _) (by lia))) ?_)
    rw [cf, eqv_nats]; simp
end Mine

-- L8
namespace Mine
theorem all_ok {tabs most : Nat} (h1 : tabs < 3) (h2 : most < 3) : allOk (tabs + 1) (most + 1) = true := by
  match tabs, most, h1, h2 with
  | 0, 0, _, _ => exact all11
  | 0, 1, _, _ => exact all12
  | 0, 2, _, _ => exact all13
  | 1, 0, _, _ => exact all21
  | 1, 1, _, _ => exact all22
  | 1, 2, _, _ => exact all23
  | 2, 0, _, _ => exact all31
  | 2, 1, _, _ => exact all32
  | 2, 2, _, _ => exact all33
theorem all_parts {tabs most : Nat} (h : allOk tabs most = true) : leadsOk tabs most = true ∧ ∃ fin, runO tabs most 20 (beginO tabs most) = some fin ∧ endOk tabs most fin = true := by
  unfold allOk at h
  rw [Bool.and_eq_true] at h
  obtain ⟨h1, h2⟩ := h
  refine ⟨h1, ?_⟩
  split at h2
  · rename_i s hs; exact ⟨s, hs, h2⟩
  · cases h2
set_option maxHeartbeats 2000000 in
theorem lawWalk {w : World} {f : Addr} {cdv : Value} {h0 : Heap} {z0 : Z} {A : Around} (rm : Rm A 200 500) {ns : List Int} (hl : ns.length ≤ 63) :
    Sx (lawC w f cdv h0 z0) A (some (.dat (.list (intsD ns))) :: none :: none :: none :: none :: none :: none :: none :: none :: none :: none :: no23) lawBody (Rt (lawC w f cdv h0 z0) (D (.bool true))) := by
  have hh := rm.hd
  refine cellsLoop hh hl fun cs u2 hc => paramsWalk hh hl hc fun aw u10 tabs most base width t4 turn c5 ht hm hb hw h4 => ?_
  obtain ⟨hL, fin, hr, he⟩ := all_parts (all_ok ht hm)
  show Sx _ _ _ (_ :: _) _
  refine sx_assign_own (i := 12) ⟨rfl, .inl rfl⟩ (EvN.to (evn_bin (EvN.dat (evn_list (evl_cons ev_int evl_nil) (by decide))) (Ev.to (d' := .int (((tabs + 1) * (most + 1) + 1 : Nat) : Int)) (ev_bin (ev_bin (ev_name (i := 3) rfl rfl) (ev_name (i := 4) rfl rfl) (mul_i (mulok_small (by lia) (by lia)))) ev_int add_i) (congrArg PyData.int (by push_cast; rfl))) (mul_l1 ?_)) (d' := natsD (List.replicate ((tabs + 1) * (most + 1) + 1) 0)) ?_) fun at' => ?_
  · have : (tabs + 1) * (most + 1) ≤ 3 * 3 := Nat.mul_le_mul (by lia) (by lia)
    lia
  · rw [Int.toNat_natCast, natsD, List.map_replicate]; rfl
  refine sx_assign_own (i := 13) (ds := rdD []) sto_rounds (evn_list evl_nil (by decide)) fun ar => ?_
  refine outerLoop (K := ⟨ns, cs, u2, u10, tabs + 1, most + 1, base, width + 6, t4, turn⟩) (aw := aw) (at' := at') (ar := ar) (n := 20) (fin := fin) ⟨c5, hc, Nat.succ_pos _, (by show tabs + 1 ≤ 3; lia), Nat.succ_pos _, (by show most + 1 ≤ 3; lia), hb, h4, by show width + 6 < 70; lia, hL⟩ rm ⟨beginO (tabs + 1) (most + 1), hr, fun _ => none, rfl⟩ ?_
  intro u
  exact lawEnd (wd := width) ⟨c5, hc, Nat.succ_pos _, (by show tabs + 1 ≤ 3; lia), Nat.succ_pos _, (by show most + 1 ≤ 3; lia), hb, h4, by show width + 6 < 70; lia, hL⟩ rm rfl hw he
theorem fn_law {w : World} {ns : List Int} (hl : ns.length ≤ 63) : Fn w 159 201 503 (Ds [.list (intsD ns)]) (D (.bool true)) := .mk fun A s z args R rm g k zt ha q => by
  obtain ⟨v1, r1, rfl⟩ := one_arg ha
  refine enter_cells (N := LN) (us := some (.dat (.list (intsD ns))) :: none :: none :: none :: none :: none :: none :: none :: none :: none :: none :: no23) (qual := Str.ofString "law") (scope := lawScope) (body := lawBody) (Nat.lt_of_le_of_lt (Nat.le_add_right _ _) rm.dp) g k zt (by k_is) (by k_is) (BindsTo.of_eq rfl) rfl (by decide) rfl ?_ (lawWalk (Rm.deeper rm) hl) q
  exact slots_some ⟨v1, r1, .inl ⟨rfl, rfl⟩⟩ (slots_none (slots_none (slots_none (slots_none (slots_none (slots_none (slots_none (slots_none (slots_none (slots_none (slots_none (slots_none (slots_none (slots_none (slots_none (slots_none (slots_none (slots_none (slots_none (slots_none (slots_none (slots_none (slots_none (slots_none (slots_none (slots_none (slots_none (slots_none (slots_none (slots_none (slots_none (slots_none (slots_none slots_nil)))))))))))))))))))))))))))))))))
end Mine

-- L9
namespace Mine
theorem ofPyAll_ints (ns : List Int) : ofPy (.list (ns.map .int)) = .list (ns.map .int) := by
  rw [ofPy, ofPys_eq, List.map_map]
  congr 1
theorem well_list {P : Params} {h : Heap} {l : Addr} {ns : List Int} {us : List Value} (W : Well P h (.ref l) (ofPy (.list (ns.map .int)))) (hl : h.IsList l us.toArray) (hi : IntsAre us ns) : ∃ vs, h.get? l = some (lobj vs 0) ∧ ∀ z, RdAll z vs (intsD ns) := by
  rw [ofPyAll_ints] at W
  cases W with
  | list e r =>
    rename_i ws
    obtain ⟨o, eo, _, n, ed⟩ := hl
    rw [e] at eo
    obtain rfl := Option.some.inj eo
    obtain rfl : ws = us := by
      injection ed with e1
      first | exact e1 | simpa using e1
    exact ⟨_, e, fun z => .of_ints hi⟩
noncomputable abbrev zOne (l : Addr) (vs : List Value) : Z := fun a => if a = l then some (lobj vs 0) else none
theorem bridge {w : World} {s₁ : Shared} {l : Addr} {vs : List Value} {ns : List Int} {p : Program} {loose : List Str} {mean : ExcName → Option Value} {mg mb : Str → Option Value} {R : Result → Shared → Prop} (hl : ns.length ≤ 63)
    (hT : TabsAt [(48, 44), (41, 37)] s₁.heap) (T : Top p loose mean mg mb (ghostOf s₁.heap [(48, 44), (41, 37)])) (K : (hd.heap_39 w.params).In (ghostOf s₁.heap [(48, 44), (41, 37)])) (el : s₁.heap.get? l = some (lobj vs 0)) (hr : ∀ z, RdAll z vs (intsD ns))
    (q : ∀ h' tk, (∀ b o, (ghostOf s₁.heap [(48, 44), (41, 37)]).get? b = some o → h'.get? b = some o) → GrownAll [(48, 44), (41, 37)] h' → R (.ok (.ret (.bool true))) { s₁ with heap := h', toks := tk }) :
    codeAny (model PR w) callerA (.call (.ref 159) ⟨[.ref l], []⟩) R s₁ := by
  have C := ghost_code hT
  have t1 : Tab1 s₁.heap := .inl (hT (48, 44) (.head _)).2
  have t2 : Tab2 s₁.heap := .inl (hT (41, 37) (.tail _ (.head _))).2
  have g : Gd w s₁.heap := ⟨K, ⟨_, _, _, _, _, T⟩, C.1, C.2.1, t1, t2⟩
  refine (fn_law hl).run callerA s₁ (zOne l vs) [.ref l] R ⟨rfl, by decide, by decide⟩ g (fun a o e => ?_) (fun a o e => ?_) (.cons (.list (n := 0) (by simp [zOne]) (hr _)) .nil) fun r h' tk z' gr p => ?_
  · simp only [zOne] at e
    split at e
    · rename_i h; subst h; cases e; exact el
    · cases e
  · simp only [zOne] at e
    split at e
    · cases e; exact nf_of rfl
    · cases e
  · cases p
    refine q h' tk (fun b o e => ?_) ⟨?_, ?_, trivial⟩
    · obtain ⟨h1, h2, h3⟩ := gh_of e
      exact gr.ext.keep b o h1 h2 h3
    · rcases gr.ext.t1 t1 with e | ⟨c', e, _⟩
      · exact ⟨_, e⟩
      · exact ⟨_, e⟩
    · rcases gr.ext.t2 t2 with e | ⟨c', e, _⟩
      · exact ⟨_, e⟩
      · exact ⟨_, e⟩
theorem prog_eq : PySem.Challenge.rw_re0137_01.row.prog = PR := by delta PR; rfl
end Mine
set_option maxHeartbeats 2000000 in
theorem PySem.Challenge.cw_re0137_01_holds : PySem.Challenge.rw_re0137_01.Holds := by
  refine Mine.hd ?_
  k_fill
  intro w s₀ s₁ mg mb G Y fa o pm cd doc dV kV ho hdd hcd hD hmg hg args vals as hpre hlay hrd hwl hlo
  have KX := km_in_of Y
  km_tabs Y
  have X := (Ground.X G).1
  have V := (Ground.X G).2
  refine Ground.open G ?_
  intro T B D TE TW
  try (refine guard_noD D (by decide +kernel) ?_; clear D)
  km_lay T hmg ho hdd cd
  have hfa : fa = 159 := by
    have e1 := mg_of (n := Str.ofString "law") (v := .ref 159) KX T.g (by k_is)
    have e2 := e1.symm.trans hmg
    cases e2; rfl
  subst hfa
  wrow_args hpre hlay hrd hwl hlo
  all_goals (first | refine callC_kw (enter_call ?_) | refine enter_call ?_)
  kn_posts
  rename Well _ _ _ _ => W1
  rename List Int => ns
  obtain ⟨vs, el, hr⟩ := Mine.well_list W1 (by assumption) (by assumption)
  have T' := ghost_top hT9 T
  have K' := ghost_K hT9 KX (by kernel_rfl)
  rw [Mine.prog_eq]
  refine Mine.bridge (ns := ns) (by lia) hT9 T' K' el hr fun h' tk hk hgr => ⟨⟨.inl ⟨_, .bool true, [], rfl, fun _ => rfl, ?_, ?_, ?_⟩, hk, rfl, hg⟩, hgr⟩
  · exact .bool true
  · exact postW_of (X := true) rfl (by with_unfolding_all rfl) rfl
  · exact fun _ => ⟨.nil, fun a ha => nomatch ha⟩
