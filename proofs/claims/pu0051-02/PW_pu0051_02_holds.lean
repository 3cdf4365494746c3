import PyProof.Rows.All
import Wide.All
import OpenK.AllK
import Wide.FinOn
import KE.KSortKey
import PyProof.ListRange
import PyProof.SeqI3
import PyProof.ToksMono
import PyProof.StrReplace2
import KE.KxPercentT
import KE.KCallOwn
import Lean
import PySem.Challenge.RW_pu0051_02
set_option Elab.async false
section
open PySem PySem.W PyProof.Rows
set_option Elab.async false
set_option maxRecDepth 100000
set_option maxHeartbeats 8000000
namespace Mine
open_top hd2 for PySem.Challenge.rw_pu0051_02
end Mine
end
section
open PySem PySem.W PyProof.Rows PySem.Calls PySem.Spec
set_option maxRecDepth 100000
set_option linter.unusedVariables false
namespace Mine

/-- all that stood and is not in X stands as it was; what stood and is in X still stands -/
def Pr (X : List Addr) (h h' : Heap) : Prop := (∀ b o, h.get? b = some o → b ∉ X → h'.get? b = some o) ∧ ∀ b, (h.get? b).isSome = true → (h'.get? b).isSome = true

theorem Pr.refl (X : List Addr) (h : Heap) : Pr X h h := ⟨fun _ _ e _ => e, fun _ e => e⟩
theorem Pr.trans {X : List Addr} {h h' h'' : Heap} (a : Pr X h h') (b : Pr X h' h'') : Pr X h h'' :=
  ⟨fun c o e n => b.1 c o (a.1 c o e n) n, fun c e => b.2 c (a.2 c e)⟩
theorem Pr.mono {X Y : List Addr} {h h' : Heap} (a : Pr X h h') (s : ∀ x ∈ X, x ∈ Y) : Pr Y h h' := ⟨fun c o e n => a.1 c o e fun q => n (s _ q), a.2⟩
theorem Pr.of_keeps {X : List Addr} {h h' : Heap} (k : ∀ b o, h.get? b = some o → h'.get? b = some o) : Pr X h h' :=
  ⟨fun b o e _ => k b o e, fun b e => by obtain ⟨o, e⟩ := Option.isSome_iff_exists.mp e; rw [k b o e]; rfl⟩
theorem Pr.push (X : List Addr) (h : Heap) (o : Obj) : Pr X h (h.push o) := Pr.of_keeps fun _ _ e => Heap.get?_push_of_some _ e
theorem Pr.sameBut {X : List Addr} {a : Addr} {h h' : Heap} (s : Heap.SameBut a h h') (m : a ∈ X) (x : (h'.get? a).isSome = true) : Pr X h h' :=
  ⟨fun b o e n => (s.2 b fun q => n (q ▸ m)).trans e, fun b e => by
    by_cases q : b = a
    · subst q; exact x
    · rw [s.2 b q]; exact e⟩
theorem get_size (h : Heap) : h.get? h.objs.size = none := by
  cases e : h.get? h.objs.size with
  | none => rfl
  | some o => exact absurd (Heap.lt_size e) (Nat.lt_irrefl _)
theorem Pr.extBut {X : List Addr} {a : Addr} {h h' : Heap} (s : Heap.ExtBut a h h') (n : h.get? a = none) : Pr X h h' :=
  Pr.of_keeps fun b o e => s b o (fun q => by subst q; rw [n] at e; cases e) e

def RdX (h : Heap) (X : List Addr) (v : Value) (d : PyData) : Prop := ∃ as, Reads (hideAll h X) v d as
def RdsX (h : Heap) (X : List Addr) : List Value → List PyData → Prop
  | [], [] => True
  | v :: vs, d :: ds => RdX h X v d ∧ RdsX h X vs ds
  | [], _ :: _ => False
  | _ :: _, [] => False

theorem hide_pr {X : List Addr} {h h' : Heap} (p : Pr X h h') : ∀ b o, (hideAll h X).get? b = some o → (hideAll h' X).get? b = some o := fun b o e => by
  by_cases m : b ∈ X
  · rw [hideAll_none X m] at e; cases e
  · exact hideAll_get X (p.1 b o (of_hideAll X e) m) m
theorem RdX.pr {X : List Addr} {h h' : Heap} {v : Value} {d : PyData} (p : Pr X h h') (r : RdX h X v d) : RdX h' X v d := let ⟨as, q⟩ := r; ⟨as, PyProof.Rows.Reads.keeps (hide_pr p) q⟩
theorem RdsX.pr {X : List Addr} {h h' : Heap} (p : Pr X h h') : ∀ {vs : List Value} {ds : List PyData}, RdsX h X vs ds → RdsX h' X vs ds
  | [], [], _ => trivial
  | _ :: _, _ :: _, r => ⟨r.1.pr p, RdsX.pr p r.2⟩
theorem RdX.rd {X : List Addr} {h : Heap} {v : Value} {d : PyData} (r : RdX h X v d) : ∃ as, Reads h v d as := let ⟨as, q⟩ := r; ⟨as, PyProof.Rows.Reads.keeps (fun _ _ e => of_hideAll X e) q⟩
theorem RdsX.of_all {X : List Addr} {h : Heap} : ∀ {vs : List Value} {ds : List PyData} {as : List Addr}, ReadsAll (hideAll h X) vs ds as → RdsX h X vs ds
  | _, _, _, .nil => trivial
  | _, _, _, .cons a b => ⟨⟨_, a⟩, RdsX.of_all b⟩
theorem RdsX.all {X : List Addr} {h : Heap} : ∀ {vs : List Value} {ds : List PyData}, RdsX h X vs ds → ∃ as, ReadsAll (hideAll h X) vs ds as
  | [], [], _ => ⟨_, .nil⟩
  | _ :: _, _ :: _, r => let ⟨_, a⟩ := r.1; let ⟨_, b⟩ := RdsX.all r.2; ⟨_, .cons a b⟩
theorem RdsX.rds {X : List Addr} {h : Heap} {vs : List Value} {ds : List PyData} (r : RdsX h X vs ds) : ∃ as, ReadsAll h vs ds as := let ⟨as, q⟩ := r.all; ⟨as, PyProof.Rows.ReadsAll.keeps (fun _ _ e => of_hideAll X e) q⟩
theorem RdsX.length {X : List Addr} {h : Heap} : ∀ {vs : List Value} {ds : List PyData}, RdsX h X vs ds → vs.length = ds.length
  | [], [], _ => rfl
  | _ :: _, _ :: _, r => by rw [List.length_cons, List.length_cons, RdsX.length r.2]
theorem RdsX.append {X : List Addr} {h : Heap} : ∀ {vs ws : List Value} {ds es : List PyData}, RdsX h X vs ds → RdsX h X ws es → RdsX h X (vs ++ ws) (ds ++ es)
  | [], _, [], _, _, b => b
  | _ :: _, _, _ :: _, _, a, b => ⟨a.1, RdsX.append a.2 b⟩
theorem RdsX.get {X : List Addr} {h : Heap} : ∀ {vs : List Value} {ds : List PyData} {i : Nat} {d : PyData}, RdsX h X vs ds → ds[i]? = some d → ∃ v, vs[i]? = some v ∧ RdX h X v d
  | [], [], _, _, _, e => by simp at e
  | v :: _, _ :: _, 0, _, r, e => by simp at e; subst e; exact ⟨v, rfl, r.1⟩
  | _ :: _, _ :: _, i + 1, _, r, e => by simpa using RdsX.get (i := i) r.2 (by simpa using e)
theorem RdsX.drop {X : List Addr} {h : Heap} : ∀ {vs : List Value} {ds : List PyData} (k : Nat), RdsX h X vs ds → RdsX h X (vs.drop k) (ds.drop k)
  | [], [], k, _ => by simp [RdsX]
  | _ :: _, _ :: _, 0, r => r
  | _ :: vs, _ :: ds, k + 1, r => by simpa using RdsX.drop (vs := vs) (ds := ds) k r.2
theorem RdsX.take {X : List Addr} {h : Heap} : ∀ {vs : List Value} {ds : List PyData} (k : Nat), RdsX h X vs ds → RdsX h X (vs.take k) (ds.take k)
  | [], [], k, _ => by simp [RdsX]
  | _ :: _, _ :: _, 0, _ => trivial
  | _ :: vs, _ :: ds, k + 1, r => ⟨r.1, RdsX.take (vs := vs) (ds := ds) k r.2⟩
theorem RdsX.set {X : List Addr} {h : Heap} : ∀ {vs : List Value} {ds : List PyData} (k : Nat) {v : Value} {d : PyData}, RdsX h X vs ds → RdX h X v d → RdsX h X (vs.set k v) (ds.set k d)
  | [], [], k, _, _, _, _ => by simp [RdsX]
  | _ :: _, _ :: _, 0, _, _, r, q => ⟨q, r.2⟩
  | _ :: vs, _ :: ds, k + 1, _, _, r, q => ⟨r.1, RdsX.set (vs := vs) (ds := ds) k r.2 q⟩
theorem RdsX.eraseIdx {X : List Addr} {h : Heap} : ∀ {vs : List Value} {ds : List PyData} (k : Nat), RdsX h X vs ds → RdsX h X (vs.eraseIdx k) (ds.eraseIdx k)
  | [], [], k, _ => by simp [RdsX]
  | _ :: _, _ :: _, 0, r => r.2
  | _ :: vs, _ :: ds, k + 1, r => ⟨r.1, RdsX.eraseIdx (vs := vs) (ds := ds) k r.2⟩

theorem rdX_none {X : List Addr} {h : Heap} : RdX h X .none .none := ⟨_, .none⟩
theorem rdX_bool {X : List Addr} {h : Heap} {b : Bool} : RdX h X (.bool b) (.bool b) := ⟨_, .bool b⟩
theorem rdX_int {X : List Addr} {h : Heap} {i : Int} {t : Tok} : RdX h X (.int i t) (.int i) := ⟨_, .int i t⟩
theorem rdX_str {X : List Addr} {h : Heap} {x : Str} {t : Tok} : RdX h X (.str x t) (.str x) := ⟨_, .str x t⟩
theorem RdX.int_inv {X : List Addr} {h : Heap} {v : Value} {i : Int} (r : RdX h X v (.int i)) : ∃ t, v = .int i t := by obtain ⟨as, r⟩ := r; cases r; exact ⟨_, rfl⟩
theorem RdX.str_inv {X : List Addr} {h : Heap} {v : Value} {x : Str} (r : RdX h X v (.str x)) : ∃ t, v = .str x t := by obtain ⟨as, r⟩ := r; cases r; exact ⟨_, rfl⟩
theorem RdX.bool_inv {X : List Addr} {h : Heap} {v : Value} {b : Bool} (r : RdX h X v (.bool b)) : v = .bool b := by obtain ⟨as, r⟩ := r; cases r; rfl
theorem RdX.none_inv {X : List Addr} {h : Heap} {v : Value} (r : RdX h X v .none) : v = .none := by obtain ⟨as, r⟩ := r; cases r; rfl

/-- a list object, its items at hand (the list itself may be hidden) -/
def LsB (h : Heap) (X : List Addr) (v : Value) (l : List PyData) : Prop := ∃ a vs, v = .ref a ∧ h.IsList a vs ∧ RdsX h X vs.toList l
theorem LsB.pr {X Y : List Addr} {h h' : Heap} {v : Value} {l : List PyData} (p : Pr Y h h') (s : ∀ y ∈ Y, y ∈ X) (n : ∀ a, v = .ref a → a ∉ Y) (r : LsB h X v l) : LsB h' X v l := by
  obtain ⟨a, vs, e, ⟨o, ho, hc⟩, q⟩ := r
  exact ⟨a, vs, e, ⟨o, p.1 a o ho (n a e), hc⟩, q.pr (p.mono s)⟩
theorem RdX.list_inv {X : List Addr} {h : Heap} {v : Value} {l : List PyData} (r : RdX h X v (.list l)) : ∃ a vs, v = .ref a ∧ a ∉ X ∧ h.IsList a vs ∧ RdsX h X vs.toList l := by
  obtain ⟨as, r⟩ := r
  cases r with
  | list h1 h2 h3 h4 =>
    rename_i a o vs n bs
    refine ⟨a, vs, rfl, fun m => ?_, ⟨o, of_hideAll X h1, h2, n, h3⟩, RdsX.of_all h4⟩
    rw [hideAll_none X m] at h1; cases h1
theorem RdX.lsB {X : List Addr} {h : Heap} {v : Value} {l : List PyData} (r : RdX h X v (.list l)) : LsB h X v l := let ⟨a, vs, e, _, i, q⟩ := r.list_inv; ⟨a, vs, e, i, q⟩
theorem rdX_list {X : List Addr} {h : Heap} {a : Addr} {vs : Array Value} {l : List PyData} (n : a ∉ X) (i : h.IsList a vs) (q : RdsX h X vs.toList l) : RdX h X (.ref a) (.list l) := by
  obtain ⟨o, ho, hc, m, hd⟩ := i
  obtain ⟨as, r⟩ := q.all
  exact ⟨_, .list (hideAll_get X ho n) hc hd r⟩
theorem RdX.tuple_inv {X : List Addr} {h : Heap} {v : Value} {l : List PyData} (r : RdX h X v (.tuple l)) : ∃ a vs, v = .ref a ∧ a ∉ X ∧ IsTup h a vs ∧ RdsX h X vs.toList l := by
  obtain ⟨as, r⟩ := r
  cases r with
  | tuple h1 h2 h3 h4 =>
    rename_i a o vs n
    refine ⟨a, vs, rfl, fun m => ?_, ⟨o, of_hideAll X h1, h2, n, h3⟩, RdsX.of_all h4⟩
    rw [hideAll_none X m] at h1; cases h1
theorem rdX_tuple {X : List Addr} {h : Heap} {a : Addr} {vs : Array Value} {l : List PyData} (n : a ∉ X) (i : IsTup h a vs) (q : RdsX h X vs.toList l) : RdX h X (.ref a) (.tuple l) := by
  obtain ⟨o, ho, hc, m, hd⟩ := i
  obtain ⟨as, r⟩ := q.all
  exact ⟨_, .tuple (hideAll_get X ho n) hc hd r⟩

/-- a plain list object at a -/
def LsP (h : Heap) (X : List Addr) (a : Addr) (l : List PyData) : Prop := ∃ vs, h.PlainList a vs ∧ RdsX h X vs.toList l
theorem LsP.lsB {X : List Addr} {h : Heap} {a : Addr} {l : List PyData} (r : LsP h X a l) : LsB h X (.ref a) l := let ⟨vs, i, q⟩ := r; ⟨a, vs, rfl, i.isList, q⟩
theorem LsP.pr {X Y : List Addr} {h h' : Heap} {a : Addr} {l : List PyData} (p : Pr Y h h') (s : ∀ y ∈ Y, y ∈ X) (n : a ∉ Y) (r : LsP h X a l) : LsP h' X a l := by
  obtain ⟨vs, ⟨m, ho⟩, q⟩ := r
  exact ⟨vs, ⟨m, p.1 a _ ho n⟩, q.pr (p.mono s)⟩
/-- X grows by what did not stand -/
theorem RdX.grow {X Y : List Addr} {h : Heap} {v : Value} {d : PyData} (g : ∀ b o, h.get? b = some o → b ∉ X → b ∉ Y) (r : RdX h X v d) : RdX h Y v d := by
  obtain ⟨as, r⟩ := r
  refine ⟨as, PyProof.Rows.Reads.keeps (fun b o e => ?_) r⟩
  have m : b ∉ X := fun m => by rw [hideAll_none X m] at e; cases e
  have e' := of_hideAll X e
  exact hideAll_get Y e' (g b o e' m)
theorem RdsX.grow {X Y : List Addr} {h : Heap} (g : ∀ b o, h.get? b = some o → b ∉ X → b ∉ Y) : ∀ {vs : List Value} {ds : List PyData}, RdsX h X vs ds → RdsX h Y vs ds
  | [], [], _ => trivial
  | _ :: _, _ :: _, r => ⟨r.1.grow g, RdsX.grow g r.2⟩
/-- fewer are hidden -/
theorem RdX.less {X Y : List Addr} {h : Heap} {v : Value} {d : PyData} (g : ∀ b ∈ Y, b ∈ X) (r : RdX h X v d) : RdX h Y v d := r.grow fun _ _ _ n m => n (g _ m)
theorem RdsX.less {X Y : List Addr} {h : Heap} {vs : List Value} {ds : List PyData} (g : ∀ b ∈ Y, b ∈ X) (r : RdsX h X vs ds) : RdsX h Y vs ds := r.grow fun _ _ _ n m => n (g _ m)
end Mine
end
section
open PySem PySem.W PyProof.Rows PySem.Calls PySem.Spec
set_option maxRecDepth 100000
set_option linter.unusedVariables false
namespace Mine

structure G where
  prog : Program
  w : World
  B : Heap
  T : List Addr
  C : Addr
abbrev G.M (g : G) : Model := model g.prog g.w

def Rm (n : Nat) (A : Around) : Prop := A.handled = none ∧ A.depth + n < recursionLimit ∧ A.units + 10 * n + 200 < cLine
theorem Rm.mono {n m : Nat} {A : Around} (r : Rm n A) (h : m ≤ n) : Rm m A := ⟨r.1, by have := r.2.1; omega, by have := r.2.2; omega⟩
theorem Rm.deeper {n : Nat} {A : Around} {env : Env} (r : Rm (n + 1) A) : Rm n (A.deeper env) :=
  ⟨r.1, by have := r.2.1; show A.depth + 1 + n < recursionLimit; omega, by have := r.2.2; show A.units + 3 + 10 * n + 200 < cLine; omega⟩
theorem Rm.in1 {n : Nat} {A : Around} (r : Rm (n + 1) A) : Rm n A.in1 :=
  ⟨r.1, by have := r.2.1; show A.depth + n < recursionLimit; omega, by have := r.2.2; show A.units + 1 + 10 * n + 200 < cLine; omega⟩

/-- an object of the class, its one attribute the list at a -/
def TabIs (g : G) (h : Heap) (X : List Addr) (v : Value) (a : Addr) (l : List PyData) : Prop :=
  ∃ t d hs tk n, v = .ref t ∧ h.get? t = some (instObj g.C d) ∧ h.get? d = some (dictOf [⟨hs, .str "_headers" tk, .ref a⟩] n) ∧ LsP h X a l ∧ t ∉ X ∧ d ∉ X ∧ a ∉ g.T

/-- what a name is bound to: data; a list of the frame's own, at a; a table, its list at a (own, or not to be turned any more) -/
inductive Bnd where
  | dat (d : PyData)
  | own (a : Addr) (l : List PyData)
  | tab (a : Addr) (l : List PyData)
  | tabF (l : List PyData)
  | val (v : Value)

def Nm (env : Env) (h : Heap) (x : Str) (v : Value) : Prop :=
  (env.kindOf x = some .local ∧ ∃ m, h.Ns env.locals m ∧ m x = some v) ∨
  ((env.kindOf x = some .cell ∨ env.kindOf x = some .free) ∧ ∃ c, env.cells.lookup x = some c ∧ h.IsCell c (some v))

def BI (g : G) (X : List Addr) (h : Heap) (v : Value) : Bnd → Prop
  | .dat d => RdX h X v d
  | .own a l => v = .ref a ∧ LsP h X a l ∧ a ∉ g.T ∧ a ∈ X
  | .tab a l => TabIs g h X v a l ∧ a ∈ X
  | .tabF l => ∃ a, TabIs g h X v a l ∧ a ∉ X
  | .val w => v = w
def VarIs (g : G) (env : Env) (X : List Addr) (h : Heap) (x : Str) (b : Bnd) : Prop := ∃ v, Nm env h x v ∧ BI g X h v b

structure Cx (g : G) (env : Env) (X : List Addr) (ρ : List (Str × Bnd)) (h : Heap) : Prop where
  kind : env.scope.kind = .function
  glob : env.globals = mainGlobals
  bltn : env.builtins = builtinsNs
  base : ∀ b o, g.B.get? b = some o → h.get? b = some o
  xB : ∀ a ∈ X, g.B.get? a = none
  xIn : ∀ a ∈ X, (h.get? a).isSome = true
  tX : ∀ t ∈ g.T, t ∈ X
  ns : ∃ m, h.Ns env.locals m
  lX : env.locals ∈ X
  lT : env.locals ∉ g.T
  cl : ∀ x c, env.cells.lookup x = some c → (∃ v, h.IsCell c v) ∧ c ∈ X ∧ c ∉ g.T
  vars : ∀ x b, (x, b) ∈ ρ → VarIs g env X h x b
  ap : ∀ x y c, env.cells.lookup x = some c → env.cells.lookup y = some c → x = y

theorem TabIs.pr {g : G} {X : List Addr} {h h' : Heap} {v : Value} {a : Addr} {l : List PyData} (p : Pr g.T h h') (s : ∀ y ∈ g.T, y ∈ X) (r : TabIs g h X v a l) : TabIs g h' X v a l := by
  obtain ⟨t, d, hs, tk, n, e, h1, h2, h3, h4, h5, h6⟩ := r
  exact ⟨t, d, hs, tk, n, e, p.1 _ _ h1 fun m => h4 (s _ m), p.1 _ _ h2 fun m => h5 (s _ m), h3.pr p s h6, h4, h5, h6⟩
theorem BI.pr {g : G} {X : List Addr} {h h' : Heap} {v : Value} (p : Pr g.T h h') (s : ∀ y ∈ g.T, y ∈ X) : ∀ {b : Bnd}, BI g X h v b → BI g X h' v b
  | .dat d, r => RdX.pr (p.mono s) r
  | .own a l, r => ⟨r.1, r.2.1.pr p s r.2.2.1, r.2.2⟩
  | .tab a l, r => ⟨r.1.pr p s, r.2⟩
  | .tabF l, ⟨a, r, n⟩ => ⟨a, r.pr p s, n⟩
  | .val w, r => r
theorem Nm.pr {env : Env} {Y : List Addr} {h h' : Heap} {x : Str} {v : Value} (p : Pr Y h h') (hl : env.locals ∉ Y) (hc : ∀ x c, env.cells.lookup x = some c → c ∉ Y) (r : Nm env h x v) : Nm env h' x v := by
  rcases r with ⟨k, m, ⟨o, es, ep, ho, q⟩, e⟩ | ⟨k, c, e, ⟨o, ho, q⟩⟩
  · exact .inl ⟨k, m, ⟨o, es, ep, p.1 _ _ ho hl, q⟩, e⟩
  · exact .inr ⟨k, c, e, ⟨o, p.1 _ _ ho (hc x c e), q⟩⟩

section
variable {g : G} {env : Env} {X : List Addr} {ρ : List (Str × Bnd)} {h h' : Heap}
theorem Cx.pr (c : Cx g env X ρ h) (p : Pr g.T h h') : Cx g env X ρ h' where
  kind := c.kind
  glob := c.glob
  bltn := c.bltn
  base := fun b o e => p.1 b o (c.base b o e) fun m => by have := c.xB b (c.tX b m); rw [e] at this; cases this
  xB := c.xB
  xIn := fun a m => p.2 a (c.xIn a m)
  tX := c.tX
  ns := by obtain ⟨m, o, es, ep, ho, q⟩ := c.ns; exact ⟨m, o, es, ep, p.1 _ _ ho c.lT, q⟩
  lX := c.lX
  lT := c.lT
  cl := fun x k e => by obtain ⟨⟨v, o, ho, q⟩, n, nt⟩ := c.cl x k e; exact ⟨⟨v, o, p.1 _ _ ho nt, q⟩, n, nt⟩
  vars := fun x b m => by
    obtain ⟨v, a, b⟩ := c.vars x b m
    exact ⟨v, a.pr p c.lT (fun y k e => (c.cl y k e).2.2), b.pr p c.tX⟩
  ap := c.ap
theorem fresh_of (x : ∀ a ∈ X, (h.get? a).isSome = true) : h.objs.size ∉ X := fun m => by have := x _ m; rw [get_size] at this; cases this
theorem Cx.fresh (c : Cx g env X ρ h) : h.objs.size ∉ X := fresh_of c.xIn
end

/-- the tree's value is d; nothing is turned but the tables -/
def Cp (g : G) (n : Nat) (X : List Addr) (t : Sem Value) (d : PyData) (s : Shared) : Prop :=
  ∀ (A : Around) (Q : Value → Shared → Prop) (E : Value → Shared → Prop), Rm n A →
    (∀ v h' tk, Pr g.T s.heap h' → RdX h' X v d → Q v { s with heap := h', toks := tk }) → wpAny g.M A t Q E s
def EvP (g : G) (n : Nat) (env : Env) (X : List Addr) (ρ : List (Str × Bnd)) (e : PySem.Expr) (d : PyData) : Prop :=
  ∀ s, Cx g env X ρ s.heap → Cp g n X (eval e env) d s
def EvT (g : G) (n : Nat) (env : Env) (X : List Addr) (ρ : List (Str × Bnd)) (e : PySem.Expr) (b : Bool) : Prop :=
  ∀ s, Cx g env X ρ s.heap → ∀ (A : Around) (Q : Bool → Shared → Prop) (E : Value → Shared → Prop), Rm n A →
    (∀ h' tk, Pr g.T s.heap h' → Q b { s with heap := h', toks := tk }) → wpAny g.M A (isTrue e env (eval e env)) Q E s
/-- a list, perhaps a hidden one -/
def EvL (g : G) (n : Nat) (env : Env) (X : List Addr) (ρ : List (Str × Bnd)) (e : PySem.Expr) (l : List PyData) : Prop :=
  ∀ s, Cx g env X ρ s.heap → ∀ (A : Around) (Q : Value → Shared → Prop) (E : Value → Shared → Prop), Rm n A →
    (∀ v h' tk, Pr g.T s.heap h' → LsB h' X v l → (∀ a, v = .ref a → a ∉ g.T) → Q v { s with heap := h', toks := tk }) → wpAny g.M A (eval e env) Q E s

section
variable {g : G} {n : Nat} {env : Env} {X : List Addr} {ρ : List (Str × Bnd)}

theorem Cp.mono {m : Nat} {t : Sem Value} {d : PyData} {s : Shared} (c : Cp g m X t d s) (h : m ≤ n) : Cp g n X t d s := fun A Q E r k => c A Q E (r.mono h) k
theorem EvP.mono {m : Nat} {e : PySem.Expr} {d : PyData} (c : EvP g m env X ρ e d) (h : m ≤ n) : EvP g n env X ρ e d := fun s cx => (c s cx).mono h
theorem cp_pure {v : Value} {d : PyData} {s : Shared} (r : RdX s.heap X v d) : Cp g n X (pure v) d s := fun A Q E _ k => wpAny_pure (k v s.heap s.toks (Pr.refl _ _) r)

/-- one tree behind another -/
theorem Cp.bind {t : Sem Value} {f : Value → Sem Value} {d d' : PyData} {s : Shared} (a : Cp g n X t d s)
    (b : ∀ v h' tk, Pr g.T s.heap h' → RdX h' X v d → Cp g n X (f v) d' { s with heap := h', toks := tk }) : Cp g n X (t >>= f) d' s := fun A Q E r k =>
  wpAny_bind (a A _ E r fun v h' tk p rd => b v h' tk p rd A Q E r fun v' h'' tk' p' rd' => k v' h'' tk' (p.trans p') rd')
theorem Cp.skip {t : Sem Value} {f : Sem Unit} {d : PyData} {s : Shared} (hf : ∀ A Q E, Q () s → wpAny g.M A f Q E s) (a : Cp g n X t d s) : Cp g n X (f >>= fun _ => t) d s := fun A Q E r k =>
  wpAny_bind (hf A _ E (a A Q E r k))

theorem load_name {s : Shared} {x : Str} {v : Value} (c : Cx g env X ρ s.heap) (m : Nm env s.heap x v) {A : Around} {Q : Value → Shared → Prop} {E : Value → Shared → Prop} (k : Q v s) (hd : (x == ("__classdict__" : Str)) = false) :
    wpAny g.M A (loadName env x) Q E s := by
  rcases m with ⟨kd, m, hn, e⟩ | ⟨kd | kd, cc, e, hc⟩
  · exact wpAny_loadName_local c.kind kd hn e k
  · exact wpAny_loadName_cell c.kind kd e hc k
  · exact wpAny_loadName_free c.kind kd e hc k hd

theorem ev_int {i : Int} {k : Nat} {pos : Pos} : EvP g n env X ρ (.Constant (.int i) k pos) (.int i) := fun s _ A Q E _ h => wpAny_Constant_int (h _ s.heap _ (Pr.refl _ _) rdX_int)
theorem ev_str {x : Str} {k : Nat} {pos : Pos} : EvP g n env X ρ (.Constant (.str x) k pos) (.str x) := fun s _ A Q E _ h => Constant_str (h _ s.heap _ (Pr.refl _ _) rdX_str)
theorem ev_bool {b : Bool} {k : Nat} {pos : Pos} : EvP g n env X ρ (.Constant (.bool b) k pos) (.bool b) := fun s _ A Q E _ h => wpAny_pure (h _ s.heap s.toks (Pr.refl _ _) rdX_bool)
theorem ev_none {k : Nat} {pos : Pos} : EvP g n env X ρ (.Constant .none k pos) .none := fun s _ A Q E _ h => wpAny_pure (h _ s.heap s.toks (Pr.refl _ _) rdX_none)
theorem ev_name {x : Str} {pos : Pos} {d : PyData} (m : (x, Bnd.dat d) ∈ ρ) (h1 : (x == ("__debug__" : Str)) = false := by decide) (h2 : (x == ("__classdict__" : Str)) = false := by decide) : EvP g n env X ρ (.Name x pos) d := fun s c A Q E _ h => by
  obtain ⟨v, hm, r⟩ := c.vars _ _ m
  exact wpAny_Name (load_name c hm (h v s.heap s.toks (Pr.refl _ _) r) h2) h1
theorem evl_own {x : Str} {pos : Pos} {a : Addr} {l : List PyData} (m : (x, Bnd.own a l) ∈ ρ) (h1 : (x == ("__debug__" : Str)) = false := by decide) (h2 : (x == ("__classdict__" : Str)) = false := by decide) : EvL g n env X ρ (.Name x pos) l := fun s c A Q E _ h => by
  obtain ⟨v, hm, rfl, r, nt, _⟩ := c.vars _ _ m
  exact wpAny_Name (load_name c hm (h _ s.heap s.toks (Pr.refl _ _) r.lsB fun b e => by cases e; exact nt) h2) h1
theorem evl_of {e : PySem.Expr} {l : List PyData} (a : EvP g n env X ρ e (.list l)) : EvL g n env X ρ e l := fun s c A Q E r h =>
  a s c A Q E r fun v h' tk p rd => h v h' tk p rd.lsB fun b eb q => by obtain ⟨a', vs, e', nx, _⟩ := rd.list_inv; cases e'.symm.trans eb; exact nx (c.tX _ q)

/-- what a binary operator makes of two data -/
def BinOK (g : G) (n : Nat) (X : List Addr) (op : Operator) (da db d : PyData) : Prop :=
  ∀ s a b, (∀ x ∈ X, (s.heap.get? x).isSome = true) → RdX s.heap X a da → RdX s.heap X b db → Cp g n X (binaryOp op a b) d s
theorem ev_binop {l r : PySem.Expr} {op : Operator} {pos : Pos} {da db d : PyData} (a : EvP g n env X ρ l da) (b : EvP g n env X ρ r db) (o : BinOK g n X op da db d) : EvP g n env X ρ (.BinOp l op r pos) d := fun s c A Q E rm h =>
  wpAny_BinOp (a s c A _ E rm fun v h' tk p rd => b { s with heap := h', toks := tk } (c.pr p) A _ E rm fun v' h'' tk' p' rd' =>
    o { s with heap := h'', toks := tk' } v v' ((c.pr p).pr p').xIn (rd.pr (p'.mono c.tX)) rd' A Q E rm fun v'' h3 tk3 p3 rd3 => h v'' h3 tk3 ((p.trans p').trans p3) rd3)
def CmpOK (g : G) (n : Nat) (X : List Addr) (op : CmpOp) (da db : PyData) (b : Bool) : Prop :=
  ∀ s x y, (∀ x ∈ X, (s.heap.get? x).isSome = true) → RdX s.heap X x da → RdX s.heap X y db → Cp g n X (compareOp op x y) (.bool b) s
theorem ev_cmp {l r : PySem.Expr} {op : CmpOp} {pos : Pos} {da db : PyData} {q : Bool} (a : EvP g n env X ρ l da) (b : EvP g n env X ρ r db) (o : CmpOK g n X op da db q) (hm : behindInMarks op r = false := by with_unfolding_all rfl) :
    EvP g n env X ρ (.Compare l [op] [r] pos) (.bool q) := fun s c A Q E rm h =>
  wpAny_Compare1 (a s c A _ E rm fun v h' tk p rd => b { s with heap := h', toks := tk } (c.pr p) A _ E rm fun v' h'' tk' p' rd' =>
    o { s with heap := h'', toks := tk' } v v' ((c.pr p).pr p').xIn (rd.pr (p'.mono c.tX)) rd' A Q E rm fun v'' h3 tk3 p3 rd3 => h v'' h3 tk3 ((p.trans p').trans p3) rd3) hm
theorem evt_cmp {l r : PySem.Expr} {op : CmpOp} {pos : Pos} {da db : PyData} {q : Bool} (a : EvP g n env X ρ l da) (b : EvP g n env X ρ r db) (o : CmpOK g n X op da db q) (hm : behindInMarks op r = false := by with_unfolding_all rfl) :
    EvT g n env X ρ (.Compare l [op] [r] pos) q := fun s c A Q E rm h =>
  wpAny_isTrue_Compare1 (a s c A _ E rm fun v h' tk p rd => b { s with heap := h', toks := tk } (c.pr p) A _ E rm fun v' h'' tk' p' rd' =>
    o { s with heap := h'', toks := tk' } v v' ((c.pr p).pr p').xIn (rd.pr (p'.mono c.tX)) rd' A _ E rm fun v'' h3 tk3 p3 rd3 => by
      cases rd3.bool_inv; exact wpAny_truthy_bool (h h3 tk3 ((p.trans p').trans p3))) hm
end
end Mine
end
section
open PySem PySem.W PyProof.Rows PySem.Calls PySem.Spec
set_option maxRecDepth 100000
set_option linter.unusedVariables false
namespace Mine
section
variable {g : G} {n : Nat} {env : Env} {X : List Addr} {ρ : List (Str × Bnd)}

theorem bin_add_int {a b : Int} : BinOK g n X .Add (.int a) (.int b) (.int (a + b)) := fun s x y _ ra rb A Q E _ h => by
  obtain ⟨t, rfl⟩ := ra.int_inv; obtain ⟨u, rfl⟩ := rb.int_inv
  exact PyProof.Rows.add_int (h _ s.heap _ (Pr.refl _ _) rdX_int)
theorem bin_sub_int {a b : Int} : BinOK g n X .Sub (.int a) (.int b) (.int (a - b)) := fun s x y _ ra rb A Q E _ h => by
  obtain ⟨t, rfl⟩ := ra.int_inv; obtain ⟨u, rfl⟩ := rb.int_inv
  exact PyProof.Rows.sub_int (h _ s.heap _ (Pr.refl _ _) rdX_int)
theorem bin_mul_int {a b : Int} (hb : a.natAbs < 2 ^ 64) : BinOK g n X .Mult (.int a) (.int b) (.int (a * b)) := fun s x y _ ra rb A Q E _ h => by
  obtain ⟨t, rfl⟩ := ra.int_inv; obtain ⟨u, rfl⟩ := rb.int_inv
  exact PyProof.Rows.mul_int (h _ s.heap _ (Pr.refl _ _) rdX_int) (IntMulOk.of_left (intBits_le hb))
theorem bin_mod_int {a b : Int} (hb : b ≠ 0) : BinOK g n X .Mod (.int a) (.int b) (.int (a.fmod b)) := fun s x y _ ra rb A Q E _ h => by
  obtain ⟨t, rfl⟩ := ra.int_inv; obtain ⟨u, rfl⟩ := rb.int_inv
  exact mod_int' hb (h _ s.heap _ (Pr.refl _ _) rdX_int)
theorem bin_fdiv_int {a b : Int} (hb : b ≠ 0) (hs : b.natAbs < 1073741824) : BinOK g n X .FloorDiv (.int a) (.int b) (.int (a.fdiv b)) := fun s x y _ ra rb A Q E _ h => by
  obtain ⟨t, rfl⟩ := ra.int_inv; obtain ⟨u, rfl⟩ := rb.int_inv
  exact floordiv_int hb (h _ s.heap _ (Pr.refl _ _) rdX_int) (.inl (PyProof.noPylong_small hs))
theorem bin_pow_int {a b : Int} (h0 : 0 ≤ b) (h1 : b ≤ 1000000) (ha : a.natAbs < 2 ^ 64) : BinOK g n X .Pow (.int a) (.int b) (.int (a ^ b.toNat)) := fun s x y _ ra rb A Q E _ h => by
  obtain ⟨t, rfl⟩ := ra.int_inv; obtain ⟨u, rfl⟩ := rb.int_inv
  exact pow_int_small h0 h1 ha (h _ s.heap _ (Pr.refl _ _) rdX_int)
theorem bin_add_str {a b : Str} (hs : a.length + b.length ≤ 16777216) : BinOK g n X .Add (.str a) (.str b) (.str (a ++ b)) := fun s x y _ ra rb A Q E _ h => by
  obtain ⟨t, rfl⟩ := ra.str_inv; obtain ⟨u, rfl⟩ := rb.str_inv
  exact PyProof.Rows.add_str (fun t' tk => h _ s.heap _ (Pr.refl _ _) rdX_str) (by rw [sizeLine_eq]; exact hs)
theorem bin_mul_str {a : Str} {b : Int} (hs : a.length ≤ 4095) (h0 : -(2 ^ 63 : Int) ≤ b) (h1 : b ≤ 4095) : BinOK g n X .Mult (.str a) (.int b) (.str (Txt.mul a b)) := fun s x y _ ra rb A Q E _ h => by
  obtain ⟨t, rfl⟩ := ra.str_inv; obtain ⟨u, rfl⟩ := rb.int_inv
  exact SB.mul (mulOk_of 4095 4095 hs h1 h0 (by decide) (by decide)) (fun t' tk => h _ s.heap _ (Pr.refl _ _) rdX_str)

theorem isList_push (h : Heap) (vs : Array Value) : (h.push { cls := .type "list", data := .seq vs }).IsList h.objs.size vs := ⟨_, Heap.get?_push_size _ rfl, rfl, _, rfl⟩
theorem isTup_push (h : Heap) (vs : Array Value) : IsTup (h.push { cls := .type "tuple", data := .seq vs }) h.objs.size vs := ⟨_, Heap.get?_push_size _ rfl, rfl, _, rfl⟩
theorem rdX_newList {h : Heap} {vs : List Value} {ds : List PyData} (hx : ∀ x ∈ X, (h.get? x).isSome = true) (r : RdsX h X vs ds) : RdX (h.push { cls := .type "list", data := .seq vs.toArray }) X (.ref h.objs.size) (.list ds) :=
  rdX_list (fresh_of hx) (isList_push h _) (by simpa using r.pr (Pr.push X h _))
theorem rdX_newTuple {h : Heap} {vs : List Value} {ds : List PyData} (hx : ∀ x ∈ X, (h.get? x).isSome = true) (r : RdsX h X vs ds) : RdX (h.push { cls := .type "tuple", data := .seq vs.toArray }) X (.ref h.objs.size) (.tuple ds) :=
  rdX_tuple (fresh_of hx) (isTup_push h _) (by simpa using r.pr (Pr.push X h _))

theorem add_lists_raw {s : Shared} {A : Around} {E : Value → Shared → Prop} {l b : Addr} {its its2 : Array Value} {Q : Value → Shared → Prop} (hl : s.heap.IsList l its) (hb : s.heap.IsList b its2)
    (h : Q (.ref s.heap.objs.size) { s with heap := s.heap.push { cls := .type "list", data := .seq (its.toList ++ its2.toList).toArray } }) (hsz : its.size + its2.size ≤ sizeLine) :
    wpAny g.M A (binaryOp .Add (.ref l) (.ref b)) Q E s := by
  obtain ⟨⟨cls, dd, data, sl⟩, ho, hc, n, hd⟩ := id hl
  obtain ⟨⟨cls2, dd2, data2, sl2⟩, ho2, hc2, n2, hd2⟩ := id hb
  simp only at hc hd hc2 hd2
  subst hc hd hc2 hd2
  have e : its ++ its2 = (its.toList ++ its2.toList).toArray := by simp
  refine concat_meets ⟨_, ho, rfl⟩ ⟨_, ho2, rfl⟩ noFill_list_add seq_list_add PySem.F.slot_list_add PySem.F.entry_list_add (PySem.F.args_list_add_2 _ _) (list_addW l b its its2 n n2 dd dd2 sl sl2 (by simpa using hsz)) ⟨ho, ho2, ?_⟩
  rw [e]
  exact h
/-- two lists, one or both perhaps hidden -/
theorem ev_add_list {l r : PySem.Expr} {pos : Pos} {da db : List PyData} (a : EvL g n env X ρ l da) (b : EvL g n env X ρ r db) (hs : da.length + db.length ≤ 16777216) : EvP g n env X ρ (.BinOp l .Add r pos) (.list (da ++ db)) := fun s c A Q E rm h =>
  wpAny_BinOp (a s c A _ E rm fun v h' tk p ls nt => b { s with heap := h', toks := tk } (c.pr p) A _ E rm fun v' h'' tk' p' ls' nt' => by
    have ls2 := ls.pr p' c.tX nt
    obtain ⟨x, vs, rfl, i, q⟩ := ls2
    obtain ⟨y, ws, rfl, j, u⟩ := ls'
    have hlen : vs.size + ws.size ≤ 16777216 := by have e1 := q.length; have e2 := u.length; simp only [Array.length_toList] at e1 e2; omega
    exact add_lists_raw i j (h _ _ _ ((p.trans p').trans (Pr.push _ _ _)) (rdX_newList ((c.pr p).pr p').xIn (q.append u))) (by rw [sizeLine_eq]; exact hlen))

theorem cmp_eq_int {a b : Int} : CmpOK g n X .Eq (.int a) (.int b) (a == b) := fun s x y _ ra rb A Q E _ h => by
  obtain ⟨t, rfl⟩ := ra.int_inv; obtain ⟨u, rfl⟩ := rb.int_inv
  exact PyProof.Rows.eq_int (h _ s.heap _ (Pr.refl _ _) rdX_bool)
theorem cmp_ne_int {a b : Int} : CmpOK g n X .NotEq (.int a) (.int b) (a != b) := fun s x y _ ra rb A Q E _ h => by
  obtain ⟨t, rfl⟩ := ra.int_inv; obtain ⟨u, rfl⟩ := rb.int_inv
  exact PyProof.Rows.ne_int (h _ s.heap _ (Pr.refl _ _) rdX_bool)
theorem cmp_lt_int {a b : Int} : CmpOK g n X .Lt (.int a) (.int b) (decide (a < b)) := fun s x y _ ra rb A Q E _ h => by
  obtain ⟨t, rfl⟩ := ra.int_inv; obtain ⟨u, rfl⟩ := rb.int_inv
  exact PyProof.Rows.lt_int (h _ s.heap _ (Pr.refl _ _) rdX_bool)
theorem cmp_le_int {a b : Int} : CmpOK g n X .LtE (.int a) (.int b) (decide (a ≤ b)) := fun s x y _ ra rb A Q E _ h => by
  obtain ⟨t, rfl⟩ := ra.int_inv; obtain ⟨u, rfl⟩ := rb.int_inv
  exact PyProof.Rows.le_int (h _ s.heap _ (Pr.refl _ _) rdX_bool)
theorem cmp_gt_int {a b : Int} : CmpOK g n X .Gt (.int a) (.int b) (decide (b < a)) := fun s x y _ ra rb A Q E _ h => by
  obtain ⟨t, rfl⟩ := ra.int_inv; obtain ⟨u, rfl⟩ := rb.int_inv
  exact PyProof.Rows.gt_int (h _ s.heap _ (Pr.refl _ _) rdX_bool)
theorem cmp_ge_int {a b : Int} : CmpOK g n X .GtE (.int a) (.int b) (decide (b ≤ a)) := fun s x y _ ra rb A Q E _ h => by
  obtain ⟨t, rfl⟩ := ra.int_inv; obtain ⟨u, rfl⟩ := rb.int_inv
  exact PyProof.Rows.ge_int (h _ s.heap _ (Pr.refl _ _) rdX_bool)
theorem cmp_eq_str {a b : Str} : CmpOK g n X .Eq (.str a) (.str b) (a == b) := fun s x y _ ra rb A Q E _ h => by
  obtain ⟨t, rfl⟩ := ra.str_inv; obtain ⟨u, rfl⟩ := rb.str_inv
  exact PyProof.Rows.eq_str (h _ s.heap _ (Pr.refl _ _) rdX_bool)
theorem cmp_ne_str {a b : Str} : CmpOK g n X .NotEq (.str a) (.str b) (a != b) := fun s x y _ ra rb A Q E _ h => by
  obtain ⟨t, rfl⟩ := ra.str_inv; obtain ⟨u, rfl⟩ := rb.str_inv
  exact PyProof.Rows.ne_str (h _ s.heap _ (Pr.refl _ _) rdX_bool)
theorem cmp_eq_bool {a b : Bool} : CmpOK g n X .Eq (.bool a) (.bool b) (a == b) := fun s x y _ ra rb A Q E _ h => by
  cases ra.bool_inv; cases rb.bool_inv
  exact PyProof.Rows.eq_bool (h _ s.heap _ (Pr.refl _ _) rdX_bool)
theorem cmp_ne_bool {a b : Bool} : CmpOK g n X .NotEq (.bool a) (.bool b) (a != b) := fun s x y _ ra rb A Q E _ h => by
  cases ra.bool_inv; cases rb.bool_inv
  exact PyProof.Rows.ne_bool (h _ s.heap _ (Pr.refl _ _) rdX_bool)
theorem cmp_in_str {a b : Str} : CmpOK g n X .In (.str a) (.str b) (!(Builtin.Str.occurrences b a 0 b.length 1).isEmpty) := fun s x y _ ra rb A Q E _ h => by
  obtain ⟨t, rfl⟩ := ra.str_inv; obtain ⟨u, rfl⟩ := rb.str_inv
  exact PyProof.Rows.in_str (h _ s.heap _ (Pr.refl _ _) rdX_bool)
theorem cmp_notIn_str {a b : Str} : CmpOK g n X .NotIn (.str a) (.str b) (!(!(Builtin.Str.occurrences b a 0 b.length 1).isEmpty)) := fun s x y _ ra rb A Q E _ h => by
  obtain ⟨t, rfl⟩ := ra.str_inv; obtain ⟨u, rfl⟩ := rb.str_inv
  exact PyProof.Rows.notIn_str (h _ s.heap _ (Pr.refl _ _) rdX_bool)
theorem cmp_eq_data {a b : PyData} (ha : SeqAt.shaped a = true) (hb : SeqAt.shaped b = true) : CmpOK g n X .Eq a b (PyData.eqv a b) := fun s x y _ ra rb A Q E rm h => by
  obtain ⟨_, ra⟩ := ra.rd; obtain ⟨_, rb⟩ := rb.rd
  exact SeqAt.compareEq_shaped ra rb ha hb (by have := rm.2.2; omega) (h _ s.heap _ (Pr.refl _ _) rdX_bool)
theorem cmp_ne_data {a b : PyData} (ha : SeqAt.shaped a = true) (hb : SeqAt.shaped b = true) : CmpOK g n X .NotEq a b (!PyData.eqv a b) := fun s x y _ ra rb A Q E rm h => by
  obtain ⟨_, ra⟩ := ra.rd; obtain ⟨_, rb⟩ := rb.rd
  exact SeqAt.compareNe_shaped ra rb ha hb (by have := rm.2.2; omega) (h _ s.heap _ (Pr.refl _ _) rdX_bool)
theorem shaped_room {a : List PyData} (ha : SeqAt.shaped (.list a) = true) {d : PyData} {u : Nat} (h : u + 100 < cLine) : u + 1 + min (PyData.depthAll a) d.depth < cLine := by
  have h1 := SeqAt.depth_of_shaped ha
  have h2 : min (PyData.depthAll a) d.depth ≤ PyData.depthAll a := Nat.min_le_left _ _
  have h3 : (PyData.list a).depth = PyData.depthAll a + 1 := by simp only [PyData.depth]
  omega
theorem shaped_roomT {a : List PyData} (ha : SeqAt.shaped (.tuple a) = true) {d : PyData} {u : Nat} (h : u + 100 < cLine) : u + 1 + min (PyData.depthAll a) d.depth < cLine := by
  have h1 := SeqAt.depth_of_shaped ha
  have h2 : min (PyData.depthAll a) d.depth ≤ PyData.depthAll a := Nat.min_le_left _ _
  have h3 : (PyData.tuple a).depth = PyData.depthAll a + 1 := by simp only [PyData.depth]
  omega
theorem canLay_list {a : List PyData} (ha : SeqAt.shaped (.list a) = true) : PyData.canLayAll0 a = true := by simpa [PyData.canLay0] using SeqAt.canLay_of_shaped ha
theorem canLay_tuple {a : List PyData} (ha : SeqAt.shaped (.tuple a) = true) : PyData.canLayAll0 a = true := by simpa [PyData.canLay0] using SeqAt.canLay_of_shaped ha
theorem cmp_in_tuple {a : PyData} {b : List PyData} (ha : SeqAt.shaped a = true) (hb : SeqAt.shaped (.tuple b) = true) : CmpOK g n X .In a (.tuple b) (b.any fun y => PyData.eqv y a) := fun s x y _ ra rb A Q E rm h => by
  obtain ⟨_, ra⟩ := ra.rd; obtain ⟨_, rb⟩ := rb.rd
  exact SeqAt.in_tuple_reads rb ra (canLay_tuple hb) (SeqAt.canLay_of_shaped ha) (shaped_roomT hb (by have := rm.2.2; omega)) (h _ s.heap _ (Pr.refl _ _) rdX_bool)
/-- x in a list, the list perhaps hidden -/
theorem in_listB {s : Shared} {x y : Value} {a : PyData} {b : List PyData} (ha : SeqAt.shaped a = true) (hb : SeqAt.shaped (.list b) = true) (ra : RdX s.heap X x a) (rb : LsB s.heap X y b) {A : Around} {Q E : Value → Shared → Prop} (rm : Rm n A)
    (h : Q (.bool (b.any fun y => PyData.eqv y a)) s) : wpAny g.M A (compareOp .In x y) Q E s := by
  obtain ⟨_, ra⟩ := ra.rd
  obtain ⟨z, vs, rfl, ⟨o, ho, hc, m, hd⟩, q⟩ := rb
  obtain ⟨_, q⟩ := q.rds
  exact SeqAt.in_list_reads (.list ho hc hd q) ra (canLay_list hb) (SeqAt.canLay_of_shaped ha) (shaped_room hb (by have := rm.2.2; omega)) h
theorem notIn_listB {s : Shared} {x y : Value} {a : PyData} {b : List PyData} (ha : SeqAt.shaped a = true) (hb : SeqAt.shaped (.list b) = true) (ra : RdX s.heap X x a) (rb : LsB s.heap X y b) {A : Around} {Q E : Value → Shared → Prop} (rm : Rm n A)
    (h : Q (.bool (!(b.any fun y => PyData.eqv y a))) s) : wpAny g.M A (compareOp .NotIn x y) Q E s := by
  obtain ⟨_, ra⟩ := ra.rd
  obtain ⟨z, vs, rfl, ⟨o, ho, hc, m, hd⟩, q⟩ := rb
  obtain ⟨_, q⟩ := q.rds
  exact SeqAt.notIn_list_reads (.list ho hc hd q) ra (canLay_list hb) (SeqAt.canLay_of_shaped ha) (shaped_room hb (by have := rm.2.2; omega)) h
theorem ev_in_list {l r : PySem.Expr} {pos : Pos} {a : PyData} {b : List PyData} (el : EvP g n env X ρ l a) (er : EvL g n env X ρ r b) (ha : SeqAt.shaped a = true) (hb : SeqAt.shaped (.list b) = true) (hm : behindInMarks .In r = false := by with_unfolding_all rfl) :
    EvP g n env X ρ (.Compare l [.In] [r] pos) (.bool (b.any fun y => PyData.eqv y a)) := fun s c A Q E rm h =>
  wpAny_Compare1 (el s c A _ E rm fun v h' tk p rd => er { s with heap := h', toks := tk } (c.pr p) A _ E rm fun v' h'' tk' p' ls _ =>
    in_listB ha hb (rd.pr (p'.mono c.tX)) ls rm (h _ _ _ (p.trans p') rdX_bool)) hm
theorem evt_in_list {l r : PySem.Expr} {pos : Pos} {a : PyData} {b : List PyData} (el : EvP g n env X ρ l a) (er : EvL g n env X ρ r b) (ha : SeqAt.shaped a = true) (hb : SeqAt.shaped (.list b) = true) (hm : behindInMarks .In r = false := by with_unfolding_all rfl) :
    EvT g n env X ρ (.Compare l [.In] [r] pos) (b.any fun y => PyData.eqv y a) := fun s c A Q E rm h =>
  wpAny_isTrue_Compare1 (el s c A _ E rm fun v h' tk p rd => er { s with heap := h', toks := tk } (c.pr p) A _ E rm fun v' h'' tk' p' ls _ =>
    in_listB ha hb (rd.pr (p'.mono c.tX)) ls rm (wpAny_truthy_bool (h _ _ (p.trans p')))) hm
theorem ev_notIn_list {l r : PySem.Expr} {pos : Pos} {a : PyData} {b : List PyData} (el : EvP g n env X ρ l a) (er : EvL g n env X ρ r b) (ha : SeqAt.shaped a = true) (hb : SeqAt.shaped (.list b) = true) (hm : behindInMarks .NotIn r = false := by with_unfolding_all rfl) :
    EvP g n env X ρ (.Compare l [.NotIn] [r] pos) (.bool (!(b.any fun y => PyData.eqv y a))) := fun s c A Q E rm h =>
  wpAny_Compare1 (el s c A _ E rm fun v h' tk p rd => er { s with heap := h', toks := tk } (c.pr p) A _ E rm fun v' h'' tk' p' ls _ =>
    notIn_listB ha hb (rd.pr (p'.mono c.tX)) ls rm (h _ _ _ (p.trans p') rdX_bool)) hm
theorem evt_notIn_list {l r : PySem.Expr} {pos : Pos} {a : PyData} {b : List PyData} (el : EvP g n env X ρ l a) (er : EvL g n env X ρ r b) (ha : SeqAt.shaped a = true) (hb : SeqAt.shaped (.list b) = true) (hm : behindInMarks .NotIn r = false := by with_unfolding_all rfl) :
    EvT g n env X ρ (.Compare l [.NotIn] [r] pos) (!(b.any fun y => PyData.eqv y a)) := fun s c A Q E rm h =>
  wpAny_isTrue_Compare1 (el s c A _ E rm fun v h' tk p rd => er { s with heap := h', toks := tk } (c.pr p) A _ E rm fun v' h'' tk' p' ls _ =>
    notIn_listB ha hb (rd.pr (p'.mono c.tX)) ls rm (wpAny_truthy_bool (h _ _ (p.trans p')))) hm

/-- several expressions, one behind the other -/
def EvS (g : G) (n : Nat) (env : Env) (X : List Addr) (ρ : List (Str × Bnd)) : List PySem.Expr → List PyData → Prop
  | [], [] => True
  | e :: es, d :: ds => EvP g n env X ρ e d ∧ EvS g n env X ρ es ds
  | _, _ => False
def noStar : PySem.Expr → Bool
  | .Starred _ _ => false
  | _ => true
theorem starEach_plain {e : PySem.Expr} {es : List PySem.Expr} (h : noStar e = true) : starEach (e :: es) env = (false, eval e env) :: starEach es env := by
  cases e <;> first | rfl | cases h
theorem spliced_ok {pos : Pos} : ∀ {es : List PySem.Expr} {ds : List PyData}, es.all noStar = true → EvS g n env X ρ es ds → ∀ s, Cx g env X ρ s.heap → ∀ (A : Around) (Q : List Value → Shared → Prop) (E : Value → Shared → Prop), Rm n A →
    (∀ vs h' tk, Pr g.T s.heap h' → RdsX h' X vs ds → vs.length = es.length → Q vs { s with heap := h', toks := tk }) → wpAny g.M A (spliced (backTo pos (starEach es env))) Q E s
  | [], [], _, _, s, c, A, Q, E, rm, h => spliced_nil (h [] s.heap s.toks (Pr.refl _ _) trivial rfl)
  | e :: es, d :: ds, hn, r, s, c, A, Q, E, rm, h => by
    have hn' : noStar e = true ∧ es.all noStar = true := by simpa using hn
    rw [starEach_plain hn'.1]
    show wpAny g.M A (spliced ((false, eval e env) :: backTo pos (starEach es env))) Q E s
    refine spliced_cons (r.1 s c A _ E rm fun v h' tk p rd => ?_)
    refine spliced_ok hn'.2 r.2 { s with heap := h', toks := tk } (c.pr p) A _ E rm fun vs h'' tk' p' rds hl => ?_
    exact h (v :: vs) h'' tk' (p.trans p') ⟨rd.pr (p'.mono c.tX), rds⟩ (by simp [hl])
theorem ev_tuple {es : List PySem.Expr} {k : Nat} {pos : Pos} {ds : List PyData} (r : EvS g n env X ρ es ds) (hn : es.all noStar = true := by rfl) (hl : es.length ≤ 1000 := by decide) : EvP g n env X ρ (.Tuple es k pos) (.tuple ds) := fun s c A Q E rm h =>
  Tuple_ (spliced_ok hn r s c A _ E rm fun vs h' tk p rds hlen => wpAny_newObj_type (h _ _ _ (p.trans (Pr.push _ _ _)) (rdX_newTuple (c.pr p).xIn rds)) (by show vs.toArray.size ≤ sizeLine; rw [sizeLine_eq, List.size_toArray, hlen]; omega))
theorem ev_list {es : List PySem.Expr} {pos : Pos} {ds : List PyData} (r : EvS g n env X ρ es ds) (hn : es.all noStar = true := by rfl) (hl : es.length ≤ 1000 := by decide) : EvP g n env X ρ (.List es pos) (.list ds) := fun s c A Q E rm h =>
  List_ (spliced_ok hn r s c A _ E rm fun vs h' tk p rds hlen => wpAny_newObj_type (h _ _ _ (p.trans (Pr.push _ _ _)) (rdX_newList (c.pr p).xIn rds)) (by show vs.toArray.size ≤ sizeLine; rw [sizeLine_eq, List.size_toArray, hlen]; omega))

theorem ev_ifexp {t b o : PySem.Expr} {pos : Pos} {q : Bool} {d : PyData} (et : EvT g n env X ρ t q) (eb : q = true → EvP g n env X ρ b d) (eo : q = false → EvP g n env X ρ o d) : EvP g n env X ρ (.IfExp t b o pos) d := fun s c A Q E rm h => by
  refine wpAny_IfExp (et s c A _ E rm fun h' tk p => ?_)
  cases q with
  | true => exact eb rfl _ (c.pr p) A Q E rm fun v h'' tk' p' rd => h v h'' tk' (p.trans p') rd
  | false => exact eo rfl _ (c.pr p) A Q E rm fun v h'' tk' p' rd => h v h'' tk' (p.trans p') rd
end
end Mine
end
section
open PySem PySem.W PyProof.Rows PySem.Calls PySem.Spec
set_option maxRecDepth 100000
set_option linter.unusedVariables false
namespace Mine
section
variable {g : G} {n : Nat} {env : Env} {X : List Addr} {ρ : List (Str × Bnd)}

theorem evt_and {x y : PySem.Expr} {pos : Pos} {a b : Bool} (ex : EvT g n env X ρ x a) (ey : a = true → EvT g n env X ρ y b) : EvT g n env X ρ (.BoolOp .And [x, y] pos) (a && b) := fun s c A Q E rm h => by
  refine isTrue_and (ex s c A _ E rm fun h' tk p => ?_)
  cases a with
  | false => exact h h' tk p
  | true =>
    refine isTrue_and (ey rfl _ (c.pr p) A _ E rm fun h'' tk' p' => ?_)
    have := h h'' tk' (p.trans p')
    cases b with
    | false => exact this
    | true => exact isTrue_and_nil this
theorem evt_or {x y : PySem.Expr} {pos : Pos} {a b : Bool} (ex : EvT g n env X ρ x a) (ey : a = false → EvT g n env X ρ y b) : EvT g n env X ρ (.BoolOp .Or [x, y] pos) (a || b) := fun s c A Q E rm h => by
  refine isTrue_or (ex s c A _ E rm fun h' tk p => ?_)
  cases a with
  | true => exact h h' tk p
  | false =>
    refine isTrue_or (ey rfl _ (c.pr p) A _ E rm fun h'' tk' p' => ?_)
    have := h h'' tk' (p.trans p')
    cases b with
    | true => exact this
    | false => exact isTrue_or_nil this
theorem ev_and {x y : PySem.Expr} {pos : Pos} {a b : Bool} (ex : EvP g n env X ρ x (.bool a)) (ey : a = true → EvP g n env X ρ y (.bool b)) : EvP g n env X ρ (.BoolOp .And [x, y] pos) (.bool (a && b)) := fun s c A Q E rm h => by
  refine BoolOp_and (ex s c A _ E rm fun v h' tk p rd => ?_)
  cases rd.bool_inv
  refine wpAny_truthy_bool ?_
  cases a with
  | false => exact h _ h' tk p rdX_bool
  | true => exact BoolOp_one (ey rfl _ (c.pr p) A _ E rm fun v h'' tk' p' rd' => h v h'' tk' (p.trans p') rd')
/-- a test that is an expression of none of the test's own kinds -/
def plainTest : PySem.Expr → Bool
  | .UnaryOp .Not _ _ | .BoolOp _ _ _ | .IfExp _ _ _ _ | .Compare _ _ _ _ => false
  | _ => true
theorem isTrue_plainTest {e : PySem.Expr} {whole : Sem Value} (h : plainTest e = true) : isTrue e env whole = (do let v ← whole; standAt e.pos; holding [v] (truthy v)) := by
  unfold plainTest at h
  split at h <;> first | cases h | skip
  cases e <;> first | rfl | (exfalso; rename_i h1 h2 h3 h4; first | exact h2 _ _ _ rfl | exact h3 _ _ _ _ rfl | exact h4 _ _ _ _ rfl) | skip
  rename_i op x pos h1 h2 h3 h4
  cases op <;> first | rfl | exact absurd rfl (h1 _ _)
theorem evt_bool {e : PySem.Expr} {b : Bool} (ee : EvP g n env X ρ e (.bool b)) (hp : plainTest e = true := by rfl) : EvT g n env X ρ e b := fun s c A Q E rm h =>
  isTrue_plain (ee s c A _ E rm fun v h' tk p rd => by cases rd.bool_inv; exact wpAny_truthy_bool (h h' tk p)) (isTrue_plainTest hp)
theorem evt_none {e : PySem.Expr} (ee : EvP g n env X ρ e .none) (hp : plainTest e = true := by rfl) : EvT g n env X ρ e false := fun s c A Q E rm h =>
  isTrue_plain (ee s c A _ E rm fun v h' tk p rd => by cases rd.none_inv; exact truthy_none (h h' tk p)) (isTrue_plainTest hp)
theorem evt_str {e : PySem.Expr} {x : Str} (ee : EvP g n env X ρ e (.str x)) (hl : x.length ≤ 16777216) (hp : plainTest e = true := by rfl) : EvT g n env X ρ e ((x.length : Int) != 0) := fun s c A Q E rm h =>
  isTrue_plain (ee s c A _ E rm fun v h' tk p rd => by obtain ⟨t, rfl⟩ := rd.str_inv; exact PySem.P.truthy_str (by omega) (h h' _ p)) (isTrue_plainTest hp)
theorem ev_neg {e : PySem.Expr} {pos : Pos} {i : Int} (ee : EvP g n env X ρ e (.int i)) : EvP g n env X ρ (.UnaryOp .USub e pos) (.int (-i)) := fun s c A Q E rm h =>
  UnaryOp_ (ee s c A _ E rm fun v h' tk p rd => by obtain ⟨t, rfl⟩ := rd.int_inv; exact PyProof.Rows.neg_int (h _ h' _ p rdX_int))

/-- the items of a list at a written or a reckoned place -/
theorem getItem_LsB {s : Shared} {v : Value} {l : List PyData} {k : Int} {u : Tok} {j : Nat} {d : PyData} (ls : LsB s.heap X v l) (hj : seqIndex? k l.length = some j) (hd : l[j]? = some d) (hlen : l.length ≤ 16777216) {A : Around} {Q E : Value → Shared → Prop}
    (h : ∀ x, RdX s.heap X x d → Q x s) : wpAny g.M A (getItem v (.int k u)) Q E s := by
  obtain ⟨a, vs, rfl, i, q⟩ := ls
  have hlen' : vs.toList.length = l.length := q.length
  have hsz : vs.size = l.length := by rw [← Array.length_toList]; exact hlen'
  obtain ⟨x, hx, rx⟩ := q.get hd
  have hx' : vs[j]? = some x := by rw [← Array.getElem?_toList]; exact hx
  have hjl : j < l.length := by
    by_cases hh : j < l.length
    · exact hh
    · rw [List.getElem?_eq_none (by omega)] at hd; cases hd
  unfold seqIndex? at hj
  by_cases hk : k < 0
  · simp only [hk, if_true] at hj
    split at hj
    · rename_i hc
      simp only [Bool.and_eq_true, decide_eq_true_eq] at hc
      have e : (k + (l.length : Int)).toNat = j := by simpa using hj
      refine wpAny_getItem_list_neg (x := x) i hk (by rw [hsz]; omega) (by omega) (by rw [hsz, e]; exact hx') (h x rx)
    · cases hj
  · simp only [hk, if_false] at hj
    split at hj
    · rename_i hc
      simp only [Bool.and_eq_true, decide_eq_true_eq] at hc
      have e : k.toNat = j := by simpa using hj
      exact wpAny_getItem_list (x := x) i (by omega) (by omega) (by rw [e]; exact hx') (h x rx)
    · cases hj
def plainIx : PySem.Expr → Bool
  | .Slice _ _ none _ => false
  | _ => true
theorem subscripted_plain {slice : PySem.Expr} {o i : Value} (h : plainIx slice = true) : subscripted slice false o i = operate [o, i] (getItem o i) := by
  cases slice <;> first | rfl | skip
  rename_i l u st p
  cases st with
  | none => cases h
  | some st => rfl
theorem ev_item {e i : PySem.Expr} {pos : Pos} {l : List PyData} {k : Int} {j : Nat} {d : PyData} (ee : EvL g n env X ρ e l) (ei : EvP g n env X ρ i (.int k)) (hj : seqIndex? k l.length = some j) (hd : l[j]? = some d) (hlen : l.length ≤ 16777216)
    (hp : plainIx i = true := by rfl) : EvP g n env X ρ (.Subscript e i pos) d := fun s c A Q E rm h =>
  Subscript_ (ee s c A _ E rm fun v h' tk p ls nt => ei { s with heap := h', toks := tk } (c.pr p) A _ E rm fun v' h'' tk' p' rd => by
    obtain ⟨u, rfl⟩ := rd.int_inv
    have ls' := ls.pr p' c.tX nt
    have ls0 := ls'
    obtain ⟨a, vs, rfl, il, q⟩ := ls0
    exact tail_any (Heap.IsList.typeIs (s := { s with heap := h'', toks := tk' }) il) slot_list_getitem.lookup (getItem_LsB ls' hj hd hlen fun x rx => h x h'' tk' (p.trans p') rx) (subscripted_plain hp))
theorem ev_itemS {e i : PySem.Expr} {pos : Pos} {x : Str} {k : Int} {ch : Nat} (ee : EvP g n env X ρ e (.str x)) (ei : EvP g n env X ρ i (.int k)) (hc : (seqIndex? k x.length).bind (x.cps[·]?) = some ch) (hk : -(2 ^ 63) ≤ k ∧ k < 2 ^ 63)
    (hp : plainIx i = true := by rfl) : EvP g n env X ρ (.Subscript e i pos) (.str ⟨#[ch]⟩) := fun s c A Q E rm h =>
  Subscript_ (ee s c A _ E rm fun v h' tk p rd0 => ei { s with heap := h', toks := tk } (c.pr p) A _ E rm fun v' h'' tk' p' rd => by
    obtain ⟨u, rfl⟩ := rd.int_inv
    obtain ⟨t, rfl⟩ := rd0.str_inv
    exact tail_any (PySem.typeIs_str { s with heap := h'', toks := tk' } x t) slot_str_getitem.lookup (PyProof.Rows.getItem_str (by simp only [Bool.or_eq_false_iff, decide_eq_false_iff_not]; omega) hc (h _ h'' _ (p.trans p') rdX_str)) (subscripted_plain hp))

/-- a slice's bound: none, or an int -/
def EvB (g : G) (n : Nat) (env : Env) (X : List Addr) (ρ : List (Str × Bnd)) : Option PySem.Expr → Option Int → Prop
  | none, none => True
  | some e, some k => EvP g n env X ρ e (.int k)
  | _, _ => False
theorem part_ok {b : Option PySem.Expr} {k : Option Int} (e : EvB g n env X ρ b k) {s : Shared} (c : Cx g env X ρ s.heap) {A : Around} {Q E : Value → Shared → Prop} (rm : Rm n A)
    (h : ∀ v h' tk, Pr g.T s.heap h' → IsPart v k → Q v { s with heap := h', toks := tk }) : wpAny g.M A (evalPart b env) Q E s := by
  cases b with
  | none => cases k with
    | none => exact wpAny_pure (h _ s.heap s.toks (Pr.refl _ _) .none)
    | some k => exact e.elim
  | some b => cases k with
    | none => exact e.elim
    | some k => exact e s c A Q E rm fun v h' tk p rd => by obtain ⟨t, rfl⟩ := rd.int_inv; exact h _ h' tk p (.int k t)
/-- the data that a slice picks -/
def pickD (l : List PyData) (lo hi : Option Int) : List PyData := (l.drop (lo.elim 0 (clipAt l.length))).take (hi.elim l.length (clipAt l.length) - lo.elim 0 (clipAt l.length))
theorem ev_slice {e : PySem.Expr} {lo hi : Option PySem.Expr} {pos p0 : Pos} {l : List PyData} {klo khi : Option Int} (ee : EvL g n env X ρ e l) (e1 : EvB g n env X ρ lo klo) (e2 : EvB g n env X ρ hi khi) (hlen : l.length ≤ 16777216) :
    EvP g n env X ρ (.Subscript e (.Slice lo hi none p0) pos) (.list (pickD l klo khi)) := fun s c A Q E rm h =>
  Subscript_ (ee s c A _ E rm fun v h' tk p ls nt => by
    refine wpAny_Slice (part_ok e1 (s := { s with heap := h', toks := tk }) (c.pr p) rm fun vl h2 tk2 p2 il => part_ok e2 (s := { s with heap := h2, toks := tk2 }) ((c.pr p).pr p2) rm fun vu h3 tk3 p3 iu => ?_)
    rw [evalPart_none]
    refine wpAny_pure ?_
    have ls' := ((ls.pr p2 c.tX nt).pr p3 c.tX nt)
    have cc := ((c.pr p).pr p2).pr p3
    have ls0 := ls'
    obtain ⟨a, vs, rfl, il', q⟩ := ls0
    have hsz : vs.size = l.length := by rw [← Array.length_toList]; exact q.length
    have hsz' : vs.size ≤ sizeLine := by rw [sizeLine_eq, hsz]; exact hlen
    refine tail_any (ops := [.ref h3.objs.size, .ref a]) (Heap.IsList.typeIs (s := { s with heap := h3.push { cls := .type "slice", data := .fields #[vl, vu, .none] }, toks := tk3 }) (il'.push _)) slot_list_getitem.lookup
      (wpAny_getItem_list_slice (s := { s with heap := h3.push { cls := .type "slice", data := .fields #[vl, vu, .none] }, toks := tk3 }) (il'.push _) (Heap.IsSliceOf.new ..) il iu .none (by simp) ?_ hsz') rfl
    refine h _ _ _ (((p.trans p2).trans p3).trans ((Pr.push _ _ _).trans (Pr.push _ _ _))) ?_
    have hx1 : ∀ x ∈ X, ((h3.push { cls := .type "slice", data := .fields #[vl, vu, .none] } : Heap).get? x).isSome = true := fun x m => (Pr.push X h3 _).2 x (cc.xIn x m)
    have q1 : RdsX (h3.push { cls := .type "slice", data := .fields #[vl, vu, .none] }) X vs.toList l := q.pr (Pr.push _ _ _)
    have q2 := (q1.drop (klo.elim 0 (clipAt l.length))).take (khi.elim l.length (clipAt l.length) - klo.elim 0 (clipAt l.length))
    rw [slicePick_plain, hsz]
    exact rdX_newList hx1 q2)
end
theorem pickD_upto (l : List PyData) (b : Nat) : pickD l none (some (b : Int)) = l.take b := by
  simp only [pickD, Option.elim, clipAt_nat, List.drop_zero, Nat.sub_zero]
  rcases Nat.le_total b l.length with h | h
  · rw [Nat.min_eq_left h]
  · rw [Nat.min_eq_right h, List.take_of_length_le (Nat.le_refl _), List.take_of_length_le h]
theorem pickD_from (l : List PyData) (a : Nat) : pickD l (some (a : Int)) none = l.drop a := by
  simp only [pickD, Option.elim, clipAt_nat]
  rcases Nat.le_total a l.length with h | h
  · rw [Nat.min_eq_left h, List.take_of_length_le (by simp)]
  · rw [Nat.min_eq_right h, List.drop_of_length_le (Nat.le_refl _), List.drop_of_length_le h]; simp
theorem pickD_butLast (l : List PyData) (k : Nat) (hk : 1 ≤ k) : pickD l none (some (-(k : Int))) = l.take (l.length - k) := by
  simp only [pickD, Option.elim, clipAt_neg _ _ hk, List.drop_zero, Nat.sub_zero]
end Mine
end
section
open PySem PySem.W PyProof.Rows PySem.Calls PySem.Spec
set_option maxRecDepth 100000
set_option linter.unusedVariables false
namespace Mine

/-- what a global name stands for at the base -/
def Gv (g : G) (x : Str) (v : Value) : Prop := ∃ mg mb, g.B.Ns mainGlobals mg ∧ g.B.Ns builtinsNs mb ∧ (mg x = some v ∨ (mg x = none ∧ mb x = some v))

structure Hp (g : G) (X : List Addr) (h : Heap) : Prop where
  base : ∀ b o, g.B.get? b = some o → h.get? b = some o
  xB : ∀ a ∈ X, g.B.get? a = none
  xIn : ∀ a ∈ X, (h.get? a).isSome = true
  tX : ∀ t ∈ g.T, t ∈ X

section
variable {g : G} {n : Nat} {env : Env} {X : List Addr} {ρ : List (Str × Bnd)}
theorem Cx.hp {h : Heap} (c : Cx g env X ρ h) : Hp g X h := ⟨c.base, c.xB, c.xIn, c.tX⟩
theorem load_glob {s : Shared} {x : Str} {pos : Pos} {v : Value} (c : Cx g env X ρ s.heap) (hg : Gv g x v) (hk : env.kindOf x = some .globalImplicit) (hd : (x == ("__debug__" : Str)) = false) {A : Around} {Q E : Value → Shared → Prop} (h : Q v s) :
    wpAny g.M A (eval (.Name x pos) env) Q E s := by
  obtain ⟨mg, mb, n1, n2, e | ⟨e1, e2⟩⟩ := hg
  · refine Name_function_global c.kind hk (loadGlobal_global (mg := mg) ?_ e h) hd
    rw [c.glob]; exact n1.keeps c.base
  · refine Name_function_global c.kind hk (loadGlobal_builtin (mg := mg) (mb := mb) ?_ e1 ?_ e2 h) hd
    · rw [c.glob]; exact n1.keeps c.base
    · rw [c.bltn]; exact n2.keeps c.base
theorem ev_gstr {x : Str} {pos : Pos} {y : Str} {t : Tok} (hg : Gv g x (.str y t)) (hk : env.kindOf x = some .globalImplicit := by rfl) (hd : (x == ("__debug__" : Str)) = false := by decide) : EvP g n env X ρ (.Name x pos) (.str y) := fun s c A Q E rm h =>
  load_glob c hg hk hd (h _ s.heap s.toks (Pr.refl _ _) rdX_str)

theorem backTo_any {pos : Pos} : ∀ {es : List PySem.Expr}, es.all noStar = true → (backTo pos (starEach es env)).any (·.1) = false
  | [], _ => rfl
  | e :: es, h => by
    have h' : noStar e = true ∧ es.all noStar = true := by simpa using h
    rw [starEach_plain h'.1]
    show (false || (backTo pos (starEach es env)).any (·.1)) = false
    rw [backTo_any h'.2]; rfl
theorem args_ok {pos : Pos} {f : Value} {es : List PySem.Expr} {ds : List PyData} (hn : es.all noStar = true) (r : EvS g n env X ρ es ds) {s : Shared} (c : Cx g env X ρ s.heap) {A : Around} {Q : Args → Shared → Prop} {E : Value → Shared → Prop} (rm : Rm n A)
    (h : ∀ vs h' tk, Pr g.T s.heap h' → RdsX h' X vs ds → Q ⟨vs, []⟩ { s with heap := h', toks := tk }) : wpAny g.M A (evalArgs f true (backTo pos (starEach es env)) []) Q E s := by
  cases es with
  | nil => cases ds with
    | nil => exact PyProof.Rows.evalArgs_none (h [] s.heap s.toks (Pr.refl _ _) trivial)
    | cons => exact r.elim
  | cons e es =>
    have h' : noStar e = true ∧ es.all noStar = true := by simpa using hn
    have := spliced_ok (pos := pos) hn r s c A (fun vs s' => Q ⟨vs, []⟩ s') E rm fun vs h' tk p rds _ => h vs h' tk p rds
    rw [starEach_plain h'.1] at this ⊢
    exact evalArgs_plain this
/-- a builtin function, its arguments data -/
def BltOK (g : G) (n : Nat) (X : List Addr) (id : String) (ds : List PyData) (d : PyData) : Prop :=
  ∀ s vs, (∀ x ∈ X, (s.heap.get? x).isSome = true) → RdsX s.heap X vs ds → Cp g n X (call (.builtin id) vs) d s
theorem ev_callB {f : Str} {p pos : Pos} {es : List PySem.Expr} {id : String} {ds : List PyData} {d : PyData} (hg : Gv g f (.builtin id)) (ea : EvS g n env X ρ es ds) (hb : BltOK g n X id ds d)
    (hk : env.kindOf f = some .globalImplicit := by rfl) (hd : (f == ("__debug__" : Str)) = false := by decide) (hn : es.all noStar = true := by rfl) : EvP g n env X ρ (.Call (.Name f p) es [] pos) d := fun s c A Q E rm h =>
  Call_ (load_glob c hg hk hd (callWith_builtin (backTo_any hn) (args_ok hn ea c rm fun vs h' tk p rds =>
    hb { s with heap := h', toks := tk } vs (c.pr p).xIn rds A Q E rm fun v h'' tk' p' rd => h v h'' tk' (p.trans p') rd)))
/-- a method of a text -/
theorem ev_methS {o : PySem.Expr} {name : Str} {apos pos : Pos} {es : List PySem.Expr} {pl : Sem Bool} {x : Str} {id : String} {ds : List PyData} {d : PyData} (eo : EvP g n env X ρ o (.str x))
    (gm : ∀ (t : Tok) (s : Shared) (A : Around) (Q : Value × List Value → Shared → Prop) (E : Value → Shared → Prop), Q (.builtin id, [.str x t]) s → wpAny g.M A (getMethod (.str x t) name pl) Q E s)
    (ea : EvS g n env X ρ es ds) (hb : ∀ t s vs, (∀ x ∈ X, (s.heap.get? x).isSome = true) → RdsX s.heap X vs ds → Cp g n X (call (.builtin id) (.str x t :: vs)) d s)
    (he : eval (.Call (.Attribute o name apos) es [] pos) env = (do
      let ov ← eval o env
      standAt apos.atName
      let (f, first) ← holding [ov] (getMethod ov name pl)
      callWith pos f first (backTo pos (starEach es env)) []) := by rfl) (hn : es.all noStar = true := by rfl) : EvP g n env X ρ (.Call (.Attribute o name apos) es [] pos) d := fun s c A Q E rm h =>
  MethodCall_ (eo s c A _ E rm fun v h' tk p rd => by
    obtain ⟨t, rfl⟩ := rd.str_inv
    refine gm t _ A _ E (callWith_builtin (backTo_any hn) (args_ok hn ea (s := { s with heap := h', toks := tk }) (c.pr p) rm fun vs h2 tk2 p2 rds => ?_))
    exact hb t { s with heap := h2, toks := tk2 } vs ((c.pr p).pr p2).xIn rds A Q E rm fun v h3 tk3 p3 rd3 => h v h3 tk3 ((p.trans p2).trans p3) rd3) he

/-- a def of the text: what it hands back -/
def CallOK (g : G) (n : Nat) (f : Addr) (ds : List PyData) (d : PyData) : Prop := ∀ X s vs, Hp g X s.heap → RdsX s.heap X vs ds → Cp g n X (call (.ref f) vs) d s
theorem ev_callF {m : Nat} {nm : Str} {p pos : Pos} {es : List PySem.Expr} {f : Addr} {o : Obj} {fd : FuncData} {ds : List PyData} {d : PyData} (hg : Gv g nm (.ref f)) (ho : g.B.get? f = some o) (hfd : o.data = .func fd) (ea : EvS g n env X ρ es ds) (hc : CallOK g m f ds d) (hm : m ≤ n)
    (hk : env.kindOf nm = some .globalImplicit := by rfl) (hd : (nm == ("__debug__" : Str)) = false := by decide) (hn : es.all noStar = true := by rfl) : EvP g n env X ρ (.Call (.Name nm p) es [] pos) d := fun s c A Q E rm h =>
  Call_ (load_glob c hg hk hd (callWith_function (o := o) (fd := fd) (args_ok hn ea c rm fun vs h' tk p rds => ⟨⟨(c.pr p).base _ _ ho, hfd⟩,
    hc X { s with heap := h', toks := tk } vs (c.pr p).hp rds A Q E (rm.mono hm) fun v h'' tk' p' rd => h v h'' tk' (p.trans p') rd⟩)))

theorem RdsX.one {h : Heap} {vs : List Value} {d : PyData} (r : RdsX h X vs [d]) : ∃ v, vs = [v] ∧ RdX h X v d := by
  cases vs with
  | nil => exact r.elim
  | cons v vs => cases vs with
    | nil => exact ⟨v, rfl, r.1⟩
    | cons => exact r.2.elim
theorem RdsX.two {h : Heap} {vs : List Value} {d e : PyData} (r : RdsX h X vs [d, e]) : ∃ v u, vs = [v, u] ∧ RdX h X v d ∧ RdX h X u e := by
  cases vs with
  | nil => exact r.elim
  | cons v vs => obtain ⟨u, rfl, q⟩ := RdsX.one r.2; exact ⟨v, u, rfl, r.1, q⟩
theorem RdsX.three {h : Heap} {vs : List Value} {d e f : PyData} (r : RdsX h X vs [d, e, f]) : ∃ v u w, vs = [v, u, w] ∧ RdX h X v d ∧ RdX h X u e ∧ RdX h X w f := by
  cases vs with
  | nil => exact r.elim
  | cons v vs => obtain ⟨u, w, rfl, q, q'⟩ := RdsX.two r.2; exact ⟨v, u, w, rfl, r.1, q, q'⟩

theorem blt_len_str {x : Str} (hl : x.length ≤ 16777216) : BltOK g n X "len" [.str x] (.int x.length) := fun s vs _ r A Q E rm h => by
  obtain ⟨v, rfl, rd⟩ := r.one
  obtain ⟨t, rfl⟩ := rd.str_inv
  exact PyProof.Rows.len_str (by omega) (h _ s.heap _ (Pr.refl _ _) rdX_int)
theorem ev_len_list {f : Str} {p pos : Pos} {e : PySem.Expr} {l : List PyData} (hg : Gv g f (.builtin "len")) (ee : EvL g n env X ρ e l) (hl : l.length ≤ 16777216)
    (hk : env.kindOf f = some .globalImplicit := by rfl) (hd : (f == ("__debug__" : Str)) = false := by decide) (hn : noStar e = true := by rfl) : EvP g n env X ρ (.Call (.Name f p) [e] [] pos) (.int l.length) := fun s c A Q E rm h => by
  refine Call_ (load_glob c hg hk hd (callWith_builtin (backTo_any (by simpa using hn)) ?_))
  rw [starEach_plain hn]
  refine evalArgs_plain (spliced_cons (ee s c A _ E rm fun v h' tk p ls nt => spliced_nil ?_))
  obtain ⟨a, vs, rfl, i, q⟩ := ls
  have hsz : vs.size = l.length := by rw [← Array.length_toList]; exact q.length
  refine call_len_list i (by omega) ?_
  rw [hsz]
  exact h _ h' _ p rdX_int
theorem blt_len_tuple {l : List PyData} (hl : l.length ≤ 16777216) : BltOK g n X "len" [.tuple l] (.int l.length) := fun s vs _ r A Q E rm h => by
  obtain ⟨v, rfl, rd⟩ := r.one
  obtain ⟨a, us, rfl, _, it, q⟩ := rd.tuple_inv
  have hsz : us.size = l.length := by rw [← Array.length_toList]; exact q.length
  refine PyProof.Rows.len_tuple it (by omega) ?_
  rw [hsz]
  exact h _ s.heap _ (Pr.refl _ _) rdX_int

theorem cp_lower {x : Str} {t : Tok} {s : Shared} (hl : Builtin.Str.tooLong (Txt.lower x).length = false) : Cp g n X (call (.builtin "str.lower") [.str x t]) (.str (Txt.lower x)) s := fun A Q E rm h =>
  SC.lower hl (h _ s.heap _ (Pr.refl _ _) rdX_str)
end
end Mine
end
section
open PySem PySem.W PyProof.Rows PySem.Calls PySem.Spec PySem.Builtin PySem.Builtin.Str
set_option maxRecDepth 100000
set_option linter.unusedVariables false
namespace Mine
theorem gives_find4 (x y : Str) (i j : Int) (t u v v' : Tok) : Gives («str.find» ⟨[.str x t, .str y u, .int i v, .int j v'], []⟩) (.int (match occurrences x y (fromIndex x.length i) (min (fromIndex x.length j) x.length) 1 with | k :: _ => (k : Int) | [] => -1)) := by
  show Gives (match occurrences x y (fromIndex x.length i) (min (fromIndex x.length j) x.length) 1 with | k :: _ => retInt k | [] => (do rule "str.find.not-found"; retInt (-1))) _
  cases occurrences x y (fromIndex x.length i) (min (fromIndex x.length j) x.length) 1 with
  | nil => exact .rule (.of_eq rfl)
  | cons k _ => exact .of_eq rfl
def find4 (x y : Str) (i j : Int) : Int := match occurrences x y (fromIndex x.length i) (min (fromIndex x.length j) x.length) 1 with | k :: _ => (k : Int) | [] => -1

theorem split_raw {prog : Program} {w : World} {A : Around} {E : Value → Shared → Prop} {s : Shared} {x y : Str} {t u : Tok} {Q : Value → Shared → Prop} (hy : (y.length == 0) = false)
    (hq : ∀ l k, l.map (·.1) = Txt.split x y → Q (.ref s.heap.objs.size) { s with heap := s.heap.push { cls := .type "list", data := .seq (strValues l).toArray }, toks := k })
    (hsz : x.length ≤ sizeLine) (hsz2 : (partsBetween x (occurrences x y 0 x.length (x.length + 1)) y.length).length ≤ sizeLine) :
    wpAny (model prog w) A (call (.builtin "str.split") [.str x t, .str y u]) Q E s := by
  cases h1 : (decide (x.length < y.length) || decide (strKind x < strKind y))
  · cases hf : (occurrences x y 0 x.length (x.length + 1)).isEmpty
    · refine call_meets F.slot_str_split (typeIs_str _ _ _) F.entry_str_split (F.args_str_split_2 _ _) (meets_str_split_sep x y t u h1 hy hf hsz hsz2) ?_
      show wants Q E _ { s with toks := _, heap := s.heap.push { cls := .type "list", data := .seq (strsFrom s.toks (partsBetween x (occurrences x y 0 x.length (x.length + 1)) y.length)).toArray } }
      rw [strsFrom_eq]
      exact hq (numbered s.toks _) _ ((numbered_texts _ _).trans ((if_neg (ne_true_of_eq_false h1)).trans (if_neg (ne_true_of_eq_false hf))).symm)
    · exact call_meets F.slot_str_split (typeIs_str _ _ _) F.entry_str_split (F.args_str_split_2 _ _) (meets_str_split_not_found x y t u h1 hy hf)
        (hq [(x, t)] s.toks ((if_neg (ne_true_of_eq_false h1)).trans (if_pos hf)).symm)
  · exact call_meets F.slot_str_split (typeIs_str _ _ _) F.entry_str_split (F.args_str_split_2 _ _) (meets_str_split_cannot_occur x y t u h1)
      (hq [(x, t)] s.toks (if_pos h1).symm)

theorem rdsX_strs {h : Heap} {X : List Addr} : ∀ l : List (Str × Tok), RdsX h X (strValues l) ((l.map (·.1)).map PyData.str)
  | [] => trivial
  | (x, t) :: l => ⟨rdX_str, rdsX_strs l⟩
theorem RdsX.strs {h : Heap} {X : List Addr} : ∀ {vs : List Value} {ss : List Str}, RdsX h X vs (ss.map PyData.str) → ∃ l, vs = strValues l ∧ l.map (·.1) = ss
  | [], [], _ => ⟨[], rfl, rfl⟩
  | v :: vs, x :: ss, r => by
    obtain ⟨t, rfl⟩ := r.1.str_inv
    obtain ⟨l, rfl, e⟩ := RdsX.strs (vs := vs) (ss := ss) r.2
    exact ⟨(x, t) :: l, rfl, by simp [e]⟩

section
variable {g : G} {n : Nat} {env : Env} {X : List Addr} {ρ : List (Str × Bnd)}
theorem ev_lower {o : PySem.Expr} {apos pos : Pos} {pl : Sem Bool} {x : Str} (eo : EvP g n env X ρ o (.str x)) (hl : tooLong (Txt.lower x).length = false)
    (he : eval (.Call (.Attribute o "lower" apos) [] [] pos) env = (do
      let ov ← eval o env
      standAt apos.atName
      let (f, first) ← holding [ov] (getMethod ov "lower" pl)
      callWith pos f first (backTo pos (starEach [] env)) []) := by rfl) : EvP g n env X ρ (.Call (.Attribute o "lower" apos) [] [] pos) (.str (Txt.lower x)) :=
  ev_methS eo (fun t s A Q E h => PySem.GM.lower h) (ds := []) trivial (fun t s vs _ r => by cases vs with | nil => exact cp_lower hl | cons => exact r.elim) he
theorem ev_startswith {o e : PySem.Expr} {apos pos : Pos} {pl : Sem Bool} {x y : Str} (eo : EvP g n env X ρ o (.str x)) (ee : EvP g n env X ρ e (.str y))
    (he : eval (.Call (.Attribute o "startswith" apos) [e] [] pos) env = (do
      let ov ← eval o env
      standAt apos.atName
      let (f, first) ← holding [ov] (getMethod ov "startswith" pl)
      callWith pos f first (backTo pos (starEach [e] env)) []) := by rfl) (hn : noStar e = true := by rfl) : EvP g n env X ρ (.Call (.Attribute o "startswith" apos) [e] [] pos) (.bool (Txt.startswith x y)) :=
  ev_methS eo (fun t s A Q E h => PySem.GM.startswith h) (ds := [.str y]) ⟨ee, trivial⟩ (fun t s vs _ r A Q E rm h => by
    obtain ⟨v, rfl, rd⟩ := r.one; obtain ⟨u, rfl⟩ := rd.str_inv; exact SC.startswith (h _ s.heap s.toks (Pr.refl _ _) rdX_bool)) he (by simpa using hn)
theorem ev_endswith {o e : PySem.Expr} {apos pos : Pos} {pl : Sem Bool} {x y : Str} (eo : EvP g n env X ρ o (.str x)) (ee : EvP g n env X ρ e (.str y))
    (he : eval (.Call (.Attribute o "endswith" apos) [e] [] pos) env = (do
      let ov ← eval o env
      standAt apos.atName
      let (f, first) ← holding [ov] (getMethod ov "endswith" pl)
      callWith pos f first (backTo pos (starEach [e] env)) []) := by rfl) (hn : noStar e = true := by rfl) : EvP g n env X ρ (.Call (.Attribute o "endswith" apos) [e] [] pos) (.bool (Txt.endswith x y)) :=
  ev_methS eo (fun t s A Q E h => PySem.GM.endswith h) (ds := [.str y]) ⟨ee, trivial⟩ (fun t s vs _ r A Q E rm h => by
    obtain ⟨v, rfl, rd⟩ := r.one; obtain ⟨u, rfl⟩ := rd.str_inv; exact SC.endswith (h _ s.heap s.toks (Pr.refl _ _) rdX_bool)) he (by simpa using hn)
theorem ev_find4 {o e e1 e2 : PySem.Expr} {apos pos : Pos} {pl : Sem Bool} {x y : Str} {i j : Int} (eo : EvP g n env X ρ o (.str x)) (ee : EvP g n env X ρ e (.str y)) (ei : EvP g n env X ρ e1 (.int i)) (ej : EvP g n env X ρ e2 (.int j))
    (he : eval (.Call (.Attribute o "find" apos) [e, e1, e2] [] pos) env = (do
      let ov ← eval o env
      standAt apos.atName
      let (f, first) ← holding [ov] (getMethod ov "find" pl)
      callWith pos f first (backTo pos (starEach [e, e1, e2] env)) []) := by rfl) (hn : [e, e1, e2].all noStar = true := by rfl) : EvP g n env X ρ (.Call (.Attribute o "find" apos) [e, e1, e2] [] pos) (.int (find4 x y i j)) :=
  ev_methS eo (fun t s A Q E h => PySem.GM.find h) (ds := [.str y, .int i, .int j]) ⟨ee, ei, ej, trivial⟩ (fun t s vs _ r A Q E rm h => by
    obtain ⟨v, v1, v2, rfl, rd, r1, r2⟩ := r.three; obtain ⟨u, rfl⟩ := rd.str_inv; obtain ⟨u1, rfl⟩ := r1.int_inv; obtain ⟨u2, rfl⟩ := r2.int_inv
    exact call_gives F.slot_str_find (typeIs_str _ _ _) F.entry_str_find (F.args_str_find_4 _ _ _ _) (gives_find4 x y i j t u u1 u2) (h _ s.heap _ (Pr.refl _ _) rdX_int)) he hn
theorem ev_join {o e : PySem.Expr} {apos pos : Pos} {pl : Sem Bool} {x : Str} {ss : List Str} (eo : EvP g n env X ρ o (.str x)) (ee : EvP g n env X ρ e (.list (ss.map .str))) (hj : JoinOk x ss = true)
    (he : eval (.Call (.Attribute o "join" apos) [e] [] pos) env = (do
      let ov ← eval o env
      standAt apos.atName
      let (f, first) ← holding [ov] (getMethod ov "join" pl)
      callWith pos f first (backTo pos (starEach [e] env)) []) := by rfl) (hn : noStar e = true := by rfl) : EvP g n env X ρ (.Call (.Attribute o "join" apos) [e] [] pos) (.str (Txt.join x ss)) :=
  ev_methS eo (fun t s A Q E h => PySem.GM.join h) (ds := [.list (ss.map .str)]) ⟨ee, trivial⟩ (fun t s vs hx0 r A Q E rm h => by
    obtain ⟨v, rfl, rd⟩ := r.one
    obtain ⟨a, us, rfl, _, il, q⟩ := rd.list_inv
    obtain ⟨l, e, e2⟩ := q.strs
    have il' : s.heap.IsList a (strValues l).toArray := by rw [← e]; simpa using il
    exact SC.join il' e2 hj fun t' k => h _ s.heap _ (Pr.refl _ _) rdX_str) he (by simpa using hn)
theorem ev_partition {o e : PySem.Expr} {apos pos : Pos} {pl : Sem Bool} {x y : Str} (eo : EvP g n env X ρ o (.str x)) (ee : EvP g n env X ρ e (.str y)) (hy : (y.length == 0) = false) (hx : x.length ≤ 16777216)
    (he : eval (.Call (.Attribute o "partition" apos) [e] [] pos) env = (do
      let ov ← eval o env
      standAt apos.atName
      let (f, first) ← holding [ov] (getMethod ov "partition" pl)
      callWith pos f first (backTo pos (starEach [e] env)) []) := by rfl) (hn : noStar e = true := by rfl) :
    EvP g n env X ρ (.Call (.Attribute o "partition" apos) [e] [] pos) (.tuple [.str (Txt.partition x y).1, .str (Txt.partition x y).2.1, .str (Txt.partition x y).2.2]) :=
  ev_methS eo (fun t s A Q E h => PySem.GM.partition h) (ds := [.str y]) ⟨ee, trivial⟩ (fun t s vs hx0 r A Q E rm h => by
    obtain ⟨v, rfl, rd⟩ := r.one; obtain ⟨u, rfl⟩ := rd.str_inv
    refine call_meets F.slot_str_partition (typeIs_str _ _ _) F.entry_str_partition (F.args_str_partition_2 _ _) (meets_str_partition x y t u hy (by rw [sizeLine_eq]; exact hx)) ?_
    have h' := h
    unfold Txt.partition at h'
    revert h'
    cases occurrences x y 0 x.length 1 with
    | nil => intro h'; exact h' _ _ _ (Pr.push _ _ _) (rdX_newTuple (vs := [_, _, _]) hx0 ⟨rdX_str, rdX_str, rdX_str, trivial⟩)
    | cons i r => intro h'; exact h' _ _ _ (Pr.push _ _ _) (rdX_newTuple (vs := [_, _, _]) hx0 ⟨rdX_str, rdX_str, rdX_str, trivial⟩)) he (by simpa using hn)
end
end Mine
end
section
open PySem PySem.W PyProof.Rows PySem.Calls PySem.Spec
set_option maxRecDepth 100000
set_option linter.unusedVariables false
namespace Mine

def ownAddrs (ρ : List (Str × Bnd)) : List Addr := ρ.filterMap fun p => match p.2 with
  | .own a _ => some a
  | .tab a _ => some a
  | _ => none

/-- x comes to b -/
inductive Put (x : Str) (b : Bnd) : List (Str × Bnd) → List (Str × Bnd) → Prop
  | nil : Put x b [] [(x, b)]
  | here {c : Bnd} {r : List (Str × Bnd)} : Put x b ((x, c) :: r) ((x, b) :: r)
  | there {y : Str} {c : Bnd} {r r' : List (Str × Bnd)} : y ≠ x → Put x b r r' → Put x b ((y, c) :: r) ((y, c) :: r')

theorem Put.keys {x : Str} {b : Bnd} {ρ ρ' : List (Str × Bnd)} (p : Put x b ρ ρ') : ∀ y ∈ ρ'.map (·.1), y = x ∨ y ∈ ρ.map (·.1) := by
  induction p with
  | nil => intro y m; simp at m; exact .inl m
  | here => intro y m; simp only [List.map_cons, List.mem_cons] at m ⊢; rcases m with m | m; exact .inl m; exact .inr (.inr m)
  | there n p ih => intro y m; simp only [List.map_cons, List.mem_cons] at m ⊢; rcases m with m | m; exact .inr (.inl m); exact (ih y m).elim .inl fun q => .inr (.inr q)
theorem Put.uniq {x : Str} {b : Bnd} {ρ ρ' : List (Str × Bnd)} (p : Put x b ρ ρ') : (ρ.map (·.1)).Nodup → (ρ'.map (·.1)).Nodup := by
  induction p with
  | nil => intro _; simp
  | here => intro h; simpa using h
  | there n p ih =>
    intro h
    simp only [List.map_cons, List.nodup_cons] at h ⊢
    exact ⟨fun m => (p.keys _ m).elim n h.1, ih h.2⟩
theorem Put.mem {x : Str} {b : Bnd} {ρ ρ' : List (Str × Bnd)} (p : Put x b ρ ρ') : (ρ.map (·.1)).Nodup → ∀ y c, (y, c) ∈ ρ' → (y = x ∧ c = b) ∨ (y ≠ x ∧ (y, c) ∈ ρ) := by
  induction p with
  | nil => intro _ y c m; simp at m; exact .inl m
  | here =>
    intro h y c m
    simp only [List.map_cons, List.nodup_cons] at h
    rcases List.mem_cons.mp m with m | m
    · cases m; exact .inl ⟨rfl, rfl⟩
    · refine .inr ⟨fun e => h.1 (e ▸ List.mem_map_of_mem (f := (·.1)) m), .tail _ m⟩
  | there n p ih =>
    intro h y c m
    simp only [List.map_cons, List.nodup_cons] at h
    rcases List.mem_cons.mp m with m | m
    · cases m; exact .inr ⟨n, .head _⟩
    · rcases ih h.2 y c m with q | q
      · exact .inl q
      · exact .inr ⟨q.1, .tail _ q.2⟩
theorem Put.own_dat {x : Str} {d : PyData} {ρ ρ' : List (Str × Bnd)} (p : Put x (.dat d) ρ ρ') : (ownAddrs ρ').Sublist (ownAddrs ρ) := by
  induction p with
  | nil => exact .slnil
  | @here c r =>
    show (ownAddrs r).Sublist _
    cases c <;> first | exact List.Sublist.refl _ | exact List.Sublist.cons _ (List.Sublist.refl _)
  | @there y c r r' n p ih =>
    cases c <;> first | exact ih | exact List.Sublist.cons_cons _ ih
theorem Put.own_sub {x : Str} {b : Bnd} {ρ ρ' : List (Str × Bnd)} (p : Put x b ρ ρ') : ∀ a ∈ ownAddrs ρ', a ∈ ownAddrs ρ ∨ (∃ l, b = .own a l) ∨ ∃ l, b = .tab a l := by
  induction p with
  | nil =>
    intro a m
    cases b <;> simp [ownAddrs] at m
    · subst m; exact .inr (.inl ⟨_, rfl⟩)
    · subst m; exact .inr (.inr ⟨_, rfl⟩)
  | @here c r =>
    intro a m
    have sub : ∀ a, a ∈ ownAddrs r → a ∈ ownAddrs ((x, c) :: r) := fun a q => by cases c <;> first | exact q | exact .tail _ q
    cases b with
    | dat d => exact .inl (sub a m)
    | tabF l => exact .inl (sub a m)
    | val w => exact .inl (sub a m)
    | own b l =>
      rcases List.mem_cons.mp (show a ∈ b :: ownAddrs r from m) with m | m
      · subst m; exact .inr (.inl ⟨_, rfl⟩)
      · exact .inl (sub a m)
    | tab b l =>
      rcases List.mem_cons.mp (show a ∈ b :: ownAddrs r from m) with m | m
      · subst m; exact .inr (.inr ⟨_, rfl⟩)
      · exact .inl (sub a m)
  | @there y c r r' n p ih =>
    intro a m
    cases c with
    | dat d => exact ih a m
    | tabF l => exact ih a m
    | val w => exact ih a m
    | own b l =>
      rcases List.mem_cons.mp (show a ∈ b :: ownAddrs r' from m) with m | m
      · exact .inl (m ▸ .head _)
      · exact (ih a m).imp (fun q => .tail _ q) id
    | tab b l =>
      rcases List.mem_cons.mp (show a ∈ b :: ownAddrs r' from m) with m | m
      · exact .inl (m ▸ .head _)
      · exact (ih a m).imp (fun q => .tail _ q) id
/-- a new address -/
theorem Put.own_new {x : Str} {b : Bnd} {a : Addr} (hb : (∃ l, b = .own a l) ∨ ∃ l, b = .tab a l) {ρ ρ' : List (Str × Bnd)} (p : Put x b ρ ρ') (hn : a ∉ ownAddrs ρ) (h : (ownAddrs ρ).Nodup) : (ownAddrs ρ').Nodup := by
  have cons : ∀ r, ownAddrs ((x, b) :: r) = a :: ownAddrs r := fun r => by rcases hb with ⟨l, rfl⟩ | ⟨l, rfl⟩ <;> rfl
  induction p with
  | nil => rw [cons]; simp [ownAddrs]
  | @here c r =>
    rw [cons]
    have sub : (ownAddrs r).Sublist (ownAddrs ((x, c) :: r)) := by cases c <;> first | exact List.Sublist.refl _ | exact List.Sublist.cons _ (List.Sublist.refl _)
    exact List.nodup_cons.mpr ⟨fun m => hn (sub.subset m), h.sublist sub⟩
  | @there y c r r' n p ih =>
    cases c with
    | dat d => exact ih hn h
    | tabF l => exact ih hn h
    | val w => exact ih hn h
    | own e l =>
      have h' := List.nodup_cons.mp (show (e :: ownAddrs r).Nodup from h)
      have hn' : a ≠ e ∧ a ∉ ownAddrs r := by simpa using (show a ∉ e :: ownAddrs r from hn)
      refine List.nodup_cons.mpr ⟨fun m => ?_, ih hn'.2 h'.2⟩
      rcases p.own_sub _ m with q | ⟨l', q⟩ | ⟨l', q⟩
      · exact h'.1 q
      · rcases hb with ⟨l2, q2⟩ | ⟨l2, q2⟩ <;> (rw [q] at q2; cases q2); exact hn'.1 rfl
      · rcases hb with ⟨l2, q2⟩ | ⟨l2, q2⟩ <;> (rw [q] at q2; cases q2); exact hn'.1 rfl
    | tab e l =>
      have h' := List.nodup_cons.mp (show (e :: ownAddrs r).Nodup from h)
      have hn' : a ≠ e ∧ a ∉ ownAddrs r := by simpa using (show a ∉ e :: ownAddrs r from hn)
      refine List.nodup_cons.mpr ⟨fun m => ?_, ih hn'.2 h'.2⟩
      rcases p.own_sub _ m with q | ⟨l', q⟩ | ⟨l', q⟩
      · exact h'.1 q
      · rcases hb with ⟨l2, q2⟩ | ⟨l2, q2⟩ <;> (rw [q] at q2; cases q2); exact hn'.1 rfl
      · rcases hb with ⟨l2, q2⟩ | ⟨l2, q2⟩ <;> (rw [q] at q2; cases q2); exact hn'.1 rfl
/-- the same address, another content -/
theorem Put.own_same {x : Str} {a : Addr} {l l' : List PyData} {ρ ρ' : List (Str × Bnd)} (p : Put x (.own a l') ρ ρ') (u : (ρ.map (·.1)).Nodup) (m : (x, Bnd.own a l) ∈ ρ) : ownAddrs ρ' = ownAddrs ρ := by
  induction p with
  | nil => cases m
  | @here c r =>
    simp only [List.map_cons, List.nodup_cons] at u
    rcases List.mem_cons.mp m with m | m
    · cases m; rfl
    · exact absurd (List.mem_map_of_mem (f := (·.1)) m) u.1
  | @there y c r r' n p ih =>
    simp only [List.map_cons, List.nodup_cons] at u
    rcases List.mem_cons.mp m with m | m
    · cases m; exact absurd rfl n
    · have := ih u.2 m
      show List.filterMap _ (_ :: r') = List.filterMap _ (_ :: r)
      rw [List.filterMap_cons, List.filterMap_cons]
      have e : r'.filterMap _ = r.filterMap _ := this
      rw [e]
theorem Put.tab_same {x : Str} {a : Addr} {l l' : List PyData} {ρ ρ' : List (Str × Bnd)} (p : Put x (.tab a l') ρ ρ') (u : (ρ.map (·.1)).Nodup) (m : (x, Bnd.tab a l) ∈ ρ) : ownAddrs ρ' = ownAddrs ρ := by
  induction p with
  | nil => cases m
  | @here c r =>
    simp only [List.map_cons, List.nodup_cons] at u
    rcases List.mem_cons.mp m with m | m
    · cases m; rfl
    · exact absurd (List.mem_map_of_mem (f := (·.1)) m) u.1
  | @there y c r r' n p ih =>
    simp only [List.map_cons, List.nodup_cons] at u
    rcases List.mem_cons.mp m with m | m
    · cases m; exact absurd rfl n
    · have := ih u.2 m
      show List.filterMap _ (_ :: r') = List.filterMap _ (_ :: r)
      rw [List.filterMap_cons, List.filterMap_cons]
      have e : r'.filterMap _ = r.filterMap _ := this
      rw [e]
theorem own_one {a : Addr} : ∀ {ρ : List (Str × Bnd)}, (ownAddrs ρ).Nodup → ∀ {x y : Str} {b c : Bnd}, (x, b) ∈ ρ → (y, c) ∈ ρ → ((∃ l, b = .own a l) ∨ ∃ l, b = .tab a l) → ((∃ l, c = .own a l) ∨ ∃ l, c = .tab a l) → (x, b) = (y, c)
  | p :: ρ, h, x, y, b, c, m, m', hb, hc => by
    have at_mem : ∀ {z : Str} {e : Bnd}, (z, e) ∈ ρ → ((∃ l, e = .own a l) ∨ ∃ l, e = .tab a l) → a ∈ ownAddrs ρ := fun {z e} q r => List.mem_filterMap.mpr ⟨(z, e), q, by rcases r with ⟨l, rfl⟩ | ⟨l, rfl⟩ <;> rfl⟩
    have head : ∀ {z : Str} {e : Bnd}, ((∃ l, e = .own a l) ∨ ∃ l, e = .tab a l) → ownAddrs ((z, e) :: ρ) = a :: ownAddrs ρ := fun {z e} r => by rcases r with ⟨l, rfl⟩ | ⟨l, rfl⟩ <;> rfl
    rcases List.mem_cons.mp m with e | m <;> rcases List.mem_cons.mp m' with e' | m'
    · rw [e, e']
    · rw [← e, head hb] at h; exact absurd (at_mem m' hc) (List.nodup_cons.mp h).1
    · rw [← e', head hc] at h; exact absurd (at_mem m hb) (List.nodup_cons.mp h).1
    · have h' : (ownAddrs ρ).Nodup := by
        obtain ⟨z, e⟩ := p
        cases e <;> first | exact h | exact (List.nodup_cons.mp h).2
      exact own_one h' m m' hb hc

structure Fx (g : G) (M : List Addr) (h₀ : Heap) (env : Env) (X₀ X : List Addr) (ρ : List (Str × Bnd)) (h : Heap) : Prop where
  cx : Cx g env X ρ h
  uniq : (ρ.map (·.1)).Nodup
  dist : (ownAddrs ρ).Nodup
  old : Pr M h₀ h
  x0 : ∀ a ∈ X₀, a ∈ X
  xNew : ∀ a ∈ X, a ∈ X₀ ∨ h₀.get? a = none
  lNew : h₀.get? env.locals = none
  cNew : ∀ x c, env.cells.lookup x = some c → env.locals < c → h₀.get? c = none
  ownM : ∀ a ∈ ownAddrs ρ, a ∈ M ∨ h₀.get? a = none
  tM : ∀ t ∈ g.T, t ∈ M
  x0In : ∀ a ∈ X₀, (h₀.get? a).isSome = true
  b0 : ∀ b o, g.B.get? b = some o → h₀.get? b = some o

/-- what a statement may do to the heap -/
structure Gw (X : List Addr) (h : Heap) (X' : List Addr) (h' : Heap) : Prop where
  new : ∀ a ∈ X', a ∈ X ∨ h.get? a = none
  pr : Pr X h h'
theorem Gw.refl (X : List Addr) (h : Heap) : Gw X h X h := ⟨fun _ m => .inl m, Pr.refl _ _⟩
theorem Gw.of {X : List Addr} {h h' : Heap} (p : Pr X h h') : Gw X h X h' := ⟨fun _ m => .inl m, p⟩
theorem Gw.trans {X X' X'' : List Addr} {h h' h'' : Heap} (a : Gw X h X' h') (b : Gw X' h' X'' h'') : Gw X h X'' h'' where
  new := fun x m => (b.new x m).elim (fun q => a.new x q) fun q => .inr (by
    cases e : h.get? x with
    | none => rfl
    | some o => have := a.pr.2 x (by rw [e]; rfl); rw [q] at this; cases this)
  pr := ⟨fun c o e n => b.pr.1 c o (a.pr.1 c o e n) fun q => (a.new c q).elim n fun q' => (by rw [e] at q'; cases q'), fun c e => b.pr.2 c (a.pr.2 c e)⟩

inductive Fl where
  | nxt
  | ret (R : Heap → List Addr → Value → Prop)
def FlOK (h : Heap) (X₀ : List Addr) : Fl → Flow → Prop
  | .nxt, f => f = .next
  | .ret R, f => ∃ v, f = .ret v ∧ R h X₀ v

section
variable (g : G) (n : Nat) (M : List Addr) (h₀ : Heap) (env : Env) (X₀ : List Addr)
def WS (st : Stmt) (ρ : List (Str × Bnd)) (P : Fl → List (Str × Bnd) → Prop) : Prop :=
  ∀ s X, Fx g M h₀ env X₀ X ρ s.heap → ∀ (A : Around) (Q : Flow → Shared → Prop) (E : Value → Shared → Prop), Rm n A →
    (∀ f fl ρ' X' h' tk, P f ρ' → Fx g M h₀ env X₀ X' ρ' h' → FlOK h' X₀ f fl → Gw X s.heap X' h' → Q fl { s with heap := h', toks := tk }) → wpAny g.M A (exec st env) Q E s
def WSs (sts : List Stmt) (ρ : List (Str × Bnd)) (P : Fl → List (Str × Bnd) → Prop) : Prop :=
  ∀ s X, Fx g M h₀ env X₀ X ρ s.heap → ∀ (A : Around) (Q : Flow → Shared → Prop) (E : Value → Shared → Prop), Rm n A →
    (∀ f fl ρ' X' h' tk, P f ρ' → Fx g M h₀ env X₀ X' ρ' h' → FlOK h' X₀ f fl → Gw X s.heap X' h' → Q fl { s with heap := h', toks := tk }) → wpAny g.M A (execs sts env) Q E s
end

section
variable {g : G} {n : Nat} {M : List Addr} {h₀ : Heap} {env : Env} {X₀ X : List Addr} {ρ ρ' : List (Str × Bnd)} {P : Fl → List (Str × Bnd) → Prop}
theorem wss_nil (h : P .nxt ρ) : WSs g n M h₀ env X₀ [] ρ P := fun s X F A Q E rm k => wpAny_execs_nil (k .nxt .next ρ X s.heap s.toks h F rfl (Gw.refl _ _))
theorem wss_cons {st : Stmt} {rest : List Stmt} (h : WS g n M h₀ env X₀ st ρ (fun f ρ' => match f with | .nxt => WSs g n M h₀ env X₀ rest ρ' P | .ret R => P (.ret R) ρ')) : WSs g n M h₀ env X₀ (st :: rest) ρ P := fun s X F A Q E rm k => by
  refine wpAny_execs_cons (h s X F A _ E rm fun f fl ρ' X' h' tk hp F' ok gw => ?_)
  cases f with
  | nxt =>
    cases (show fl = .next from ok)
    exact hp { s with heap := h', toks := tk } X' F' A Q E rm fun f2 fl2 ρ2 X2 h2 tk2 hp2 F2 ok2 gw2 => k f2 fl2 ρ2 X2 h2 tk2 hp2 F2 ok2 (gw.trans gw2)
  | ret R =>
    obtain ⟨v, rfl, r⟩ := ok
    exact k (.ret R) (.ret v) ρ' X' h' tk hp F' ⟨v, rfl, r⟩ gw

theorem ns_some {h : Heap} {a : Addr} {m : Str → Option Value} (x : h.Ns a m) : (h.get? a).isSome = true := by obtain ⟨o, es, ep, ho, _⟩ := x; rw [ho]; rfl
theorem cell_some {h : Heap} {a : Addr} {v : Option Value} (x : h.IsCell a v) : (h.get? a).isSome = true := by obtain ⟨o, ho, _⟩ := x; rw [ho]; rfl
theorem ns_fun {h : Heap} {a : Addr} {m m' : Str → Option Value} (x : h.Ns a m) (y : h.Ns a m') : m = m' := by
  obtain ⟨o, es, ep, ho, hd, _, e⟩ := x
  obtain ⟨o', es', ep', ho', hd', _, e'⟩ := y
  rw [ho] at ho'; cases ho'
  rw [hd] at hd'; cases hd'
  funext z
  rw [← e, ← e']
theorem isList_ne_ns {h : Heap} {a b : Addr} {vs : Array Value} {m : Str → Option Value} (i : h.IsList a vs) (j : h.Ns b m) : a ≠ b := by
  rintro rfl
  obtain ⟨o, ho, _, k, hd⟩ := i
  obtain ⟨o', es, ep, ho', hd', _⟩ := j
  rw [ho] at ho'; cases ho'; rw [hd] at hd'; cases hd'
theorem isList_ne_cell {h : Heap} {a b : Addr} {vs : Array Value} {v : Option Value} (i : h.IsList a vs) (j : h.IsCell b v) : a ≠ b := by
  rintro rfl
  obtain ⟨o, ho, _, k, hd⟩ := i
  obtain ⟨o', ho', hd'⟩ := j
  rw [ho] at ho'; cases ho'; rw [hd] at hd'; cases hd'
theorem ns_ne_cell {h : Heap} {a b : Addr} {m : Str → Option Value} {v : Option Value} (i : h.Ns a m) (j : h.IsCell b v) : a ≠ b := by
  rintro rfl
  obtain ⟨o, es, ep, ho, hd, _⟩ := i
  obtain ⟨o', ho', hd'⟩ := j
  rw [ho] at ho'; cases ho'; rw [hd] at hd'; cases hd'
/-- a hidden object that is no list is turned -/
theorem LsP.set {h h' : Heap} {c a : Addr} {l : List PyData} (s : Heap.SameBut c h h') (m : c ∈ X) (x : (h'.get? c).isSome = true) (ne : a ≠ c) (r : LsP h X a l) : LsP h' X a l := by
  obtain ⟨vs, ⟨k, ho⟩, r⟩ := r
  exact ⟨vs, ⟨k, (s.2 a ne).trans ho⟩, r.pr (Pr.sameBut s m x)⟩
theorem BI.set {h h' : Heap} {c : Addr} {v : Value} (s : Heap.SameBut c h h') (m : c ∈ X) (x : (h'.get? c).isSome = true) (nl : ∀ a vs, h.IsList a vs → a ≠ c) : ∀ {b : Bnd}, BI g X h v b → BI g X h' v b := by
  have ls : ∀ {a l}, LsP h X a l → LsP h' X a l := fun {a l} r => by
    obtain ⟨vs, i, q⟩ := id r
    exact r.set s m x (nl _ _ i.isList)
  have tb : ∀ {v a l}, TabIs g h X v a l → TabIs g h' X v a l := fun {v a l} r => by
    obtain ⟨t, d, hs, tk, n, e, h1, h2, h3, h4, h5, h6⟩ := r
    exact ⟨t, d, hs, tk, n, e, (s.2 t fun q => h4 (q ▸ m)).trans h1, (s.2 d fun q => h5 (q ▸ m)).trans h2, ls h3, h4, h5, h6⟩
  intro b r
  cases b with
  | dat d => exact RdX.pr (Pr.sameBut s m x) r
  | own a l => exact ⟨r.1, ls r.2.1, r.2.2⟩
  | tab a l => exact ⟨tb r.1, r.2⟩
  | tabF l => obtain ⟨a, r, n⟩ := r; exact ⟨a, tb r, n⟩
  | val w => exact r

def Storable (env : Env) (x : Str) : Prop := env.kindOf x = some .local ∨ (env.kindOf x = some .cell ∧ ∃ c, env.cells.lookup x = some c ∧ env.locals < c)
/-- nothing but the frame's own names (and the tables) is turned -/
def PrL (g : G) (env : Env) (h h' : Heap) : Prop := ∃ Y, (∀ y ∈ Y, y = env.locals ∨ (∃ x, env.cells.lookup x = some y) ∨ y ∈ g.T) ∧ Pr Y h h'
theorem PrL.trans {h h' h'' : Heap} (a : PrL g env h h') (b : PrL g env h' h'') : PrL g env h h'' := by
  obtain ⟨Y, hy, p⟩ := a; obtain ⟨Z, hz, q⟩ := b
  exact ⟨Y ++ Z, fun y m => (List.mem_append.mp m).elim (hy y) (hz y), (p.mono fun _ m => List.mem_append_left _ m).trans (q.mono fun _ m => List.mem_append_right _ m)⟩
theorem PrL.of {h h' : Heap} (p : Pr g.T h h') : PrL g env h h' := ⟨g.T, fun _ m => .inr (.inr m), p⟩
theorem PrL.pr {h h' h1 : Heap} (a : PrL g env h h') (c : Cx g env X ρ h1) : Pr X h h' := by
  obtain ⟨Y, hy, p⟩ := a
  refine p.mono fun y m => ?_
  rcases hy y m with rfl | ⟨x, e⟩ | q
  · exact c.lX
  · exact (c.cl x y e).2.1
  · exact c.tX y q

theorem fx_store {x : Str} {v : Value} {b : Bnd} {s : Shared} (F : Fx g M h₀ env X₀ X ρ s.heap) (hk : Storable env x) (hb : BI g X s.heap v b) (hp : Put x b ρ ρ') (hd : (ownAddrs ρ').Nodup) (hm : ∀ a ∈ ownAddrs ρ', a ∈ M ∨ h₀.get? a = none)
    {A : Around} {Q : Unit → Shared → Prop} {E : Value → Shared → Prop} (k : ∀ h' tk, Fx g M h₀ env X₀ X ρ' h' → PrL g env s.heap h' → Q () { s with heap := h', toks := tk }) : wpAny g.M A (storeName env x v) Q E s := by
  have c := F.cx
  obtain ⟨m, hn⟩ := c.ns
  -- what a turn of one hidden address that is no list leaves
  have fin : ∀ h' cc, Heap.SameBut cc s.heap h' → cc ∈ X → (h'.get? cc).isSome = true → cc ∉ g.T → h₀.get? cc = none → (∀ a vs, s.heap.IsList a vs → a ≠ cc) → (∃ m, h'.Ns env.locals m) → (∀ y k, env.cells.lookup y = some k → ∃ v, h'.IsCell k v) →
      (∀ y v', (y, v') = (x, v) ∨ (y ≠ x ∧ Nm env s.heap y v') → Nm env h' y v') → Fx g M h₀ env X₀ X ρ' h' := by
    intro h' cc hs hcX hcx hcT hcN nl hns hcl hnm
    have pX : Pr X s.heap h' := Pr.sameBut hs hcX hcx
    refine ⟨⟨c.kind, c.glob, c.bltn, fun b o e => (hs.2 b fun q => ?_).trans (c.base b o e), c.xB, fun a ma => pX.2 a (c.xIn a ma), c.tX, hns, c.lX, c.lT, fun y k e => ⟨hcl y k e, (c.cl y k e).2⟩, fun y b' mb => ?_, c.ap⟩,
      hp.uniq F.uniq, hd, ⟨fun b o e nm => (hs.2 b fun q => ?_).trans (F.old.1 b o e nm), fun b e => pX.2 b (F.old.2 b e)⟩, F.x0, F.xNew, F.lNew, F.cNew, hm, F.tM, F.x0In, F.b0⟩
    · have := c.xB cc hcX; rw [← q, e] at this; cases this
    · rcases hp.mem F.uniq y b' mb with ⟨rfl, rfl⟩ | ⟨ny, mb⟩
      · exact ⟨v, hnm _ _ (.inl rfl), hb.set hs hcX hcx nl⟩
      · obtain ⟨v', a, r⟩ := c.vars y b' mb
        exact ⟨v', hnm _ _ (.inr ⟨ny, a⟩), r.set hs hcX hcx nl⟩
    · rw [q, hcN] at e; cases e
  rcases hk with hk | ⟨hk, hc⟩
  · refine wpAny_storeName_local hk hn (fun h' hn' hs => k h' _ (fin h' env.locals hs c.lX (ns_some hn') c.lT F.lNew (fun a vs i => isList_ne_ns i hn) ⟨_, hn'⟩ (fun y kk e => ?_) fun y v' hy => ?_) ⟨[env.locals], fun y m => .inl (by simpa using m), Pr.sameBut hs (by simp) (ns_some hn')⟩) (by rw [c.kind]; rfl)
    · obtain ⟨⟨vv, ic⟩, _⟩ := c.cl y kk e
      exact ⟨vv, ic.sameBut hs (ns_ne_cell hn ic).symm⟩
    · rcases hy with hy | ⟨ny, hy⟩
      · cases hy; exact .inl ⟨hk, _, hn', by simp⟩
      · rcases hy with ⟨ky, m', hm', e⟩ | ⟨ky, cc, e, ic⟩
        · refine .inl ⟨ky, _, hn', ?_⟩
          rw [if_neg ny, ns_fun hn hm']; exact e
        · exact .inr ⟨ky, cc, e, ic.sameBut hs (ns_ne_cell hn ic).symm⟩
  · obtain ⟨cc, hc, hlt⟩ := hc
    obtain ⟨⟨v₀, ic⟩, hcX, hcT⟩ := c.cl x cc hc
    refine wpAny_storeName_cell c.kind hk hc ic fun h' ic' hs => k h' s.toks (fin h' cc hs hcX (cell_some ic') hcT (F.cNew x cc hc hlt) (fun a vs i => isList_ne_cell i ic) ⟨m, hn.sameBut hs (ns_ne_cell hn ic)⟩ (fun y kk e => ?_) fun y v' hy => ?_) ⟨[cc], fun y m => .inr (.inl ⟨x, by simp at m; subst m; exact hc⟩), Pr.sameBut hs (by simp) (cell_some ic')⟩
    · by_cases q : kk = cc
      · exact ⟨some v, q ▸ ic'⟩
      · obtain ⟨⟨vv, ic2⟩, _⟩ := c.cl y kk e
        exact ⟨vv, ic2.sameBut hs q⟩
    · rcases hy with hy | ⟨ny, hy⟩
      · cases hy; exact .inr ⟨.inl hk, cc, hc, ic'⟩
      · rcases hy with ⟨ky, m', hm', e⟩ | ⟨ky, c2, e, ic2⟩
        · exact .inl ⟨ky, m', hm'.sameBut hs (ns_ne_cell hm' ic), e⟩
        · refine .inr ⟨ky, c2, e, ic2.sameBut hs fun q => ny (F.cx.ap y x cc (q ▸ e) hc)⟩

theorem Fx.pr {h h' : Heap} (F : Fx g M h₀ env X₀ X ρ h) (p : Pr g.T h h') : Fx g M h₀ env X₀ X ρ h' :=
  ⟨F.cx.pr p, F.uniq, F.dist, F.old.trans (p.mono F.tM), F.x0, F.xNew, F.lNew, F.cNew, F.ownM, F.tM, F.x0In, F.b0⟩
end
end Mine
end
section
open PySem PySem.W PyProof.Rows PySem.Calls PySem.Spec
set_option maxRecDepth 100000
set_option linter.unusedVariables false
namespace Mine
section
variable {g : G} {n : Nat} {M : List Addr} {h₀ : Heap} {env : Env} {X₀ X : List Addr} {ρ ρ' : List (Str × Bnd)} {P : Fl → List (Str × Bnd) → Prop}

theorem ws_mono {st : Stmt} {P' : Fl → List (Str × Bnd) → Prop} (h : WS g n M h₀ env X₀ st ρ P) (k : ∀ f ρ', P f ρ' → P' f ρ') : WS g n M h₀ env X₀ st ρ P' := fun s X F A Q E rm c =>
  h s X F A Q E rm fun f fl ρ' X' h' tk hp => c f fl ρ' X' h' tk (k f ρ' hp)
theorem wss_mono {sts : List Stmt} {P' : Fl → List (Str × Bnd) → Prop} (h : WSs g n M h₀ env X₀ sts ρ P) (k : ∀ f ρ', P f ρ' → P' f ρ') : WSs g n M h₀ env X₀ sts ρ P' := fun s X F A Q E rm c =>
  h s X F A Q E rm fun f fl ρ' X' h' tk hp => c f fl ρ' X' h' tk (k f ρ' hp)

/-- an own list is turned -/
theorem fx_core {x : Str} {a : Addr} {b b' : Bnd} {h h' : Heap} (F : Fx g M h₀ env X₀ X ρ h) (mem : (x, b) ∈ ρ) (hb : (∃ l, b = .own a l) ∨ ∃ l, b = .tab a l) (aX : a ∈ X) (aT : a ∉ g.T) (il : ∃ vs, h.IsList a vs) (hs : Heap.SameBut a h h') (hx : (h'.get? a).isSome = true)
    (hv : ∀ v, Nm env h x v → BI g X h v b → BI g X h' v b') (hp : Put x b' ρ ρ') (ho : ownAddrs ρ' = ownAddrs ρ) : Fx g M h₀ env X₀ X ρ' h' := by
  have c := F.cx
  obtain ⟨vs, il⟩ := il
  have am : a ∈ ownAddrs ρ := List.mem_filterMap.mpr ⟨(x, b), mem, by rcases hb with ⟨l, rfl⟩ | ⟨l, rfl⟩ <;> rfl⟩
  have pX : Pr X h h' := Pr.sameBut hs aX hx
  have nsne : ∀ {m}, h.Ns env.locals m → env.locals ≠ a := fun hn => (isList_ne_ns il hn).symm
  have clne : ∀ {k v}, h.IsCell k v → k ≠ a := fun ic => (isList_ne_cell il ic).symm
  have nmk : ∀ {y v}, Nm env h y v → Nm env h' y v := fun {y v} hy => by
    rcases hy with ⟨ky, m', hm', e⟩ | ⟨ky, cc, e, ic⟩
    · exact .inl ⟨ky, m', hm'.sameBut hs (nsne hm'), e⟩
    · exact .inr ⟨ky, cc, e, ic.sameBut hs (clne ic)⟩
  have new : a ∈ M ∨ h₀.get? a = none := F.ownM a am
  refine ⟨⟨c.kind, c.glob, c.bltn, fun b o e => (hs.2 b fun q => ?_).trans (c.base b o e), c.xB, fun a ma => pX.2 a (c.xIn a ma), c.tX, ?_, c.lX, c.lT, fun y k e => ⟨?_, (c.cl y k e).2⟩, fun y b2 mb => ?_, c.ap⟩,
    hp.uniq F.uniq, by rw [ho]; exact F.dist, ⟨fun b o e nm => (hs.2 b fun q => ?_).trans (F.old.1 b o e nm), fun b e => pX.2 b (F.old.2 b e)⟩, F.x0, F.xNew, F.lNew, F.cNew, by rw [ho]; exact F.ownM, F.tM, F.x0In, F.b0⟩
  · have := c.xB a aX; rw [← q, e] at this; cases this
  · obtain ⟨m, hn⟩ := c.ns; exact ⟨m, hn.sameBut hs (nsne hn)⟩
  · obtain ⟨⟨v, ic⟩, _⟩ := c.cl y k e; exact ⟨v, ic.sameBut hs (clne ic)⟩
  · rcases hp.mem F.uniq y b2 mb with ⟨rfl, rfl⟩ | ⟨ny, mb⟩
    · obtain ⟨v, nv, bi⟩ := c.vars _ _ mem
      exact ⟨v, nmk nv, hv v nv bi⟩
    · obtain ⟨v, nv, bi⟩ := c.vars _ _ mb
      refine ⟨v, nmk nv, ?_⟩
      have lsk : ∀ {a' l}, a' ≠ a → LsP h X a' l → LsP h' X a' l := fun ne r => r.set hs aX hx ne
      have tbk : ∀ {v a' l}, a' ≠ a → TabIs g h X v a' l → TabIs g h' X v a' l := fun {v a' l} ne r => by
        obtain ⟨t, d, hsh, tk, n, e, h1, h2, h3, h4, h5, h6⟩ := r
        exact ⟨t, d, hsh, tk, n, e, (hs.2 t fun q => h4 (q ▸ aX)).trans h1, (hs.2 d fun q => h5 (q ▸ aX)).trans h2, lsk ne h3, h4, h5, h6⟩
      cases b2 with
      | dat d => exact RdX.pr pX bi
      | own a' l =>
        refine ⟨bi.1, lsk (fun q => ?_) bi.2.1, bi.2.2⟩
        subst q
        have := own_one F.dist mb mem (.inl ⟨_, rfl⟩) hb
        exact ny (Prod.mk.inj this).1
      | tab a' l =>
        refine ⟨tbk (fun q => ?_) bi.1, bi.2⟩
        subst q
        have := own_one F.dist mb mem (.inr ⟨_, rfl⟩) hb
        exact ny (Prod.mk.inj this).1
      | tabF l =>
        obtain ⟨a', r, na⟩ := bi
        exact ⟨a', tbk (fun q => na (q ▸ aX)) r, na⟩
      | val w => exact bi
  · exact new.elim (fun q' => nm (q ▸ q')) fun q' => by rw [q, q'] at e; cases e
theorem lsP_some {h : Heap} {a : Addr} {l : List PyData} (x : LsP h X a l) : (h.get? a).isSome = true := by obtain ⟨vs, ⟨n, ho⟩, _⟩ := x; rw [ho]; rfl
theorem fx_own {x : Str} {a : Addr} {l l' : List PyData} {h h' : Heap} (F : Fx g M h₀ env X₀ X ρ h) (mem : (x, Bnd.own a l) ∈ ρ) (hs : Heap.SameBut a h h') (hl : LsP h' X a l') (hp : Put x (.own a l') ρ ρ') : Fx g M h₀ env X₀ X ρ' h' ∧ Gw X h X h' := by
  obtain ⟨v, nv, rfl, ls, aT, aX⟩ := F.cx.vars _ _ mem
  obtain ⟨vs, i, _⟩ := id ls
  exact ⟨fx_core F mem (.inl ⟨_, rfl⟩) aX aT ⟨vs, i.isList⟩ hs (lsP_some hl) (fun v nv bi => (show BI g X h' v (.own a l') from ⟨bi.1, hl, bi.2.2⟩)) hp (hp.own_same F.uniq mem), Gw.of (Pr.sameBut hs aX (lsP_some hl))⟩
theorem fx_tab {x : Str} {a : Addr} {l l' : List PyData} {h h' : Heap} (F : Fx g M h₀ env X₀ X ρ h) (mem : (x, Bnd.tab a l) ∈ ρ) (hs : Heap.SameBut a h h') (hl : LsP h' X a l') (hp : Put x (.tab a l') ρ ρ') : Fx g M h₀ env X₀ X ρ' h' ∧ Gw X h X h' := by
  obtain ⟨v, nv, tb, aX⟩ := F.cx.vars _ _ mem
  obtain ⟨t, d, hsh, tk, k, e, h1, h2, h3, h4, h5, aT⟩ := id tb
  obtain ⟨vs, i, _⟩ := id h3
  refine ⟨fx_core F mem (.inr ⟨_, rfl⟩) aX aT ⟨vs, i.isList⟩ hs (lsP_some hl) (fun v nv bi => ?_) hp (hp.tab_same F.uniq mem), Gw.of (Pr.sameBut hs aX (lsP_some hl))⟩
  obtain ⟨⟨t, d, hsh, tk, k, e, h1, h2, h3, h4, h5, aT⟩, aX⟩ := bi
  exact ⟨⟨t, d, hsh, tk, k, e, (hs.2 t fun q => h4 (q ▸ aX)).trans h1, (hs.2 d fun q => h5 (q ▸ aX)).trans h2, hl, h4, h5, aT⟩, aX⟩

/-- x = e -/
theorem ws_assign {x : Str} {pos' pos : Pos} {value : PySem.Expr} {d : PyData} (ev : ∀ X, EvP g n env X ρ value d) (hk : Storable env x) (hp : Put x (.dat d) ρ ρ') (k : P .nxt ρ')
    (hs : swapsWith value (some (.Name x pos')) pos.line env = pure false := by rfl) : WS g n M h₀ env X₀ (.Assign [.Name x pos'] value pos) ρ P := fun s X F A Q E rm c =>
  wpAny_Assign_Name (ev X s F.cx A _ E rm fun v h' tk p rd =>
    fx_store (b := .dat _) (s := { s with heap := h', toks := tk }) (F.pr p) hk rd hp (F.dist.sublist hp.own_dat) (fun a m => F.ownM a (hp.own_dat.subset m)) fun h2 tk2 F2 p2 =>
      c .nxt .next ρ' X h2 tk2 k F2 rfl (Gw.of ((p.mono F.cx.tX).trans (p2.pr F.cx)))) hs
/-- x += e, x -= e over ints -/
theorem ws_iadd {x : Str} {pos' pos : Pos} {value : PySem.Expr} {a b : Int} (m : (x, Bnd.dat (.int a)) ∈ ρ) (ev : ∀ X, EvP g n env X ρ value (.int b)) (hk : Storable env x) (hp : Put x (.dat (.int (a + b))) ρ ρ') (k : P .nxt ρ')
    (h2 : (x == ("__classdict__" : Str)) = false := by decide) : WS g n M h₀ env X₀ (.AugAssign (.Name x pos') .Add value pos) ρ P := fun s X F A Q E rm c => by
  obtain ⟨v, nv, rd⟩ := F.cx.vars _ _ m
  obtain ⟨t, rfl⟩ := RdX.int_inv rd
  refine wpAny_AugAssign_Name (load_name F.cx nv (ev X s F.cx A _ E rm fun v h' tk p rd => ?_) h2)
  obtain ⟨u, rfl⟩ := rd.int_inv
  refine PyProof.Rows.iadd_int ?_
  exact fx_store (b := .dat _) (s := { s with heap := h', toks := tk + 1 }) (F.pr p) hk rdX_int hp (F.dist.sublist hp.own_dat) (fun a m => F.ownM a (hp.own_dat.subset m)) fun h2 tk2 F2 p2 =>
      c .nxt .next ρ' X h2 tk2 k F2 rfl (Gw.of ((p.mono F.cx.tX).trans (p2.pr F.cx)))
theorem ws_isub {x : Str} {pos' pos : Pos} {value : PySem.Expr} {a b : Int} (m : (x, Bnd.dat (.int a)) ∈ ρ) (ev : ∀ X, EvP g n env X ρ value (.int b)) (hk : Storable env x) (hp : Put x (.dat (.int (a - b))) ρ ρ') (k : P .nxt ρ')
    (h2 : (x == ("__classdict__" : Str)) = false := by decide) : WS g n M h₀ env X₀ (.AugAssign (.Name x pos') .Sub value pos) ρ P := fun s X F A Q E rm c => by
  obtain ⟨v, nv, rd⟩ := F.cx.vars _ _ m
  obtain ⟨t, rfl⟩ := RdX.int_inv rd
  refine wpAny_AugAssign_Name (load_name F.cx nv (ev X s F.cx A _ E rm fun v h' tk p rd => ?_) h2)
  obtain ⟨u, rfl⟩ := rd.int_inv
  refine PyProof.Rows.isub_int ?_
  exact fx_store (b := .dat _) (s := { s with heap := h', toks := tk + 1 }) (F.pr p) hk rdX_int hp (F.dist.sublist hp.own_dat) (fun a m => F.ownM a (hp.own_dat.subset m)) fun h2 tk2 F2 p2 =>
      c .nxt .next ρ' X h2 tk2 k F2 rfl (Gw.of ((p.mono F.cx.tX).trans (p2.pr F.cx)))
theorem ws_if {t : PySem.Expr} {b o : List Stmt} {pos : Pos} {q : Bool} (et : ∀ X, EvT g n env X ρ t q) (h1 : q = true → WSs g n M h₀ env X₀ b ρ P) (h2 : q = false → WSs g n M h₀ env X₀ o ρ P) : WS g n M h₀ env X₀ (.If t b o pos) ρ P := fun s X F A Q E rm c => by
  refine wpAny_If (et X s F.cx A _ E rm fun h' tk p => ?_)
  have gw : Gw X s.heap X h' := Gw.of (p.mono F.cx.tX)
  cases q with
  | true => exact h1 rfl { s with heap := h', toks := tk } X (F.pr p) A Q E rm fun f fl ρ' X' h2 tk2 hp F2 ok gw2 => c f fl ρ' X' h2 tk2 hp F2 ok (gw.trans gw2)
  | false => exact h2 rfl { s with heap := h', toks := tk } X (F.pr p) A Q E rm fun f fl ρ' X' h2 tk2 hp F2 ok gw2 => c f fl ρ' X' h2 tk2 hp F2 ok (gw.trans gw2)
theorem ws_assert {t : PySem.Expr} {msg : Option PySem.Expr} {pos : Pos} (et : ∀ X, EvT g n env X ρ t true) (k : P .nxt ρ) : WS g n M h₀ env X₀ (.Assert t msg pos) ρ P := fun s X F A Q E rm c =>
  wpAny_Assert_holds (et X s F.cx A _ E rm fun h' tk p => ⟨rfl, c .nxt .next ρ X h' tk k (F.pr p) rfl (Gw.of (p.mono F.cx.tX))⟩)
theorem ws_pass {pos : Pos} (k : P .nxt ρ) : WS g n M h₀ env X₀ (.Pass pos) ρ P := fun s X F A Q E rm c => wpAny_Pass (c .nxt .next ρ X s.heap s.toks k F rfl (Gw.refl _ _))
/-- return of data: nothing is hidden any more but what was -/
theorem ws_return {e : PySem.Expr} {pos : Pos} {d : PyData} (ev : ∀ X, EvP g n env X ρ e d) (k : P (.ret fun h X v => RdX h X v d) ρ) : WS g n M h₀ env X₀ (.Return (some e) pos) ρ P := fun s X F A Q E rm c =>
  wpAny_Return_some (ev X s F.cx A _ E rm fun v h' tk p rd => c (.ret fun h X v => RdX h X v d) (.ret v) ρ X h' tk k (F.pr p) ⟨v, rfl, rd.less F.x0⟩ (Gw.of (p.mono F.cx.tX)))
/-- return x of an own list -/
theorem RdX.of_own {h : Heap} {a : Addr} {l : List PyData} (ls : LsP h X a l) (sub : ∀ b ∈ X₀, b ∈ X) (na : a ∉ X₀) : RdX h X₀ (.ref a) (.list l) := by
  obtain ⟨vs, i, q⟩ := ls
  exact rdX_list na i.isList (q.less sub)
theorem ws_return_own {x : Str} {pos pos' : Pos} {a : Addr} {l : List PyData} (m : (x, Bnd.own a l) ∈ ρ) (hM : M = g.T) (k : P (.ret fun h X v => RdX h X v (.list l)) ρ) (h1 : (x == ("__debug__" : Str)) = false := by decide) (h2 : (x == ("__classdict__" : Str)) = false := by decide) :
    WS g n M h₀ env X₀ (.Return (some (.Name x pos')) pos) ρ P := fun s X F A Q E rm c => by
  obtain ⟨v, nv, rfl, ls, aT, aX⟩ := F.cx.vars _ _ m
  have am : a ∈ ownAddrs ρ := List.mem_filterMap.mpr ⟨(x, .own a l), m, rfl⟩
  refine wpAny_Return_some (wpAny_Name (load_name F.cx nv (c _ (.ret (.ref a)) ρ X s.heap s.toks k F ⟨_, rfl, RdX.of_own ls F.x0 fun q => ?_⟩ (Gw.refl _ _)) h2) h1)
  subst hM
  rcases F.ownM a am with q' | q'
  · exact aT q'
  · have := F.x0In a q; rw [q'] at this; cases this
end
end Mine
end
section
open PySem PySem.W PyProof.Rows PySem.Calls PySem.Spec
set_option maxRecDepth 100000
set_option linter.unusedVariables false
namespace Mine

mutual
theorem readsD {h h' : Heap} (hk : ∀ b o, h.get? b = some o → (∀ fs, o.data ≠ .fields fs) → h'.get? b = some o) : ∀ {v : Value} {d : PyData} {as : List Addr}, Reads h v d as → Reads h' v d as
  | _, _, _, .none => .none
  | _, _, _, .bool b => .bool b
  | _, _, _, .int i t => .int i t
  | _, _, _, .str x t => .str x t
  | _, _, _, .list h1 h2 h3 h4 => .list (hk _ _ h1 fun fs q => by rw [h3] at q; cases q) h2 h3 (readsAllD hk h4)
  | _, _, _, .tuple h1 h2 h3 h4 => .tuple (hk _ _ h1 fun fs q => by rw [h3] at q; cases q) h2 h3 (readsAllD hk h4)
  | _, _, _, .dict h1 h2 h3 h4 h5 => .dict (hk _ _ h1 fun fs q => by rw [h3] at q; cases q) h2 h3 (readsAllD hk h4) (readsAllD hk h5)
theorem readsAllD {h h' : Heap} (hk : ∀ b o, h.get? b = some o → (∀ fs, o.data ≠ .fields fs) → h'.get? b = some o) : ∀ {vs : List Value} {ds : List PyData} {as : List Addr}, ReadsAll h vs ds as → ReadsAll h' vs ds as
  | _, _, _, .nil => .nil
  | _, _, _, .cons h1 h2 => .cons (readsD hk h1) (readsAllD hk h2)
end
/-- an object with fields at I -/
def Isf (h : Heap) (I : Addr) : Prop := ∃ o fs, h.get? I = some o ∧ o.data = .fields fs
theorem RdX.iter {X : List Addr} {h h' : Heap} {I : Addr} {v : Value} {d : PyData} (f : Isf h I) (e : Heap.ExtBut I h h') (r : RdX h X v d) : RdX h' X v d := by
  obtain ⟨as, r⟩ := r
  obtain ⟨o, fs, ho, hf⟩ := f
  refine ⟨as, readsD (fun b o' q n => ?_) r⟩
  have m : b ∉ X := fun m => by rw [hideAll_none X m] at q; cases q
  have q' := of_hideAll X q
  refine hideAll_get X (e b o' (fun w => ?_) q') m
  subst w; rw [ho] at q'; cases q'; exact n _ hf
theorem RdsX.iter {X : List Addr} {h h' : Heap} {I : Addr} (f : Isf h I) (e : Heap.ExtBut I h h') : ∀ {vs : List Value} {ds : List PyData}, RdsX h X vs ds → RdsX h' X vs ds
  | [], [], _ => trivial
  | _ :: _, _ :: _, r => ⟨r.1.iter f e, RdsX.iter f e r.2⟩

theorem Gw.rd {X X' : List Addr} {h h' : Heap} {v : Value} {d : PyData} (w : Gw X h X' h') (r : RdX h X v d) : RdX h' X' v d := by
  have r1 : RdX h (X ++ X') v d := r.grow fun b o e n m => by
    rcases List.mem_append.mp m with q | q
    · exact n q
    · rcases w.new b q with q | q
      · exact n q
      · rw [e] at q; cases q
  exact (r1.pr (w.pr.mono fun _ m => List.mem_append_left _ m)).less fun _ m => List.mem_append_right _ m
theorem Gw.rds {X X' : List Addr} {h h' : Heap} (w : Gw X h X' h') : ∀ {vs : List Value} {ds : List PyData}, RdsX h X vs ds → RdsX h' X' vs ds
  | [], [], _ => trivial
  | _ :: _, _ :: _, r => ⟨w.rd r.1, Gw.rds w r.2⟩
theorem Gw.out {X X' : List Addr} {h h' : Heap} {a : Addr} (w : Gw X h X' h') (e : (h.get? a).isSome = true) (n : a ∉ X) : a ∉ X' := fun m => by
  rcases w.new a m with q | q
  · exact n q
  · rw [q] at e; cases e
theorem Gw.get {X X' : List Addr} {h h' : Heap} {a : Addr} {o : Obj} (w : Gw X h X' h') (e : h.get? a = some o) (n : a ∉ X) : h'.get? a = some o := w.pr.1 a o e n

section
variable {g : G} {n : Nat} {M : List Addr} {h₀ : Heap} {env : Env} {X₀ X : List Addr} {ρ ρ' : List (Str × Bnd)} {P : Fl → List (Str × Bnd) → Prop}

theorem BI.iter {h h' : Heap} {I : Addr} {v : Value} (f : Isf h I) (e : Heap.ExtBut I h h') : ∀ {b : Bnd}, BI g X h v b → BI g X h' v b := by
  obtain ⟨o, fs, ho, hf⟩ := id f
  have ls : ∀ {a l}, LsP h X a l → LsP h' X a l := fun {a l} r => by
    obtain ⟨vs, ⟨k, q⟩, r⟩ := r
    exact ⟨vs, ⟨k, e a _ (fun w => by subst w; rw [ho] at q; cases q; cases hf) q⟩, r.iter f e⟩
  have tb : ∀ {v a l}, TabIs g h X v a l → TabIs g h' X v a l := fun {v a l} r => by
    obtain ⟨t, d, hs, tk, n, eq, h1, h2, h3, h4, h5, h6⟩ := r
    exact ⟨t, d, hs, tk, n, eq, e t _ (fun w => by subst w; rw [ho] at h1; cases h1; cases hf) h1, e d _ (fun w => by subst w; rw [ho] at h2; cases h2; cases hf) h2, ls h3, h4, h5, h6⟩
  intro b r
  cases b with
  | dat d => exact RdX.iter f e r
  | own a l => exact ⟨r.1, ls r.2.1, r.2.2⟩
  | tab a l => exact ⟨tb r.1, r.2⟩
  | tabF l => obtain ⟨a, r, n⟩ := r; exact ⟨a, tb r, n⟩
  | val w => exact r
theorem Nm.iter {h h' : Heap} {I : Addr} {x : Str} {v : Value} (f : Isf h I) (e : Heap.ExtBut I h h') (r : Nm env h x v) : Nm env h' x v := by
  obtain ⟨o, fs, ho, hf⟩ := f
  rcases r with ⟨k, m, ⟨o', es, ep, q, hd, r⟩, eq⟩ | ⟨k, c, ec, ⟨o', q, hd⟩⟩
  · exact .inl ⟨k, m, ⟨o', es, ep, e _ _ (fun w => by rw [← w, q] at ho; cases ho; rw [hd] at hf; cases hf) q, hd, r⟩, eq⟩
  · exact .inr ⟨k, c, ec, ⟨o', e _ _ (fun w => by rw [← w, q] at ho; cases ho; rw [hd] at hf; cases hf) q, hd⟩⟩
/-- an object with fields, new in the frame, is turned -/
theorem fx_iter {h h' : Heap} {I : Addr} (F : Fx g M h₀ env X₀ X ρ h) (f : Isf h I) (e : Heap.ExtBut I h h') (nI : h₀.get? I = none) (nX : I ∉ X) : Fx g M h₀ env X₀ X ρ h' := by
  have c := F.cx
  have keep : ∀ b, b ≠ I → (h.get? b).isSome = true → (h'.get? b).isSome = true := fun b nb q => by
    obtain ⟨o, q⟩ := Option.isSome_iff_exists.mp q; rw [e b o nb q]; rfl
  have nB : ∀ b o, g.B.get? b = some o → b ≠ I := fun b o q w => by subst w; have := F.b0 _ _ q; rw [nI] at this; cases this
  refine ⟨⟨c.kind, c.glob, c.bltn, fun b o q => e b o (nB b o q) (c.base b o q), c.xB, fun a ma => keep a (fun w => nX (w ▸ ma)) (c.xIn a ma), c.tX, ?_, c.lX, c.lT, fun y k ek => ⟨?_, (c.cl y k ek).2⟩, fun y b m => ?_, c.ap⟩,
    F.uniq, F.dist, ⟨fun b o q nb => e b o (fun w => ?_) (F.old.1 b o q nb), fun b q => keep b (fun w => ?_) (F.old.2 b q)⟩, F.x0, F.xNew, F.lNew, F.cNew, F.ownM, F.tM, F.x0In, F.b0⟩
  · obtain ⟨m, o', es, ep, q, r⟩ := c.ns
    exact ⟨m, o', es, ep, e _ _ (fun w => nX (w ▸ c.lX)) q, r⟩
  · obtain ⟨⟨v, o', q, r⟩, m, _⟩ := c.cl y k ek
    exact ⟨v, o', e _ _ (fun w => nX (w ▸ m)) q, r⟩
  · obtain ⟨v, nv, bi⟩ := c.vars y b m
    exact ⟨v, nv.iter f e, bi.iter f e⟩
  · subst w; rw [nI] at q; cases q
  · subst w; rw [nI] at q; cases q

theorem BI.grow {Y : List Addr} {h : Heap} {v : Value} (w : ∀ b o, h.get? b = some o → b ∉ X → b ∉ Y) (s : ∀ b ∈ X, b ∈ Y) : ∀ {b : Bnd}, BI g X h v b → BI g Y h v b := by
  have ls : ∀ {a l}, LsP h X a l → LsP h Y a l := fun {a l} r => by obtain ⟨vs, i, r⟩ := r; exact ⟨vs, i, r.grow w⟩
  have tb : ∀ {v a l}, TabIs g h X v a l → TabIs g h Y v a l := fun {v a l} r => by
    obtain ⟨t, d, hs, tk, n, eq, h1, h2, h3, h4, h5, h6⟩ := r
    exact ⟨t, d, hs, tk, n, eq, h1, h2, ls h3, w _ _ h1 h4, w _ _ h2 h5, h6⟩
  intro b r
  cases b with
  | dat d => exact RdX.grow w r
  | own a l => exact ⟨r.1, ls r.2.1, r.2.2.1, s _ r.2.2.2⟩
  | tab a l => exact ⟨tb r.1, s _ r.2⟩
  | tabF l =>
    obtain ⟨a, r, na⟩ := r
    obtain ⟨t, d, hs, tk, n, eq, h1, h2, ⟨vs, ⟨k, q⟩, h3⟩, h4, h5, h6⟩ := id r
    exact ⟨a, tb r, w _ _ q na⟩
  | val u => exact r
/-- the hidden ones grow by new objects -/
theorem fx_grow {h h' : Heap} {Z : List Addr} (F : Fx g M h₀ env X₀ X ρ h) (nZ : ∀ z ∈ Z, h.get? z = none) (p : Pr g.T h h') (iZ : ∀ z ∈ Z, (h'.get? z).isSome = true) : Fx g M h₀ env X₀ (Z ++ X) ρ h' := by
  have F' := F.pr p
  have c := F'.cx
  have n0 : ∀ z ∈ Z, h₀.get? z = none := fun z m => by
    cases q : h₀.get? z with
    | none => rfl
    | some o => have := F.old.2 z (by rw [q]; rfl); rw [nZ z m] at this; cases this
  refine ⟨⟨c.kind, c.glob, c.bltn, c.base, fun a m => ?_, fun a m => (List.mem_append.mp m).elim (iZ a) (c.xIn a), fun t m => List.mem_append_right _ (c.tX t m), c.ns, List.mem_append_right _ c.lX, c.lT, fun y k ek => ?_, fun y b m => ?_, c.ap⟩,
    F.uniq, F.dist, F'.old, fun a m => List.mem_append_right _ (F.x0 a m), fun a m => (List.mem_append.mp m).elim (fun q => .inr (n0 a q)) (F.xNew a), F.lNew, F.cNew, F.ownM, F.tM, F.x0In, F.b0⟩
  · rcases List.mem_append.mp m with q | q
    · cases e : g.B.get? a with
      | none => rfl
      | some o => have := F.cx.base a o e; rw [nZ a q] at this; cases this
    · exact c.xB a q
  · obtain ⟨v, m, t⟩ := c.cl y k ek; exact ⟨v, List.mem_append_right _ m, t⟩
  · obtain ⟨v, nv, bi⟩ := F.cx.vars y b m
    refine ⟨v, nv.pr p F.cx.lT fun y k e => (F.cx.cl y k e).2.2, ?_⟩
    refine (BI.grow (Y := Z ++ X) (fun b o e nb m => ?_) (fun b m => List.mem_append_right _ m) bi).pr p fun t m => List.mem_append_right _ (c.tX t m)
    rcases List.mem_append.mp m with q | q
    · rw [nZ b q] at e; cases e
    · exact nb q
/-- names are forgotten -/
theorem own_sublist {ρ ρ' : List (Str × Bnd)} (s : ρ'.Sublist ρ) : (ownAddrs ρ').Sublist (ownAddrs ρ) := s.filterMap _
theorem fx_weak {h : Heap} (F : Fx g M h₀ env X₀ X ρ h) (s : ρ'.Sublist ρ) : Fx g M h₀ env X₀ X ρ' h := by
  have c := F.cx
  exact ⟨⟨c.kind, c.glob, c.bltn, c.base, c.xB, c.xIn, c.tX, c.ns, c.lX, c.lT, c.cl, fun y b m => c.vars y b (s.subset m), c.ap⟩, F.uniq.sublist (s.map _), F.dist.sublist (own_sublist s), F.old, F.x0, F.xNew, F.lNew, F.cNew, 
    fun a m => F.ownM a ((own_sublist s).subset m), F.tM, F.x0In, F.b0⟩

/-- an assignment's target takes d -/
def AsgOK (g : G) (n : Nat) (M : List Addr) (h₀ : Heap) (env : Env) (X₀ : List Addr) (target : PySem.Expr) (d : PyData) (ρ : List (Str × Bnd)) (K : List (Str × Bnd) → Prop) : Prop :=
  ∀ s X v, Fx g M h₀ env X₀ X ρ s.heap → RdX s.heap X v d → ∀ (A : Around) (Q : Unit → Shared → Prop) (E : Value → Shared → Prop), Rm n A →
    (∀ ρ' h' tk, K ρ' → Fx g M h₀ env X₀ X ρ' h' → PrL g env s.heap h' → Q () { s with heap := h', toks := tk }) → wpAny g.M A (assign target env v) Q E s
theorem asg_name {x : Str} {pos : Pos} {d : PyData} {K : List (Str × Bnd) → Prop} (hk : Storable env x) (hp : Put x (.dat d) ρ ρ') (k : K ρ') : AsgOK g n M h₀ env X₀ (.Name x pos) d ρ K := fun s X v F rd A Q E rm c =>
  wpAny_assign_Name (fx_store F hk (b := .dat d) rd hp (F.dist.sublist hp.own_dat) (fun a m => F.ownM a (hp.own_dat.subset m)) fun h' tk F' p => c ρ' h' tk k F' p)
/-- several names take several data -/
inductive Puts : List (Str × PyData) → List (Str × Bnd) → List (Str × Bnd) → Prop
  | nil {ρ : List (Str × Bnd)} : Puts [] ρ ρ
  | cons {x : Str} {d : PyData} {r : List (Str × PyData)} {ρ ρ' ρ'' : List (Str × Bnd)} : Put x (.dat d) ρ ρ' → Puts r ρ' ρ'' → Puts ((x, d) :: r) ρ ρ''
theorem asg_names {names : List Str} : ∀ {ds : List PyData} {vs : List Value} {es : List PySem.Expr} {ρ ρ' : List (Str × Bnd)} {s : Shared}, es.map (fun e => match e with | .Name x _ => some x | _ => none) = names.map some → (∀ x ∈ names, Storable env x) → Puts (names.zip ds) ρ ρ' → names.length = ds.length →
    Fx g M h₀ env X₀ X ρ s.heap → RdsX s.heap X vs ds → ∀ (A : Around) (Q : Unit → Shared → Prop) (E : Value → Shared → Prop), (∀ h' tk, Fx g M h₀ env X₀ X ρ' h' → PrL g env s.heap h' → Q () { s with heap := h', toks := tk }) →
      wpAny g.M A (assignInOrder ((assignEach es env).map (·.2)) vs) Q E s := by
  induction names with
  | nil =>
    intro ds vs es ρ ρ' s he _ hp hl F r A Q E k
    cases ds with
    | cons => cases hl
    | nil =>
      cases es with
      | cons => simp at he
      | nil => cases hp; exact assignInOrder_nil (k s.heap s.toks F (PrL.of (Pr.refl _ _)))
  | cons x names ih =>
    intro ds vs es ρ ρ' s he hs hp hl F r A Q E k
    cases ds with
    | nil => cases hl
    | cons d ds =>
      cases vs with
      | nil => exact r.elim
      | cons v vs =>
        cases es with
        | nil => simp at he
        | cons e es =>
          cases hp with
          | cons hp1 hp2 =>
            cases e <;> simp at he
            rename_i y pos
            obtain ⟨rfl, he⟩ := he
            show wpAny g.M A (assignInOrder (assign (.Name y pos) env :: (assignEach es env).map (·.2)) (v :: vs)) Q E s
            refine assignInOrder_cons (wpAny_assign_Name (fx_store F (hs y (.head _)) (b := .dat d) r.1 hp1 (F.dist.sublist hp1.own_dat) (fun a m => F.ownM a (hp1.own_dat.subset m)) fun h' tk F' p => ?_))
            exact ih (s := { s with heap := h', toks := tk }) (by simpa using he) (fun z m => hs z (.tail _ m)) hp2 (by simpa using hl) F' (r.2.pr (p.pr F.cx)) A Q E fun h2 tk2 F2 p2 => k h2 tk2 F2 (p.trans p2)
theorem asg_tuple {es : List PySem.Expr} {names : List Str} {j : Nat} {pos : Pos} {ds : List PyData} {K : List (Str × Bnd) → Prop} (he : es.map (fun e => match e with | .Name x _ => some x | _ => none) = names.map some) (hs : ∀ x ∈ names, Storable env x)
    (hp : Puts (names.zip ds) ρ ρ') (hl : names.length = ds.length) (k : K ρ') (hlen : (assignEach es env).length = ds.length := by rfl) (hstar : (assignEach es env).findIdx? (·.1) = none := by rfl) :
    AsgOK g n M h₀ env X₀ (.Tuple es j pos) (.tuple ds) ρ K := fun s X v F rd A Q E rm c => by
  obtain ⟨a, vs, rfl, na, it, q⟩ := rd.tuple_inv
  have hsz : vs.size = ds.length := by rw [← Array.length_toList]; exact q.length
  refine assign_Tuple_tuple rm.1 it (hlen.trans hsz.symm) hstar fun h' he' => ?_
  have p : Pr g.T s.heap h' := Pr.extBut he' (get_size _)
  exact asg_names (s := { s with heap := h' }) he hs hp hl (F.pr p) (q.pr (p.mono F.cx.tX)) A Q E fun h2 tk2 F2 p2 => c ρ' h2 tk2 k F2 ((PrL.of p).trans p2)

/-- the iterator at I has these to hand out -/
inductive ItIs (h : Heap) (X : List Addr) (I : Addr) : List PyData → Prop
  | list {l : Addr} {i : Nat} {vs : Array Value} {ds : List PyData} : h.IsListIter I l i → h.IsList l vs → l ∉ X → RdsX h X vs.toList ds → ItIs h X I (ds.drop i)
  | range {x : Int} {k : Nat} : IsRangeIter h I x k 1 → ItIs h X I ((List.range k).map fun (j : Nat) => .int (x + (j : Int)))
  | text {x : Str} {t : Tok} {i : Nat} : h.IsStrIter I "str_ascii_iterator" x t i → ItIs h X I ((x.cps.toList.drop i).map fun c => .str ⟨#[c]⟩)
theorem ItIs.isf {h : Heap} {I : Addr} {l : List PyData} (t : ItIs h X I l) : Isf h I := by
  cases t with
  | list a _ _ _ => obtain ⟨o, ho, _, hd⟩ := a; exact ⟨o, _, ho, hd⟩
  | range a => exact ⟨_, _, a, rfl⟩
  | text a => obtain ⟨o, ho, _, hd⟩ := a; exact ⟨o, _, ho, hd⟩
theorem Isf.some {h : Heap} {I : Addr} (f : Isf h I) : (h.get? I).isSome = true := by obtain ⟨o, fs, ho, _⟩ := f; rw [ho]; rfl
theorem isList_some {h : Heap} {a : Addr} {vs : Array Value} (i : h.IsList a vs) : (h.get? a).isSome = true := by obtain ⟨o, ho, _⟩ := i; rw [ho]; rfl
theorem ItIs.gw {X' : List Addr} {h h' : Heap} {I : Addr} {l : List PyData} (t : ItIs h X I l) (w : Gw X h X' h') (nI : I ∉ X) : ItIs h' X' I l := by
  cases t with
  | list a b nl r => exact .list (a.at fun o e => w.get e nI) (b.at fun o e => w.get e nl) (w.out (isList_some b) nl) (w.rds r)
  | range a => exact .range (w.get a nI)
  | text a => obtain ⟨o, ho, q⟩ := a; exact .text ⟨o, w.get ho nI, q⟩
theorem it_next {s : Shared} {I : Addr} {l : List PyData} (t : ItIs s.heap X I l) {A : Around} {Q : Option Value → Shared → Prop} {E : Value → Shared → Prop} (hh : A.handled = none)
    (h0 : l = [] → ∀ h', Heap.ExtBut I s.heap h' → Q none { s with heap := h' })
    (h1 : ∀ d r, l = d :: r → ∀ v h' tk, Heap.ExtBut I s.heap h' → (h'.get? I).isSome = true → RdX h' X v d → ItIs h' X I r → (∀ ds, d = .tuple ds → ∃ la i, h'.IsListIter I la i) → Q (some v) { s with heap := h', toks := tk }) : wpAny g.M A (pyNext (.ref I)) Q E s := by
  have f := t.isf
  cases t with
  | @list la i vs ds a b nl r =>
    have hsz : vs.size = ds.length := by rw [← Array.length_toList]; exact r.length
    by_cases hi : i < ds.length
    · obtain ⟨v, hv, rv⟩ := r.get (List.getElem?_eq_getElem hi)
      have hne : la ≠ I := fun q => by
        subst q
        obtain ⟨o, ho, hc, _⟩ := a; obtain ⟨o', ho', hc', _⟩ := b
        rw [ho] at ho'; cases ho'; rw [hc] at hc'; exact absurd hc' (by decide)
      refine wpAny_pyNext_list_item a b (x := v) (by rw [← Array.getElem?_toList]; exact hv) fun h' it' sb => ?_
      have ex := sb.extBut
      refine h1 ds[i] (ds.drop (i + 1)) (by rw [List.drop_eq_getElem_cons hi]) v h' s.toks ex ?_ (rv.iter f ex) (.list it' (b.extBut ex hne) nl (r.iter f ex)) fun _ _ => ⟨_, _, it'⟩
      obtain ⟨o, ho, _⟩ := it'; rw [ho]; rfl
    · exact wpAny_pyNext_list_end hh a b (by rw [Array.getElem?_eq_none]; omega) fun h' ex => h0 (List.drop_of_length_le (by omega)) h' ex
  | @range x k a =>
    cases k with
    | zero => exact wpAny_pyNext_range_end hh a (Int.le_refl 0) fun h' ex => h0 rfl h' ex
    | succ k =>
      refine wpAny_pyNext_range_item a (by omega) fun h' it' sb => ?_
      have ex := sb.extBut
      refine h1 (.int x) ((List.range k).map fun (j : Nat) => .int (x + 1 + (j : Int))) ?_ _ h' (s.toks + 1) ex (by rw [it']; rfl) rdX_int (.range (by
        have e : ((k + 1 : Nat) : Int) - 1 = (k : Int) := by omega
        rw [e] at it'; exact it')) (fun _ q => by cases q)
      rw [List.range_succ_eq_map]
      simp only [List.map_cons, List.map_map]
      refine congr (congrArg _ ?_) (List.map_congr_left fun j _ => ?_)
      · simp
      · simp; omega
  | @text x t i a =>
    by_cases hi : i < x.cps.toList.length
    · have hi' : i < x.cps.size := by simpa using hi
      refine wpAny_pyNext_ascii_item a (c := x.cps[i]) (Array.getElem?_eq_getElem hi') fun h' it' sb => ?_
      refine h1 (.str ⟨#[x.cps[i]]⟩) ((x.cps.toList.drop (i + 1)).map fun c => .str ⟨#[c]⟩) (by rw [List.drop_eq_getElem_cons hi]; simp) _ h' (s.toks + 1) sb.extBut ?_ rdX_str (.text it') (fun _ q => by cases q)
      obtain ⟨o, ho, _⟩ := it'; rw [ho]; rfl
    · exact wpAny_pyNext_ascii_end hh a (by rw [Array.getElem?_eq_none]; simpa using Nat.le_of_not_lt hi) fun h' ex => h0 (by rw [List.drop_of_length_le (by omega)]; rfl) h' ex
end
end Mine
end
section
open PySem PySem.W PyProof.Rows PySem.Calls PySem.Spec
set_option maxRecDepth 100000
set_option linter.unusedVariables false
namespace Mine
section
variable {g : G} {n : Nat} {M : List Addr} {h₀ : Heap} {env : Env} {X₀ X : List Addr} {ρ ρ' : List (Str × Bnd)} {P : Fl → List (Str × Bnd) → Prop}

theorem new_of {X : List Addr} {h h' : Heap} {a : Addr} (p : Pr X h h') (e : h'.get? a = none) : h.get? a = none := by
  cases q : h.get? a with
  | none => rfl
  | some o => have := p.2 a (by rw [q]; rfl); rw [e] at this; cases this

/-- what a for goes over -/
def EvI (g : G) (n : Nat) (env : Env) (X : List Addr) (ρ : List (Str × Bnd)) (e : PySem.Expr) (l : List PyData) : Prop :=
  ∀ s, Cx g env X ρ s.heap → ∀ (A : Around) (Q : Value → Shared → Prop) (E : Value → Shared → Prop), Rm n A →
    (∀ I h' tk, Pr g.T s.heap h' → s.heap.get? I = none → I ∉ X → ItIs h' X I l → Q (.ref I) { s with heap := h', toks := tk }) → wpAny g.M A (eval e env) (fun x s₁ => wpAny g.M A (pyIter x) Q E s₁) E s
theorem evi_list {e : PySem.Expr} {l : List PyData} (ee : EvP g n env X ρ e (.list l)) : EvI g n env X ρ e l := fun s c A Q E rm h =>
  ee s c A _ E rm fun v h' tk p rd => by
    obtain ⟨a, vs, rfl, na, il, q⟩ := rd.list_inv
    refine wpAny_pyIter_list il (h _ _ tk (p.trans (Pr.push _ _ _)) (new_of p (get_size _)) (c.pr p).fresh ?_)
    have it : (h'.push { cls := .type "list_iterator", data := .fields #[.ref a, .int 0 0] }).IsListIter h'.objs.size a 0 := ⟨_, Heap.get?_push_size _ rfl, rfl, rfl⟩
    exact ItIs.list (ds := l) it (il.push _) na (q.pr (Pr.push _ _ _))
theorem evi_range1 {f : Str} {p pos : Pos} {e : PySem.Expr} {k : Nat} (hg : Gv g f (.type "range")) (ee : EvP g n env X ρ e (.int k)) (hkk : k < 1000000)
    (hk : env.kindOf f = some .globalImplicit := by rfl) (hd : (f == ("__debug__" : Str)) = false := by decide) (hn : noStar e = true := by rfl) : EvI g n env X ρ (.Call (.Name f p) [e] [] pos) ((List.range k).map fun (j : Nat) => .int (j : Int)) := fun s c A Q E rm h => by
  refine Call_ (load_glob c hg hk hd (PyProof.Rows.callWith_type (backTo_any (by simpa using hn)) (args_ok (es := [e]) (ds := [.int k]) (by simpa using hn) ⟨ee, trivial⟩ c rm fun vs h' tk p rds => ?_)))
  obtain ⟨v, rfl, rd⟩ := rds.one
  obtain ⟨t, rfl⟩ := rd.int_inv
  refine call_range_1 (wpAny_pyIter_range (IsRange.new ..) (small_one (by decide) (by decide) (by omega) (by omega)) (h _ _ _ (p.trans ((Pr.push _ _ _).trans (Pr.push _ _ _))) (new_of (p.trans (Pr.push _ _ _)) (get_size _)) (fresh_of fun x m => (Pr.push X h' _).2 x ((c.pr p).xIn x m)) ?_))
  have e : (fun (j : Nat) => PyData.int (j : Int)) = fun (j : Nat) => PyData.int (0 + (j : Int)) := by funext j; simp
  rw [e]
  refine ItIs.range ?_
  have e2 : Builtin.Range.rangeSize 0 (k : Int) 1 = k := by rw [rangeSize_one]; split <;> omega
  show Heap.get? _ _ = _
  rw [e2]
  exact Heap.get?_push_size _ rfl
theorem Gw.iter {X X' : List Addr} {h h' h'' : Heap} {I : Addr} (w : Gw X h X' h') (nI : h.get? I = none) (e : Heap.ExtBut I h' h'') : Gw X h X' h'' := by
  have ne : ∀ b o, h.get? b = some o → b ≠ I := fun b o q w => by subst w; rw [nI] at q; cases q
  refine ⟨w.new, fun b o q nb => e b o (ne b o q) (w.pr.1 b o q nb), fun b q => ?_⟩
  obtain ⟨o, q'⟩ := Option.isSome_iff_exists.mp q
  obtain ⟨o', q''⟩ := Option.isSome_iff_exists.mp (w.pr.2 b q)
  rw [e b o' (ne b o q') q'']; rfl

def isName : PySem.Expr → Bool
  | .Name _ _ => true
  | _ => false
def isTup : PySem.Expr → Bool
  | .Tuple _ _ _ => true
  | _ => false
/-- the target is a name, or the data are tuples -/
def TgOK (t : PySem.Expr) (l : List PyData) : Prop := isName t = true ∨ (isTup t = true ∧ ∀ d ∈ l, ∃ ds, d = .tuple ds)
theorem letgo {s : Shared} {I : Addr} {t : PySem.Expr} {d : PyData} {l : List PyData} {v : Value} (rd : RdX s.heap X v d) (ht : TgOK t l) (md : d ∈ l) {A : Around} {Q : Unit → Shared → Prop} {E : Value → Shared → Prop}
    (kind : ∀ ds, d = .tuple ds → ∃ la i, s.heap.IsListIter I la i) (h : Q () s) : wpAny g.M A (letOwnedTupleGo t (.ref I) v) Q E s := by
  rcases ht with ht | ⟨ht, hd⟩
  · cases t <;> first | exact absurd ht (by decide) | (cases ht; done) | exact wpAny_pure h
  · obtain ⟨ds, rfl⟩ := hd d md
    obtain ⟨a, vs, rfl, _⟩ := rd.tuple_inv
    obtain ⟨la, i, q⟩ := kind ds rfl
    cases t <;> first | (cases ht; done) | exact wpAny_letOwnedTupleGo_listiter q h

theorem ws_for {target iter : PySem.Expr} {body : List Stmt} {pos : Pos} {l : List PyData} (ei : ∀ X, EvI g n env X ρ iter l) (Inv : Nat → List (Str × Bnd) → Prop) (i0 : Inv 0 ρ)
    (step : ∀ k d ρ1, l[k]? = some d → Inv k ρ1 → AsgOK g n M h₀ env X₀ target d ρ1 fun ρ2 => WSs g n M h₀ env X₀ body ρ2 fun f ρ3 => match f with | .nxt => Inv (k + 1) ρ3 | .ret R => P (.ret R) ρ3)
    (fin : ∀ ρ1, Inv l.length ρ1 → P .nxt ρ1) (ht : TgOK target l) (hs : ∀ x, foldedSetIterable iter env x = pure x := by intro _; rfl) : WS g n M h₀ env X₀ (.For target iter body [] pos) ρ P := fun s X F A Q E rm c => by
  refine wpAny_For (ei X s F.cx A _ E rm fun I h1 tk1 p1 nI nX it => ?_) hs
  have nI0 : h₀.get? I = none := new_of F.old nI
  refine codeAny_forLoop_any (fun k s' => ∃ rest ρ1 X1 h' tk, s' = { s with heap := h', toks := tk } ∧ rest.length = k ∧ (∃ j, l.drop j = rest ∧ j ≤ l.length ∧ Inv j ρ1) ∧ Fx g M h₀ env X₀ X1 ρ1 h' ∧ Gw X s.heap X1 h' ∧ ItIs h' X1 I rest ∧ I ∉ X1)
    ?_ l.length ⟨l, ρ, X, h1, tk1, rfl, rfl, ⟨0, rfl, Nat.zero_le _, i0⟩, F.pr p1, Gw.of (p1.mono F.cx.tX), it, nX⟩
  rintro k s' ⟨rest, ρ1, X1, h', tk, rfl, rfl, ⟨j, hj, hjl, hinv⟩, F1, gw, it1, nX1⟩
  refine it_next (s := { s with heap := h', toks := tk }) it1 rm.1 (fun e h2 ex => ?_) fun d r e v h2 tk2 ex isI rd it2 kd => ?_
  · have hjj : j = l.length := by
      have := congrArg List.length hj
      rw [e, List.length_drop] at this
      have : l.length - j = 0 := this
      omega
    subst hjj
    exact wpAny_execs_nil (c .nxt .next ρ1 X1 h2 tk (fin ρ1 hinv) (fx_iter F1 it1.isf ex nI0 nX1) rfl (gw.iter nI ex))
  · have hd : l[j]? = some d := by
      have : (l.drop j)[0]? = some d := by rw [hj, e]; rfl
      simpa using this
    have md : d ∈ l := List.mem_of_getElem? hd
    refine letgo (s := { s with heap := h2, toks := tk2 }) rd ht md kd ?_
    have F2 := fx_iter F1 it1.isf ex nI0 nX1
    have gw2 := gw.iter nI ex
    refine step j d ρ1 hd hinv { s with heap := h2, toks := tk2 } X1 v F2 rd A _ _ rm fun ρ2 h3 tk3 hb F3 p3 => ?_
    refine hb { s with heap := h3, toks := tk3 } X1 F3 A _ _ rm fun f fl ρ4 X4 h4 tk4 hp F4 ok gw4 => ?_
    have gw3 : Gw X1 h2 X1 h3 := Gw.of (p3.pr F2.cx)
    cases f with
    | nxt =>
      cases (show fl = .next from ok)
      refine ⟨r.length, by rw [e]; exact Nat.lt_succ_self _, r, ρ4, X4, h4, tk4, rfl, rfl, ⟨j + 1, ?_, ?_, hp⟩, F4, gw2.trans (gw3.trans gw4), it2.gw (gw3.trans gw4) nX1, (gw3.trans gw4).out isI nX1⟩
      · rw [← List.drop_drop, hj, e]; rfl
      · have : j < l.length := by
          by_cases q : j < l.length
          · exact q
          · rw [List.getElem?_eq_none (by omega)] at hd; cases hd
        omega
    | ret R =>
      obtain ⟨v', rfl, r'⟩ := ok
      exact c (.ret R) (.ret v') ρ4 X4 h4 tk4 hp F4 ⟨v', rfl, r'⟩ (gw2.trans (gw3.trans gw4))
end
end Mine
end
section
open PySem PySem.W PyProof.Rows PySem.Calls PySem.Spec
set_option maxRecDepth 100000
set_option linter.unusedVariables false
namespace Mine
section
variable {g : G} {n : Nat} {M : List Addr} {h₀ : Heap} {env : Env} {X₀ X : List Addr} {ρ ρ' : List (Str × Bnd)} {P : Fl → List (Str × Bnd) → Prop}

/-- a new list -/
def EvF (g : G) (n : Nat) (env : Env) (X : List Addr) (ρ : List (Str × Bnd)) (e : PySem.Expr) (l : List PyData) : Prop :=
  ∀ s, Cx g env X ρ s.heap → ∀ (A : Around) (Q : Value → Shared → Prop) (E : Value → Shared → Prop), Rm n A →
    (∀ a h' tk, Pr g.T s.heap h' → s.heap.get? a = none → LsP h' (a :: X) a l → Q (.ref a) { s with heap := h', toks := tk }) → wpAny g.M A (eval e env) Q E s
theorem lsP_new {h : Heap} {vs : List Value} {ds : List PyData} (r : RdsX h X vs ds) : LsP (h.push { cls := .type "list", data := .seq vs.toArray }) (h.objs.size :: X) h.objs.size ds := by
  refine ⟨vs.toArray, ⟨_, Heap.get?_push_size _ rfl⟩, ?_⟩
  have : RdsX h (h.objs.size :: X) vs ds := r.grow fun b o e nb m => by
    rcases List.mem_cons.mp m with q | q
    · subst q; rw [get_size] at e; cases e
    · exact nb q
  simpa using this.pr (Pr.push _ h _)
theorem evf_list {es : List PySem.Expr} {pos : Pos} {ds : List PyData} (r : EvS g n env X ρ es ds) (hn : es.all noStar = true := by rfl) (hl : es.length ≤ 1000 := by decide) : EvF g n env X ρ (.List es pos) ds := fun s c A Q E rm h =>
  List_ (spliced_ok hn r s c A _ E rm fun vs h' tk p rds hlen => wpAny_newObj_type (h _ _ _ (p.trans (Pr.push _ _ _)) (new_of p (get_size _)) (lsP_new rds)) (by show vs.toArray.size ≤ sizeLine; rw [sizeLine_eq, List.size_toArray, hlen]; omega))
theorem evf_split {o e : PySem.Expr} {apos pos : Pos} {pl : Sem Bool} {x y : Str} (eo : EvP g n env X ρ o (.str x)) (ee : EvP g n env X ρ e (.str y)) (hy : (y.length == 0) = false) (hx : x.length ≤ 16777216) (hp : (PySem.Builtin.Str.partsBetween x (PySem.Builtin.Str.occurrences x y 0 x.length (x.length + 1)) y.length).length ≤ 16777216)
    (he : eval (.Call (.Attribute o "split" apos) [e] [] pos) env = (do
      let ov ← eval o env
      standAt apos.atName
      let (f, first) ← holding [ov] (getMethod ov "split" pl)
      callWith pos f first (backTo pos (starEach [e] env)) []) := by rfl) (hn : noStar e = true := by rfl) : EvF g n env X ρ (.Call (.Attribute o "split" apos) [e] [] pos) ((Txt.split x y).map .str) := fun s c A Q E rm h =>
  MethodCall_ (eo s c A _ E rm fun v h' tk p rd => by
    obtain ⟨t, rfl⟩ := rd.str_inv
    refine PySem.GM.split (callWith_builtin (backTo_any (by simpa using hn)) (args_ok (es := [e]) (ds := [.str y]) (by simpa using hn) ⟨ee, trivial⟩ (s := { s with heap := h', toks := tk }) (c.pr p) rm fun vs h2 tk2 p2 rds => ?_))
    obtain ⟨v, rfl, rd⟩ := rds.one; obtain ⟨u, rfl⟩ := rd.str_inv
    refine split_raw hy (fun l k e => ?_) (by rw [sizeLine_eq]; exact hx) (by rw [sizeLine_eq]; exact hp)
    refine h _ _ k ((p.trans p2).trans (Pr.push _ _ _)) (new_of (p.trans p2) (get_size _)) ?_
    rw [← e]
    exact lsP_new (rdsX_strs l)) he

theorem fx_ownnew {x : Str} {a : Addr} {l : List PyData} {h h' : Heap} (F : Fx g M h₀ env X₀ X ρ h) (na : h.get? a = none) (p : Pr g.T h h') (ls : LsP h' (a :: X) a l) : Fx g M h₀ env X₀ (a :: X) ρ h' ∧ a ∉ ownAddrs ρ ∧ h₀.get? a = none ∧ BI g (a :: X) h' (.ref a) (.own a l) := by
  have nX : a ∉ X := fun m => by have := F.cx.xIn a m; rw [na] at this; cases this
  have nO : a ∉ ownAddrs ρ := fun m => by
    obtain ⟨⟨y, b⟩, mb, e⟩ := List.mem_filterMap.mp m
    obtain ⟨v, nv, bi⟩ := F.cx.vars y b mb
    cases b with
    | dat d => cases e
    | tabF l => cases e
    | val w => cases e
    | own b l => cases e; exact nX bi.2.2.2
    | tab b l => cases e; exact nX bi.2
  refine ⟨fx_grow (Z := [a]) F (fun z m => by simp at m; subst m; exact na) p (fun z m => by simp at m; subst m; exact lsP_some ls), nO, new_of F.old na, rfl, ls, fun m => nX (F.cx.tX a m), .head _⟩
/-- x = a new list -/
theorem ws_own {x : Str} {pos' pos : Pos} {value : PySem.Expr} {l : List PyData} (ev : ∀ X, EvF g n env X ρ value l) (hk : Storable env x) (k : ∀ a, a ∉ g.T → ∃ ρ', Put x (.own a l) ρ ρ' ∧ P .nxt ρ')
    (hs : swapsWith value (some (.Name x pos')) pos.line env = pure false := by rfl) : WS g n M h₀ env X₀ (.Assign [.Name x pos'] value pos) ρ P := fun s X F A Q E rm c =>
  wpAny_Assign_Name (ev X s F.cx A _ E rm fun a h' tk p na ls => by
    obtain ⟨F', nO, n0, bi⟩ := fx_ownnew (x := x) F na p ls
    obtain ⟨ρ', hp, hP⟩ := k a bi.2.2.1
    refine fx_store (b := .own a l) (s := { s with heap := h', toks := tk }) F' hk bi hp (hp.own_new (.inl ⟨l, rfl⟩) nO F.dist) (fun b m => ?_) fun h2 tk2 F2 p2 => c .nxt .next ρ' (a :: X) h2 tk2 hP F2 rfl ⟨fun b m => ?_, (p.mono F.cx.tX).trans ?_⟩
    · rcases hp.own_sub b m with q | ⟨l', q⟩ | ⟨l', q⟩
      · exact F.ownM b q
      · cases q; exact .inr n0
      · cases q
    · rcases List.mem_cons.mp m with q | q
      · subst q; exact .inr na
      · exact .inl q
    · exact (p2.pr F.cx)) hs

theorem own_at {x : Str} {a : Addr} {l : List PyData} {h : Heap} (c : Cx g env X ρ h) (m : (x, Bnd.own a l) ∈ ρ) : Nm env h x (.ref a) ∧ LsP h X a l ∧ a ∉ g.T ∧ a ∈ X := by
  obtain ⟨v, nv, rfl, r⟩ := c.vars _ _ m
  exact ⟨nv, r⟩
theorem LsP.tpr {h h' : Heap} {a : Addr} {l : List PyData} (ls : LsP h X a l) (c : Cx g env X ρ h) (p : Pr g.T h h') (nt : a ∉ g.T) : LsP h' X a l := ls.pr p c.tX nt

/-- x.append(e) -/
theorem ws_append {x : Str} {xp apos pos pos' : Pos} {e : PySem.Expr} {pl : Sem Bool} {a : Addr} {l : List PyData} {d : PyData} (m : (x, Bnd.own a l) ∈ ρ) (ee : ∀ X, EvP g n env X ρ e d) (hl : l.length ≤ 1000000) (hp : Put x (.own a (l ++ [d])) ρ ρ') (k : P .nxt ρ')
    (he : eval (.Call (.Attribute (.Name x xp) "append" apos) [e] [] pos) env = (do
      let ov ← eval (.Name x xp) env
      standAt apos.atName
      let (f, first) ← holding [ov] (getMethod ov "append" pl)
      callWith pos f first (backTo pos (starEach [e] env)) []) := by rfl) (hn : noStar e = true := by rfl)
    (hi : interactive env = false := by rfl) (hs : swapsWith (.Call (.Attribute (.Name x xp) "append" apos) [e] [] pos) none pos'.line env = pure false := by rfl) (h1 : (x == ("__debug__" : Str)) = false := by decide) (h2 : (x == ("__classdict__" : Str)) = false := by decide) :
    WS g n M h₀ env X₀ (.Expr (.Call (.Attribute (.Name x xp) "append" apos) [e] [] pos) pos') ρ P := fun s X F A Q E rm c => by
  obtain ⟨nv, ls, nt, aX⟩ := own_at F.cx m
  refine wpAny_Expr (MethodCall_ (wpAny_Name (load_name F.cx nv ?_ h2) h1) he) hi hs
  obtain ⟨vs, ⟨nn, ho⟩, r⟩ := id ls
  refine getMethod_list_append ho rfl rfl (callWith_builtin (backTo_any (by simpa using hn)) (args_ok (es := [e]) (ds := [d]) (by simpa using hn) ⟨ee X, trivial⟩ F.cx rm fun us h' tk p rds => ?_))
  obtain ⟨u, rfl, rd⟩ := rds.one
  obtain ⟨vs', il, r'⟩ := ls.tpr F.cx p nt
  have hsz : vs'.size = l.length := by rw [← Array.length_toList]; exact r'.length
  refine wpAny_list_append_plain (s := { s with heap := h', toks := tk }) il (fun h3 il3 sb => ?_) (by rw [sizeLine_eq]; omega)
  have pX : Pr X h' h3 := Pr.sameBut sb aX (by obtain ⟨nn, q⟩ := il3; rw [q]; rfl)
  obtain ⟨F3, gw3⟩ := fx_own (F.pr p) m sb ⟨_, il3, by simpa using (r'.append (ws := [u]) (es := [d]) ⟨rd, trivial⟩).pr pX⟩ hp
  exact c .nxt .next ρ' X h3 tk k F3 rfl ((Gw.of (p.mono F.cx.tX)).trans gw3)

/-- del x[i] -/
theorem ws_delitem {x : Str} {xp pos' pos : Pos} {i : PySem.Expr} {a : Addr} {l : List PyData} {k : Int} {j : Nat} (m : (x, Bnd.own a l) ∈ ρ) (ei : ∀ X, EvP g n env X ρ i (.int k)) (hj : seqIndex? k l.length = some j) (hfit : Builtin.List.listFitsIndex k = true) (hl : l.length ≤ 1000000) (hp : Put x (.own a (l.eraseIdx j)) ρ ρ') (kk : P .nxt ρ')
    (h1 : (x == ("__debug__" : Str)) = false := by decide) (h2 : (x == ("__classdict__" : Str)) = false := by decide) :
    WS g n M h₀ env X₀ (.Delete [.Subscript (.Name x xp) i pos'] pos) ρ P := fun s X F A Q E rm c => by
  obtain ⟨nv, ls, nt, aX⟩ := own_at F.cx m
  refine wpAny_Delete (wpAny_deleteEach_cons (wpAny_delete_Subscript (wpAny_Name (load_name F.cx nv ?_ h2) h1)))
  refine ei X s F.cx A _ E rm fun w h' tk p rd2 => ?_
  obtain ⟨u, rfl⟩ := rd2.int_inv
  obtain ⟨vs, il, r⟩ := ls.tpr F.cx p nt
  have hsz : vs.size = l.length := by rw [← Array.length_toList]; exact r.length
  refine wpAny_delItem_plain (s := { s with heap := h', toks := tk }) il hfit (by rw [hsz]; exact hj) (fun h3 il3 sb => wpAny_deleteEach_nil ?_) (by rw [sizeLine_eq]; omega)
  have pX : Pr X h' h3 := Pr.sameBut sb aX (by obtain ⟨nn, q⟩ := il3; rw [q]; rfl)
  have hjl : j < vs.size := by
    rw [hsz]; unfold seqIndex? at hj
    simp only at hj
    split at hj <;> (try split at hj) <;> first | cases hj | skip
    all_goals (simp only [Bool.and_eq_true, decide_eq_true_eq, Option.some.injEq] at *; omega)
  obtain ⟨F3, gw3⟩ := fx_own (F.pr p) m sb ⟨_, il3, by
    have := (r.eraseIdx j).pr pX
    rw [Array.eraseIdxIfInBounds, dif_pos hjl, Array.toList_eraseIdx]
    exact this⟩ hp
  exact c .nxt .next ρ' X h3 tk kk F3 rfl ((Gw.of (p.mono F.cx.tX)).trans gw3)

/-- an own list is not turned any more: it is data -/
theorem fx_freeze {x : Str} {a : Addr} {l : List PyData} {h : Heap} (F : Fx g M h₀ env X₀ X ρ h) (hM : a ∉ M) (m : (x, Bnd.own a l) ∈ ρ) (hp : Put x (.dat (.list l)) ρ ρ') : Fx g M h₀ env X₀ (X.filter (· != a)) ρ' h := by
  have c := F.cx
  obtain ⟨nv, ls, nt, aX⟩ := own_at F.cx m
  obtain ⟨vs, il, r⟩ := id ls
  have am : a ∈ ownAddrs ρ := List.mem_filterMap.mpr ⟨(x, .own a l), m, rfl⟩
  have n0 : h₀.get? a = none := (F.ownM a am).resolve_left hM
  have sub : ∀ b ∈ X.filter (· != a), b ∈ X := fun b q => (List.mem_filter.mp q).1
  have inn : ∀ b ∈ X, b ≠ a → b ∈ X.filter (· != a) := fun b q ne => List.mem_filter.mpr ⟨q, by simpa using ne⟩
  refine ⟨⟨c.kind, c.glob, c.bltn, c.base, fun b q => c.xB b (sub b q), fun b q => c.xIn b (sub b q), fun t q => inn t (c.tX t q) fun w => nt (w ▸ q), c.ns, inn _ c.lX ?_, c.lT, fun y k e => ?_, fun y b mb => ?_, c.ap⟩,
    hp.uniq F.uniq, F.dist.sublist hp.own_dat, F.old, fun b q => inn b (F.x0 b q) fun w => ?_, fun b q => F.xNew b (sub b q), F.lNew, F.cNew, fun b q => F.ownM b (hp.own_dat.subset q), F.tM, F.x0In, F.b0⟩
  · obtain ⟨m', hn⟩ := c.ns; exact (isList_ne_ns il.isList hn).symm
  · obtain ⟨⟨v, ic⟩, cX, cT⟩ := c.cl y k e
    exact ⟨⟨v, ic⟩, inn k cX (isList_ne_cell il.isList ic).symm, cT⟩
  · rcases hp.mem F.uniq y b mb with ⟨rfl, rfl⟩ | ⟨ny, mb⟩
    · exact ⟨.ref a, nv, rdX_list (fun q => by simpa using (List.mem_filter.mp q).2) il.isList (r.less sub)⟩
    · obtain ⟨v, nv', bi⟩ := c.vars y b mb
      refine ⟨v, nv', ?_⟩
      have lsk : ∀ {b l}, LsP h X b l → LsP h (X.filter (· != a)) b l := fun q => by obtain ⟨vs, i, r⟩ := q; exact ⟨vs, i, r.less sub⟩
      have tbk : ∀ {v b l}, TabIs g h X v b l → TabIs g h (X.filter (· != a)) v b l := fun q => by
        obtain ⟨t, d, hs, tk, n, eq, h1, h2, h3, h4, h5, h6⟩ := q
        exact ⟨t, d, hs, tk, n, eq, h1, h2, lsk h3, fun q => h4 (sub _ q), fun q => h5 (sub _ q), h6⟩
      cases b with
      | dat d => exact RdX.less sub bi
      | own b l' =>
        refine ⟨bi.1, lsk bi.2.1, bi.2.2.1, inn b bi.2.2.2 fun q => ?_⟩
        subst q
        exact ny (Prod.mk.inj (own_one F.dist mb m (.inl ⟨_, rfl⟩) (.inl ⟨_, rfl⟩))).1
      | tab b l' =>
        refine ⟨tbk bi.1, inn b bi.2 fun q => ?_⟩
        subst q
        exact ny (Prod.mk.inj (own_one F.dist mb m (.inr ⟨_, rfl⟩) (.inl ⟨_, rfl⟩))).1
      | tabF l' =>
        obtain ⟨b, tb, nb⟩ := bi
        exact ⟨b, tbk tb, fun q => nb (sub _ q)⟩
      | val w => exact bi
  · subst w; have := F.x0In b q; rw [n0] at this; cases this
theorem wss_freeze {x : Str} {a : Addr} {l : List PyData} {sts : List Stmt} (m : (x, Bnd.own a l) ∈ ρ) (hM : a ∉ M) (hp : Put x (.dat (.list l)) ρ ρ') (k : WSs g n M h₀ env X₀ sts ρ' P) : WSs g n M h₀ env X₀ sts ρ P := fun s X F A Q E rm c =>
  k s (X.filter (· != a)) (fx_freeze F hM m hp) A Q E rm fun f fl ρ2 X2 h2 tk2 hP F2 ok gw => c f fl ρ2 X2 h2 tk2 hP F2 ok (Gw.trans ⟨fun b q => .inl (List.mem_filter.mp q).1, Pr.refl _ _⟩ gw)
theorem wss_weak {sts : List Stmt} (s : ρ'.Sublist ρ) (k : WSs g n M h₀ env X₀ sts ρ' P) : WSs g n M h₀ env X₀ sts ρ P := fun s' X F A Q E rm c => k s' X (fx_weak F s) A Q E rm c
end
end Mine
end
section
open PySem PySem.W PyProof.Rows PySem.Calls PySem.Spec
set_option maxRecDepth 100000
set_option linter.unusedVariables false
namespace Mine

theorem cellsFrom_app : ∀ (names : List (Str × NameKind)) (k : Nat) (acc : List (Str × Addr)), cellsFrom k names acc = cellsFrom k names [] ++ acc
  | [], _, _ => rfl
  | (name, kind) :: r, k, acc => by
    unfold cellsFrom
    split
    · rw [cellsFrom_app r (k + 1) ((name, k) :: acc), cellsFrom_app r (k + 1) [(name, k)]]; simp
    · exact cellsFrom_app r k acc
theorem lookup_app {α : Type} {x : Str} {c : α} : ∀ {l r : List (Str × α)}, (l ++ r).lookup x = some c → l.lookup x = some c ∨ r.lookup x = some c
  | [], _, h => .inr h
  | (y, d) :: l, r, h => by
    rw [List.cons_append, List.lookup_cons] at h
    rw [List.lookup_cons]
    cases q : x == y with
    | true => rw [q] at h; exact .inl h
    | false => rw [q] at h; exact lookup_app h

/-- the cells that a comprehension takes from around -/
def capt (env : Env) : List (Str × NameKind) → List (Str × Addr) → List (Str × Addr)
  | [], acc => acc
  | (n, k) :: r, acc => capt env r (if k == .free then (n, (env.cells.lookup n).getD 0) :: acc else acc)
theorem capt_mem {env : Env} : ∀ (names : List (Str × NameKind)) (acc : List (Str × Addr)), names.all (fun p => p.2 != .free || (env.cells.lookup p.1).isSome) = true → (∀ p ∈ acc, env.cells.lookup p.1 = some p.2) → ∀ p ∈ capt env names acc, env.cells.lookup p.1 = some p.2
  | [], _, _, h => h
  | (n, k) :: r, acc, ha, h => by
    have ha' : (k != .free || (env.cells.lookup n).isSome) = true ∧ r.all (fun p => p.2 != .free || (env.cells.lookup p.1).isSome) = true := Bool.and_eq_true_iff.mp ha
    refine capt_mem r _ ha'.2 fun p m => ?_
    split at m
    · rename_i hk
      rcases List.mem_cons.mp m with q | q
      · subst q
        have hk' : k = .free := by simpa using hk
        subst hk'
        have hq : (env.cells.lookup n).isSome = true := by
          have := ha'.1
          cases q : (env.cells.lookup n).isSome with
          | true => rfl
          | false => rw [q] at this; cases this
        obtain ⟨c, e⟩ := Option.isSome_iff_exists.mp hq
        show env.cells.lookup n = some ((env.cells.lookup n).getD 0)
        rw [e]; rfl
      · exact h p q
    · exact h p m
abbrev ccells (scope : Scope) (env : Env) (C : Addr) : List (Str × Addr) := cellsFrom (C + 1) scope.names (capt env scope.names [])
abbrev cenvOf (scope : Scope) (env : Env) (C : Addr) : Env := compEnvC scope (ccells scope env C) C env

theorem newEnv_comp {M : Model} {A : Around} {E : Value → Shared → Prop} {s : Shared} {env : Env} {scope : Scope} {Q : Env → Shared → Prop}
    (hQ : ∀ cenv, cenv.locals = s.heap.objs.size → { cenv with scope := relabel scope env } = cenvOf scope env s.heap.objs.size → Q cenv { s with heap := pushCells (s.heap.push { cls := .type "dict", data := .dict #[] }) scope.names }) :
    wpAny M A (newFunctionEnv scope env.globals (capt env scope.names []) [] env.qual none .none (some env)) Q E s := by
  simp only [newFunctionEnv, Option.isSome_some, if_true]
  refine wpAny_bind (wpAny_alloc ?_)
  refine wpAny_bind (wpAny_layCells _ (fun name kind cells => by cases hkc : kind == NameKind.cell <;> simp) _ _ _ _ ?_)
  rw [show ({ s with heap := s.heap.push { cls := .type "dict", data := .dict #[] } } : Shared).heap.objs.size = s.heap.objs.size + 1 from Heap.size_push ..]
  refine wpAny_bind ?_
  rw [List.forIn_nil]
  exact wpAny_pure (wpAny_pure (hQ _ rfl rfl))

section
variable {prog : Program} {w : World} {A : Around} {E : Value → Shared → Prop} {R : Result → Shared → Prop} {s : Shared}
theorem compLoop_any {elt target iter : PySem.Expr} {ifs : List PySem.Expr} {scope : Scope} {pos : Pos} {it acc : Value} {env : Env} (I : Nat → Shared → Prop)
    (turn : ∀ n s, I n s → wpAny (model prog w) A (pyNext it) (fun r s₁ => match r with
      | none => R (.ok .next) s₁
      | some v => wpAny (model prog w) A (letOwnedTupleGo target it v) (fun _ s₁' => wpAny (model prog w) A (assign target env v) (fun _ s₂ =>
          wpAny (model prog w) A (forIn ifs true fun c r => if r = true then do let ok ← isTrue c env (eval c env); pure (ForInStep.yield ok) else pure (ForInStep.yield r)) (fun ok s₃ =>
            if ok = true then wpAny (model prog w) A (eval elt env) (fun x s₄ =>
              wpAny (model prog w) A (call (.builtin "list.append") [acc, x]) (fun _ s₅ => ∃ m, m < n ∧ I m s₅) (notedBy (model prog w) A env fun e s' => R (.error e) s') s₄) (notedBy (model prog w) A env fun e s' => R (.error e) s') s₃
            else ∃ m, m < n ∧ I m s₃) (notedBy (model prog w) A env fun e s' => R (.error e) s') s₂) (notedBy (model prog w) A env fun e s' => R (.error e) s') s₁') (notedBy (model prog w) A env fun e s' => R (.error e) s') s₁) (notedBy (model prog w) A env fun e s' => R (.error e) s') s)
    (n : Nat) (h : I n s) : codeAny (model prog w) A (.compLoop (.ListComp elt [⟨target, iter, ifs, 0⟩] scope pos) 0 it acc env) R s := by
  refine codeAny_loop rfl I (fun n s hI => ?_) n h
  show wpAny _ A ((compTurn (.ListComp elt [⟨target, iter, ifs, 0⟩] scope pos) 0 it acc env).onRaise (fun x => do noteFrame x env; theTreesLotGoes x)) _ _ s
  refine wpAny_noted ?_
  rw [compTurn_list]
  refine wpAny_bind (wpAny_standAt (wpAny_bind (wpAny_mono (turn n s hI) (fun r s₁ h₁ => ?_) fun _ _ h' => h')))
  cases r with
  | none => exact wpAny_pure h₁
  | some v =>
    refine wpAny_bind (wpAny_mono h₁ (fun _ s₁' h₁' => ?_) fun _ _ h' => h')
    refine wpAny_bind (wpAny_mono h₁' (fun _ s₂ h₂ => wpAny_bind (wpAny_mono h₂ (fun ok s₃ h₃ => ?_) fun _ _ h' => h')) fun _ _ h' => h')
    cases ok with
    | false => exact wpAny_pure ⟨rfl, h₃⟩
    | true => exact wpAny_bind (wpAny_bind (wpAny_mono h₃ (fun x s₄ h₄ => wpAny_bind (wpAny_mono h₄ (fun _ s₅ h₅ => wpAny_pure (wpAny_pure ⟨rfl, h₅⟩)) fun _ _ h' => h')) fun _ _ h' => h'))
end

section
variable {g : G} {n : Nat} {M : List Addr} {h₀ : Heap} {env : Env} {X₀ X : List Addr} {ρ ρ' : List (Str × Bnd)} {P : Fl → List (Str × Bnd) → Prop}

/-- a new frame -/
theorem fx_init {h₁ h : Heap} {Xc : List Addr} (hp : Hp g X h₁) (p : Pr g.T h₁ h) (k1 : env.scope.kind = .function) (k2 : env.globals = mainGlobals) (k3 : env.builtins = builtinsNs) (ns : ∃ m, h.Ns env.locals m) (ln : h₁.get? env.locals = none)
    (cells : ∀ x c, env.cells.lookup x = some c → (∃ v, h.IsCell c v) ∧ c ∈ Xc ∧ c ∉ g.T ∧ (env.locals < c → h₁.get? c = none)) (apart : ∀ x y c, env.cells.lookup x = some c → env.cells.lookup y = some c → x = y)
    (xc : ∀ a ∈ Xc, a ∈ X ∨ (h₁.get? a = none ∧ (h.get? a).isSome = true)) (xs : ∀ a ∈ X, a ∈ Xc) (lX : env.locals ∈ Xc) (vars : ∀ x b, (x, b) ∈ ρ → VarIs g env Xc h x b) (uniq : (ρ.map (·.1)).Nodup) (dist : (ownAddrs ρ).Nodup)
    (ownM : ∀ a ∈ ownAddrs ρ, a ∈ M ∨ h₁.get? a = none) (tM : ∀ t ∈ g.T, t ∈ M) : Fx g M h₁ env X Xc ρ h := by
  have isB : ∀ a, h₁.get? a = none → g.B.get? a = none := fun a e => by
    cases q : g.B.get? a with
    | none => rfl
    | some o => rw [hp.base a o q] at e; cases e
  refine ⟨⟨k1, k2, k3, fun b o e => p.1 b o (hp.base b o e) fun m => ?_, fun a m => (xc a m).elim (hp.xB a) fun q => isB a q.1, fun a m => (xc a m).elim (fun q => p.2 a (hp.xIn a q)) fun q => q.2, fun t m => xs t (hp.tX t m), ns, lX, fun m => ?_, fun x c e => ?_, vars, apart⟩,
    uniq, dist, p.mono tM, xs, fun a m => (xc a m).imp id fun q => q.1, ln, fun x c e => (cells x c e).2.2.2, ownM, tM, hp.xIn, hp.base⟩
  · have := hp.xB b (hp.tX b m); rw [e] at this; cases this
  · have := hp.xIn _ (hp.tX _ m); rw [ln] at this; cases this
  · exact ⟨(cells x c e).1, (cells x c e).2.1, (cells x c e).2.2.1⟩

theorem LsP.iter {h h' : Heap} {I a : Addr} {l : List PyData} (f : Isf h I) (e : Heap.ExtBut I h h') (r : LsP h X a l) : LsP h' X a l := by
  obtain ⟨vs, ⟨k, q⟩, r⟩ := r
  obtain ⟨o, fs, ho, hf⟩ := id f
  exact ⟨vs, ⟨k, e a _ (fun w => by subst w; rw [ho] at q; cases q; cases hf) q⟩, r.iter f e⟩
/-- through a turn of the frame's own names -/
theorem LsP.prL {h h' : Heap} {a : Addr} {l : List PyData} (r : LsP h X a l) (c : Cx g env X ρ h) (p : PrL g env h h') (nt : a ∉ g.T) : LsP h' X a l := by
  have pX := p.pr c
  obtain ⟨vs, il, r⟩ := r
  obtain ⟨Y, hy, p⟩ := p
  obtain ⟨k, ho⟩ := id il
  refine ⟨vs, ⟨k, p.1 a _ ho fun m => ?_⟩, r.pr pX⟩
  rcases hy a m with rfl | ⟨x, e⟩ | q
  · obtain ⟨m', hn⟩ := c.ns; exact isList_ne_ns il.isList hn rfl
  · obtain ⟨⟨v, ic⟩, _⟩ := c.cl x a e; exact isList_ne_cell il.isList ic rfl
  · exact nt q
/-- what is not the frame's to turn -/
def Fix : Bnd → Prop
  | .dat _ => True
  | .tabF _ => True
  | .val _ => True
  | _ => False
def allFix (ρ : List (Str × Bnd)) : Prop := ∀ x b, (x, b) ∈ ρ → Fix b
theorem BI.fixPr {h h' : Heap} {v : Value} (p : Pr X h h') : ∀ {b : Bnd}, Fix b → BI g X h v b → BI g X h' v b
  | .dat d, _, r => RdX.pr p r
  | .tabF l, _, ⟨a, ⟨t, d, hs, tk, n, e, h1, h2, ⟨vs, ⟨k, q⟩, r⟩, h4, h5, h6⟩, na⟩ => ⟨a, ⟨t, d, hs, tk, n, e, p.1 _ _ h1 h4, p.1 _ _ h2 h5, ⟨vs, ⟨k, p.1 _ _ q na⟩, r.pr p⟩, h4, h5, h6⟩, na⟩
  | .val w, _, r => r
theorem fix_own : ∀ {ρ : List (Str × Bnd)}, allFix ρ → ownAddrs ρ = []
  | [], _ => rfl
  | (x, b) :: ρ, h => by
    have ih := fix_own (ρ := ρ) fun y c m => h y c (.tail _ m)
    have hb := h x b (.head _)
    cases b with
    | dat d => exact ih
    | tabF l => exact ih
    | val w => exact ih
    | own a l => exact hb.elim
    | tab a l => exact hb.elim
/-- a hidden list that no name has is turned -/
theorem fx_hid {h h' : Heap} {D : Addr} {l : List PyData} (F : Fx g M h₀ env X₀ X ρ h) (ad : allFix ρ) (ls : LsP h X D l) (dX : D ∈ X) (dT : D ∉ g.T) (n0 : h₀.get? D = none) (sb : Heap.SameBut D h h') (hx : (h'.get? D).isSome = true) : Fx g M h₀ env X₀ X ρ h' := by
  have c := F.cx
  obtain ⟨vs, il, r⟩ := ls
  have pX : Pr X h h' := Pr.sameBut sb dX hx
  have nsne : ∀ {m}, h.Ns env.locals m → env.locals ≠ D := fun hn => (isList_ne_ns il.isList hn).symm
  have clne : ∀ {k v}, h.IsCell k v → k ≠ D := fun ic => (isList_ne_cell il.isList ic).symm
  refine ⟨⟨c.kind, c.glob, c.bltn, fun b o e => (sb.2 b fun q => ?_).trans (c.base b o e), c.xB, fun a ma => pX.2 a (c.xIn a ma), c.tX, ?_, c.lX, c.lT, fun y k e => ⟨?_, (c.cl y k e).2⟩, fun y b mb => ?_, c.ap⟩,
    F.uniq, F.dist, ⟨fun b o e nm => (sb.2 b fun q => ?_).trans (F.old.1 b o e nm), fun b e => pX.2 b (F.old.2 b e)⟩, F.x0, F.xNew, F.lNew, F.cNew, F.ownM, F.tM, F.x0In, F.b0⟩
  · have := c.xB D dX; rw [← q, e] at this; cases this
  · obtain ⟨m, hn⟩ := c.ns; exact ⟨m, hn.sameBut sb (nsne hn)⟩
  · obtain ⟨⟨v, ic⟩, _⟩ := c.cl y k e; exact ⟨v, ic.sameBut sb (clne ic)⟩
  · obtain ⟨v, nv, bi⟩ := c.vars y b mb
    refine ⟨v, ?_, BI.fixPr pX (ad y b mb) bi⟩
    rcases nv with ⟨ky, m', hm', e⟩ | ⟨ky, cc, e, ic⟩
    · exact .inl ⟨ky, m', hm'.sameBut sb (nsne hm'), e⟩
    · exact .inr ⟨ky, cc, e, ic.sameBut sb (clne ic)⟩
  · rw [q, n0] at e; cases e
theorem it_self {s : Shared} {I : Addr} {l : List PyData} (t : ItIs s.heap X I l) {A : Around} {Q : Value → Shared → Prop} {E : Value → Shared → Prop} (h : Q (.ref I) s) : wpAny g.M A (pyIter (.ref I)) Q E s := by
  cases t with
  | list a _ _ _ => exact wpAny_pyIter_listiter a h
  | range a => exact wpAny_pyIter_rangeiter a h
  | text a => exact wpAny_pyIter_striter_ascii a h

/-- a comprehension's tests -/
def EvC (g : G) (n : Nat) (env : Env) (X : List Addr) (ρ : List (Str × Bnd)) : List PySem.Expr → Bool → Prop
  | [], b => b = true
  | [c], b => EvT g n env X ρ c b
  | _, _ => False
theorem tests_ok {ifs : List PySem.Expr} {b : Bool} (h : EvC g n env X ρ ifs b) {s : Shared} (c : Cx g env X ρ s.heap) {A : Around} {Q : Bool → Shared → Prop} {E : Value → Shared → Prop} (rm : Rm n A)
    (k : ∀ h' tk, Pr g.T s.heap h' → Q b { s with heap := h', toks := tk }) : wpAny g.M A (forIn ifs true fun c r => if r = true then do let ok ← isTrue c env (eval c env); pure (ForInStep.yield ok) else pure (ForInStep.yield r)) Q E s := by
  match ifs, h with
  | [], h => cases (show b = true from h); exact wpAny_tests_nil (k s.heap s.toks (Pr.refl _ _))
  | [t], h => exact wpAny_tests_one ((show EvT g n env X ρ t b from h) s c A Q E rm k)

/-- a name of around, seen from the comprehension -/
def Capd (env : Env) (scope : Scope) (x : Str) : Prop :=
  (env.kindOf x = some .cell ∨ env.kindOf x = some .free) ∧ ((relabel scope env).names.lookup x = some .cell ∨ (relabel scope env).names.lookup x = some .free) ∧ ∀ C, (ccells scope env C).lookup x = env.cells.lookup x
def Caps (env : Env) (scope : Scope) (ρ : List (Str × Bnd)) : List (Str × PyData) → Prop
  | [] => True
  | (x, d) :: r => ((x, Bnd.dat d) ∈ ρ ∧ Capd env scope x) ∧ Caps env scope ρ r
theorem Caps.mem {scope : Scope} : ∀ {cs : List (Str × PyData)}, Caps env scope ρ cs → ∀ x d, (x, d) ∈ cs → (x, Bnd.dat d) ∈ ρ ∧ Capd env scope x
  | _ :: _, h, x, d, m => by
    rcases List.mem_cons.mp m with e | m
    · cases e; exact h.1
    · exact Caps.mem h.2 x d m
def dats (cs : List (Str × PyData)) : List (Str × Bnd) := cs.map fun p => (p.1, .dat p.2)
theorem dats_allFix (cs : List (Str × PyData)) : allFix (dats cs) := fun x b m => by
  obtain ⟨p, _, e⟩ := List.mem_map.mp m; cases e; trivial
def CapsB (env : Env) (scope : Scope) (ρ ρc : List (Str × Bnd)) : Prop := ∀ x b, (x, b) ∈ ρc → (x, b) ∈ ρ ∧ Capd env scope x
def CapsL (env : Env) (scope : Scope) (ρ : List (Str × Bnd)) : List (Str × Bnd) → Prop
  | [] => True
  | (x, b) :: r => ((x, b) ∈ ρ ∧ Capd env scope x) ∧ CapsL env scope ρ r
theorem CapsL.b {scope : Scope} : ∀ {ρc : List (Str × Bnd)}, CapsL env scope ρ ρc → CapsB env scope ρ ρc
  | _ :: _, h, x, b, m => by
    rcases List.mem_cons.mp m with e | m
    · cases e; exact h.1
    · exact CapsL.b h.2 x b m
theorem Caps.b {scope : Scope} {cs : List (Str × PyData)} (h : Caps env scope ρ cs) : CapsB env scope ρ (dats cs) := fun x b m => by
  obtain ⟨⟨y, d⟩, m', e⟩ := List.mem_map.mp m
  cases e
  exact h.mem _ _ m'
theorem dats_own : ∀ cs : List (Str × PyData), ownAddrs (dats cs) = []
  | [] => rfl
  | _ :: cs => dats_own cs

/-- one turn of the comprehension -/
def CTurnB (g : G) (n : Nat) (env : Env) (scope : Scope) (X : List Addr) (target elt : PySem.Expr) (ifs : List PySem.Expr) (ρc : List (Str × Bnd)) (d : PyData) (f : Option PyData) : Prop :=
  ∀ C h₁, AsgOK g n g.T h₁ (cenvOf scope env C) X target d ρc fun ρ2 => ρc.Sublist ρ2 ∧ (∀ X', EvC g n (cenvOf scope env C) X' ρ2 ifs f.isSome) ∧ ∀ d', f = some d' → ∀ X', EvP g n (cenvOf scope env C) X' ρ2 elt d'
def CTurn (g : G) (n : Nat) (env : Env) (scope : Scope) (X : List Addr) (target elt : PySem.Expr) (ifs : List PySem.Expr) (cs : List (Str × PyData)) (d : PyData) (f : Option PyData) : Prop :=
  ∀ C h₁, AsgOK g n g.T h₁ (cenvOf scope env C) X target d (dats cs) fun ρ2 => (dats cs).Sublist ρ2 ∧ (∀ X', EvC g n (cenvOf scope env C) X' ρ2 ifs f.isSome) ∧ ∀ d', f = some d' → ∀ X', EvP g n (cenvOf scope env C) X' ρ2 elt d'

theorem comp_coreB {elt target iter : PySem.Expr} {ifs : List PySem.Expr} {scope : Scope} {pos : Pos} {l : List PyData} {ρc : List (Str × Bnd)} (hfix : allFix ρc) (f : PyData → Option PyData) (ei : EvI g n env X ρ iter l)
    (hclos : closureFor scope env = pure (capt env scope.names [])) (hall : scope.names.all (fun p => p.2 != .free || (env.cells.lookup p.1).isSome) = true) (hkind : scope.kind = .function) (hnames : ∀ x ∈ scope.names, x.2 = .local → scope.names.lookup x.1 = some .local)
    (hcs : CapsB env scope ρ ρc) (hu : (ρc.map (·.1)).Nodup) (turn : ∀ d ∈ l, CTurnB g n env scope X target elt ifs ρc d (f d)) (ht : TgOK target l) (hlen : l.length ≤ 1000000) (hs : ∀ x, foldedSetIterable iter env x = pure x)
    {use : Option (Value → Sem Unit)} {s : Shared} (c : Cx g env X ρ s.heap) {A : Around} {Q : Value → Shared → Prop} {E : Value → Shared → Prop} (rm : Rm n A) {p0 : Pos}
    (k : ∀ D C hE tk, Pr g.T s.heap hE → s.heap.get? D = none → s.heap.get? C = none → D ≠ C → (∃ m, hE.Ns C m) → LsP hE (D :: C :: X) D (l.filterMap f) → compPost g.M A E use Q (.ref D) C (.ok .next) { s with heap := hE, toks := tk }) :
    wpAny g.M A (comprehension (.ListComp elt [⟨target, iter, ifs, 0⟩] scope pos) scope env p0 (newList []) false (eval iter env) use) Q E s := by
  refine wpAny_comprehension_free (use := use) rfl hs hclos hkind hnames (ei s c A _ E rm fun I h1 tk1 p1 nI nX it => ?_)
  refine wpAny_newObj_type ?_
  refine newEnv_comp fun cenv hloc henv => ?_
  rw [henv, hloc]
  generalize hD : h1.objs.size = D
  generalize hH2 : h1.push { cls := .type "list", dict := none, data := .seq ([] : List Value).toArray } = H2
  generalize hC : H2.objs.size = C
  have hDC : D + 1 = C := by rw [← hC, ← hH2, Heap.size_push, hD]
  have hDlt : D < C := by rw [← hDC]; exact Nat.lt_succ_self _
  generalize hH3 : pushCells (H2.push { cls := .type "dict", data := .dict #[] }) scope.names = H3
  have g1 : ∀ a, D ≤ a → h1.get? a = none := fun a q => by
    cases e : h1.get? a with
    | none => rfl
    | some o => exact absurd (Heap.lt_size e) (by rw [hD]; exact Nat.not_lt.mpr q)
  have g0 : ∀ a, D ≤ a → s.heap.get? a = none := fun a q => new_of p1 (g1 a q)
  have k12 : ∀ b o, h1.get? b = some o → H2.get? b = some o := fun b o e => by rw [← hH2]; exact Heap.get?_push_of_some _ e
  have k23 : ∀ b o, H2.get? b = some o → H3.get? b = some o := fun b o e => by rw [← hH3]; exact pushCells_keeps _ _ b o (Heap.get?_push_of_some _ e)
  have p13 : Pr g.T h1 H3 := Pr.of_keeps fun b o e => k23 b o (k12 b o e)
  have ok := cellsFrom_ok scope.names (H2.push { cls := .type "dict", data := .dict #[] }) (C + 1) [] ⟨fun _ _ hm => (nomatch hm), List.Pairwise.nil⟩ (by rw [Heap.size_push, hC]; exact Nat.le_refl _)
  rw [Heap.size_push, hC, hH3] at ok
  have hcm := capt_mem scope.names [] hall (fun _ m => (nomatch m))
  have split : ∀ x a, (ccells scope env C).lookup x = some a → (cellsFrom (C + 1) scope.names []).lookup x = some a ∨ env.cells.lookup x = some a := fun x a e => by
    have e' : (cellsFrom (C + 1) scope.names [] ++ capt env scope.names []).lookup x = some a := by rw [← cellsFrom_app]; exact e
    rcases lookup_app e' with q | q
    · exact .inl q
    · exact .inr (hcm _ (mem_of_lookup q))
  have nsC : H3.Ns C (fun _ => none) := by
    rw [← hH3, ← hC]; exact (Heap.Ns.new H2 (.type "dict")).keeps (pushCells_keeps _ _)
  have plD : H3.PlainList D #[] := ⟨0, k23 _ _ (by rw [← hH2, ← hD]; exact Heap.get?_push_size _ rfl)⟩
  let Z := (cellsFrom (C + 1) scope.names []).map (·.2)
  let Xc := D :: C :: (Z ++ X)
  have zN : ∀ a ∈ Z, C + 1 ≤ a ∧ (H3.get? a).isSome = true := fun a m => by
    obtain ⟨⟨x, c'⟩, m', rfl⟩ := List.mem_map.mp m
    exact ⟨(ok.empty x c' m').2, cell_some (ok.empty x c' m').1⟩
  have pc := c.pr p1
  have tD : D ∉ g.T := fun m => by have := pc.xIn D (pc.tX D m); rw [g1 D (Nat.le_refl _)] at this; cases this
  have xNewc : ∀ a ∈ Xc, a ∈ X ∨ (s.heap.get? a = none ∧ (H3.get? a).isSome = true) := fun a m => by
    rcases List.mem_cons.mp m with rfl | m
    · obtain ⟨nn, q⟩ := plD; exact .inr ⟨g0 _ (Nat.le_refl _), by rw [q]; rfl⟩
    · rcases List.mem_cons.mp m with rfl | m
      · exact .inr ⟨g0 _ (by omega), ns_some nsC⟩
      · rcases List.mem_append.mp m with m | m
        · exact .inr ⟨g0 _ (by have := (zN a m).1; omega), (zN a m).2⟩
        · exact .inl m
  have growX : ∀ b o, h1.get? b = some o → b ∉ X → b ∉ Xc := fun b o e nb m => by
    rcases List.mem_cons.mp m with rfl | m
    · rw [g1 _ (Nat.le_refl _)] at e; cases e
    · rcases List.mem_cons.mp m with rfl | m
      · rw [g1 _ (by omega)] at e; cases e
      · rcases List.mem_append.mp m with m | m
        · rw [g1 _ (by have := (zN b m).1; omega)] at e; cases e
        · exact nb m
  have subX : ∀ a ∈ X, a ∈ Xc := fun a m => .tail _ (.tail _ (List.mem_append_right _ m))
  have F0 : Fx g g.T s.heap (cenvOf scope env C) X Xc ρc H3 := by
    refine fx_init c.hp (p1.trans p13) hkind c.glob c.bltn ⟨_, nsC⟩ (g0 C (by omega)) (fun x a e => ?_) (fun x y a e e' => ?_) xNewc subX (.tail _ (.head _)) (fun x b m => ?_) hu (by rw [fix_own hfix]; exact List.nodup_nil) (fun a m => by rw [fix_own hfix] at m; cases m) (fun t m => m)
    · rcases split x a e with q | q
      · have m := mem_of_lookup q
        have := ok.empty x a m
        refine ⟨⟨_, this.1⟩, .tail _ (.tail _ (List.mem_append_left _ (List.mem_map.mpr ⟨_, m, rfl⟩))), fun m' => ?_, fun _ => g0 a (by omega)⟩
        have := pc.xIn a (pc.tX a m'); rw [g1 a (by omega)] at this; cases this
      · obtain ⟨⟨v, ic⟩, aX, aT⟩ := pc.cl x a q
        refine ⟨⟨v, ic.keeps fun b o e => k23 b o (k12 b o e)⟩, subX a aX, aT, fun hlt => ?_⟩
        have := Heap.lt_size ic.choose_spec.1
        rw [hD] at this
        exact absurd (Nat.lt_trans (Nat.lt_trans (show C < a from hlt) this) hDlt) (Nat.lt_irrefl _)
    · rcases split x a e with q | q <;> rcases split y a e' with q' | q'
      · exact name_of_addr ok.apart (mem_of_lookup q) (mem_of_lookup q')
      · have t1 := (ok.empty x a (mem_of_lookup q)).2
        obtain ⟨⟨v, ic⟩, _⟩ := pc.cl y a q'
        have := ic.lt; rw [hD] at this; exact absurd (Nat.lt_trans (Nat.lt_trans (Nat.lt_of_succ_le t1) this) hDlt) (Nat.lt_irrefl _)
      · have t1 := (ok.empty y a (mem_of_lookup q')).2
        obtain ⟨⟨v, ic⟩, _⟩ := pc.cl x a q
        have := ic.lt; rw [hD] at this; exact absurd (Nat.lt_trans (Nat.lt_trans (Nat.lt_of_succ_le t1) this) hDlt) (Nat.lt_irrefl _)
      · exact c.ap x y a q q'
    · obtain ⟨mρ, k1, k2, k3⟩ := hcs _ _ m
      obtain ⟨v, nv, bi⟩ := pc.vars _ _ mρ
      refine ⟨v, ?_, (BI.grow growX subX bi).pr p13 fun t q => subX t (pc.tX t q)⟩
      rcases nv with ⟨kl, _⟩ | ⟨_, cc, ec, ic⟩
      · rw [kl] at k1; rcases k1 with q | q <;> cases q
      · exact .inr ⟨k2, cc, (k3 C).trans ec, ic.keeps fun b o e => k23 b o (k12 b o e)⟩
  have it3 : ItIs H3 Xc I l := it.gw ⟨fun a m => (xNewc a m).imp id (fun q => by
      rcases List.mem_cons.mp m with rfl | m
      · exact g1 _ (Nat.le_refl _)
      · rcases List.mem_cons.mp m with rfl | m
        · exact g1 _ (by omega)
        · rcases List.mem_append.mp m with m | m
          · exact g1 _ (by have := (zN a m).1; omega)
          · have := c.xIn a m; rw [q.1] at this; cases this), p13.mono pc.tX⟩ nX
  have nXc : I ∉ Xc := by
    obtain ⟨o, fs, ho, _⟩ := it.isf
    exact growX I o ho nX
  have main : codeAny g.M A (.compLoop (.ListComp elt [⟨target, iter, ifs, 0⟩] scope pos) 0 (.ref I) (.ref D) (cenvOf scope env C)) (compPost g.M A E use Q (.ref D) C) { s with heap := H3, toks := tk1 } := by
    refine compLoop_any (fun q s' => ∃ rest h' tk, s' = { s with heap := h', toks := tk } ∧ rest.length = q ∧ (∃ j, l.drop j = rest ∧ j ≤ l.length ∧ LsP h' Xc D ((l.take j).filterMap f)) ∧ Fx g g.T s.heap (cenvOf scope env C) X Xc ρc h' ∧ ItIs h' Xc I rest)
      ?_ l.length ⟨l, H3, tk1, rfl, rfl, ⟨0, rfl, Nat.zero_le _, ⟨#[], plD, trivial⟩⟩, F0, it3⟩
    rintro q s' ⟨rest, h', tk, rfl, rfl, ⟨j, hj, hjl, ls⟩, F1, it1⟩
    refine it_next (s := { s with heap := h', toks := tk }) it1 rm.1 (fun e h2 ex => ?_) fun d r e v h2 tk2 ex isI rd it2 kd => ?_
    · have hjj : j = l.length := by
        have := congrArg List.length hj
        rw [e, List.length_drop] at this
        have : l.length - j = 0 := this
        omega
      subst hjj
      rw [List.take_length] at ls
      have F2 := fx_iter F1 it1.isf ex nI nXc
      refine k D C h2 tk F2.old (g0 D (Nat.le_refl _)) (g0 C (by omega)) (Nat.ne_of_lt hDlt) F2.cx.ns ?_
      obtain ⟨vs, il, r⟩ := ls.iter it1.isf ex
      exact ⟨vs, il, r.less fun b m => by
        rcases List.mem_cons.mp m with rfl | m
        · exact .head _
        · rcases List.mem_cons.mp m with rfl | m
          · exact .tail _ (.head _)
          · exact subX b m⟩
    · have hd : l[j]? = some d := by
        have : (l.drop j)[0]? = some d := by rw [hj, e]; rfl
        simpa using this
      have hjlt : j < l.length := by
        by_cases q : j < l.length
        · exact q
        · rw [List.getElem?_eq_none (by omega)] at hd; cases hd
      have md : d ∈ l := List.mem_of_getElem? hd
      refine letgo (s := { s with heap := h2, toks := tk2 }) rd ht md kd ?_
      have F2 := fx_iter F1 it1.isf ex nI nXc
      have ls2 := ls.iter it1.isf ex
      refine turn d md C s.heap { s with heap := h2, toks := tk2 } Xc v F2 rd A _ _ rm fun ρ2 h3 tk3 hb F3 p3 => ?_
      have ls3 := ls2.prL F2.cx p3 tD
      have it3 := it2.gw (Gw.of (p3.pr F2.cx)) nXc
      refine tests_ok (s := { s with heap := h3, toks := tk3 }) (hb.2.1 Xc) F3.cx rm fun h4 tk4 p4 => ?_
      have F4 := F3.pr p4
      have ls4 := ls3.tpr F3.cx p4 tD
      have it4 := it3.gw (Gw.of (p4.mono F3.cx.tX)) nXc
      have hdr : l.drop (j + 1) = r := by rw [← List.drop_drop, hj, e]; rfl
      have htk : (l.take (j + 1)).filterMap f = (l.take j).filterMap f ++ (f d).toList := by
        rw [List.take_add_one, hd, List.filterMap_append]
        cases q : f d <;> simp [q]
      cases hf : f d with
      | none =>
        rw [hf] at htk
        simp only [Option.isSome_none, Bool.false_eq_true, if_false]
        exact ⟨r.length, by rw [e]; exact Nat.lt_succ_self _, r, h4, tk4, rfl, rfl, ⟨j + 1, hdr, hjlt, by rw [htk]; simpa using ls4⟩, fx_weak F4 hb.1, it4⟩
      | some d' =>
        rw [hf] at htk
        simp only [Option.isSome_some, if_true]
        refine hb.2.2 d' hf Xc { s with heap := h4, toks := tk4 } F4.cx A _ _ rm fun u h5 tk5 p5 ru => ?_
        have F5 := F4.pr p5
        obtain ⟨vs, il, rr⟩ := ls4.tpr F4.cx p5 tD
        have it5 := it4.gw (Gw.of (p5.mono F4.cx.tX)) nXc
        have hsz : vs.size ≤ 1000000 := by
          have e1 : vs.size = ((l.take j).filterMap f).length := by rw [← Array.length_toList]; exact rr.length
          have e2 := List.length_filterMap_le f (l.take j)
          have e3 : (l.take j).length ≤ l.length := by simp; omega
          omega
        refine wpAny_list_append_plain (s := { s with heap := h5, toks := tk5 }) il (fun h6 il6 sb => ?_) (by rw [sizeLine_eq]; omega)
        have is6 : (h6.get? D).isSome = true := by obtain ⟨nn, q⟩ := il6; rw [q]; rfl
        have pX : Pr Xc h5 h6 := Pr.sameBut sb (.head _) is6
        refine ⟨r.length, by rw [e]; exact Nat.lt_succ_self _, r, h6, tk5, rfl, rfl, ⟨j + 1, hdr, hjlt, ?_⟩, fx_hid (fx_weak F5 hb.1) hfix ⟨vs, il, rr⟩ (.head _) tD (g0 D (Nat.le_refl _)) sb is6, it5.gw (Gw.of pX) nXc⟩
        rw [htk]
        exact ⟨_, il6, by simpa using (rr.append (ws := [u]) (es := [d']) ⟨ru, trivial⟩).pr pX⟩
  exact codeAny_compStart_list main (it_self (s := { s with heap := H3, toks := tk1 }) it3 main)
theorem comp_core {elt target iter : PySem.Expr} {ifs : List PySem.Expr} {scope : Scope} {pos : Pos} {l : List PyData} {cs : List (Str × PyData)} (f : PyData → Option PyData) (ei : EvI g n env X ρ iter l)
    (hclos : closureFor scope env = pure (capt env scope.names [])) (hall : scope.names.all (fun p => p.2 != .free || (env.cells.lookup p.1).isSome) = true) (hkind : scope.kind = .function) (hnames : ∀ x ∈ scope.names, x.2 = .local → scope.names.lookup x.1 = some .local)
    (hcs : Caps env scope ρ cs) (hu : (cs.map (·.1)).Nodup) (turn : ∀ d ∈ l, CTurn g n env scope X target elt ifs cs d (f d)) (ht : TgOK target l) (hlen : l.length ≤ 1000000) (hs : ∀ x, foldedSetIterable iter env x = pure x)
    {use : Option (Value → Sem Unit)} {s : Shared} (c : Cx g env X ρ s.heap) {A : Around} {Q : Value → Shared → Prop} {E : Value → Shared → Prop} (rm : Rm n A) {p0 : Pos}
    (k : ∀ D C hE tk, Pr g.T s.heap hE → s.heap.get? D = none → s.heap.get? C = none → D ≠ C → (∃ m, hE.Ns C m) → LsP hE (D :: C :: X) D (l.filterMap f) → compPost g.M A E use Q (.ref D) C (.ok .next) { s with heap := hE, toks := tk }) :
    wpAny g.M A (comprehension (.ListComp elt [⟨target, iter, ifs, 0⟩] scope pos) scope env p0 (newList []) false (eval iter env) use) Q E s :=
  comp_coreB (dats_allFix cs) f ei hclos hall hkind hnames hcs.b (by unfold dats; rw [List.map_map]; exact hu) turn ht hlen hs c rm k
end
end Mine
end
section
open PySem PySem.W PyProof.Rows PySem.Calls PySem.Spec
set_option maxRecDepth 100000
set_option linter.unusedVariables false
namespace Mine
theorem RdX.pr1 {X : List Addr} {h h' : Heap} {v : Value} {d : PyData} (k : ∀ b o, h.get? b = some o → b ∉ X → h'.get? b = some o) (r : RdX h X v d) : RdX h' X v d := by
  obtain ⟨as, q⟩ := r
  refine ⟨as, PyProof.Rows.Reads.keeps (fun b o e => ?_) q⟩
  have m : b ∉ X := fun m => by rw [hideAll_none X m] at e; cases e
  exact hideAll_get X (k b o (of_hideAll X e) m) m
theorem RdsX.pr1 {X : List Addr} {h h' : Heap} (k : ∀ b o, h.get? b = some o → b ∉ X → h'.get? b = some o) : ∀ {vs : List Value} {ds : List PyData}, RdsX h X vs ds → RdsX h' X vs ds
  | [], [], _ => trivial
  | _ :: _, _ :: _, r => ⟨r.1.pr1 k, RdsX.pr1 k r.2⟩
theorem Pr.extNew {Y : List Addr} {h h' h'' : Heap} {C : Addr} (p : Pr Y h h') (n : h.get? C = none) (e : Heap.ExtBut C h' h'') : Pr Y h h'' := by
  have ne : ∀ b o, h.get? b = some o → b ≠ C := fun b o q w => by subst w; rw [n] at q; cases q
  refine ⟨fun b o q nb => e b o (ne b o q) (p.1 b o q nb), fun b q => ?_⟩
  obtain ⟨o, q'⟩ := Option.isSome_iff_exists.mp q
  obtain ⟨o', q''⟩ := Option.isSome_iff_exists.mp (p.2 b q)
  rw [e b o' (ne b o q') q'']; rfl

section
variable {g : G} {n : Nat} {M : List Addr} {h₀ : Heap} {env : Env} {X₀ X : List Addr} {ρ ρ' : List (Str × Bnd)} {P : Fl → List (Str × Bnd) → Prop}

theorem evp_of_evf {e : PySem.Expr} {l : List PyData} (ee : EvF g n env X ρ e l) : EvP g n env X ρ e (.list l) := fun s c A Q E rm h =>
  ee s c A Q E rm fun a h' tk p na ls => h _ h' tk p (RdX.of_own ls (fun b m => .tail _ m) fun m => by have := c.xIn a m; rw [na] at this; cases this)

theorem evf_comp {elt target iter : PySem.Expr} {ifs : List PySem.Expr} {scope : Scope} {pos : Pos} {l : List PyData} {cs : List (Str × PyData)} (f : PyData → Option PyData) (ei : EvI g n env X ρ iter l) (hcs : Caps env scope ρ cs)
    (turn : ∀ d ∈ l, CTurn g n env scope X target elt ifs cs d (f d)) (ht : TgOK target l) (hlen : l.length ≤ 1000000) (hu : (cs.map (·.1)).Nodup := by (simp only [List.map_cons, List.map_nil]; decide))
    (hclos : closureFor scope env = pure (capt env scope.names []) := by rfl) (hall : scope.names.all (fun p => p.2 != .free || (env.cells.lookup p.1).isSome) = true := by rfl) (hkind : scope.kind = .function := by rfl)
    (hnames : ∀ x ∈ scope.names, x.2 = .local → scope.names.lookup x.1 = some .local := by decide) (hs : ∀ x, foldedSetIterable iter env x = pure x := by intro _; rfl) :
    EvF g n env X ρ (.ListComp elt [⟨target, iter, ifs, 0⟩] scope pos) (l.filterMap f) := fun s c A Q E rm h => by
  rw [eval_ListComp]
  refine comp_core (use := none) f ei hclos hall hkind hnames hcs hu turn ht hlen hs c rm fun D C hE tk p nD nC ne ns ls => ?_
  obtain ⟨m, hn⟩ := ns
  refine ⟨m, hn, fun h' sb => h D h' tk (p.extNew nC sb.extBut) nD ?_⟩
  obtain ⟨vs, ⟨nn, q⟩, r⟩ := ls
  refine ⟨vs, ⟨nn, (sb.2 D ne).trans q⟩, (r.pr1 fun b o e nb => (sb.2 b fun w => nb (w ▸ .tail _ (.head _))).trans e).less fun b m => ?_⟩
  rcases List.mem_cons.mp m with rfl | m
  · exact .head _
  · exact .tail _ (.tail _ m)

/-- a hidden frame is let go -/
theorem fx_drop {h h' : Heap} {C : Addr} (F : Fx g M h₀ env X₀ (C :: X) ρ h) (nC : C ∉ X) (n0 : h₀.get? C = none) (ns : ∃ m, h.Ns C m) (nl : C ≠ env.locals) (nT : C ∉ g.T) (e : Heap.ExtBut C h h') : Fx g M h₀ env X₀ X ρ h' := by
  have c := F.cx
  obtain ⟨mC, hnC⟩ := ns
  have sub : ∀ b ∈ X, b ∈ C :: X := fun b m => .tail _ m
  have inn : ∀ b ∈ C :: X, b ≠ C → b ∈ X := fun b m ne => (List.mem_cons.mp m).resolve_left ne
  have k1 : ∀ b o, h.get? b = some o → b ∉ C :: X → h'.get? b = some o := fun b o q nb => e b o (fun w => nb (w ▸ .head _)) q
  have keep : ∀ b, b ≠ C → (h.get? b).isSome = true → (h'.get? b).isSome = true := fun b nb q => by
    obtain ⟨o, q⟩ := Option.isSome_iff_exists.mp q; rw [e b o nb q]; rfl
  have lsne : ∀ {a vs}, h.IsList a vs → a ≠ C := fun i => isList_ne_ns i hnC
  have clne : ∀ {k v}, h.IsCell k v → k ≠ C := fun ic => (ns_ne_cell hnC ic).symm
  have lsk : ∀ {b l}, LsP h (C :: X) b l → LsP h' X b l := fun q => by
    obtain ⟨vs, ⟨nn, i⟩, r⟩ := q
    exact ⟨vs, ⟨nn, e _ _ (lsne (vs := vs) ⟨_, i, rfl, _, rfl⟩) i⟩, (r.pr1 k1).less sub⟩
  have tbk : ∀ {v b l}, TabIs g h (C :: X) v b l → TabIs g h' X v b l := fun q => by
    obtain ⟨t, d, hs, tk, n, eq, h1, h2, h3, h4, h5, h6⟩ := q
    exact ⟨t, d, hs, tk, n, eq, k1 _ _ h1 h4, k1 _ _ h2 h5, lsk h3, fun q => h4 (sub _ q), fun q => h5 (sub _ q), h6⟩
  refine ⟨⟨c.kind, c.glob, c.bltn, fun b o q => e b o (fun w => ?_) (c.base b o q), fun b q => c.xB b (sub b q), fun b q => keep b (fun w => nC (w ▸ q)) (c.xIn b (sub b q)), fun t q => inn t (c.tX t q) fun w => nT (w ▸ q), ?_, inn _ c.lX nl.symm, c.lT, fun y k ek => ?_, fun y b mb => ?_, c.ap⟩,
    F.uniq, F.dist, F.old.extNew n0 e, fun b q => inn b (F.x0 b q) fun w => ?_, fun b q => F.xNew b (sub b q), F.lNew, F.cNew, F.ownM, F.tM, F.x0In, F.b0⟩
  · have := F.b0 b o q; rw [w, n0] at this; cases this
  · obtain ⟨m, o, es, ep, q, r⟩ := c.ns; exact ⟨m, o, es, ep, e _ _ nl.symm q, r⟩
  · obtain ⟨⟨v, ic⟩, cX, cT⟩ := c.cl y k ek
    obtain ⟨o, q, r⟩ := id ic
    exact ⟨⟨v, o, e _ _ (clne ic) q, r⟩, inn k cX (clne ic), cT⟩
  · obtain ⟨v, nv, bi⟩ := c.vars y b mb
    refine ⟨v, ?_, ?_⟩
    · rcases nv with ⟨ky, m', ⟨o, es, ep, q, r⟩, eq⟩ | ⟨ky, cc, ec, ic⟩
      · exact .inl ⟨ky, m', ⟨o, es, ep, e _ _ nl.symm q, r⟩, eq⟩
      · obtain ⟨o, q, r⟩ := id ic
        exact .inr ⟨ky, cc, ec, ⟨o, e _ _ (clne ic) q, r⟩⟩
    · cases b with
      | dat d => exact (RdX.pr1 k1 bi).less sub
      | own b l' =>
        obtain ⟨vs, i, _⟩ := id bi.2.1
        exact ⟨bi.1, lsk bi.2.1, bi.2.2.1, inn b bi.2.2.2 (lsne i.isList)⟩
      | tab b l' =>
        obtain ⟨t, d, hs, tk, n, eq, h1, h2, ⟨vs, i, _⟩, h4, h5, h6⟩ := id bi.1
        exact ⟨tbk bi.1, inn b bi.2 (lsne i.isList)⟩
      | tabF l' =>
        obtain ⟨b, tb, nb⟩ := bi
        exact ⟨b, tbk tb, fun q => nb (sub _ q)⟩
      | val w => exact bi
  · subst w; have := F.x0In b q; rw [n0] at this; cases this

/-- y = a comprehension, the name stored before the comprehension's own are let go -/
theorem ws_comp {elt target iter : PySem.Expr} {ifs : List PySem.Expr} {scope : Scope} {pos py spos : Pos} {y : Str} {l : List PyData} {cs : List (Str × PyData)} (f : PyData → Option PyData) (ei : ∀ X, EvI g n env X ρ iter l) (hcs : Caps env scope ρ cs)
    (turn : ∀ X, ∀ d ∈ l, CTurn g n env scope X target elt ifs cs d (f d)) (ht : TgOK target l) (hlen : l.length ≤ 1000000) (hk : Storable env y) (hp : Put y (.dat (.list (l.filterMap f))) ρ ρ') (k : P .nxt ρ') (hu : (cs.map (·.1)).Nodup := by (simp only [List.map_cons, List.map_nil]; decide))
    (hsw : swapsWith (.ListComp elt [⟨target, iter, ifs, 0⟩] scope pos) (some (.Name y py)) spos.line env = pure true := by rfl)
    (hclos : closureFor scope env = pure (capt env scope.names []) := by rfl) (hall : scope.names.all (fun p => p.2 != .free || (env.cells.lookup p.1).isSome) = true := by rfl) (hkind : scope.kind = .function := by rfl)
    (hnames : ∀ x ∈ scope.names, x.2 = .local → scope.names.lookup x.1 = some .local := by decide) (hs : ∀ x, foldedSetIterable iter env x = pure x := by intro _; rfl) :
    WS g n M h₀ env X₀ (.Assign [.Name y py] (.ListComp elt [⟨target, iter, ifs, 0⟩] scope pos) spos) ρ P := fun s X F A Q E rm cc => by
  rw [exec_Assign_Name_used _ _ _ _ hsw]
  refine wpAny_bind (wpAny_standAt (wpAny_bind ?_))
  show wpAny _ A (do let _ ← comprehension (.ListComp elt [⟨target, iter, ifs, 0⟩] scope pos) scope env _ (newList []) false (eval iter env) (some (assign (.Name y py) env))) _ _ s
  refine wpAny_bind (wpAny_mono (comp_core (Q := fun _ s' => Q .next s') (use := some (assign (.Name y py) env)) f (ei X) hclos hall hkind hnames hcs hu (turn X) ht hlen hs F.cx rm fun D C hE tk p nD nC ne ns ls => ?_) (fun _ s' hq => wpAny_pure (wpAny_pure hq)) fun _ _ e => e)
  have F1 : Fx g M h₀ env X₀ (C :: X) ρ hE := fx_grow (Z := [C]) F (fun z m => by simp at m; subst m; exact nC) p (fun z m => by simp at m; subst m; obtain ⟨m', hn⟩ := ns; exact ns_some hn)
  have nCX : C ∉ X := fun m => by have := F.cx.xIn C m; rw [nC] at this; cases this
  have nCT : C ∉ g.T := fun m => nCX (F.cx.tX C m)
  have nDX : D ∉ C :: X := fun m => by
    rcases List.mem_cons.mp m with q | m
    · exact ne q
    · have := F.cx.xIn D m; rw [nD] at this; cases this
  have nl : C ≠ env.locals := fun w => nCX (w ▸ F.cx.lX)
  have rd : RdX hE (C :: X) (.ref D) (.list (l.filterMap f)) := RdX.of_own ls (fun b m => .tail _ m) nDX
  show wpAny g.M A (assign (.Name y py) env (.ref D)) _ _ _
  refine wpAny_assign_Name (fx_store (s := { s with heap := hE, toks := tk }) F1 hk (b := .dat _) rd hp (F.dist.sublist hp.own_dat) (fun a m => F.ownM a (hp.own_dat.subset m)) fun h2 tk2 F2 p2 => ?_)
  obtain ⟨m', o, es, ep, hq, hr⟩ := ns
  have hC2 : h2.get? C = some o := by
    obtain ⟨Y, hy, q⟩ := p2
    refine q.1 C o hq fun m => ?_
    rcases hy C m with w | ⟨x, w⟩ | w
    · exact nl w
    · exact nCX (F.cx.cl x C w).2.1
    · exact nCT w
  refine ⟨m', ⟨o, es, ep, hC2, hr⟩, fun h3 sb => ?_⟩
  have p3 : Pr X s.heap h2 := (p.mono F.cx.tX).trans (p2.pr F.cx)
  exact cc .nxt .next ρ' X h3 tk2 k (fx_drop F2 nCX (new_of F.old nC) ⟨m', o, es, ep, hC2, hr⟩ nl nCT sb.extBut) rfl (Gw.of (p3.extNew nC sb.extBut))

theorem bindL_at {kindOf : Str → Option NameKind} {x : Str} {v : Value} (hk : kindOf x = some .local) : ∀ {binds : List (Str × Value)} {m : Str → Option Value}, (binds.map (·.1)).Nodup → ((x, v) ∈ binds ∨ (m x = some v ∧ x ∉ binds.map (·.1))) → bindL kindOf binds m x = some v
  | [], m, _, h => by
    rcases h with h | h
    · cases h
    · exact h.1
  | (y, u) :: r, m, hn, h => by
    simp only [List.map_cons, List.nodup_cons] at hn
    unfold bindL
    refine bindL_at hk hn.2 ?_
    rcases h with h | h
    · rcases List.mem_cons.mp h with e | h
      · cases e; refine .inr ⟨?_, hn.1⟩; rw [if_pos hk]; simp
      · exact .inl h
    · simp only [List.map_cons, List.mem_cons, not_or] at h
      refine .inr ⟨?_, h.2.2⟩
      split
      · simp [h.2.1]; exact h.1
      · exact h.1
theorem bindC_at {kindOf : Str → Option NameKind} {x : Str} {v : Value} (hk : kindOf x ≠ some .local) : ∀ {binds : List (Str × Value)} {m : Str → Option Value}, (binds.map (·.1)).Nodup → ((x, v) ∈ binds ∨ (m x = some v ∧ x ∉ binds.map (·.1))) → bindC kindOf binds m x = some v
  | [], m, _, h => by
    rcases h with h | h
    · cases h
    · exact h.1
  | (y, u) :: r, m, hn, h => by
    simp only [List.map_cons, List.nodup_cons] at hn
    unfold bindC
    refine bindC_at hk hn.2 ?_
    rcases h with h | h
    · rcases List.mem_cons.mp h with e | h
      · cases e; refine .inr ⟨?_, hn.1⟩; rw [if_neg hk]; simp
      · exact .inl h
    · simp only [List.map_cons, List.mem_cons, not_or] at h
      refine .inr ⟨?_, h.2.2⟩
      split
      · exact h.1
      · simp [h.2.1]; exact h.1

theorem call_enter {f : Addr} {o : Obj} {fd : FuncData} {body : List Stmt} {vs : List Value} {binds : List (Str × Value)} {s : Shared} (hp : Hp g X s.heap) (ho : g.B.get? f = some o) (hdata : o.data = .func fd) (hlim : g.B.NoLimit) (hcd : g.B.CodeRec fd.code fd.qualname)
    (hbody : fd.body = .stmts body) (hbind : bindArgs fd ⟨vs, []⟩ = pure binds) (hclo : fd.closure = []) (hgl : fd.globals = mainGlobals) (hbl : fd.builtins = builtinsNs) (hk : fd.scope.kind = .function) (hco : fd.scope.isCoroutine = false) (hgen : fd.scope.isGenerator = false)
    (hkind : ∀ L, ∀ x ∈ binds, fd.scope.names.lookup x.1 = some .local ∨ (fd.scope.names.lookup x.1 = some .cell ∧ ((cellsFrom (L + 1) fd.scope.names []).lookup x.1).isSome = true)) (hbn : (binds.map (·.1)).Nodup)
    (hb : ∀ x b, (x, b) ∈ ρ → ∃ v, (x, v) ∈ binds ∧ BI g X s.heap v b) (uniq : (ρ.map (·.1)).Nodup) (dist : (ownAddrs ρ).Nodup) (ownM : ∀ a ∈ ownAddrs ρ, a ∈ M) (tM : ∀ t ∈ g.T, t ∈ M)
    {A : Around} {Q : Value → Shared → Prop} {E : Value → Shared → Prop} (rm : Rm (n + 1) A) (body_ok : ∀ L, WSs g n M s.heap (callEnvC fd L f) X body ρ P)
    (k : ∀ fl ρ' X' h' tk v, P fl ρ' → Pr M s.heap h' → Gw X s.heap X' h' → (∀ a ∈ X, a ∈ X') → (match fl with | .ret R => R h' X v | .nxt => v = .none) → Q v { s with heap := h', toks := tk }) : wpAny g.M A (call (.ref f) vs) Q E s := by
  refine wpAny_call (codeAny_call_cells (Nat.lt_of_le_of_lt (Nat.le_add_right _ _) rm.2.1) (hp.base _ _ ho) hdata (by obtain ⟨mc, q, r⟩ := hlim; exact ⟨mc, q.keeps hp.base, r⟩) (hcd.keeps hp.base) hbody hbind hclo (hkind _) (fun s₁ ic => ?_) hco hgen hk)
  obtain ⟨h₁, tk₁, rfl⟩ := ic.toInCall.same
  generalize hL : s.heap.objs.size = L at ic
  have keep := ic.toInCall.keep
  have nL : s.heap.get? L = none := by rw [← hL]; exact get_size _
  have p01 : Pr g.T s.heap h₁ := Pr.of_keeps keep
  have gnew : ∀ a, L ≤ a → s.heap.get? a = none := fun a q => by
    cases e : s.heap.get? a with
    | none => rfl
    | some o => exact absurd (Heap.lt_size e) (by rw [hL]; exact Nat.not_lt.mpr q)
  let cs := cellsFrom (L + 1) fd.scope.names []
  let Z := (cs.filter fun p => cs.lookup p.1 == some p.2).map (·.2)
  let Xc := L :: (Z ++ X)
  have hcell : ∀ x c, cs.lookup x = some c → h₁.IsCell c (bindC (callEnvC fd L f).kindOf binds (fun _ => none) x) := ic.cell
  have zMem : ∀ a ∈ Z, ∃ x, cs.lookup x = some a := fun a m => by
    obtain ⟨⟨x, c'⟩, m', rfl⟩ := List.mem_map.mp m
    exact ⟨x, by simpa using (List.mem_filter.mp m').2⟩
  have memZ : ∀ x c, cs.lookup x = some c → c ∈ Z := fun x c e => List.mem_map.mpr ⟨(x, c), List.mem_filter.mpr ⟨mem_of_lookup e, by simpa using e⟩, rfl⟩
  have zAbove : ∀ x c, cs.lookup x = some c → L < c := fun x c e => ic.above x c (mem_of_lookup e)
  have zNew : ∀ a ∈ Z, s.heap.get? a = none := fun a m => by obtain ⟨x, e⟩ := zMem a m; exact gnew a (Nat.le_of_lt (zAbove x a e))
  have zIn : ∀ a ∈ Z, (h₁.get? a).isSome = true := fun a m => by obtain ⟨x, e⟩ := zMem a m; exact cell_some (hcell x a e)
  have notT : ∀ a, s.heap.get? a = none → a ∉ g.T := fun a e m => by have := hp.xIn a (hp.tX a m); rw [e] at this; cases this
  have subX : ∀ a ∈ X, a ∈ Xc := fun a m => .tail _ (List.mem_append_right _ m)
  have growX : ∀ b o, s.heap.get? b = some o → b ∉ X → b ∉ Xc := fun b o e nb m => by
    rcases List.mem_cons.mp m with rfl | m
    · rw [nL] at e; cases e
    · rcases List.mem_append.mp m with m | m
      · rw [zNew b m] at e; cases e
      · exact nb m
  have F0 : Fx g M s.heap (callEnvC fd L f) X Xc ρ h₁ := by
    refine fx_init hp p01 hk hgl hbl ⟨_, ic.toInCall.ns⟩ nL (fun x a e => ⟨⟨_, hcell x a e⟩, .tail _ (List.mem_append_left _ (memZ x a e)), notT a (zNew a (memZ x a e)), fun _ => zNew a (memZ x a e)⟩) (fun x y a e e' => name_of_addr ic.apart (mem_of_lookup e) (mem_of_lookup e'))
      (fun a m => ?_) subX (.head _) (fun x b m => ?_) uniq dist (fun a m => .inl (ownM a m)) tM
    · rcases List.mem_cons.mp m with rfl | m
      · exact .inr ⟨nL, ns_some ic.toInCall.ns⟩
      · rcases List.mem_append.mp m with m | m
        · exact .inr ⟨zNew a m, zIn a m⟩
        · exact .inl m
    · obtain ⟨v, mb, bi⟩ := hb x b m
      refine ⟨v, ?_, (BI.grow growX subX bi).pr p01 fun t q => subX t (hp.tX t q)⟩
      rcases hkind L (x, v) mb with q | ⟨q, q'⟩
      · exact .inl ⟨q, _, ic.toInCall.ns, bindL_at q hbn (.inl mb)⟩
      · obtain ⟨c, ec⟩ := Option.isSome_iff_exists.mp q'
        have := hcell x c ec
        rw [bindC_at (kindOf := (callEnvC fd L f).kindOf) (by show fd.scope.names.lookup x ≠ _; rw [q]; decide) hbn (.inl mb)] at this
        exact .inr ⟨.inl q, c, ec, this⟩
  refine body_ok L { s with heap := h₁, toks := tk₁ } Xc F0 (A.deeper (callEnvC fd L f)) _ _ rm.deeper fun fl fw ρ' X' h' tk hP F' ok gw => ?_
  have gwX : Gw X s.heap X' h' := ⟨fun a m => F'.xNew a m, ?_⟩
  · cases fl with
    | nxt => cases (show fw = .next from ok); exact k .nxt ρ' X' h' tk .none hP F'.old gwX F'.x0 rfl
    | ret R => obtain ⟨v, rfl, r⟩ := ok; exact k (.ret R) ρ' X' h' tk v hP F'.old gwX F'.x0 r
  · refine ⟨fun b o e nb => gw.pr.1 b o (keep b o e) (growX b o e nb), fun b e => F'.old.2 b e⟩

/-- a def over data -/
theorem call_ok {f : Addr} {o : Obj} {fd : FuncData} {body : List Stmt} {names : List Str} {ds : List PyData} {d : PyData} (ho : g.B.get? f = some o) (hdata : o.data = .func fd) (hlim : g.B.NoLimit) (hcd : g.B.CodeRec fd.code fd.qualname)
    (hbody : fd.body = .stmts body) (hbind : ∀ vs, vs.length = names.length → bindArgs fd ⟨vs, []⟩ = pure (names.zip vs)) (hlen : names.length = ds.length) (hn : names.Nodup)
    (hkind' : ∀ L, (names.all fun x => (fd.scope.names.lookup x == some .local) || ((fd.scope.names.lookup x == some .cell) && ((cellsFrom (L + 1) fd.scope.names []).lookup x).isSome)) = true)
    (body_ok : ∀ L h₀ X₀, WSs g n g.T h₀ (callEnvC fd L f) X₀ body (dats (names.zip ds)) fun fl _ => match fl with | .nxt => d = .none | .ret R => ∀ h X v, R h X v → RdX h X v d)
    (hclo : fd.closure = [] := by rfl) (hgl : fd.globals = mainGlobals := by rfl) (hbl : fd.builtins = builtinsNs := by rfl) (hk : fd.scope.kind = .function := by rfl) (hco : fd.scope.isCoroutine = false := by rfl) (hgen : fd.scope.isGenerator = false := by rfl) : CallOK g (n + 1) f ds d := fun X s vs hp rds A Q E rm h => by
  have hl : vs.length = names.length := rds.length.trans hlen.symm
  have hkind : ∀ L, ∀ x ∈ names, fd.scope.names.lookup x = some .local ∨ (fd.scope.names.lookup x = some .cell ∧ ((cellsFrom (L + 1) fd.scope.names []).lookup x).isSome = true) := fun L x m => by
    have := List.all_eq_true.mp (hkind' L) x m
    simpa only [Bool.or_eq_true, Bool.and_eq_true, beq_iff_eq] using this
  have zk : ∀ (a : List Str) (b : List Value), b.length = a.length → (a.zip b).map (·.1) = a := fun a b q => by rw [List.map_fst_zip]; omega
  refine call_enter (ρ := dats (names.zip ds)) (M := g.T) (n := n) (P := fun fl _ => match fl with | .nxt => d = .none | .ret R => ∀ h X v, R h X v → RdX h X v d) hp ho hdata hlim hcd hbody (hbind vs hl) hclo hgl hbl hk hco hgen (fun L x m => hkind L x.1 (List.of_mem_zip m).1) (by rw [zk _ _ hl]; exact hn) (fun x b m => ?_) ?_ (by rw [dats_own]; exact List.nodup_nil) (fun a m => by rw [dats_own] at m; cases m) (fun t m => m) rm (fun L => body_ok L _ _)
    fun fl ρ' X' h' tk v hP p gw x0 r => ?_
  · obtain ⟨⟨y, e⟩, m', q⟩ := List.mem_map.mp m
    cases q
    have : ∀ (names : List Str) (ds : List PyData) (vs : List Value), RdsX s.heap X vs ds → (y, e) ∈ names.zip ds → ∃ v, (y, v) ∈ names.zip vs ∧ RdX s.heap X v e := by
      intro names
      induction names with
      | nil => intro ds vs _ m; cases m
      | cons x names ih =>
        intro ds vs r m
        cases ds with
        | nil => cases m
        | cons d ds =>
          cases vs with
          | nil => exact r.elim
          | cons v vs =>
            rcases List.mem_cons.mp m with q | m
            · cases q; exact ⟨v, .head _, r.1⟩
            · obtain ⟨v', m', r'⟩ := ih ds vs r.2 m; exact ⟨v', .tail _ m', r'⟩
    exact this names ds vs rds m'
  · unfold dats; rw [List.map_map]
    have : (names.zip ds).map ((fun x => x.1) ∘ fun p => (p.1, Bnd.dat p.2)) = names := by
      show (names.zip ds).map (fun p => p.1) = names
      rw [List.map_fst_zip]; omega
    rw [this]; exact hn
  · cases fl with
    | nxt => cases (show v = .none from r); cases (show d = .none from hP); exact h .none h' tk p rdX_none
    | ret R => exact h v h' tk p (hP h' X v r)
end
end Mine
end
section
open PySem PySem.W PyProof.Rows PySem.Calls PySem.Spec
set_option maxRecDepth 100000
set_option linter.unusedVariables false
namespace Mine
section
variable {g : G} {n : Nat} {M : List Addr} {h₀ : Heap} {env : Env} {X₀ X : List Addr} {ρ ρ' : List (Str × Bnd)} {P : Fl → List (Str × Bnd) → Prop}
theorem RdsX.reverse {h : Heap} : ∀ {vs : List Value} {ds : List PyData}, RdsX h X vs ds → RdsX h X vs.reverse ds.reverse
  | [], [], _ => trivial
  | v :: vs, d :: ds, r => by
    rw [List.reverse_cons, List.reverse_cons]
    exact (RdsX.reverse r.2).append ⟨r.1, trivial⟩
theorem asg_binds {names : List Str} : ∀ {ds : List PyData} {vs : List Value} {ρ ρ' : List (Str × Bnd)} {s : Shared}, (∀ x ∈ names, Storable env x) → Puts (names.zip ds) ρ ρ' → names.length = ds.length →
    Fx g M h₀ env X₀ X ρ s.heap → RdsX s.heap X vs ds → ∀ (A : Around) (Q : Unit → Shared → Prop) (E : Value → Shared → Prop), (∀ h' tk, Fx g M h₀ env X₀ X ρ' h' → PrL g env s.heap h' → Q () { s with heap := h', toks := tk }) →
      wpAny g.M A (assignInOrder (names.map fun n => bindName env n) vs) Q E s := by
  induction names with
  | nil =>
    intro ds vs ρ ρ' s _ hp hl F r A Q E k
    cases ds with
    | cons => cases hl
    | nil => cases hp; exact assignInOrder_nil (k s.heap s.toks F (PrL.of (Pr.refl _ _)))
  | cons x names ih =>
    intro ds vs ρ ρ' s hs hp hl F r A Q E k
    cases ds with
    | nil => cases hl
    | cons d ds =>
      cases vs with
      | nil => exact r.elim
      | cons v vs =>
        cases hp with
        | cons hp1 hp2 =>
          refine assignInOrder_cons (wpAny_bindName (fx_store F (hs x (.head _)) (b := .dat d) r.1 hp1 (F.dist.sublist hp1.own_dat) (fun a m => F.ownM a (hp1.own_dat.subset m)) fun h' tk F' p => ?_))
          exact ih (s := { s with heap := h', toks := tk }) (fun z m => hs z (.tail _ m)) hp2 (by simpa using hl) F' (r.2.pr (p.pr F.cx)) A Q E fun h2 tk2 F2 p2 => k h2 tk2 F2 (p.trans p2)
/-- x, y = e, f with the stores turned round -/
theorem ws_swap {elts : List PySem.Expr} {j : Nat} {tpos pos : Pos} {value : PySem.Expr} {names : List Str} {ds : List PyData} (ev : ∀ X, EvP g n env X ρ value (.tuple ds)) (hs : ∀ x ∈ names, Storable env x) (hp : Puts (names.reverse.zip ds.reverse) ρ ρ') (hl : names.length = ds.length) (k : P .nxt ρ')
    (h1 : swapsWithSole [.Tuple elts j tpos] value pos.line env = pure false := by rfl) (h2 : swappedStores [.Tuple elts j tpos] value env = pure (some names) := by rfl) : WS g n M h₀ env X₀ (.Assign [.Tuple elts j tpos] value pos) ρ P := fun s X F A Q E rm c =>
  Assign_Tuple_swapped (ev X s F.cx A _ E rm fun v h' tk p rd => by
    obtain ⟨a, vs, rfl, na, it, q⟩ := rd.tuple_inv
    have hsz : vs.size = ds.length := by rw [← Array.length_toList]; exact q.length
    rw [show names.length = vs.size by omega]
    refine unpackItems_tuple (s := { s with heap := h', toks := tk }) rm.1 it fun h2 e2 => ?_
    have p2 : Pr g.T h' h2 := Pr.extBut e2 (get_size _)
    refine asg_binds (s := { s with heap := h2, toks := tk }) (fun x m => hs x (List.mem_reverse.mp m)) hp (by simpa using hl) ((F.pr p).pr p2) (q.pr (p2.mono F.cx.tX)).reverse A _ E fun h3 tk3 F3 p3 => ?_
    exact c .nxt .next ρ' X h3 tk3 k F3 rfl (Gw.of (((p.trans p2).mono F.cx.tX).trans (p3.pr F.cx)))) h1 h2
/-- x, y = e -/
theorem ws_unpack {elts : List PySem.Expr} {j : Nat} {tpos pos : Pos} {value : PySem.Expr} {d : PyData} (ev : ∀ X, EvP g n env X ρ value d) (a : AsgOK g n M h₀ env X₀ (.Tuple elts j tpos) d ρ (fun ρ' => P .nxt ρ'))
    (h1 : swapsWithSole [.Tuple elts j tpos] value pos.line env = pure false := by rfl) (h2 : swappedStores [.Tuple elts j tpos] value env = pure none := by rfl) : WS g n M h₀ env X₀ (.Assign [.Tuple elts j tpos] value pos) ρ P := fun s X F A Q E rm c =>
  Assign_Tuple (ev X s F.cx A _ E rm fun v h' tk p rd => a { s with heap := h', toks := tk } X v (F.pr p) rd A _ E rm fun ρ' h2 tk2 k F2 p2 => c .nxt .next ρ' X h2 tk2 k F2 rfl (Gw.of ((p.mono F.cx.tX).trans (p2.pr F.cx)))) h1 h2
end
end Mine
end
section
open PySem PySem.W PyProof.Rows PySem.Calls PySem.Spec
set_option maxRecDepth 100000
set_option linter.unusedVariables false
namespace Mine
structure Bs (g : G) (K : Frag) : Prop where
  kin : K.In g.B
  lim : g.B.NoLimit
  gl : ∃ mg, g.B.Ns mainGlobals mg
  bl : ∃ mb, g.B.Ns builtinsNs mb ∧ ∀ x : Str, x ≠ "__name__" → mb x = bootBuiltins x
/-- a name in the written-out globals -/
def gfind (K : Frag) (x : Str) : Option (Option Value) := match K.lookup mainGlobals with
  | some ⟨_, _, .dict es _, _⟩ => some (nsFind es x)
  | _ => none
theorem gv_glob {g : G} {K : Frag} (b : Bs g K) {x : Str} {v : Value} (h : gfind K x = some (some v)) : Gv g x v := by
  obtain ⟨mg, hn⟩ := b.gl
  obtain ⟨mb, hb, _⟩ := b.bl
  refine ⟨mg, mb, hn, hb, .inl ?_⟩
  obtain ⟨o, es, ep, ho, hd, _, e⟩ := hn
  unfold gfind at h
  cases q : K.lookup mainGlobals with
  | none => rw [q] at h; cases h
  | some o' =>
    have := b.kin _ _ q
    rw [ho] at this; cases this
    obtain ⟨c, dd, dt, sl⟩ := o
    subst hd
    rw [q] at h
    rw [← e]; exact Option.some.inj h
theorem gv_blt {g : G} {K : Frag} (b : Bs g K) {x : Str} {v : Value} (h : gfind K x = some none) (h2 : bootBuiltins x = some v) (h3 : x ≠ "__name__") : Gv g x v := by
  obtain ⟨mg, hn⟩ := b.gl
  obtain ⟨mb, hb, hm⟩ := b.bl
  refine ⟨mg, mb, hn, hb, .inr ⟨?_, (hm x h3).trans h2⟩⟩
  obtain ⟨o, es, ep, ho, hd, _, e⟩ := hn
  unfold gfind at h
  cases q : K.lookup mainGlobals with
  | none => rw [q] at h; cases h
  | some o' =>
    have := b.kin _ _ q
    rw [ho] at this; cases this
    obtain ⟨c, dd, dt, sl⟩ := o
    subst hd
    rw [q] at h
    rw [← e]; exact Option.some.inj h

/-! the ellipsis match, as text -/
open PySem.Builtin.Str in
def ellFind (got : Str) (e : Int) : Int → List Str → Bool
  | _, [] => true
  | s, w :: ws => if find4 got w s e < 0 then false else ellFind got e (find4 got w s e + w.length) ws
def ellTail (got : Str) (sp ep : Int) (ws : List Str) : Bool := if ep < sp then false else ellFind got ep sp ws
def ellLast (got : Str) (sp : Int) (ws : List Str) : Bool :=
  if (ws.getLastD "").length = 0 then ellTail got sp got.length ws
  else if Txt.endswith got (ws.getLastD "") then ellTail got sp (got.length - (ws.getLastD "").length) ws.dropLast else false
def ell (want got : Str) : Bool :=
  if (PySem.Builtin.Str.occurrences want "..." 0 want.length 1).isEmpty then want == got else
  match Txt.split want "..." with
  | [] => true
  | w :: ws => if w.length = 0 then ellLast got 0 (w :: ws) else if Txt.startswith got w then ellLast got w.length ws else false
end Mine
namespace Mine
open PySem.Builtin PySem.Builtin.Str
theorem split_two {x y : Str} (h : (occurrences x y 0 x.length 1).isEmpty = false) (hk : PySem.Builtin.Str.strKind y = 1) : 2 ≤ (Txt.split x y).length := by
  have h1 : ∃ i r, occurrences x y 0 x.length 1 = i :: r ∧ StrLaws.At x y x.length i := by
    rcases StrLaws.occ_head x y 1 (Nat.le_refl _) with ⟨e, _⟩ | ⟨i, r, e, a, _⟩
    · rw [e] at h; cases h
    · exact ⟨i, r, e, a⟩
  obtain ⟨i, r, _, a⟩ := h1
  have hlen : ¬ x.length < y.length := by have := a.1; omega
  have hkx : ¬ PySem.Builtin.Str.strKind x < PySem.Builtin.Str.strKind y := by rw [hk]; unfold PySem.Builtin.Str.strKind; split <;> (try split) <;> omega
  have h2 : ∃ j q, occurrences x y 0 x.length (x.length + 1) = j :: q := by
    rcases StrLaws.occ_head x y (x.length + 1) (by omega) with ⟨_, n⟩ | ⟨j, q, e, _⟩
    · exact absurd a (n i)
    · exact ⟨j, q, e⟩
  obtain ⟨j, q, e⟩ := h2
  unfold Txt.split
  rw [if_neg (by simp [hlen, hkx]), if_neg (by rw [e]; simp), e, length_partsBetween]
  simp
theorem strSub_len (x : Str) (i j : Nat) : (strSub x i j).length ≤ x.length := by simp [strSub, Str.length]; omega
theorem partsFrom_len (x : Str) (w : Nat) : ∀ (cuts : List Nat) (a : Nat), ∀ p ∈ StrLaws.partsFrom x w a cuts, p.length ≤ x.length
  | [], a, p, m => by simp [StrLaws.partsFrom] at m; subst m; exact strSub_len ..
  | c :: r, a, p, m => by
    rcases List.mem_cons.mp m with rfl | m
    · exact strSub_len ..
    · exact partsFrom_len x w r _ p m
theorem split_len {x y : Str} : ∀ p ∈ Txt.split x y, p.length ≤ x.length := fun p m => by
  unfold Txt.split at m
  split at m
  · simp at m; subst m; exact Nat.le_refl _
  · split at m
    · simp at m; subst m; exact Nat.le_refl _
    · rw [StrLaws.partsBetween_eq] at m; exact partsFrom_len _ _ _ _ p m
theorem split_count {x y : Str} : (Txt.split x y).length ≤ x.length + 2 := by
  unfold Txt.split
  split
  · simp
  · split
    · simp
    · rw [length_partsBetween]; have := StrLaws.occ_length_le x y 0 x.length (x.length + 1); omega
theorem parts_count {x y : Str} : (partsBetween x (occurrences x y 0 x.length (x.length + 1)) y.length).length ≤ x.length + 2 := by
  rw [length_partsBetween]; have := StrLaws.occ_length_le x y 0 x.length (x.length + 1); omega
theorem seqIx_zero {k : Nat} (h : 0 < k) : seqIndex? 0 k = some 0 := by simp [seqIndex?]; omega
theorem seqIx_nat {i k : Nat} (h : i < k) : seqIndex? (i : Int) k = some i := by simp [seqIndex?]; omega
theorem seqIx_last {k : Nat} (h : 0 < k) : seqIndex? (-1) k = some (k - 1) := by simp [seqIndex?]; omega
end Mine
namespace Mine
section
variable {g : G} {n : Nat} {M : List Addr} {h₀ : Heap} {env : Env} {X₀ X : List Addr} {ρ ρ' : List (Str × Bnd)} {P : Fl → List (Str × Bnd) → Prop}
theorem EvT.eq {e : PySem.Expr} {a b : Bool} (h : EvT g n env X ρ e a) (q : a = b) : EvT g n env X ρ e b := q ▸ h
theorem EvP.eq {e : PySem.Expr} {a b : PyData} (h : EvP g n env X ρ e a) (q : a = b) : EvP g n env X ρ e b := q ▸ h
theorem EvI.eq {e : PySem.Expr} {a b : List PyData} (h : EvI g n env X ρ e a) (q : a = b) : EvI g n env X ρ e b := q ▸ h
theorem EvF.eq {e : PySem.Expr} {a b : List PyData} (h : EvF g n env X ρ e a) (q : a = b) : EvF g n env X ρ e b := q ▸ h
theorem EvL.eq {e : PySem.Expr} {a b : List PyData} (h : EvL g n env X ρ e a) (q : a = b) : EvL g n env X ρ e b := q ▸ h
theorem tg_name {x : Str} {pos : Pos} {l : List PyData} : TgOK (.Name x pos) l := .inl rfl
def RetD (d : PyData) : Fl → List (Str × Bnd) → Prop := fun fl _ => match fl with
  | .nxt => d = .none
  | .ret R => ∀ h X v, R h X v → RdX h X v d
theorem find4_len (x y : Str) (i j : Int) : find4 x y i j ≤ x.length := by
  unfold find4
  generalize hlo : PySem.fromIndex x.length i = lo
  generalize hhi : min (PySem.fromIndex x.length j) x.length = hi
  have hh : hi ≤ x.length := by omega
  split
  · rename_i k r e
    have : k ∈ PySem.Builtin.Str.occurrences x y lo hi 1 := by rw [e]; exact .head _
    have := StrLaws.occ_chainTo x y hi 1 lo (List.range' lo (hi + 1 - lo)) (#[], lo) rfl
    rw [← StrLaws.occ_eq, e] at this
    have := this.2.1.1
    omega
  · omega
end
end Mine
end
section
open PySem PySem.W PyProof.Rows PySem.Calls PySem.Spec
set_option maxRecDepth 100000
set_option linter.unusedVariables false
namespace Mine
/-- data of a small shape -/
def Sh (k : Nat) (d : PyData) : Prop := d.canLay0 = true ∧ d.depth ≤ k
theorem sh_int {i : Int} : Sh 0 (.int i) := ⟨by simp [PyData.canLay0], by simp [PyData.depth]⟩
theorem sh_str {x : Str} (h : PyData.strOk x = true) : Sh 0 (.str x) := ⟨by simpa [PyData.canLay0] using h, by simp [PyData.depth]⟩
theorem sh_all {k : Nat} : ∀ {l : List PyData}, (∀ d ∈ l, Sh k d) → PyData.canLayAll0 l = true ∧ PyData.depthAll l ≤ k
  | [], _ => ⟨by simp [PyData.canLayAll0], by simp [PyData.depthAll]⟩
  | d :: l, h => by
    have h1 := h d (.head _)
    have h2 := sh_all (l := l) fun e m => h e (.tail _ m)
    exact ⟨by simp [PyData.canLayAll0, h1.1, h2.1], by simp only [PyData.depthAll]; exact Nat.max_le.mpr ⟨h1.2, h2.2⟩⟩
theorem sh_list {k : Nat} {l : List PyData} (h : ∀ d ∈ l, Sh k d) : Sh (k + 1) (.list l) := by
  have := sh_all h
  exact ⟨by simpa [PyData.canLay0] using this.1, by simp only [PyData.depth]; omega⟩
theorem sh_tuple {k : Nat} {l : List PyData} (h : ∀ d ∈ l, Sh k d) : Sh (k + 1) (.tuple l) := by
  have := sh_all h
  exact ⟨by simpa [PyData.canLay0] using this.1, by simp only [PyData.depth]; omega⟩
theorem Sh.shaped {k : Nat} {d : PyData} (h : Sh k d) (hk : k ≤ 64 := by decide) : SeqAt.shaped d = true := by
  unfold SeqAt.shaped; simp [h.1]; exact Nat.le_trans h.2 hk
theorem Sh.up {k m : Nat} {d : PyData} (h : Sh k d) (hk : k ≤ m := by decide) : Sh m d := ⟨h.1, Nat.le_trans h.2 hk⟩
theorem sh_map {α : Type} {k : Nat} {f : α → PyData} {l : List α} (h : ∀ x ∈ l, Sh k (f x)) : Sh (k + 1) (.list (l.map f)) := sh_list fun d m => by obtain ⟨x, mx, rfl⟩ := List.mem_map.mp m; exact h x mx
theorem sh_ints {l : List Int} : Sh 1 (.list (l.map .int)) := sh_map fun _ _ => sh_int
theorem sh_nats {l : List Nat} : Sh 1 (.list (l.map fun (n : Nat) => .int (n : Int))) := sh_map fun _ _ => sh_int
theorem eqv_int {a b : Int} : PyData.eqv (.int a) (.int b) = (a == b) := by simp [PyData.eqv]
theorem eqv_nat {a b : Nat} : PyData.eqv (.int (a : Int)) (.int (b : Int)) = (a == b) := by
  rw [eqv_int, Bool.eq_iff_iff]; simp; omega
theorem eqv_str {a b : Str} : PyData.eqv (.str a) (.str b) = (a == b) := by simp [PyData.eqv]
theorem eqvAll_map {α : Type} [BEq α] {f : α → PyData} (h : ∀ x y, PyData.eqv (f x) (f y) = (x == y)) : ∀ a b : List α, PyData.eqvAll (a.map f) (b.map f) = (a == b)
  | [], [] => by simp [PyData.eqvAll]
  | [], _ :: _ => by simp [PyData.eqvAll]
  | _ :: _, [] => by simp [PyData.eqvAll]
  | x :: a, y :: b => by
    show PyData.eqvAll (f x :: a.map f) (f y :: b.map f) = ((x :: a) == (y :: b))
    simp only [PyData.eqvAll]
    rw [h, eqvAll_map h a b]; rfl
theorem eqv_list {α : Type} [BEq α] {f : α → PyData} (h : ∀ x y, PyData.eqv (f x) (f y) = (x == y)) (a b : List α) : PyData.eqv (.list (a.map f)) (.list (b.map f)) = (a == b) := by
  simp only [PyData.eqv]; exact eqvAll_map h a b
theorem any_eqv {α : Type} [BEq α] {f : α → PyData} (h : ∀ x y, PyData.eqv (f x) (f y) = (x == y)) (l : List α) (x : α) : (l.map f).any (fun y => PyData.eqv y (f x)) = l.any (· == x) := by
  rw [List.any_map]; congr; funext y; exact h y x
theorem isSome_if {α : Type} {b : Bool} {x : α} : (if b = true then some x else none).isSome = b := by cases b <;> rfl
abbrev natD (n : Nat) : PyData := .int (n : Int)
/-- some of them, turned -/
theorem filterMap_if {α : Type} {f : α → PyData} {p : α → Bool} {q : α → PyData} {F : PyData → Option PyData} (h : ∀ x, F (f x) = if p x then some (q x) else none) (l : List α) : (l.map f).filterMap F = (l.filter p).map q := by
  induction l with
  | nil => rfl
  | cons x l ih =>
    rw [List.map_cons, List.filterMap_cons, h]
    cases hp : p x with
    | true => simp only [if_true]; rw [List.filter_cons_of_pos hp, List.map_cons, ih]
    | false => simp only [Bool.false_eq_true, if_false]; rw [List.filter_cons_of_neg (by simp [hp]), ih]
theorem filterMap_all {α : Type} {f : α → PyData} {q : α → PyData} {F : PyData → Option PyData} (h : ∀ x, F (f x) = some (q x)) (l : List α) : (l.map f).filterMap F = l.map q := by
  induction l with
  | nil => rfl
  | cons x l ih => rw [List.map_cons, List.filterMap_cons, h, List.map_cons, ih]
end Mine
end
section
open PySem PySem.W PyProof.Rows PySem.Calls PySem.Spec
set_option maxRecDepth 100000
set_option linter.unusedVariables false
namespace Mine
theorem RdsX.ints {X : List Addr} {h : Heap} : ∀ {vs : List Value} {l : List Int}, RdsX h X vs (l.map .int) → IntsAre vs l
  | [], [], _ => .nil
  | v :: vs, i :: l, r => by
    obtain ⟨t, rfl⟩ := r.1.int_inv
    exact .cons i t (RdsX.ints r.2)
theorem rds_ints {X : List Addr} {h : Heap} : ∀ {vs : List Value} {l : List Int}, IntsAre vs l → RdsX h X vs (l.map .int)
  | _, _, .nil => trivial
  | _, _, .cons i t r => ⟨rdX_int, rds_ints r⟩
theorem ints_items : ∀ {vs : List Value} {l : List Int}, IntsAre vs l → ∃ xs : List (Int × Tok), vs = xs.map (fun p => .int p.1 p.2) ∧ xs.map (·.1) = l
  | _, _, .nil => ⟨[], rfl, rfl⟩
  | _, _, .cons i t r => by obtain ⟨xs, e, f⟩ := ints_items r; exact ⟨(i, t) :: xs, by rw [e]; rfl, by rw [List.map_cons, f]⟩
section
variable {g : G} {n : Nat} {env : Env} {X : List Addr} {ρ : List (Str × Bnd)}
theorem blt_sum {l : List Int} : BltOK g n X "sum" [.list (l.map .int)] (.int l.sum) := fun s vs hx r A Q E rm h => by
  obtain ⟨v, rfl, rd⟩ := r.one
  obtain ⟨a, us, rfl, _, il, q⟩ := rd.list_inv
  obtain ⟨xs, e, f⟩ := ints_items q.ints
  have il' : s.heap.IsList a (intItems xs.toArray) := by
    have : us = intItems xs.toArray := by apply Array.toList_inj.mp; rw [e]; simp [intItems]
    rw [← this]; exact il
  refine sum_intListG rm.1 il' fun h' tk t' hk => ?_
  rw [preSum_eq, List.take_of_length_le (by simp)]
  show Q (.int (xs.map (·.1)).sum t') _
  rw [f]
  exact h _ h' tk (Pr.of_keeps hk) rdX_int
end
end Mine
end
section
open PySem PySem.W PyProof.Rows PySem.Calls PySem.Spec PySem.Builtin.Re
set_option maxRecDepth 100000
set_option linter.unusedVariables false
namespace Mine
theorem runFor_done {m : Sre.M} (h : m.outcome.isSome = true) : ∀ k, m.runFor k = m
  | 0 => rfl
  | k + 1 => by unfold Sre.M.runFor; rw [if_pos h]
theorem runFor_add : ∀ (a b : Nat) (m : Sre.M), m.runFor (a + b) = (m.runFor a).runFor b
  | 0, b, m => by rw [Nat.zero_add]; rfl
  | a + 1, b, m => by
    rw [show a + 1 + b = (a + b) + 1 by omega]
    by_cases h : m.outcome.isSome = true
    · rw [runFor_done h, runFor_done h, runFor_done h]
    · have e : ∀ k, m.runFor (k + 1) = m.step.runFor k := fun k => by show (if m.outcome.isSome then m else m.step.runFor k) = _; rw [if_neg h]
      rw [e, e]; exact runFor_add a b m.step
section
variable {M : Model} {A : Around} {E : Value → Shared → Prop} {s : Shared}
theorem drive_ok {m' : Sre.M} (ho : m'.outcome.isSome = true) {Q : Sre.M → Shared → Prop} (hq : Q m' s) : ∀ (turns k : Nat) (m : Sre.M), m.runFor k = m' → k < turns → wpAny M A (reDrive turns m) Q E s
  | 0, _, _, _, h => absurd h (Nat.not_lt_zero _)
  | turns + 1, k, m, hk, hlt => by
    unfold reDrive
    show wpAny M A (if (m.runFor 4).outcome.isSome then pure (m.runFor 4) else do rule "sre.turn"; reDrive turns (m.runFor 4)) Q E s
    by_cases h : (m.runFor 4).outcome.isSome = true
    · rw [if_pos h]
      have e : m.runFor 4 = m' := by
        rcases Nat.lt_or_ge k 4 with q | q
        · rw [show 4 = k + (4 - k) by omega, runFor_add, hk, runFor_done ho]
        · rw [show k = 4 + (k - 4) by omega, runFor_add, runFor_done h] at hk; exact hk
      rw [e]; exact wpAny_pure hq
    · rw [if_neg h]
      have hk4 : 4 < k := by
        rcases Nat.lt_or_ge 4 k with q | q
        · exact q
        · exfalso
          apply h
          rw [show 4 = k + (4 - k) by omega, runFor_add, hk, runFor_done ho]; exact ho
      refine wpAny_bind (wpAny_rule (drive_ok ho hq turns (k - 4) (m.runFor 4) ?_ (by omega)))
      rw [← runFor_add, show 4 + (k - 4) = k by omega]; exact hk
/-- the machine comes to its end -/
def Ends (m m' : Sre.M) : Prop := ∃ k, k < 2 ^ 64 ∧ m.runFor k = m' ∧ m'.outcome.isSome = true
theorem run_matched {m m' : Sre.M} (h : Ends m m') (ho : m'.outcome = some .matched) {Q : Option Sre.M → Shared → Prop} (hq : Q (some m') s) : wpAny M A (reRunToEnd m) Q E s := by
  obtain ⟨k, hk, e, hs⟩ := h
  unfold reRunToEnd
  refine wpAny_bind (drive_ok hs ?_ (2 ^ 64) k m e hk)
  refine wpAny_bind (wpAny_forIn_list _ (fun _ _ s' => s' = s) _ (fun i rest b s' q => ?_) (fun b s' q => ?_) _ _ rfl)
  · subst q
    split
    · exact wpAny_bind (wpAny_rule (wpAny_pure rfl))
    · first | exact wpAny_bind (wpAny_pure (wpAny_pure rfl)) | exact wpAny_pure rfl
  · subst q
    rw [ho]
    exact wpAny_pure hq
theorem run_failed {m m' : Sre.M} (h : Ends m m') (ho : m'.outcome = some .failed) {Q : Option Sre.M → Shared → Prop} (hq : Q none s) : wpAny M A (reRunToEnd m) Q E s := by
  obtain ⟨k, hk, e, hs⟩ := h
  unfold reRunToEnd
  refine wpAny_bind (drive_ok hs ?_ (2 ^ 64) k m e hk)
  refine wpAny_bind (wpAny_forIn_list _ (fun _ _ s' => s' = s) _ (fun i rest b s' q => ?_) (fun b s' q => ?_) _ _ rfl)
  · subst q
    split
    · exact wpAny_bind (wpAny_rule (wpAny_pure rfl))
    · first | exact wpAny_bind (wpAny_pure (wpAny_pure rfl)) | exact wpAny_pure rfl
  · subst q
    rw [ho]
    exact wpAny_pure hq
end
end Mine
end
section
open PySem PySem.W PyProof.Rows PySem.Calls PySem.Spec PySem.Builtin.Re
set_option maxRecDepth 100000
set_option linter.unusedVariables false
namespace Mine
theorem slot_re_search : Slot "re.Pattern" "search" "re.Pattern.search" :=
  .of (owner := "re.Pattern") (n := "search") (by rw [typeLookup_type, builtinLookup_eq_fast]; kernel_rfl) (by decide +kernel) (by decide +kernel) (by decide +kernel)
    (by first | exact .inl (by decide +kernel) | exact .inr (by decide +kernel)) (by rw [isSubtype_type]; kernel_rfl)
theorem slot_re_sub : Slot "re.Pattern" "sub" "re.Pattern.sub" :=
  .of (owner := "re.Pattern") (n := "sub") (by rw [typeLookup_type, builtinLookup_eq_fast]; kernel_rfl) (by decide +kernel) (by decide +kernel) (by decide +kernel)
    (by first | exact .inl (by decide +kernel) | exact .inr (by decide +kernel)) (by rw [isSubtype_type]; kernel_rfl)
theorem re_getattribute : ∃ id, typeLookup (.type "re.Pattern") "__getattribute__" = pure (some (.builtin id)) ∧ (Manifest.canonical id != "object.__getattribute__") = false := ⟨"object.__getattribute__", by rw [typeLookup_type, builtinLookup_eq_fast]; kernel_rfl, by decide +kernel⟩
theorem re_getattr_none : typeLookup (.type "re.Pattern") "__getattr__" = pure none := by rw [typeLookup_type, builtinLookup_eq_fast]; kernel_rfl
theorem type_re_search : typeOf (.builtin "re.Pattern.search") = pure (.type "method_descriptor") := by show builtinType _ = _; rw [builtinType_eq_fast]; kernel_rfl
theorem type_re_sub : typeOf (.builtin "re.Pattern.sub") = pure (.type "method_descriptor") := by show builtinType _ = _; rw [builtinType_eq_fast]; kernel_rfl
theorem entry_re_search : entryFor table "re.Pattern.search" = some Builtin.«re.Pattern.search» := entryFor_of_tree (by kernel_rfl)
theorem entry_re_sub : entryFor table "re.Pattern.sub" = some Builtin.«re.Pattern.sub» := entryFor_of_tree (by kernel_rfl)
theorem entry_re_subloop : entryFor table "re.Pattern.sub.loop" = some Builtin.«re.Pattern.sub.loop» := entryFor_of_tree (by kernel_rfl)
theorem args_re_search (a b : Value) : argsOk "re.Pattern.search" ⟨[a, b], []⟩ := by unfold argsOk; kernel_rfl
theorem args_re_sub (a b c : Value) : argsOk "re.Pattern.sub" ⟨[a, b, c], []⟩ := by unfold argsOk; kernel_rfl
theorem re_plain : PlainAttrs "re.Pattern" := ⟨re_getattribute, re_getattr_none⟩
section
variable {prog : Program} {w : World} {A : Around} {E : Value → Shared → Prop} {s : Shared}
/-- a compiled pattern of texts, its words and its groups -/
structure PatAt (h : Heap) (p : Addr) (code : Array Nat) (groups : Nat) : Prop where
  at_ : ∃ fs ct oc items n t2 t6, h.get? p = some { cls := .type "re.Pattern", dict := none, data := .fields fs, slots := #[] } ∧ fs[5]? = some (.ref ct) ∧ h.get? ct = some oc ∧ oc.cls = .type "tuple" ∧ oc.data = .seq items n ∧ (items.map reRawOf).map (·.toNat) = code ∧
    fs[2]? = some (.int groups t2) ∧ fs[6]? = some (.int 0 t6)
theorem call_search_none {p : Addr} {code : Array Nat} {groups : Nat} {x : Str} {t : Tok} {m' : Sre.M} {Q : Value → Shared → Prop} (hp : PatAt s.heap p code groups) (he : Ends (Sre.forSearch code x.cps groups 0 x.cps.size false) m') (ho : m'.outcome = some .failed) (hx : x.length ≤ 16777216) (hq : Q .none s) :
    wpAny (model prog w) A (call (.builtin "re.Pattern.search") [.ref p, .str x t]) Q E s := by
  obtain ⟨fs, ct, oc, items, n, t2, t6, h1, h5, hc, hcls, hd, hcode, h2, h6⟩ := hp
  refine wpAny_call_entry slot_re_search ⟨_, h1, rfl⟩ entry_re_search ?_ (args_re_search _ _)
  unfold Builtin.«re.Pattern.search» reTarget
  refine wpAny_bind ?_
  show wpAny _ _ (reNamed "re.Pattern.search" "search" ["string", "pos", "endpos"] 1 [.str x t] [] >>= _) _ _ s
  refine wpAny_bind (wpAny_of_eq (a := [some (.str x t), none, none]) (by rfl) ?_)
  refine wpAny_bind (wpAny_pure ?_)
  refine wpAny_bind (wpAny_pure ?_)
  refine wpAny_bind (wpAny_fieldsOf h1 rfl ?_)
  refine wpAny_bind (wpAny_of_eq (a := (x.cps, 0)) (by rfl) ?_)
  have g6 : fs.getD 6 Value.none = .int 0 t6 := by rw [Array.getD_eq_getD_getElem?, h6]; rfl
  have g5 : fs.getD 5 Value.none = .ref ct := by rw [Array.getD_eq_getD_getElem?, h5]; rfl
  have g2 : fs.getD 2 Value.none = .int groups t2 := by rw [Array.getD_eq_getD_getElem?, h2]; rfl
  dsimp only
  rw [g6, g5, g2]
  rw [if_neg (show ¬ ((reRawNat (.int 0 t6) == 0 && 0 == 1) = true) from Bool.false_ne_true), if_neg (show ¬ ((reRawNat (.int 0 t6) == 1 && 0 == 0) = true) from Bool.false_ne_true)]
  refine wpAny_bind (wpAny_of_eq (a := ()) (by rfl) ?_)
  refine wpAny_bind (m := reRawItems (.ref ct)) ?_
  unfold reRawItems
  refine wpAny_bind (wpAny_seqItems hc hd (wpAny_pure (wpAny_pure ?_)))
  unfold reAnswer
  have e1 : min (2 ^ 63 - 1 : Int).toNat x.cps.size = x.cps.size := by
    have : x.cps.size ≤ 16777216 := hx
    omega
  have e0 : min (0 : Int).toNat x.cps.size = 0 := by omega
  show wpAny _ _ (reRunToEnd (Sre.forSearch ((items.map reRawOf).map (·.toNat)) x.cps groups (min (0 : Int).toNat x.cps.size) (min (2 ^ 63 - 1 : Int).toNat x.cps.size) false) >>= _) _ _ s
  rw [hcode, e1, e0]
  exact wpAny_bind (run_failed he ho (wpAny_pure ⟨.none, rfl, hq⟩))
end
end Mine
end
section
open PySem PySem.W PyProof.Rows PySem.Calls PySem.Spec PySem.Builtin.Re
set_option maxRecDepth 100000
set_option linter.unusedVariables false
namespace Mine
/-- c is not in the code's first set -/
def Out (code : Array Nat) (c : Nat) : Prop := ∀ seen, ∃ seen', Sre.inSet code c code.size 5 true seen = .ok (false, seen')
theorem admitted_none {m : Sre.M} : ∀ (fuel i : Nat) (seen : Sre.Seen), (∀ j, i ≤ j → j < m.lim → Out m.code (m.text.getD j 0)) → ∃ seen', m.admitted fuel i seen = .ok (none, seen')
  | 0, i, seen, _ => ⟨seen, rfl⟩
  | fuel + 1, i, seen, h => by
    unfold Sre.M.admitted
    by_cases hi : i ≥ m.lim
    · exact ⟨seen, by rw [if_pos hi]⟩
    · obtain ⟨seen1, e⟩ := h i (Nat.le_refl _) (Nat.lt_of_not_le hi) seen
      obtain ⟨seen2, e2⟩ := admitted_none (m := m) fuel (i + 1) seen1 fun j h1 h2 => h j (by omega) h2
      exact ⟨seen2, by rw [if_neg hi, e]; exact e2⟩
theorem forSearch_eq (code text : Array Nat) (groups pos lim : Nat) (must : Bool) : Sre.forSearch code text groups pos lim must =
    (let m : Sre.M := { code, text, lim, start := pos, pc := (Sre.header code).2, pos, handed := pos, marks := Array.replicate (2 * groups) none, mustAdvance := must, seen := if (Sre.header code).2 == 0 then {} else ({} : Sre.Seen).add 14 }
    if pos > lim || lim - pos < (Sre.header code).1 then m.say false
    else { m with lastStart := if (Sre.header code).1 > 1 && !((Sre.header code).2 != 0 && code.getD 2 0 &&& 5 != 0) then max pos (lim - ((Sre.header code).1 - 1)) else lim }.attemptFrom pos true) := rfl
theorem said_no {m : Sre.M} (h1 : m.outcome = none) (h2 : m.answer = some false) (h3 : m.frames = []) : ∃ m', Ends m m' ∧ m'.outcome = some .failed := by
  refine ⟨{ m with outcome := some .failed }, ⟨1, by decide, ?_, rfl⟩, rfl⟩
  show (if m.outcome.isSome then m else m.step.runFor 0) = _
  rw [h1]
  show m.step = _
  unfold Sre.M.step
  rw [h1, h2, h3]
  rfl
theorem attempt_none {m : Sre.M} {i : Nat} {first : Bool} (hf : m.hasFirstSet = true) (h : ∀ j, i ≤ j → j < m.lim → Out m.code (m.text.getD j 0)) : ∃ seen', m.attemptFrom i first = { m with seen := seen' }.say false := by
  obtain ⟨seen', e⟩ := admitted_none (m := m) (m.lim + 1 - i) i m.seen h
  refine ⟨seen', ?_⟩
  unfold Sre.M.attemptFrom
  rw [hf, e]
  rfl
def FirstSet (code : Array Nat) : Prop := ∀ m : Sre.M, m.code = code → m.hasFirstSet = true
theorem search_none {code text : Array Nat} {groups : Nat} (hf : FirstSet code) (h : ∀ c ∈ text, Out code c) :
    ∃ m', Ends (Sre.forSearch code text groups 0 text.size false) m' ∧ m'.outcome = some .failed := by
  rw [forSearch_eq]
  dsimp only
  split
  · exact said_no rfl rfl rfl
  · generalize hm : ({ code, text, lim := text.size, start := 0, pc := (Sre.header code).2, pos := 0, handed := 0, marks := Array.replicate (2 * groups) none, mustAdvance := false, seen := if (Sre.header code).2 == 0 then {} else ({} : Sre.Seen).add 14, lastStart := if (Sre.header code).1 > 1 && !((Sre.header code).2 != 0 && code.getD 2 0 &&& 5 != 0) then max 0 (text.size - ((Sre.header code).1 - 1)) else text.size } : Sre.M) = m
    obtain ⟨seen', e⟩ := attempt_none (m := m) (i := 0) (first := true) (hf m (by rw [← hm])) (fun j _ hj => by
      have hj' : j < text.size := by rw [← hm] at hj; exact hj
      have e1 : m.text = text := by rw [← hm]
      have e2 : m.code = code := by rw [← hm]
      rw [e1, e2]
      refine h _ ?_
      rw [Array.getD_eq_getD_getElem?, Array.getElem?_eq_getElem hj']; exact Array.getElem_mem hj')
    rw [e]
    exact said_no (by rw [← hm]; rfl) rfl (by rw [← hm]; rfl)
def codeName : Array Nat := #[14, 10, 4, 1, 1, 22, 0, 31, 16, 127, 0, 13, 7, 22, 0, 31, 16, 127, 0, 1]
def codeValue : Array Nat := #[14, 14, 4, 1, 1, 9, 4294966783, 0, 0, 2147483648, 0, 0, 0, 0, 0, 13, 11, 9, 4294966783, 0, 0, 2147483648, 0, 0, 0, 0, 0, 1]
theorem first_name : FirstSet codeName := fun m h => by unfold Sre.M.hasFirstSet; rw [h]; rfl
theorem first_value : FirstSet codeValue := fun m h => by unfold Sre.M.hasFirstSet; rw [h]; rfl
theorem out_name {c : Nat} (h1 : 32 ≤ c) (h2 : c < 127) : Out codeName c := fun seen => by
  refine ⟨((seen.add 22).add 16).add 0, ?_⟩
  show (if 0 ≤ c && c ≤ 31 then _ else (if c == 127 then _ else _)) = _
  rw [if_neg (by simp; omega), if_neg (by simp; omega)]
  rfl
theorem out_value {c : Nat} (h1 : 32 ≤ c) (h2 : c < 127) : Out codeValue c := fun seen => by
  refine ⟨(seen.add 9).add 0, ?_⟩
  have hb : ∀ c < 127, 32 ≤ c → (c < 256 && (codeValue.getD (5 + (1 + c / 32)) 0).testBit (c % 32)) = false := by decide
  show (if c < 256 && (codeValue.getD (5 + (1 + c / 32)) 0).testBit (c % 32) then _ else _) = _
  rw [if_neg (by rw [hb c h2 h1]; decide)]
  rfl
end Mine
end
section
open PySem PySem.W PyProof.Rows PySem.Calls PySem.Spec PySem.Builtin.Re
set_option maxRecDepth 100000
set_option linter.unusedVariables false
namespace Mine
theorem plain_re_subloop : plainId "re.Pattern.sub.loop" = true := by decide +kernel
theorem str_no_call : typeLookup (.type "str") "__call__" = pure none := by rw [typeLookup_type, builtinLookup_eq_fast]; kernel_rfl
theorem call_slot_tree {prog : Program} {w : World} {A : Around} {E : Value → Shared → Prop} {s : Shared} {T : String} {name : Str} {id : String} {b : Builtin} {self : Value} {rest : List Value} {Q : Value → Shared → Prop} (h : Slot T name id) (hT : s.TypeIs self T)
    (hb : entryFor table id = some b) (ha : argsOk id ⟨self :: rest, []⟩)
    (hc : wpAny (model prog w) A.in1 (b ⟨self :: rest, []⟩) (fun fin s' => match fin with
      | .done f => (match (Except.ok f : Result) with | .ok (.ret v) => Q v s' | .ok _ => False | .error e => E e s')
      | .again c' => c'.quiet = true ∧ codeAny (model prog w) A c' (fun r s' => match r with | .ok (.ret v) => Q v s' | .ok _ => False | .error e => E e s') s') E s) :
    wpAny (model prog w) A (call (.builtin id) (self :: rest)) Q E s :=
  wpAny_call (codeAny_call_builtin h.plain hb (h.check _ _ _ _ _ _ _ _ hT ha hc))

/-- the next match from i on: none -/
def NxNone (code text : Array Nat) (groups i : Nat) : Prop := ∃ m', Ends (Sre.forSearch code text groups i text.size false) m' ∧ m'.outcome = some .failed
/-- the next match from i on: from a to b -/
def NxSome (code text : Array Nat) (groups i a b : Nat) : Prop := ∃ m', Ends (Sre.forSearch code text groups i text.size false) m' ∧ m'.outcome = some .matched ∧ m'.start = a ∧ m'.handed = b
/-- the pieces of a substitution from i on -/
inductive Subs (code text : Array Nat) (groups : Nat) (r : Str) : Nat → List Str → Prop
  | stop {i : Nat} : NxNone code text groups i → Subs code text groups r i (if i < text.size then [⟨text.extract i text.size⟩] else [])
  | step {i a b : Nat} {ps : List Str} : NxSome code text groups i a b → a < b → Subs code text groups r b ps → Subs code text groups r i ((if i < a then [⟨text.extract i a⟩] else []) ++ r :: ps)

section
variable {prog : Program} {w : World} {A : Around} {E : Value → Shared → Prop} {s : Shared}
theorem wholeTarget_ok {p : Addr} {code : Array Nat} {groups : Nat} {x : Str} {t : Tok} {Q : ReTarget → Shared → Prop} (hp : PatAt s.heap p code groups)
    (hq : Q { pattern := .ref p, string := .str x t, code := code, text := x.cps, kind := 0, groups := groups, pos := 0, lim := x.cps.size } s) : wpAny (model prog w) A (reWholeTarget (.ref p) (.str x t)) Q E s := by
  obtain ⟨fs, ct, oc, items, n, t2, t6, h1, h5, hc, hcls, hd, hcode, h2, h6⟩ := hp
  unfold reWholeTarget
  refine wpAny_bind (wpAny_fieldsOf h1 rfl ?_)
  refine wpAny_bind (wpAny_of_eq (a := (x.cps, 0)) (by rfl) ?_)
  have g6 : fs.getD 6 Value.none = .int 0 t6 := by rw [Array.getD_eq_getD_getElem?, h6]; rfl
  have g5 : fs.getD 5 Value.none = .ref ct := by rw [Array.getD_eq_getD_getElem?, h5]; rfl
  have g2 : fs.getD 2 Value.none = .int groups t2 := by rw [Array.getD_eq_getD_getElem?, h2]; rfl
  dsimp only
  rw [g6, g5, g2]
  rw [if_neg (show ¬ ((reRawNat (.int 0 t6) == 0 && 0 == 1) = true) from Bool.false_ne_true), if_neg (show ¬ ((reRawNat (.int 0 t6) == 1 && 0 == 0) = true) from Bool.false_ne_true)]
  refine wpAny_bind (wpAny_of_eq (a := ()) (by rfl) ?_)
  refine wpAny_bind (m := reRawItems (.ref ct)) ?_
  unfold reRawItems
  refine wpAny_bind (wpAny_seqItems hc hd (wpAny_pure (wpAny_pure ?_)))
  show Q { pattern := .ref p, string := .str x t, code := (items.map reRawOf).map (·.toNat), text := x.cps, kind := 0, groups := groups, pos := 0, lim := x.cps.size } s
  rw [hcode]
  exact hq
theorem PatAt.keep {h h' : Heap} {p D : Addr} {code : Array Nat} {groups : Nat} (hp : PatAt h p code groups) (hl : ∃ vs, h.PlainList D vs) (sb : Heap.SameBut D h h') : PatAt h' p code groups := by
  obtain ⟨fs, ct, oc, items, n, t2, t6, h1, h5, hc, hcls, hd, hcode, h2, h6⟩ := hp
  obtain ⟨vs, nn, ho⟩ := hl
  refine ⟨fs, ct, oc, items, n, t2, t6, (sb.2 p fun q => ?_).trans h1, h5, (sb.2 ct fun q => ?_).trans hc, hcls, hd, hcode, h2, h6⟩
  · subst q; rw [ho] at h1
    have := congrArg Obj.cls (Option.some.inj h1)
    injection this with q
    exact absurd q (by decide)
  · subst q; rw [ho] at hc
    have := congrArg Obj.cls (Option.some.inj hc)
    rw [hcls] at this
    injection this with q
    exact absurd q (by decide)
theorem PatAt.keeps {h h' : Heap} {p : Addr} {code : Array Nat} {groups : Nat} (hp : PatAt h p code groups) (k : ∀ b o, h.get? b = some o → h'.get? b = some o) : PatAt h' p code groups := by
  obtain ⟨fs, ct, oc, items, n, t2, t6, h1, h5, hc, hcls, hd, hcode, h2, h6⟩ := hp
  exact ⟨fs, ct, oc, items, n, t2, t6, k _ _ h1, h5, k _ _ hc, hcls, hd, hcode, h2, h6⟩

theorem push_plain {D : Addr} {vs : Array Value} {v : Value} (hD : s.heap.PlainList D vs) (hz : vs.size ≤ 16777216) : ∃ h', h'.PlainList D (vs.push v) ∧ Heap.SameBut D s.heap h' ∧ ∀ (M : Model) (A : Around) (Q : Unit → Shared → Prop) (E : Value → Shared → Prop), Q () { s with heap := h' } → wpAny M A (updateSeq D (·.push v)) Q E s := by
  obtain ⟨nn, ho⟩ := id hD
  refine ⟨s.heap.update D (Obj.mapSeq (·.push v)), ⟨nn + 1, ?_⟩, Heap.SameBut.update .., fun M A Q E h => wpAny_updateSeq ho rfl h (by rw [sizeLine_eq]; exact hz) (by rw [sizeLine_eq]; simp; exact hz)⟩
  rw [Heap.get?_update_self _ ho (by rw [Obj.mapSeq_push_plain]; rfl), Obj.mapSeq_push_plain]
theorem sub_loop {p D : Addr} {code : Array Nat} {groups : Nat} {x r : Str} {t tr : Tok} {R : Result → Shared → Prop} {i : Nat} {ps : List Str} (hS : Subs code x.cps groups r i ps) (hxl : x.length ≤ 100000) :
    ∀ (n : Int) (l : List (Str × Tok)) (s : Shared), PatAt s.heap p code groups → s.heap.PlainList D (strValues l).toArray → l.length + ps.length ≤ 1000000 → JoinOk "" (l.map (·.1) ++ ps) = true →
      (∀ h' tk t', Heap.SameBut D s.heap h' → (h'.get? D).isSome = true → R (.ok (.ret (.str (Txt.join "" (l.map (·.1) ++ ps)) t'))) { s with heap := h', toks := tk }) →
      codeAny (model prog w) A (.builtin "re.Pattern.sub.loop" ⟨[.ref p, .str x t, .str r tr, rawInt 0, rawInt 0, rawInt n, rawInt i, rawInt i, .bool false, .ref D, .bool false], []⟩) R s := by
  induction hS with
  | @stop i hn =>
    intro n l s hp hD hlen hj hR
    refine codeAny_builtin entry_re_subloop ?_
    show wpAny _ _ (reWholeTarget (.ref p) (.str x t) >>= _) _ _ s
    refine wpAny_bind (wholeTarget_ok hp ?_)
    refine wpAny_bind (m := reLiteralCannotBeTurned (.str r tr)) (wpAny_of_eq (a := ()) (by rfl) ?_)
    refine wpAny_bind ?_
    rw [if_neg (show ¬ (((0 : Int) != 0 && decide (n ≥ 0)) = true) from by simp)]
    obtain ⟨m', he, ho⟩ := hn
    refine run_failed he ho ?_
    have fin : ∀ (l' : List (Str × Tok)) (s' : Shared), s'.heap.PlainList D (strValues l').toArray → JoinOk "" (l'.map (·.1)) = true → (∀ tk t', R (.ok (.ret (.str (Txt.join "" (l'.map (·.1))) t'))) { s' with toks := tk }) →
        wpAny (model prog w) (A.under (.builtin "re.Pattern.sub.loop" ⟨[.ref p, .str x t, .str r tr, rawInt 0, rawInt 0, rawInt n, rawInt i, rawInt i, .bool false, .ref D, .bool false], []⟩)) (do
          let joiner ← reSlice x.cps 0 0 0
          let text ← if ((← seqItems? (.ref D)).getD #[]).isEmpty then pure joiner else call (.builtin (if (0 : Nat) == 0 then "str.join" else "bytes.join")) [joiner, .ref D]
          if false then ret (← holding [text] do newTuple [text, ← mkInt n]) else ret text)
          (fun fin s' => match fin with | .done f => R (.ok f) s' | .again c' => c'.quiet = true ∧ codeAny (model prog w) A c' R s') (fun e s' => R (.error e) s') s' := by
      intro l' s' hD' hj' hR'
      have e0 : (⟨x.cps.extract 0 0⟩ : Str) = "" := by
        have : x.cps.extract 0 0 = #[] := by simp
        rw [this]; rfl
      refine wpAny_bind (m := mkStr ⟨x.cps.extract 0 0⟩) (wpAny_mkStr ?_ (by rw [e0]; decide))
      rw [e0]
      obtain ⟨nn, ho'⟩ := id hD'
      refine wpAny_bind (wpAny_seqItems (s := { s' with toks := s'.toks + 1 }) ho' rfl ?_)
      cases l' with
      | nil =>
        show wpAny _ _ (if (#[] : Array Value).isEmpty then _ else _) _ _ _
        rw [if_pos (by rfl)]
        refine wpAny_bind (wpAny_pure ?_)
        exact wpAny_pure (hR' _ _)
      | cons q l' =>
        show wpAny _ _ (if (strValues (q :: l')).toArray.isEmpty then _ else _) _ _ _
        rw [if_neg (by simp [strValues])]
        refine wpAny_bind (SC.join (s := { s' with toks := s'.toks + 1 }) hD'.isList rfl hj' fun t' k => ?_)
        exact wpAny_pure (hR' k t')
    dsimp only
    rw [Int.toNat_natCast]
    have hsz : x.cps.size ≤ 100000 := hxl
    by_cases hi : i < x.cps.size
    · rw [if_pos hi] at hR hj hlen ⊢
      refine wpAny_bind (m := mkStr ⟨x.cps.extract i x.cps.size⟩) (wpAny_mkStr ?_ (by rw [sizeLine_eq]; show (x.cps.extract i x.cps.size).size ≤ _; simp; omega))
      have hl1 : l.length ≤ 1000000 := by omega
      obtain ⟨h', hP, hsb, hU⟩ := push_plain (s := { s with toks := s.toks + 1 }) (v := .str ⟨x.cps.extract i x.cps.size⟩ s.toks) hD (by simp [strValues]; omega)
      refine wpAny_bind (hU _ _ _ _ ?_)
      refine fin (l ++ [(⟨x.cps.extract i x.cps.size⟩, s.toks)]) { s with heap := h', toks := s.toks + 1 } ?_ (by simpa using hj) fun tk t' => ?_
      · simpa [strValues] using hP
      · have := hR h' tk t' hsb (by obtain ⟨nn, q⟩ := hP; rw [q]; rfl)
        simpa using this
    · rw [if_neg hi] at hR hj hlen ⊢
      refine fin l s hD (by simpa using hj) fun tk t' => ?_
      have := hR s.heap tk t' (Heap.SameBut.refl ..) (by obtain ⟨nn, q⟩ := hD; rw [q]; rfl)
      simpa using this
  | @step i a b ps hn hab hs ih =>
    intro n l s hp hD hlen hj hR
    refine codeAny_builtin entry_re_subloop ?_
    show wpAny _ _ (reWholeTarget (.ref p) (.str x t) >>= _) _ _ s
    refine wpAny_bind (wholeTarget_ok hp ?_)
    refine wpAny_bind (m := reLiteralCannotBeTurned (.str r tr)) (wpAny_of_eq (a := ()) (by rfl) ?_)
    refine wpAny_bind ?_
    rw [if_neg (show ¬ (((0 : Int) != 0 && decide (n ≥ 0)) = true) from by simp)]
    obtain ⟨m', he, ho, ha, hb⟩ := hn
    refine run_matched he ho ?_
    dsimp only
    rw [ha, hb, Int.toNat_natCast]
    have hsz : x.cps.size ≤ 100000 := hxl
    have hne : (b == a) = false := by simp; omega
    have tail : ∀ (l' : List (Str × Tok)) (s' : Shared), s'.heap.PlainList D (strValues l').toArray → PatAt s'.heap p code groups → l'.length + (r :: ps).length ≤ 1000000 → JoinOk "" (l'.map (·.1) ++ r :: ps) = true →
        (∀ h' tk t', Heap.SameBut D s'.heap h' → (h'.get? D).isSome = true → R (.ok (.ret (.str (Txt.join "" (l'.map (·.1) ++ r :: ps)) t'))) { s' with heap := h', toks := tk }) →
        wpAny (model prog w) (A.under (.builtin "re.Pattern.sub.loop" ⟨[.ref p, .str x t, .str r tr, rawInt 0, rawInt 0, rawInt n, rawInt i, rawInt i, .bool false, .ref D, .bool false], []⟩)) (do
          updateSeq D (·.push (.str r tr))
          again (.builtin "re.Pattern.sub.loop" ⟨[.ref p, .str x t, .str r tr, rawInt 0, rawInt 0, rawInt (n + 1), rawInt b, rawInt b, .bool (b == a), .ref D, .bool false], []⟩))
          (fun fin s' => match fin with | .done f => R (.ok f) s' | .again c' => c'.quiet = true ∧ codeAny (model prog w) A c' R s') (fun e s' => R (.error e) s') s' := by
      intro l' s' hD' hp' hlen' hj' hR'
      simp only [List.length_cons] at hlen'
      obtain ⟨h', hP, hsb, hU⟩ := push_plain (s := s') (v := .str r tr) hD' (by simp [strValues]; omega)
      refine wpAny_bind (hU _ _ _ _ (wpAny_pure ⟨plainId_quiet plain_re_subloop _, ?_⟩))
      rw [hne]
      refine ih (n + 1) (l' ++ [(r, tr)]) { s' with heap := h' } (hp'.keep ⟨_, hD'⟩ hsb) (by simpa [strValues] using hP) (by simp; omega) (by simpa using hj') fun h2 tk t' sb2 is2 => ?_
      have := hR' h2 tk t' (hsb.trans sb2) is2
      simpa using this
    by_cases hi : i < a
    · rw [if_pos hi] at hR hj hlen ⊢
      refine wpAny_bind (m := mkStr ⟨x.cps.extract i a⟩) (wpAny_mkStr ?_ (by rw [sizeLine_eq]; show (x.cps.extract i a).size ≤ _; simp; omega))
      simp only [List.length_append, List.length_cons, List.length_nil] at hlen
      obtain ⟨h', hP, hsb, hU⟩ := push_plain (s := { s with toks := s.toks + 1 }) (v := .str ⟨x.cps.extract i a⟩ s.toks) hD (by simp [strValues]; omega)
      refine wpAny_bind (hU _ _ _ _ ?_)
      refine wpAny_bind (wpAny_pure ?_)
      refine tail (l ++ [(⟨x.cps.extract i a⟩, s.toks)]) { s with heap := h', toks := s.toks + 1 } (by simpa [strValues] using hP) (hp.keep ⟨_, hD⟩ hsb) (by simp; omega) (by simpa using hj) fun h2 tk t' sb2 is2 => ?_
      have := hR h2 tk t' (hsb.trans sb2) is2
      simpa using this
    · rw [if_neg hi] at hR hj hlen ⊢
      refine wpAny_bind (wpAny_pure ?_)
      refine tail l s hD hp (by simpa using hlen) (by simpa using hj) fun h2 tk t' sb2 is2 => ?_
      have := hR h2 tk t' sb2 is2
      simpa using this
end
end Mine
end
section
open PySem PySem.W PyProof.Rows PySem.Calls PySem.Spec PySem.Builtin.Re
set_option maxRecDepth 100000
set_option linter.unusedVariables false
namespace Mine
section
variable {prog : Program} {w : World} {A : Around} {E : Value → Shared → Prop} {s : Shared}
theorem call_sub {p : Addr} {code : Array Nat} {groups : Nat} {x r : Str} {t tr : Tok} {ps : List Str} {Q : Value → Shared → Prop} (hp : PatAt s.heap p code groups) (hS : Subs code x.cps groups r 0 ps) (hr : r.cps.contains 92 = false) (hxl : x.length ≤ 100000) (hps : ps.length ≤ 1000000) (hj : JoinOk "" ps = true)
    (hq : ∀ h' tk t', (∀ b o, s.heap.get? b = some o → h'.get? b = some o) → Q (.str (Txt.join "" ps) t') { s with heap := h', toks := tk }) :
    wpAny (model prog w) A (call (.builtin "re.Pattern.sub") [.ref p, .str r tr, .str x t]) Q E s := by
  obtain ⟨fs, ct, oc, items, n, t2, t6, h1, h5, hc, hcls, hd, hcode, h2, h6⟩ := id hp
  refine call_slot_tree slot_re_sub ⟨_, h1, rfl⟩ entry_re_sub (args_re_sub _ _ _) ?_
  unfold Builtin.«re.Pattern.sub» reSubstitute
  show wpAny _ _ (reNamed "re.Pattern.sub" "sub" ["repl", "string", "count"] 2 [.str r tr, .str x t] [] >>= _) _ _ s
  refine wpAny_bind (wpAny_of_eq (a := [some (.str r tr), some (.str x t), none]) (by rfl) ?_)
  refine wpAny_bind (wpAny_pure ?_)
  refine wpAny_bind (wpAny_specialOf (typeIs_str _ _ _) str_no_call ?_)
  refine wpAny_bind (m := asStr? (.str r tr)) (wpAny_of_eq (a := some r) (by rfl) ?_)
  refine wpAny_bind (wpAny_pure ?_)
  dsimp only
  rw [hr, if_neg (show ¬ ((none : Option Value).isSome = true) from Bool.false_ne_true), if_pos (show (!false) = true from rfl)]
  refine wpAny_bind (wpAny_pure ?_)
  dsimp only
  refine wpAny_bind (wpAny_holding (wholeTarget_ok hp ?_))
  show wpAny _ _ (newList [] >>= _) _ _ s
  refine wpAny_bind (wpAny_newList ?_)
  refine wpAny_pure ⟨plainId_quiet plain_re_subloop _, ?_⟩
  have hD : (s.heap.push { cls := .type "list", data := .seq #[] 0 }).PlainList s.heap.objs.size (strValues []).toArray := ⟨0, Heap.get?_push_size _ rfl⟩
  refine sub_loop (D := s.heap.objs.size) hS hxl 0 [] { s with heap := s.heap.push { cls := .type "list", data := .seq #[] 0 } } (hp.keeps fun b o e => Heap.get?_push_of_some _ e) hD (by simpa using hps) (by simpa using hj) fun h' tk t' sb is => ?_
  have := hq h' tk t' fun b o e => (sb.2 b (Nat.ne_of_lt (Heap.lt_size e))).trans (Heap.get?_push_of_some _ e)
  simpa using this
end
end Mine
end
section
open PySem PySem.W PyProof.Rows PySem.Calls PySem.Spec PySem.Builtin.Re
set_option maxRecDepth 100000
set_option linter.unusedVariables false
namespace Mine
def EndsIn (k : Nat) (m m' : Sre.M) : Prop := m.runFor k = m' ∧ m'.outcome.isSome = true
theorem EndsIn.step {k : Nat} {m m1 m' : Sre.M} (h : m.outcome = none) (e : m.step = m1) (r : EndsIn k m1 m') : EndsIn (k + 1) m m' := by
  refine ⟨?_, r.2⟩
  show (if m.outcome.isSome then m else m.step.runFor k) = m'
  rw [h, e]; exact r.1
theorem EndsIn.ends {k : Nat} {m m' : Sre.M} (h : EndsIn k m m') (hk : k < 2 ^ 64) : Ends m m' := ⟨k, hk, h.1, h.2⟩
/-! the dot at a line's beginning -/
def codeDot : Array Nat := #[14, 4, 0, 1, 1, 6, 1, 16, 46, 1]
def mDot (text : Array Nat) (i : Nat) (first : Bool) (seen : Sre.Seen) : Sre.M :=
  { code := codeDot, text, lim := text.size, start := i, lastStart := text.size, pc := 5, pos := i, handed := i, outermost := first, marks := #[], frames := [{ wait := .nextStart, pc := 5, pos := i, outermost := first }], weight := 1, seen }
theorem dot_no {text : Array Nat} {i : Nat} {first : Bool} {seen : Sre.Seen} (h : (i == 0 || text.getD (i - 1) 0 == 10) = false) :
    ∃ seen', (mDot text i first seen).step = { mDot text i first seen' with answer := some false } := by
  refine ⟨(seen.add 6).add 44, ?_⟩
  have e : (mDot text i first seen).step = (if (i == 0 || text.getD (i - 1) 0 == 10) then { mDot text i first ((seen.add 6).add 44) with pc := 7 } else { mDot text i first ((seen.add 6).add 44) with answer := some false }) := rfl
  rw [e, h]; rfl
theorem dot_yes {text : Array Nat} {i : Nat} {first : Bool} {seen : Sre.Seen} (h : (i == 0 || text.getD (i - 1) 0 == 10) = true) :
    ∃ seen', (mDot text i first seen).step = { mDot text i first seen' with pc := 7 } := by
  refine ⟨(seen.add 6).add 44, ?_⟩
  have e : (mDot text i first seen).step = (if (i == 0 || text.getD (i - 1) 0 == 10) then { mDot text i first ((seen.add 6).add 44) with pc := 7 } else { mDot text i first ((seen.add 6).add 44) with answer := some false }) := rfl
  rw [e, h]; rfl
theorem dot_end {text : Array Nat} {i : Nat} {first : Bool} {seen : Sre.Seen} (h : i ≥ text.size) :
    ∃ seen', ({ mDot text i first seen with pc := 7 } : Sre.M).step = { mDot text i first seen' with pc := 7, answer := some false } := by
  refine ⟨seen.add 16, ?_⟩
  have e : ({ mDot text i first seen with pc := 7 } : Sre.M).step = (if i ≥ text.size then { mDot text i first (seen.add 16) with pc := 7, answer := some false } else
      match Sre.accepts codeDot 7 (text.getD i 0) (seen.add 16) with
      | .error why => ({ mDot text i first (seen.add 16) with pc := 7 } : Sre.M).stick why
      | .ok (false, seen) => { mDot text i first seen with pc := 7, answer := some false }
      | .ok (true, seen) => { mDot text i first seen with pc := 9, pos := i + 1 }) := rfl
  rw [e, if_pos h]
theorem dot_lit {text : Array Nat} {i : Nat} {first : Bool} {seen : Sre.Seen} (h : i < text.size) :
    ∃ seen', ({ mDot text i first seen with pc := 7 } : Sre.M).step = (if text.getD i 0 == 46 then { mDot text i first seen' with pc := 9, pos := i + 1 } else { mDot text i first seen' with pc := 7, answer := some false }) := by
  refine ⟨seen.add 16, ?_⟩
  have e : ({ mDot text i first seen with pc := 7 } : Sre.M).step = (if i ≥ text.size then { mDot text i first (seen.add 16) with pc := 7, answer := some false } else
      match (Except.ok (text.getD i 0 == 46, seen.add 16) : Except String (Bool × Sre.Seen)) with
      | .error why => ({ mDot text i first (seen.add 16) with pc := 7 } : Sre.M).stick why
      | .ok (false, seen) => { mDot text i first seen with pc := 7, answer := some false }
      | .ok (true, seen) => { mDot text i first seen with pc := 9, pos := i + 1 }) := rfl
  rw [e, if_neg (by omega)]
  cases text.getD i 0 == 46 <;> rfl
theorem dot_back {text : Array Nat} {i pc : Nat} {first : Bool} {seen : Sre.Seen} : ({ mDot text i first seen with pc := pc, answer := some false } : Sre.M).step = (if i < text.size then mDot text (i + 1) false seen else { mDot text i first seen with frames := [], weight := 0, answer := some false }) := by
  rfl
def isDot (text : Array Nat) (j : Nat) : Bool := (j == 0 || text.getD (j - 1) 0 == 10) && decide (j < text.size) && text.getD j 0 == 46
theorem dot_hit {text : Array Nat} {i : Nat} {first : Bool} {seen : Sre.Seen} : ∃ m', EndsIn 3 ({ mDot text i first seen with pc := 9, pos := i + 1 } : Sre.M) m' ∧ m'.outcome = some .matched ∧ m'.start = i ∧ m'.handed = i + 1 := by
  refine ⟨_, EndsIn.step rfl (m1 := { mDot text i first (seen.add 1) with pc := 9, pos := i + 1, handed := i + 1, answer := some true }) ?_ (EndsIn.step rfl (m1 := { mDot text i first (seen.add 1) with frames := [], weight := 0, handed := i + 1, answer := some true }) rfl (EndsIn.step rfl (m1 := { mDot text i first (seen.add 1) with frames := [], weight := 0, handed := i + 1, answer := some true, outcome := some .matched }) rfl ⟨rfl, rfl⟩)), rfl, rfl, rfl⟩
  cases first <;> rfl
theorem dot_run {text : Array Nat} : ∀ (n i : Nat) (first : Bool) (seen : Sre.Seen), text.size - i = n → i ≤ text.size →
    (∃ j, i ≤ j ∧ isDot text j = true ∧ (∀ q, i ≤ q → q < j → isDot text q = false) ∧ ∃ k m', k ≤ 3 * n + 6 ∧ EndsIn k (mDot text i first seen) m' ∧ m'.outcome = some .matched ∧ m'.start = j ∧ m'.handed = j + 1) ∨
    ((∀ q, i ≤ q → isDot text q = false) ∧ ∃ k m', k ≤ 3 * n + 6 ∧ EndsIn k (mDot text i first seen) m' ∧ m'.outcome = some .failed) := by
  have big : ∀ q, text.size ≤ q → isDot text q = false := fun q h => by
    unfold isDot
    have : decide (q < text.size) = false := by simp; omega
    rw [this]; simp
  intro n
  induction n with
  | zero =>
    intro i first seen hn hi
    have hi' : i = text.size := by omega
    subst hi'
    refine .inr ⟨big, ?_⟩
    have over : ∀ (pc : Nat) (seen : Sre.Seen), ∃ m', EndsIn 2 ({ mDot text text.size first seen with pc := pc, answer := some false } : Sre.M) m' ∧ m'.outcome = some .failed := fun pc seen => by
      refine ⟨{ mDot text text.size first seen with frames := [], weight := 0, answer := some false, outcome := some .failed }, EndsIn.step rfl dot_back ?_, rfl⟩
      rw [if_neg (Nat.lt_irrefl _)]
      exact EndsIn.step rfl (m1 := { mDot text text.size first seen with frames := [], weight := 0, answer := some false, outcome := some .failed }) rfl ⟨rfl, rfl⟩
    cases hc : (text.size == 0 || text.getD (text.size - 1) 0 == 10) with
    | false =>
      obtain ⟨seen1, e⟩ := dot_no (first := first) (seen := seen) hc
      obtain ⟨m', r, ho⟩ := over 5 seen1
      exact ⟨3, m', by omega, EndsIn.step rfl e r, ho⟩
    | true =>
      obtain ⟨seen1, e⟩ := dot_yes (first := first) (seen := seen) hc
      obtain ⟨seen2, e2⟩ := dot_end (text := text) (i := text.size) (first := first) (seen := seen1) (Nat.le_refl _)
      obtain ⟨m', r, ho⟩ := over 7 seen2
      exact ⟨4, m', by omega, EndsIn.step rfl e (EndsIn.step rfl e2 r), ho⟩
  | succ n ih =>
    intro i first seen hn hi
    have hlt : i < text.size := by omega
    -- no dot here: on to the next place
    have next : isDot text i = false → ∀ (pc : Nat) (seen1 : Sre.Seen) (k0 : Nat), k0 ≤ 2 → (∀ k m', EndsIn k ({ mDot text i first seen1 with pc := pc, answer := some false } : Sre.M) m' → EndsIn (k + k0) (mDot text i first seen) m') →
        (∃ j, i ≤ j ∧ isDot text j = true ∧ (∀ q, i ≤ q → q < j → isDot text q = false) ∧ ∃ k m', k ≤ 3 * (n + 1) + 6 ∧ EndsIn k (mDot text i first seen) m' ∧ m'.outcome = some .matched ∧ m'.start = j ∧ m'.handed = j + 1) ∨
        ((∀ q, i ≤ q → isDot text q = false) ∧ ∃ k m', k ≤ 3 * (n + 1) + 6 ∧ EndsIn k (mDot text i first seen) m' ∧ m'.outcome = some .failed) := by
      intro hd pc seen1 k0 hk0 lift
      have here : ∀ q, i ≤ q → q < i + 1 → isDot text q = false := fun q h1 h2 => by rw [show q = i by omega]; exact hd
      rcases ih (i + 1) false seen1 (by omega) (by omega) with ⟨j, h1, h2, h3, k, m', hk, r, ho, hs, hh⟩ | ⟨h1, k, m', hk, r, ho⟩
      · refine .inl ⟨j, by omega, h2, fun q q1 q2 => ?_, k + 1 + k0, m', by omega, lift _ _ (EndsIn.step rfl (by rw [dot_back, if_pos hlt]) r), ho, hs, hh⟩
        rcases Nat.lt_or_ge q (i + 1) with q3 | q3
        · exact here q q1 q3
        · exact h3 q q3 q2
      · refine .inr ⟨fun q q1 => ?_, k + 1 + k0, m', by omega, lift _ _ (EndsIn.step rfl (by rw [dot_back, if_pos hlt]) r), ho⟩
        rcases Nat.lt_or_ge q (i + 1) with q3 | q3
        · exact here q q1 q3
        · exact h1 q q3
    cases hc : (i == 0 || text.getD (i - 1) 0 == 10) with
    | false =>
      obtain ⟨seen1, e⟩ := dot_no (first := first) (seen := seen) hc
      exact next (by unfold isDot; rw [hc]; rfl) 5 seen1 1 (by omega) fun k m' r => EndsIn.step rfl e r
    | true =>
      obtain ⟨seen1, e⟩ := dot_yes (first := first) (seen := seen) hc
      obtain ⟨seen2, e2⟩ := dot_lit (first := first) (seen := seen1) hlt
      cases hd : text.getD i 0 == 46 with
      | false =>
        rw [hd] at e2
        exact next (by unfold isDot; rw [hd]; simp) 7 seen2 2 (by omega) fun k m' r => EndsIn.step rfl e (EndsIn.step rfl e2 r)
      | true =>
        rw [hd] at e2
        obtain ⟨m', r, ho, hs, hh⟩ := dot_hit (text := text) (i := i) (first := first) (seen := seen2)
        refine .inl ⟨i, Nat.le_refl _, ?_, fun q q1 q2 => absurd q2 (by omega), 5, m', by omega, EndsIn.step rfl e (EndsIn.step rfl e2 r), ho, hs, hh⟩
        unfold isDot; rw [hc, hd]; simp [hlt]
end Mine
end
section
open PySem PySem.W PyProof.Rows PySem.Calls PySem.Spec PySem.Builtin.Re
set_option maxRecDepth 100000
set_option linter.unusedVariables false
namespace Mine
theorem join_empty (ps : List Str) : (Txt.join "" ps).cps.toList = (ps.map (·.cps.toList)).flatten := by
  have e : (Str.ofString "").cps = #[] := rfl
  have fold : ∀ (l : List Str) (a : Array Nat), (l.foldl (fun acc p => acc ++ (Str.ofString "").cps ++ p.cps) a).toList = a.toList ++ (l.map (·.cps.toList)).flatten := by
    intro l
    induction l with
    | nil => intro a; simp
    | cons p l ih => intro a; rw [List.foldl_cons, ih]; simp [e]
  cases ps with
  | nil => rfl
  | cons p ps => exact fold ps p.cps
theorem joinOk_of {ps : List Str} (h : ((ps.map (·.length)).sum) ≤ 1000000) : JoinOk "" ps = true := by
  have fold : ∀ (l : List Str) (a : Nat), l.foldl (fun x y => x + y.length + (Str.ofString "").length) a = a + (l.map (·.length)).sum := by
    intro l
    induction l with
    | nil => intro a; simp
    | cons p l ih =>
      intro a
      rw [List.foldl_cons, ih, List.map_cons, List.sum_cons]
      have : (Str.ofString "").length = 0 := rfl
      omega
  unfold JoinOk
  rw [show (ps.toArray.foldl (· + ·.length + (Str.ofString "").length) 0) = (ps.map (·.length)).sum by rw [List.foldl_toArray, fold]; omega]
  unfold PySem.Builtin.Str.tooLong
  have := sizeLine_eq
  simp
  omega
def bol (text : Array Nat) (i : Nat) : Bool := i == 0 || text.getD (i - 1) 0 == 10
/-- a dot more for each line that begins with one -/
def stuff : Bool → List Nat → List Nat
  | _, [] => []
  | b, c :: r => if b && c == 46 then 46 :: 46 :: stuff false r else c :: stuff (c == 10) r
theorem drop_at {text : Array Nat} {i : Nat} (h : i < text.size) : text.toList.drop i = text.getD i 0 :: text.toList.drop (i + 1) := by
  have h' : i < text.toList.length := by simpa using h
  rw [List.drop_eq_getElem_cons h', Array.getD_eq_getD_getElem?, Array.getElem?_eq_getElem h]; simp
theorem stuff_at {text : Array Nat} {i : Nat} (h : i < text.size) : stuff (bol text i) (text.toList.drop i) = (if isDot text i then [46, 46] else [text.getD i 0]) ++ stuff (bol text (i + 1)) (text.toList.drop (i + 1)) := by
  rw [drop_at h]
  have e1 : bol text (i + 1) = (text.getD i 0 == 10) := by unfold bol; simp
  have e2 : isDot text i = (bol text i && text.getD i 0 == 46) := by unfold isDot bol; simp [h]
  rw [e1, e2]
  show (if bol text i && text.getD i 0 == 46 then _ else _) = _
  cases hb : (bol text i && text.getD i 0 == 46) with
  | true =>
    have : text.getD i 0 = 46 := eq_of_beq (Bool.and_eq_true_iff.mp hb).2
    rw [this]; rfl
  | false => rfl
theorem stuff_none {text : Array Nat} : ∀ (n i : Nat), text.size - i = n → (∀ q, i ≤ q → isDot text q = false) → stuff (bol text i) (text.toList.drop i) = text.toList.drop i
  | 0, i, hn, h => by rw [List.drop_of_length_le (by simp; omega)]; rfl
  | n + 1, i, hn, h => by
    have hi : i < text.size := by omega
    rw [stuff_at hi, h i (Nat.le_refl _), stuff_none n (i + 1) (by omega) fun q hq => h q (by omega)]
    conv => rhs; rw [drop_at hi]
    rfl
theorem stuff_some {text : Array Nat} {j : Nat} (hj : isDot text j = true) : ∀ (n i : Nat), j - i = n → i ≤ j → (∀ q, i ≤ q → q < j → isDot text q = false) → stuff (bol text i) (text.toList.drop i) = (text.extract i j).toList ++ [46, 46] ++ stuff (bol text (j + 1)) (text.toList.drop (j + 1))
  | 0, i, hn, hi, h => by
    have : i = j := by omega
    subst this
    have hlt : i < text.size := by unfold isDot at hj; simp at hj; exact hj.1.2
    rw [stuff_at hlt, hj]; simp
  | n + 1, i, hn, hi, h => by
    have hjl : j < text.size := by unfold isDot at hj; simp at hj; exact hj.1.2
    have hlt : i < text.size := by omega
    rw [stuff_at hlt, h i (Nat.le_refl _) (by omega), stuff_some hj n (i + 1) (by omega) (by omega) fun q h1 h2 => h q (by omega) h2]
    have e : (text.extract i j).toList = text.getD i 0 :: (text.extract (i + 1) j).toList := by
      rw [Array.toList_extract, Array.toList_extract, List.extract_eq_take_drop, List.extract_eq_take_drop, drop_at hlt, show j - i = (j - (i + 1)) + 1 by omega, List.take_succ_cons]
    rw [e]; rfl
theorem dot_search {text : Array Nat} {i : Nat} (hi : i < text.size) : Sre.forSearch codeDot text 0 i text.size false = mDot text i true (({} : Sre.Seen).add 14) := by
  rw [forSearch_eq]
  show (if (decide (i > text.size) || decide (text.size - i < 1)) = true then _ else _) = _
  rw [if_neg (by simp; omega)]
  rfl
theorem dot_search_end {text : Array Nat} : NxNone codeDot text 0 text.size := by
  unfold NxNone
  rw [forSearch_eq]
  show ∃ m', Ends (if (decide (text.size > text.size) || decide (text.size - text.size < 1)) = true then _ else _) m' ∧ _
  rw [if_pos (by simp)]
  exact said_no rfl rfl rfl
theorem dot_subs {text : Array Nat} (hsz : text.size ≤ 100000) : ∀ (n i : Nat), text.size - i = n → i ≤ text.size → ∃ ps, Subs codeDot text 0 ".." i ps ∧ (ps.map (·.cps.toList)).flatten = stuff (bol text i) (text.toList.drop i) ∧ (ps.map (·.length)).sum ≤ 2 * n ∧ ps.length ≤ 2 * n + 1 := by
  intro n
  induction n using Nat.strongRecOn with
  | ind n ih =>
    intro i hn hi
    rcases Nat.lt_or_ge i text.size with hlt | hge
    · rcases dot_run n i true (({} : Sre.Seen).add 14) hn hi with ⟨j, h1, h2, h3, k, m', hk, r, ho, hs, hh⟩ | ⟨h1, k, m', hk, r, ho⟩
      · have hjl : j < text.size := by unfold isDot at h2; simp at h2; exact h2.1.2
        obtain ⟨ps, hS, hf, hsum, hlen⟩ := ih (text.size - (j + 1)) (by omega) (j + 1) rfl (by omega)
        refine ⟨_, .step (a := j) (b := j + 1) ⟨m', by rw [dot_search hlt]; exact r.ends (by omega), ho, hs, hh⟩ (by omega) hS, ?_, ?_, ?_⟩
        · rw [stuff_some h2 (j - i) i rfl h1 h3, List.map_append, List.flatten_append, List.map_cons, List.flatten_cons, hf]
          have e : ((if i < j then [(⟨text.extract i j⟩ : Str)] else []).map (·.cps.toList)).flatten = (text.extract i j).toList := by
            split
            · simp
            · have : i = j := by omega
              subst this; simp
          rw [e]
          show (text.extract i j).toList ++ ([46, 46] ++ _) = _
          rw [List.append_assoc]
        · rw [List.map_append, List.sum_append, List.map_cons, List.sum_cons]
          have e : ((if i < j then [(⟨text.extract i j⟩ : Str)] else []).map (·.length)).sum ≤ j - i := by
            split
            · simp [Str.length]; omega
            · simp
          have e2 : (Str.ofString "..").length = 2 := rfl
          omega
        · rw [List.length_append, List.length_cons]
          have e : (if i < j then [(⟨text.extract i j⟩ : Str)] else []).length ≤ 1 := by split <;> simp
          omega
      · refine ⟨_, .stop ⟨m', by rw [dot_search hlt]; exact r.ends (by omega), ho⟩, ?_, ?_, ?_⟩
        · rw [if_pos hlt, stuff_none n i hn h1]
          simp [List.extract_eq_take_drop]
          exact List.take_of_length_le (by simp)
        · rw [if_pos hlt]; simp [Str.length]; omega
        · rw [if_pos hlt]; simp
    · have : i = text.size := by omega
      subst this
      refine ⟨_, .stop dot_search_end, ?_, ?_, ?_⟩
      · rw [if_neg (Nat.lt_irrefl _), List.drop_of_length_le (by simp)]; rfl
      · rw [if_neg (Nat.lt_irrefl _)]; simp
      · rw [if_neg (Nat.lt_irrefl _)]; simp
end Mine
end
section
open PySem PySem.W PyProof.Rows PySem.Calls PySem.Spec PySem.Builtin.Re
set_option maxRecDepth 100000
set_option linter.unusedVariables false
namespace Mine
/-! the line ends -/
def codeEnd : Array Nat := #[14, 9, 4, 1, 2, 16, 10, 16, 13, 0, 7, 7, 16, 13, 16, 10, 15, 18, 5, 16, 10, 15, 13, 11, 16, 13, 5, 5, 0, 16, 10, 1, 15, 2, 0, 1]
def mE (text : Array Nat) (i pc pos handed : Nat) (om : Bool) (fr : List Sre.Frame) (wt : Nat) (ans : Option Bool) (seen : Sre.Seen) : Sre.M :=
  { code := codeEnd, text, lim := text.size, start := i, lastStart := text.size, pc, pos, handed, outermost := om, marks := #[], frames := fr, weight := wt, answer := ans, seen }
abbrev f0 (i : Nat) : Sre.Frame := { wait := .nextStart, pc := 10, pos := i, outermost := true }
abbrev fb (i alt : Nat) : Sre.Frame := { wait := .nextBranch, pc := alt, pos := i, outermost := true }
section
variable {text : Array Nat} {i pos ha : Nat} {om : Bool} {fr : List Sre.Frame} {wt : Nat} {seen : Sre.Seen}
theorem end_lit12 : (mE text i 12 pos ha om fr wt none seen).step = (if pos ≥ text.size then mE text i 12 pos ha om fr wt (some false) (seen.add 16) else if text.getD pos 0 == 13 then mE text i 14 (pos + 1) ha om fr wt none (seen.add 16) else mE text i 12 pos ha om fr wt (some false) (seen.add 16)) := by
  have e : (mE text i 12 pos ha om fr wt none seen).step = (if pos ≥ text.size then mE text i 12 pos ha om fr wt (some false) (seen.add 16) else
      match (Except.ok (text.getD pos 0 == 13, seen.add 16) : Except String (Bool × Sre.Seen)) with
      | .error why => (mE text i 12 pos ha om fr wt none (seen.add 16)).stick why
      | .ok (false, seen) => mE text i 12 pos ha om fr wt (some false) seen
      | .ok (true, seen) => mE text i 14 (pos + 1) ha om fr wt none seen) := rfl
  rw [e]
  cases text.getD pos 0 == 13 <;> rfl
theorem end_lit14 : (mE text i 14 pos ha om fr wt none seen).step = (if pos ≥ text.size then mE text i 14 pos ha om fr wt (some false) (seen.add 16) else if text.getD pos 0 == 10 then mE text i 16 (pos + 1) ha om fr wt none (seen.add 16) else mE text i 14 pos ha om fr wt (some false) (seen.add 16)) := by
  have e : (mE text i 14 pos ha om fr wt none seen).step = (if pos ≥ text.size then mE text i 14 pos ha om fr wt (some false) (seen.add 16) else
      match (Except.ok (text.getD pos 0 == 10, seen.add 16) : Except String (Bool × Sre.Seen)) with
      | .error why => (mE text i 14 pos ha om fr wt none (seen.add 16)).stick why
      | .ok (false, seen) => mE text i 14 pos ha om fr wt (some false) seen
      | .ok (true, seen) => mE text i 16 (pos + 1) ha om fr wt none seen) := rfl
  rw [e]
  cases text.getD pos 0 == 10 <;> rfl
theorem end_lit19 : (mE text i 19 pos ha om fr wt none seen).step = (if pos ≥ text.size then mE text i 19 pos ha om fr wt (some false) (seen.add 16) else if text.getD pos 0 == 10 then mE text i 21 (pos + 1) ha om fr wt none (seen.add 16) else mE text i 19 pos ha om fr wt (some false) (seen.add 16)) := by
  have e : (mE text i 19 pos ha om fr wt none seen).step = (if pos ≥ text.size then mE text i 19 pos ha om fr wt (some false) (seen.add 16) else
      match (Except.ok (text.getD pos 0 == 10, seen.add 16) : Except String (Bool × Sre.Seen)) with
      | .error why => (mE text i 19 pos ha om fr wt none (seen.add 16)).stick why
      | .ok (false, seen) => mE text i 19 pos ha om fr wt (some false) seen
      | .ok (true, seen) => mE text i 21 (pos + 1) ha om fr wt none seen) := rfl
  rw [e]
  cases text.getD pos 0 == 10 <;> rfl
theorem end_lit24 : (mE text i 24 pos ha om fr wt none seen).step = (if pos ≥ text.size then mE text i 24 pos ha om fr wt (some false) (seen.add 16) else if text.getD pos 0 == 13 then mE text i 26 (pos + 1) ha om fr wt none (seen.add 16) else mE text i 24 pos ha om fr wt (some false) (seen.add 16)) := by
  have e : (mE text i 24 pos ha om fr wt none seen).step = (if pos ≥ text.size then mE text i 24 pos ha om fr wt (some false) (seen.add 16) else
      match (Except.ok (text.getD pos 0 == 13, seen.add 16) : Except String (Bool × Sre.Seen)) with
      | .error why => (mE text i 24 pos ha om fr wt none (seen.add 16)).stick why
      | .ok (false, seen) => mE text i 24 pos ha om fr wt (some false) seen
      | .ok (true, seen) => mE text i 26 (pos + 1) ha om fr wt none seen) := rfl
  rw [e]
  cases text.getD pos 0 == 13 <;> rfl
theorem end_lit29 : (mE text i 29 pos ha om fr wt none seen).step = (if pos ≥ text.size then mE text i 29 pos ha om fr wt (some false) (seen.add 16) else if text.getD pos 0 == 10 then mE text i 31 (pos + 1) ha om fr wt none (seen.add 16) else mE text i 29 pos ha om fr wt (some false) (seen.add 16)) := by
  have e : (mE text i 29 pos ha om fr wt none seen).step = (if pos ≥ text.size then mE text i 29 pos ha om fr wt (some false) (seen.add 16) else
      match (Except.ok (text.getD pos 0 == 10, seen.add 16) : Except String (Bool × Sre.Seen)) with
      | .error why => (mE text i 29 pos ha om fr wt none (seen.add 16)).stick why
      | .ok (false, seen) => mE text i 29 pos ha om fr wt (some false) seen
      | .ok (true, seen) => mE text i 31 (pos + 1) ha om fr wt none seen) := rfl
  rw [e]
  cases text.getD pos 0 == 10 <;> rfl
end
section
variable {text : Array Nat} {i : Nat} {seen : Sre.Seen}
/-- once at the pattern's end -/
theorem end_hit {pos ha alt : Nat} : ∃ m', EndsIn 4 (mE text i 35 pos ha true [fb i alt, f0 i] 2 none seen) m' ∧ m'.outcome = some .matched ∧ m'.start = i ∧ m'.handed = pos :=
  ⟨_, EndsIn.step rfl (m1 := mE text i 35 pos pos true [fb i alt, f0 i] 2 (some true) (seen.add 1)) rfl (EndsIn.step rfl (m1 := mE text i alt i pos true [f0 i] 1 (some true) (seen.add 1)) rfl
    (EndsIn.step rfl (m1 := mE text i 10 i pos true [] 0 (some true) (seen.add 1)) rfl (EndsIn.step rfl (m1 := { mE text i 10 i pos true [] 0 (some true) (seen.add 1) with outcome := some .matched }) rfl ⟨rfl, rfl⟩))), rfl, rfl, rfl⟩
theorem end_branch : (mE text i 10 i i true [f0 i] 1 none seen).step = mE text i 12 i i true [fb i 11, f0 i] 2 none (seen.add 7) := rfl
theorem end_next18 {pc pos ha : Nat} : (mE text i pc pos ha true [fb i 11, f0 i] 2 (some false) seen).step = mE text i 19 i i true [fb i 18, f0 i] 2 none seen := rfl
theorem end_next23 {pc pos ha : Nat} : (mE text i pc pos ha true [fb i 18, f0 i] 2 (some false) seen).step = mE text i 24 i i true [fb i 23, f0 i] 2 none seen := rfl
theorem end_run (hi : i < text.size) (hc : text.getD i 0 = 10 ∨ text.getD i 0 = 13) :
    ∃ k m', k ≤ 30 ∧ EndsIn k (mE text i 10 i i true [f0 i] 1 none seen) m' ∧ m'.outcome = some .matched ∧ m'.start = i ∧ m'.handed = (if text.getD i 0 = 13 ∧ i + 1 < text.size ∧ text.getD (i + 1) 0 = 10 then i + 2 else i + 1) := by
  have hge : ¬ i ≥ text.size := by omega
  have y12 : text.getD i 0 = 13 → ∀ {ha : Nat} {om : Bool} {fr : List Sre.Frame} {wt : Nat} {seen : Sre.Seen}, (mE text i 12 i ha om fr wt none seen).step = mE text i 14 (i + 1) ha om fr wt none (seen.add 16) := fun hc => by intro ha om fr wt seen; rw [end_lit12, if_neg hge, hc]; rfl
  have n12 : text.getD i 0 = 10 → ∀ {ha : Nat} {om : Bool} {fr : List Sre.Frame} {wt : Nat} {seen : Sre.Seen}, (mE text i 12 i ha om fr wt none seen).step = mE text i 12 i ha om fr wt (some false) (seen.add 16) := fun hc => by intro ha om fr wt seen; rw [end_lit12, if_neg hge, hc]; rfl
  have y19 : text.getD i 0 = 10 → ∀ {ha : Nat} {om : Bool} {fr : List Sre.Frame} {wt : Nat} {seen : Sre.Seen}, (mE text i 19 i ha om fr wt none seen).step = mE text i 21 (i + 1) ha om fr wt none (seen.add 16) := fun hc => by intro ha om fr wt seen; rw [end_lit19, if_neg hge, hc]; rfl
  have n19 : text.getD i 0 = 13 → ∀ {ha : Nat} {om : Bool} {fr : List Sre.Frame} {wt : Nat} {seen : Sre.Seen}, (mE text i 19 i ha om fr wt none seen).step = mE text i 19 i ha om fr wt (some false) (seen.add 16) := fun hc => by intro ha om fr wt seen; rw [end_lit19, if_neg hge, hc]; rfl
  have y24 : text.getD i 0 = 13 → ∀ {ha : Nat} {om : Bool} {fr : List Sre.Frame} {wt : Nat} {seen : Sre.Seen}, (mE text i 24 i ha om fr wt none seen).step = mE text i 26 (i + 1) ha om fr wt none (seen.add 16) := fun hc => by intro ha om fr wt seen; rw [end_lit24, if_neg hge, hc]; rfl
  rcases hc with hc | hc
  · obtain ⟨m', r, ho, hs, hh⟩ := end_hit (text := text) (i := i) (pos := i + 1) (ha := i) (alt := 18) (seen := ((((seen.add 7).add 16).add 16).add 15))
    refine ⟨9, m', by omega, EndsIn.step rfl end_branch (EndsIn.step rfl (n12 hc) (EndsIn.step rfl end_next18 (EndsIn.step rfl (y19 hc) (EndsIn.step rfl (m1 := mE text i 35 (i + 1) i true [fb i 18, f0 i] 2 none ((((seen.add 7).add 16).add 16).add 15)) rfl r)))), ho, hs, ?_⟩
    rw [hh, if_neg (by rw [hc]; omega)]
  · by_cases hn : i + 1 < text.size ∧ text.getD (i + 1) 0 = 10
    · have y14 : ∀ {ha : Nat} {om : Bool} {fr : List Sre.Frame} {wt : Nat} {seen : Sre.Seen}, (mE text i 14 (i + 1) ha om fr wt none seen).step = mE text i 16 (i + 2) ha om fr wt none (seen.add 16) := by intro ha om fr wt seen; rw [end_lit14, if_neg (by omega), hn.2]; rfl
      obtain ⟨m', r, ho, hs, hh⟩ := end_hit (text := text) (i := i) (pos := i + 2) (ha := i) (alt := 11) (seen := ((((seen.add 7).add 16).add 16).add 15))
      refine ⟨8, m', by omega, EndsIn.step rfl end_branch (EndsIn.step rfl (y12 hc) (EndsIn.step rfl y14 (EndsIn.step rfl (m1 := mE text i 35 (i + 2) i true [fb i 11, f0 i] 2 none ((((seen.add 7).add 16).add 16).add 15)) rfl r))), ho, hs, ?_⟩
      rw [hh, if_pos ⟨hc, hn⟩]
    · have no14 : ∀ {ha : Nat} {om : Bool} {fr : List Sre.Frame} {wt : Nat} {seen : Sre.Seen}, (mE text i 14 (i + 1) ha om fr wt none seen).step = mE text i 14 (i + 1) ha om fr wt (some false) (seen.add 16) := fun {ha om fr wt seen} => by
        rw [end_lit14]
        by_cases q : i + 1 ≥ text.size
        · rw [if_pos q]
        · rw [if_neg q]
          have : (text.getD (i + 1) 0 == 10) = false := by
            cases h : text.getD (i + 1) 0 == 10 with
            | false => rfl
            | true => exact absurd ⟨Nat.lt_of_not_le q, eq_of_beq h⟩ hn
          rw [this]; rfl
      have no29 : ∀ {ha : Nat} {om : Bool} {fr : List Sre.Frame} {wt : Nat} {seen : Sre.Seen}, (mE text i 29 (i + 1) ha om fr wt none seen).step = mE text i 29 (i + 1) ha om fr wt (some false) (seen.add 16) := fun {ha om fr wt seen} => by
        rw [end_lit29]
        by_cases q : i + 1 ≥ text.size
        · rw [if_pos q]
        · rw [if_neg q]
          have : (text.getD (i + 1) 0 == 10) = false := by
            cases h : text.getD (i + 1) 0 == 10 with
            | false => rfl
            | true => exact absurd ⟨Nat.lt_of_not_le q, eq_of_beq h⟩ hn
          rw [this]; rfl
      let fl : Sre.Frame := { wait := .lookNot, pc := 26, pos := i + 1, outermost := true }
      obtain ⟨m', r, ho, hs, hh⟩ := end_hit (text := text) (i := i) (pos := i + 1) (ha := i + 1) (alt := 23) (seen := ((((((((seen.add 7).add 16).add 16).add 16).add 16).add 5).add 16).add 15))
      refine ⟨15, m', by omega, EndsIn.step rfl end_branch (EndsIn.step rfl (y12 hc) (EndsIn.step rfl no14 (EndsIn.step rfl end_next18 (EndsIn.step rfl (n19 hc) (EndsIn.step rfl end_next23 (EndsIn.step rfl (y24 hc)
        (EndsIn.step rfl (m1 := mE text i 29 (i + 1) (i + 1) false [fl, fb i 23, f0 i] 3 none ((((((seen.add 7).add 16).add 16).add 16).add 16).add 5)) rfl (EndsIn.step rfl no29 (EndsIn.step rfl (m1 := mE text i 32 (i + 1) (i + 1) true [fb i 23, f0 i] 2 none (((((((seen.add 7).add 16).add 16).add 16).add 16).add 5).add 16)) rfl
          (EndsIn.step rfl (m1 := mE text i 35 (i + 1) (i + 1) true [fb i 23, f0 i] 2 none ((((((((seen.add 7).add 16).add 16).add 16).add 16).add 5).add 16).add 15)) rfl r)))))))))), ho, hs, ?_⟩
      rw [hh, if_neg (fun q => hn q.2)]
end
end Mine
end
section
open PySem PySem.W PyProof.Rows PySem.Calls PySem.Spec PySem.Builtin.Re
set_option maxRecDepth 100000
set_option linter.unusedVariables false
namespace Mine
def isEnd (c : Nat) : Bool := c == 10 || c == 13
theorem in_end (c : Nat) (seen : Sre.Seen) : ∃ seen', Sre.inSet codeEnd c codeEnd.size 5 true seen = .ok (isEnd c, seen') := by
  have e : Sre.inSet codeEnd c codeEnd.size 5 true seen = (if c == 10 then .ok (true, seen.add 16) else if c == 13 then .ok (true, (seen.add 16).add 16) else .ok (false, ((seen.add 16).add 16).add 0)) := rfl
  rw [e]
  unfold isEnd
  cases c == 10 <;> cases c == 13 <;> exact ⟨_, rfl⟩
theorem admitted_end {m : Sre.M} (hm : m.code = codeEnd) : ∀ (fuel i : Nat) (seen : Sre.Seen), m.lim < i + fuel →
    (∃ j, i ≤ j ∧ j < m.lim ∧ isEnd (m.text.getD j 0) = true ∧ (∀ q, i ≤ q → q < j → isEnd (m.text.getD q 0) = false) ∧ ∃ seen', m.admitted fuel i seen = .ok (some j, seen')) ∨
    ((∀ q, i ≤ q → q < m.lim → isEnd (m.text.getD q 0) = false) ∧ ∃ seen', m.admitted fuel i seen = .ok (none, seen'))
  | 0, i, seen, h => .inr ⟨fun q h1 h2 => absurd h2 (by omega), seen, rfl⟩
  | fuel + 1, i, seen, h => by
    by_cases hi : i ≥ m.lim
    · refine .inr ⟨fun q h1 h2 => absurd h2 (by omega), seen, ?_⟩
      unfold Sre.M.admitted; rw [if_pos hi]
    · obtain ⟨seen1, e⟩ := in_end (m.text.getD i 0) seen
      have ea : m.admitted (fuel + 1) i seen = (match (Except.ok (isEnd (m.text.getD i 0), seen1) : Except String (Bool × Sre.Seen)) with
          | .ok (true, seen) => .ok (some i, seen)
          | .ok (false, seen) => m.admitted fuel (i + 1) seen
          | .error why => .error why) := by
        show (if i ≥ m.lim then _ else _) = _
        rw [if_neg hi, hm, e]
        cases isEnd (m.text.getD i 0) <;> rfl
      cases hc : isEnd (m.text.getD i 0) with
      | true =>
        rw [hc] at ea
        exact .inl ⟨i, Nat.le_refl _, Nat.lt_of_not_le hi, hc, fun q h1 h2 => absurd h2 (by omega), seen1, ea⟩
      | false =>
        rw [hc] at ea
        rcases admitted_end hm fuel (i + 1) seen1 (by omega) with ⟨j, h1, h2, h3, h4, seen2, e2⟩ | ⟨h1, seen2, e2⟩
        · refine .inl ⟨j, by omega, h2, h3, fun q q1 q2 => ?_, seen2, ea.trans e2⟩
          rcases Nat.lt_or_ge q (i + 1) with q3 | q3
          · rw [show q = i by omega]; exact hc
          · exact h4 q q3 q2
        · refine .inr ⟨fun q q1 q2 => ?_, seen2, ea.trans e2⟩
          rcases Nat.lt_or_ge q (i + 1) with q3 | q3
          · rw [show q = i by omega]; exact hc
          · exact h1 q q3 q2
/-- every line end made a return and a feed -/
def crlf : List Nat → List Nat
  | [] => []
  | 13 :: 10 :: r => 13 :: 10 :: crlf r
  | c :: r => (if isEnd c then [13, 10] else [c]) ++ crlf r
theorem first_end : FirstSet codeEnd := fun m h => by unfold Sre.M.hasFirstSet; rw [h]; rfl
theorem end_find {text : Array Nat} {i : Nat} (hi : i < text.size) :
    (∃ j, i ≤ j ∧ j < text.size ∧ isEnd (text.getD j 0) = true ∧ (∀ q, i ≤ q → q < j → isEnd (text.getD q 0) = false) ∧ NxSome codeEnd text 0 i j (if text.getD j 0 = 13 ∧ j + 1 < text.size ∧ text.getD (j + 1) 0 = 10 then j + 2 else j + 1)) ∨
    ((∀ q, i ≤ q → q < text.size → isEnd (text.getD q 0) = false) ∧ NxNone codeEnd text 0 i) := by
  have es : Sre.forSearch codeEnd text 0 i text.size false = ({ code := codeEnd, text, lim := text.size, start := i, lastStart := text.size, pc := 10, pos := i, handed := i, marks := #[], seen := ({} : Sre.Seen).add 14 } : Sre.M).attemptFrom i true := by
    rw [forSearch_eq]
    show (if (decide (i > text.size) || decide (text.size - i < 1)) = true then _ else _) = _
    rw [if_neg (by simp; omega)]
    rfl
  rcases admitted_end (m := { code := codeEnd, text, lim := text.size, start := i, lastStart := text.size, pc := 10, pos := i, handed := i, marks := #[], seen := ({} : Sre.Seen).add 14 }) rfl (text.size + 1 - i) i (({} : Sre.Seen).add 14) (by show text.size < _; omega) with ⟨j, h1, h2, h3, h4, seen', e⟩ | ⟨h1, seen', e⟩
  · refine .inl ⟨j, h1, h2, h3, h4, ?_⟩
    have hj : text.getD j 0 = 10 ∨ text.getD j 0 = 13 := by
      have h3' : isEnd (text.getD j 0) = true := h3
      unfold isEnd at h3'
      rcases Bool.or_eq_true_iff.mp h3' with q | q
      · exact .inl (eq_of_beq q)
      · exact .inr (eq_of_beq q)
    obtain ⟨k, m', hk, r, ho, hs, hh⟩ := end_run (seen := seen') h2 hj
    refine ⟨m', ?_, ho, hs, hh⟩
    have e2 : Sre.forSearch codeEnd text 0 i text.size false = mE text j 10 j j true [f0 j] 1 none seen' := by
      rw [es]
      unfold Sre.M.attemptFrom
      rw [first_end _ rfl]
      show (match Sre.M.admitted _ (text.size + 1 - i) i (({} : Sre.Seen).add 14) with | .ok (some s, seen) => _ | .ok (none, seen) => _ | .error why => _) = _
      rw [e]
      rfl
    rw [e2]
    exact r.ends (by omega)
  · refine .inr ⟨h1, ?_⟩
    unfold NxNone
    have e2 : Sre.forSearch codeEnd text 0 i text.size false = ({ code := codeEnd, text, lim := text.size, start := i, lastStart := text.size, pc := 10, pos := i, handed := i, marks := #[], seen := seen' } : Sre.M).say false := by
      rw [es]
      unfold Sre.M.attemptFrom
      rw [first_end _ rfl]
      show (match Sre.M.admitted _ (text.size + 1 - i) i (({} : Sre.Seen).add 14) with | .ok (some s, seen) => _ | .ok (none, seen) => _ | .error why => _) = _
      rw [e]
    rw [e2]
    exact said_no rfl rfl rfl
end Mine
end
section
open PySem PySem.W PyProof.Rows PySem.Calls PySem.Spec PySem.Builtin.Re
set_option maxRecDepth 100000
set_option linter.unusedVariables false
namespace Mine
theorem crlf_one {c : Nat} {r : List Nat} (h : ∀ r', c = 13 → r = 10 :: r' → False) : crlf (c :: r) = (if isEnd c then [13, 10] else [c]) ++ crlf r := by
  rw [crlf]; exact h
theorem crlf_two {r : List Nat} : crlf (13 :: 10 :: r) = 13 :: 10 :: crlf r := by rw [crlf]
theorem crlf_other {c : Nat} {r : List Nat} (h : isEnd c = false) : crlf (c :: r) = c :: crlf r := by
  rw [crlf_one (fun r' e _ => by subst e; simp [isEnd] at h), h]; rfl
theorem crlf_end {text : Array Nat} {i : Nat} (hi : i < text.size) (h : isEnd (text.getD i 0) = true) :
    crlf (text.toList.drop i) = 13 :: 10 :: crlf (text.toList.drop (if text.getD i 0 = 13 ∧ i + 1 < text.size ∧ text.getD (i + 1) 0 = 10 then i + 2 else i + 1)) := by
  rw [drop_at hi]
  by_cases q : text.getD i 0 = 13 ∧ i + 1 < text.size ∧ text.getD (i + 1) 0 = 10
  · rw [if_pos q, drop_at q.2.1, q.2.2, q.1, crlf_two]
  · rw [if_neg q, crlf_one (fun r' e1 e2 => ?_), h]
    · rfl
    · apply q
      refine ⟨e1, ?_⟩
      by_cases hl : i + 1 < text.size
      · rw [drop_at hl] at e2
        exact ⟨hl, (List.cons.inj e2).1⟩
      · rw [List.drop_of_length_le (by simp; omega)] at e2; cases e2
theorem crlf_none {text : Array Nat} : ∀ (n i : Nat), text.size - i = n → (∀ q, i ≤ q → q < text.size → isEnd (text.getD q 0) = false) → crlf (text.toList.drop i) = text.toList.drop i
  | 0, i, hn, h => by rw [List.drop_of_length_le (by simp; omega)]; rfl
  | n + 1, i, hn, h => by
    have hi : i < text.size := by omega
    rw [drop_at hi, crlf_other (h i (Nat.le_refl _) hi), crlf_none n (i + 1) (by omega) fun q h1 h2 => h q (by omega) h2]
theorem crlf_skip {text : Array Nat} {j : Nat} (hj : j < text.size) : ∀ (n i : Nat), j - i = n → i ≤ j → (∀ q, i ≤ q → q < j → isEnd (text.getD q 0) = false) → crlf (text.toList.drop i) = (text.extract i j).toList ++ crlf (text.toList.drop j)
  | 0, i, hn, hi, h => by
    have : i = j := by omega
    subst this; simp
  | n + 1, i, hn, hi, h => by
    have hlt : i < text.size := by omega
    rw [drop_at hlt, crlf_other (h i (Nat.le_refl _) (by omega)), crlf_skip hj n (i + 1) (by omega) (by omega) fun q h1 h2 => h q (by omega) h2]
    have e : (text.extract i j).toList = text.getD i 0 :: (text.extract (i + 1) j).toList := by
      rw [Array.toList_extract, Array.toList_extract, List.extract_eq_take_drop, List.extract_eq_take_drop, drop_at hlt, show j - i = (j - (i + 1)) + 1 by omega, List.take_succ_cons]
    rw [e]; rfl
theorem end_search_end {text : Array Nat} : NxNone codeEnd text 0 text.size := by
  unfold NxNone
  rw [forSearch_eq]
  show ∃ m', Ends (if (decide (text.size > text.size) || decide (text.size - text.size < 1)) = true then _ else _) m' ∧ _
  rw [if_pos (by simp)]
  exact said_no rfl rfl rfl
theorem end_subs {text : Array Nat} : ∀ (n i : Nat), text.size - i = n → i ≤ text.size → ∃ ps, Subs codeEnd text 0 "\r\n" i ps ∧ (ps.map (·.cps.toList)).flatten = crlf (text.toList.drop i) ∧ (ps.map (·.length)).sum ≤ 2 * n ∧ ps.length ≤ 2 * n + 1 := by
  intro n
  induction n using Nat.strongRecOn with
  | ind n ih =>
    intro i hn hi
    rcases Nat.lt_or_ge i text.size with hlt | hge
    · rcases end_find hlt with ⟨j, h1, h2, h3, h4, hx⟩ | ⟨h1, hx⟩
      · generalize hb : (if text.getD j 0 = 13 ∧ j + 1 < text.size ∧ text.getD (j + 1) 0 = 10 then j + 2 else j + 1) = b at hx
        have hb1 : j < b ∧ b ≤ text.size := by
          by_cases q : text.getD j 0 = 13 ∧ j + 1 < text.size ∧ text.getD (j + 1) 0 = 10
          · rw [if_pos q] at hb; omega
          · rw [if_neg q] at hb; omega
        obtain ⟨ps, hS, hf, hsum, hlen⟩ := ih (text.size - b) (by omega) b rfl hb1.2
        refine ⟨_, .step hx hb1.1 hS, ?_, ?_, ?_⟩
        · rw [crlf_skip h2 (j - i) i rfl h1 h4, crlf_end h2 h3, hb, List.map_append, List.flatten_append, List.map_cons, List.flatten_cons, hf]
          have e : ((if i < j then [(⟨text.extract i j⟩ : Str)] else []).map (·.cps.toList)).flatten = (text.extract i j).toList := by
            split
            · simp
            · have : i = j := by omega
              subst this; simp
          rw [e]
          rfl
        · rw [List.map_append, List.sum_append, List.map_cons, List.sum_cons]
          have e : ((if i < j then [(⟨text.extract i j⟩ : Str)] else []).map (·.length)).sum ≤ j - i := by
            split
            · simp [Str.length]; omega
            · simp
          have e2 : (Str.ofString "\r\n").length = 2 := rfl
          omega
        · rw [List.length_append, List.length_cons]
          have e : (if i < j then [(⟨text.extract i j⟩ : Str)] else []).length ≤ 1 := by split <;> simp
          omega
      · refine ⟨_, .stop hx, ?_, ?_, ?_⟩
        · rw [if_pos hlt, crlf_none n i hn h1]
          simp [List.extract_eq_take_drop]
          exact List.take_of_length_le (by simp)
        · rw [if_pos hlt]; simp [Str.length]; omega
        · rw [if_pos hlt]; simp
    · have : i = text.size := by omega
      subst this
      refine ⟨_, .stop end_search_end, ?_, ?_, ?_⟩
      · rw [if_neg (Nat.lt_irrefl _), List.drop_of_length_le (by simp)]; rfl
      · rw [if_neg (Nat.lt_irrefl _)]; simp
      · rw [if_neg (Nat.lt_irrefl _)]; simp
end Mine
end
section
open PySem PySem.W PyProof.Rows PySem.Calls PySem.Spec PySem.Builtin.Re
set_option maxRecDepth 100000
set_option linter.unusedVariables false
namespace Mine
section
variable {g : G} {n : Nat} {env : Env} {X : List Addr} {ρ : List (Str × Bnd)}
theorem ev_resub {nm : Str} {p0 apos pos : Pos} {p : Addr} {code : Array Nat} {groups : Nat} {a b : PySem.Expr} {pl : Sem Bool} {x r : Str} {ps : List Str} (hg : Gv g nm (.ref p)) (hp : PatAt g.B p code groups) (ea : EvP g n env X ρ a (.str r)) (eb : EvP g n env X ρ b (.str x))
    (hS : Subs code x.cps groups r 0 ps) (hr : r.cps.contains 92 = false) (hxl : x.length ≤ 100000) (hps : ps.length ≤ 1000000) (hj : JoinOk "" ps = true)
    (he : eval (.Call (.Attribute (.Name nm p0) "sub" apos) [a, b] [] pos) env = (do
      let ov ← eval (.Name nm p0) env
      standAt apos.atName
      let (f, first) ← holding [ov] (getMethod ov "sub" pl)
      callWith pos f first (backTo pos (starEach [a, b] env)) []) := by rfl) (hk : env.kindOf nm = some .globalImplicit := by rfl) (hd : (nm == ("__debug__" : Str)) = false := by decide) (hn : [a, b].all noStar = true := by rfl) :
    EvP g n env X ρ (.Call (.Attribute (.Name nm p0) "sub" apos) [a, b] [] pos) (.str (Txt.join "" ps)) := fun s c A Q E rm h => by
  refine MethodCall_ (load_glob c hg hk hd ?_) he
  have hp1 := hp.keeps c.base
  obtain ⟨fs, ct, oc, items, m, t2, t6, h1, _⟩ := id hp1.at_
  refine getMethod_builtin ⟨_, h1, rfl⟩ re_plain slot_re_sub type_re_sub (fun q e => by cases e; exact ⟨_, h1, rfl⟩) ?_
  refine callWith_builtin (backTo_any hn) (args_ok (es := [a, b]) (ds := [.str r, .str x]) hn ⟨ea, eb, trivial⟩ c rm fun vs h' tk pr rds => ?_)
  obtain ⟨v, u, rfl, rd1, rd2⟩ := rds.two
  obtain ⟨t, rfl⟩ := rd1.str_inv
  obtain ⟨t', rfl⟩ := rd2.str_inv
  refine call_sub (s := { s with heap := h', toks := tk }) (hp.keeps (c.pr pr).base) hS hr hxl hps hj fun h2 tk2 tt hk2 => ?_
  exact h _ h2 tk2 (pr.trans (Pr.of_keeps hk2)) rdX_str
end
/-- what quotedata makes of a text -/
def quoted (x : Str) : Str := ⟨(stuff true (crlf x.cps.toList)).toArray⟩
theorem str_of_toList {x y : Str} (h : x.cps.toList = y.cps.toList) : x = y := by
  obtain ⟨a⟩ := x; obtain ⟨b⟩ := y
  have : a = b := Array.toList_inj.mp h
  rw [this]
theorem end_text (x : Str) (hx : x.length ≤ 10000) : ∃ ps, Subs codeEnd x.cps 0 "\r\n" 0 ps ∧ Txt.join "" ps = ⟨(crlf x.cps.toList).toArray⟩ ∧ ps.length ≤ 1000000 ∧ JoinOk "" ps = true ∧ (Txt.join "" ps).length ≤ 20000 := by
  obtain ⟨ps, h1, h2, h3, h4⟩ := end_subs (text := x.cps) x.cps.size 0 (Nat.sub_zero _) (Nat.zero_le _)
  have hx' : x.cps.size ≤ 10000 := hx
  refine ⟨ps, h1, str_of_toList (by rw [join_empty, h2]; simp), by omega, joinOk_of (by omega), ?_⟩
  have e : (Txt.join "" ps).length = (ps.map (·.length)).sum := by
    show (Txt.join "" ps).cps.size = _
    rw [← Array.length_toList, join_empty, List.length_flatten, List.map_map]
    congr 1
  omega
theorem dot_text (x : Str) (hx : x.length ≤ 20000) : ∃ ps, Subs codeDot x.cps 0 ".." 0 ps ∧ Txt.join "" ps = ⟨(stuff true x.cps.toList).toArray⟩ ∧ ps.length ≤ 1000000 ∧ JoinOk "" ps = true ∧ (Txt.join "" ps).length ≤ 40000 := by
  have hx' : x.cps.size ≤ 20000 := hx
  obtain ⟨ps, h1, h2, h3, h4⟩ := dot_subs (text := x.cps) (by omega) x.cps.size 0 (Nat.sub_zero _) (Nat.zero_le _)
  refine ⟨ps, h1, str_of_toList (by rw [join_empty, h2]; simp [bol]), by omega, joinOk_of (by omega), ?_⟩
  have e : (Txt.join "" ps).length = (ps.map (·.length)).sum := by
    show (Txt.join "" ps).cps.size = _
    rw [← Array.length_toList, join_empty, List.length_flatten, List.map_map]
    congr 1
  omega
end Mine
end
section
open PySem PySem.W PyProof.Rows PySem.Calls PySem.Spec
set_option maxRecDepth 100000
set_option linter.unusedVariables false
namespace Mine
section
variable {g : G} {n : Nat} {M : List Addr} {X : List Addr} {ρ : List (Str × Bnd)} {P : Fl → List (Str × Bnd) → Prop}
/-- a def without cells, its arguments bound one way or another -/
theorem call_enterB {f : Addr} {o : Obj} {fd : FuncData} {body : List Stmt} {vs : List Value} {kw : List (Str × Value)} {binds : List (Str × Value)} {s : Shared} (hp : Hp g X s.heap) (ho : g.B.get? f = some o) (hdata : o.data = .func fd) (hlim : g.B.NoLimit) (hcd : g.B.CodeRec fd.code fd.qualname)
    (hbody : fd.body = .stmts body) (hbind : BindsTo s fd ⟨vs, kw⟩ binds) (hgl : fd.globals = mainGlobals) (hbl : fd.builtins = builtinsNs) (hclo : fd.closure = []) (hk : fd.scope.kind = .function) (hco : fd.scope.isCoroutine = false) (hgen : fd.scope.isGenerator = false)
    (hcell : ∀ x ∈ fd.scope.names, x.2 ≠ .cell) (hloc : ∀ x ∈ binds, fd.scope.names.lookup x.1 = some .local)
    (hb : ∀ x b, (x, b) ∈ ρ → ∃ v, binds.reverse.lookup x = some v ∧ fd.scope.names.lookup x = some .local ∧ BI g X s.heap v b) (uniq : (ρ.map (·.1)).Nodup) (dist : (ownAddrs ρ).Nodup) (ownM : ∀ a ∈ ownAddrs ρ, a ∈ M) (tM : ∀ t ∈ g.T, t ∈ M)
    {A : Around} {Q : Value → Shared → Prop} {E : Value → Shared → Prop} (rm : Rm (n + 1) A) (body_ok : ∀ L, WSs g n M s.heap (callEnv fd L f) X body ρ P)
    (k : ∀ fl ρ' X' h' tk v, P fl ρ' → Pr M s.heap h' → Gw X s.heap X' h' → (∀ a ∈ X, a ∈ X') → (match fl with | .ret R => R h' X v | .nxt => v = .none) → Q v { s with heap := h', toks := tk }) : wpAny g.M A (call (.ref f) vs kw) Q E s := by
  refine wpAny_call (codeAny_call_def (Nat.lt_of_le_of_lt (Nat.le_add_right _ _) rm.2.1) (hp.base _ _ ho) hdata (by obtain ⟨mc, q, r⟩ := hlim; exact ⟨mc, q.keeps hp.base, r⟩) (hcd.keeps hp.base) hbody hbind hcell hloc (fun h₁ hns keep => ?_) hco hgen hk)
  generalize hL : s.heap.objs.size = L at hns
  have nL : s.heap.get? L = none := by rw [← hL]; exact get_size _
  have p01 : Pr g.T s.heap h₁ := Pr.of_keeps keep
  let Xc := L :: X
  have growX : ∀ b o, s.heap.get? b = some o → b ∉ X → b ∉ Xc := fun b o e nb m => by
    rcases List.mem_cons.mp m with rfl | m
    · rw [nL] at e; cases e
    · exact nb m
  have subX : ∀ a ∈ X, a ∈ Xc := fun a m => .tail _ m
  have noc : ∀ x, (callEnv fd L f).cells.lookup x = none := fun x => by
    show fd.closure.lookup x = none
    rw [hclo]; rfl
  have F0 : Fx g M s.heap (callEnv fd L f) X Xc ρ h₁ := by
    refine fx_init hp p01 hk hgl hbl ⟨_, hns⟩ nL (fun x a e => by rw [noc] at e; cases e) (fun x y a e e' => by rw [noc] at e; cases e) (fun a m => ?_) subX (.head _) (fun x b m => ?_) uniq dist (fun a m => .inl (ownM a m)) tM
    · rcases List.mem_cons.mp m with rfl | m
      · exact .inr ⟨nL, ns_some hns⟩
      · exact .inl m
    · obtain ⟨v, e, kl, bi⟩ := hb x b m
      exact ⟨v, .inl ⟨kl, _, hns, e⟩, (BI.grow growX subX bi).pr p01 fun t q => subX t (hp.tX t q)⟩
  refine body_ok L { s with heap := h₁, toks := s.toks + binds.length } Xc F0 (A.deeper (callEnv fd L f)) _ _ rm.deeper fun fl fw ρ' X' h' tk hP F' ok gw => ?_
  have gwX : Gw X s.heap X' h' := ⟨fun a m => F'.xNew a m, ?_⟩
  · cases fl with
    | nxt => cases (show fw = .next from ok); exact k .nxt ρ' X' h' tk .none hP F'.old gwX F'.x0 rfl
    | ret R => obtain ⟨v, rfl, r⟩ := ok; exact k (.ret R) ρ' X' h' tk v hP F'.old gwX F'.x0 r
  · refine ⟨fun b o e nb => gw.pr.1 b o (keep b o e) (growX b o e nb), fun b e => F'.old.2 b e⟩
end
end Mine
end
section
open PySem PySem.W PyProof.Rows PySem.Calls PySem.Spec PySem.Builtin.Re
set_option maxRecDepth 100000
set_option linter.unusedVariables false
namespace Mine
section
variable {g : G} {n : Nat} {M : List Addr} {h₀ : Heap} {env : Env} {X₀ X : List Addr} {ρ ρ' : List (Str × Bnd)} {P : Fl → List (Str × Bnd) → Prop}
/-- the very value -/
def EvV (g : G) (n : Nat) (env : Env) (X : List Addr) (ρ : List (Str × Bnd)) (e : PySem.Expr) (v : Value) : Prop :=
  ∀ s, Cx g env X ρ s.heap → ∀ (A : Around) (Q : Value → Shared → Prop) (E : Value → Shared → Prop), Rm n A →
    (∀ h' tk, Pr g.T s.heap h' → Q v { s with heap := h', toks := tk }) → wpAny g.M A (eval e env) Q E s
theorem evv_name {x : Str} {pos : Pos} {v : Value} (m : (x, Bnd.val v) ∈ ρ) (h1 : (x == ("__debug__" : Str)) = false := by decide) (h2 : (x == ("__classdict__" : Str)) = false := by decide) : EvV g n env X ρ (.Name x pos) v := fun s c A Q E _ h => by
  obtain ⟨u, hm, r⟩ := c.vars _ _ m
  cases (show u = v from r)
  exact wpAny_Name (load_name c hm (h s.heap s.toks (Pr.refl _ _)) h2) h1
theorem evv_glob {x : Str} {pos : Pos} {v : Value} (hg : Gv g x v) (hk : env.kindOf x = some .globalImplicit := by rfl) (hd : (x == ("__debug__" : Str)) = false := by decide) : EvV g n env X ρ (.Name x pos) v := fun s c A Q E rm h =>
  load_glob c hg hk hd (h s.heap s.toks (Pr.refl _ _))
theorem evv_ifexp {t b o : PySem.Expr} {pos : Pos} {q : Bool} {v : Value} (et : EvT g n env X ρ t q) (eb : q = true → EvV g n env X ρ b v) (eo : q = false → EvV g n env X ρ o v) : EvV g n env X ρ (.IfExp t b o pos) v := fun s c A Q E rm h => by
  refine wpAny_IfExp (et s c A _ E rm fun h' tk p => ?_)
  cases q with
  | true => exact eb rfl _ (c.pr p) A Q E rm fun h'' tk' p' => h h'' tk' (p.trans p')
  | false => exact eo rfl _ (c.pr p) A Q E rm fun h'' tk' p' => h h'' tk' (p.trans p')
theorem own_val {x : Str} {w : Value} {ρ ρ' : List (Str × Bnd)} (p : Put x (.val w) ρ ρ') : (ownAddrs ρ').Sublist (ownAddrs ρ) := by
  induction p with
  | nil => exact .slnil
  | @here c r =>
    show (ownAddrs r).Sublist _
    cases c <;> first | exact List.Sublist.refl _ | exact List.Sublist.cons _ (List.Sublist.refl _)
  | @there y c r r' n p ih =>
    cases c <;> first | exact ih | exact List.Sublist.cons_cons _ ih
theorem ws_assign_val {x : Str} {pos' pos : Pos} {value : PySem.Expr} {v : Value} (ev : ∀ X, EvV g n env X ρ value v) (hk : Storable env x) (hp : Put x (.val v) ρ ρ') (k : P .nxt ρ')
    (hs : swapsWith value (some (.Name x pos')) pos.line env = pure false := by rfl) : WS g n M h₀ env X₀ (.Assign [.Name x pos'] value pos) ρ P := fun s X F A Q E rm c =>
  wpAny_Assign_Name (ev X s F.cx A _ E rm fun h' tk p =>
    fx_store (b := .val v) (s := { s with heap := h', toks := tk }) (F.pr p) hk rfl hp (F.dist.sublist (own_val hp)) (fun a m => F.ownM a ((own_val hp).subset m)) fun h2 tk2 F2 p2 =>
      c .nxt .next ρ' X h2 tk2 k F2 rfl (Gw.of ((p.mono F.cx.tX).trans (p2.pr F.cx)))) hs
end
end Mine
end
section
open PySem PySem.W PyProof.Rows PySem.Calls PySem.Spec PySem.Builtin.Re
set_option maxRecDepth 100000
set_option linter.unusedVariables false
namespace Mine
section
variable {g : G} {n : Nat} {env : Env} {X : List Addr} {ρ : List (Str × Bnd)}
/-- type(e) of a text -/
theorem evv_type_str {f : Str} {p pos : Pos} {e : PySem.Expr} {x : Str} (hg : Gv g f (.type "type")) (ee : EvP g n env X ρ e (.str x)) (hk : env.kindOf f = some .globalImplicit := by rfl) (hd : (f == ("__debug__" : Str)) = false := by decide) (hn : noStar e = true := by rfl) :
    EvV g n env X ρ (.Call (.Name f p) [e] [] pos) (.type "str") := fun s c A Q E rm h => by
  refine Call_ (load_glob c hg hk hd (PyProof.Rows.callWith_type (backTo_any (by simpa using hn)) (args_ok (es := [e]) (ds := [.str x]) (by simpa using hn) ⟨ee, trivial⟩ c rm fun vs h' tk p rds => ?_)))
  obtain ⟨v, rfl, rd⟩ := rds.one
  obtain ⟨t, rfl⟩ := rd.str_inv
  exact call_type_of (s := { s with heap := h', toks := tk }) (typeIs_str _ _ _) (by decide) (h h' tk p)
theorem evv_type_bool {f : Str} {p pos : Pos} {e : PySem.Expr} {x : Bool} (hg : Gv g f (.type "type")) (ee : EvP g n env X ρ e (.bool x)) (hk : env.kindOf f = some .globalImplicit := by rfl) (hd : (f == ("__debug__" : Str)) = false := by decide) (hn : noStar e = true := by rfl) :
    EvV g n env X ρ (.Call (.Name f p) [e] [] pos) (.type "bool") := fun s c A Q E rm h => by
  refine Call_ (load_glob c hg hk hd (PyProof.Rows.callWith_type (backTo_any (by simpa using hn)) (args_ok (es := [e]) (ds := [.bool x]) (by simpa using hn) ⟨ee, trivial⟩ c rm fun vs h' tk p rds => ?_)))
  obtain ⟨v, rfl, rd⟩ := rds.one
  cases rd.bool_inv
  exact call_type_of (s := { s with heap := h', toks := tk }) (PySem.typeIs_bool _ _) (by decide) (h h' tk p)
theorem evt_is_type {l r : PySem.Expr} {pos : Pos} {T : String} (el : EvV g n env X ρ l (.type T)) (er : EvV g n env X ρ r (.type T)) (hm : behindInMarks .Is r = false := by with_unfolding_all rfl) : EvT g n env X ρ (.Compare l [.Is] [r] pos) true := fun s c A Q E rm h =>
  wpAny_isTrue_Compare1 (el s c A _ E rm fun h' tk p => er { s with heap := h', toks := tk } (c.pr p) A _ E rm fun h'' tk' p' =>
    wpAny_is_self (by rfl) (wpAny_truthy_bool (h h'' tk' (p.trans p')))) hm
end
end Mine
end
section
open PySem PySem.W PyProof.Rows PySem.Calls PySem.Spec PySem.Builtin.Re
set_option maxRecDepth 100000
set_option linter.unusedVariables false
namespace Mine
/-- signs that a header may have -/
def Pretty (x : Str) : Prop := ∀ c ∈ x.cps, 32 ≤ c ∧ c < 127
theorem none_name {x : Str} (h : Pretty x) : ∃ m', Ends (Sre.forSearch codeName x.cps 0 0 x.cps.size false) m' ∧ m'.outcome = some .failed := search_none first_name fun c m => out_name (h c m).1 (h c m).2
theorem none_value {x : Str} (h : Pretty x) : ∃ m', Ends (Sre.forSearch codeValue x.cps 0 0 x.cps.size false) m' ∧ m'.outcome = some .failed := search_none first_value fun c m => out_value (h c m).1 (h c m).2
section
variable {g : G} {n : Nat} {env : Env} {X : List Addr} {ρ : List (Str × Bnd)}
theorem ev_research {o e : PySem.Expr} {apos pos : Pos} {p : Addr} {code : Array Nat} {groups : Nat} {pl : Sem Bool} {x : Str} (eo : EvV g n env X ρ o (.ref p)) (hp : PatAt g.B p code groups) (ee : EvP g n env X ρ e (.str x))
    (hno : ∃ m', Ends (Sre.forSearch code x.cps groups 0 x.cps.size false) m' ∧ m'.outcome = some .failed) (hx : x.length ≤ 16777216)
    (he : eval (.Call (.Attribute o "search" apos) [e] [] pos) env = (do
      let ov ← eval o env
      standAt apos.atName
      let (f, first) ← holding [ov] (getMethod ov "search" pl)
      callWith pos f first (backTo pos (starEach [e] env)) []) := by rfl) (hn : noStar e = true := by rfl) : EvP g n env X ρ (.Call (.Attribute o "search" apos) [e] [] pos) .none := fun s c A Q E rm h => by
  obtain ⟨m', h1, h2⟩ := hno
  refine MethodCall_ (eo s c A _ E rm fun h' tk p1 => ?_) he
  obtain ⟨fs, ct, oc, items, m, t2, t6, h3, _⟩ := id (hp.keeps (c.pr p1).base).at_
  refine getMethod_builtin (s := { s with heap := h', toks := tk }) ⟨_, h3, rfl⟩ re_plain slot_re_search type_re_search (fun q e => by cases e; exact ⟨_, h3, rfl⟩) ?_
  refine callWith_builtin (backTo_any (by simpa using hn)) (args_ok (es := [e]) (ds := [.str x]) (by simpa using hn) ⟨ee, trivial⟩ (s := { s with heap := h', toks := tk }) (c.pr p1) rm fun vs h4 tk4 p4 rds => ?_)
  obtain ⟨v, rfl, rd⟩ := rds.one
  obtain ⟨t, rfl⟩ := rd.str_inv
  exact call_search_none (s := { s with heap := h4, toks := tk4 }) (hp.keeps ((c.pr p1).pr p4).base) h1 h2 hx (h _ h4 tk4 (p1.trans p4) rdX_none)
end
end Mine
end
section
open PySem PySem.W PyProof.Rows PySem.Calls PySem.Spec PySem.Builtin.Re
set_option maxRecDepth 100000
set_option linter.unusedVariables false
namespace Mine
theorem TabIs.inst {g : G} {h : Heap} {X : List Addr} {v : Value} {a : Addr} {l : List PyData} (r : TabIs g h X v a l) : ∃ t d hs tk n, v = .ref t ∧ InstAt h t (instObj g.C d) g.C (some (dictOf [⟨hs, .str "_headers" tk, .ref a⟩] n)) := by
  obtain ⟨t, d, hs, tk, n, e, h1, h2, _⟩ := r
  exact ⟨t, d, hs, tk, n, e, ⟨h1, rfl, rfl, h2⟩⟩
/-- a method of the class's own -/
def IsMeth (K : Frag) (C : Addr) (name : Str) (f : Addr) : Prop :=
  findIn K (.ref C) "__getattribute__" = some (some (.builtin "object.__getattribute__")) ∧ findIn K (.ref C) "__getattr__" = some none ∧ findIn K (.ref C) name = some (some (.ref f)) ∧ typeIn K (.ref f) = some (.type "function") ∧ keepIn K (.ref f) = true ∧ (Str.ofString "_headers" == name) = false
/-- the conversion's contract -/
def ConvOK (g : G) (f : Addr) : Prop := ∀ (X : List Addr) (s : Shared) (self : Value) (x : Str) (t : Tok) (nm : Bool), Hp g X s.heap → Pretty x → x.length ≤ 100000 → ∀ (A : Around) (Q E : Value → Shared → Prop), Rm 3 A →
    (∀ v h' tk, Pr g.T s.heap h' → RdX h' X v (.str x) → Q v { s with heap := h', toks := tk }) → wpAny g.M A (call (.ref f) [self, .str x t] [("name", .bool nm)]) Q E s
/-- a value that is a table -/
def IsTab (g : G) (h : Heap) (X : List Addr) (v : Value) : Prop := ∃ a l, TabIs g h X v a l
def EvTab (g : G) (n : Nat) (env : Env) (X : List Addr) (ρ : List (Str × Bnd)) (e : PySem.Expr) (l : List PyData) : Prop :=
  ∀ s, Cx g env X ρ s.heap → ∀ (A : Around) (Q : Value → Shared → Prop) (E : Value → Shared → Prop), Rm n A →
    (∀ v a, TabIs g s.heap X v a l → Q v s) → wpAny g.M A (eval e env) Q E s
section
variable {g : G} {n : Nat} {env : Env} {X : List Addr} {ρ : List (Str × Bnd)}
theorem evtab_own {x : Str} {pos : Pos} {a : Addr} {l : List PyData} (m : (x, Bnd.tab a l) ∈ ρ) (h1 : (x == ("__debug__" : Str)) = false := by decide) (h2 : (x == ("__classdict__" : Str)) = false := by decide) : EvTab g n env X ρ (.Name x pos) l := fun s c A Q E _ h => by
  obtain ⟨v, hm, r, _⟩ := c.vars _ _ m
  exact wpAny_Name (load_name c hm (h v a r) h2) h1
theorem evtab_fixed {x : Str} {pos : Pos} {l : List PyData} (m : (x, Bnd.tabF l) ∈ ρ) (h1 : (x == ("__debug__" : Str)) = false := by decide) (h2 : (x == ("__classdict__" : Str)) = false := by decide) : EvTab g n env X ρ (.Name x pos) l := fun s c A Q E _ h => by
  obtain ⟨v, hm, a, r, _⟩ := c.vars _ _ m
  exact wpAny_Name (load_name c hm (h v a r) h2) h1
theorem shadow_one {hs : Int} {tk : Tok} {a : Addr} {m : Nat} {name : Str} (h : (Str.ofString "_headers" == name) = false) : shadowIn (some (dictOf [⟨hs, .str "_headers" tk, .ref a⟩] m)) name = some false := by
  unfold shadowIn lookIn
  simp only [List.find?, Value.isStr, h]
  rfl
end
end Mine
end
section
open PySem PySem.W PyProof.Rows PySem.Calls PySem.Spec PySem.Builtin.Re
set_option maxRecDepth 100000
set_option linter.unusedVariables false
namespace Mine
section
variable {g : G} {n : Nat} {env : Env} {X : List Addr} {ρ : List (Str × Bnd)}
/-- self._convert_string_type(e, name=nm) -/
theorem ev_conv {K : Frag} {o e : PySem.Expr} {apos pos kp kpos : Pos} {kk : Nat} {nm : Bool} {f : Addr} {l : List PyData} {pl : Sem Bool} {x : Str} (hK : K.In g.B) (hm : IsMeth K g.C "_convert_string_type" f) (hc : ConvOK g f) (eo : EvTab g (n + 3) env X ρ o l) (ee : EvP g (n + 3) env X ρ e (.str x)) (hx : Pretty x) (hl : x.length ≤ 100000)
    (he : eval (.Call (.Attribute o "_convert_string_type" apos) [e] [⟨some "name", .Constant (.bool nm) kk kp, kpos⟩] pos) env = (do
      let ov ← eval o env
      standAt apos.atName
      let (f, first) ← holding [ov] (getMethod ov "_convert_string_type" pl)
      callWith pos f first (backTo pos (starEach [e] env)) (backToKw pos (keywordEach [⟨some "name", .Constant (.bool nm) kk kp, kpos⟩] env))) := by rfl) (hn : noStar e = true := by rfl) :
    EvP g (n + 3) env X ρ (.Call (.Attribute o "_convert_string_type" apos) [e] [⟨some "name", .Constant (.bool nm) kk kp, kpos⟩] pos) (.str x) := fun s c A Q E rm h => by
  obtain ⟨m1, m2, m3, m4, m5, m6⟩ := hm
  have hKs : ∀ {h' : Heap}, (∀ b o, g.B.get? b = some o → h'.get? b = some o) → K.In h' := fun k a o q => k _ _ (hK a o q)
  refine methodCall_KW (eo s c A _ E rm fun v a tb => ?_) he
  obtain ⟨t, d, hs, tk, m, rfl, I⟩ := tb.inst
  refine method_fn (hKs c.base) I m1 m2 m3 m4 (shadow_one m6) ?_
  have hb : starEach [e] env = (false, eval e env) :: starEach [] env := starEach_plain hn
  refine callWith_KW (h₀ := s.heap) (hKs c.base) m5 (by rfl) (spliced_ok (es := [e]) (ds := [.str x]) (by simpa using hn) ⟨ee, trivial⟩ s c A _ E rm fun vs h' tk' p rds hlen => ?_) ?_ hb
  · show wpAny g.M A (evalAll [do let v ← eval (.Constant (.bool nm) kk kp) env; standAt pos; pure v]) _ _ _
    refine wpAny_evalAll_cons (wpAny_bind (wpAny_pure (wpAny_bind (wpAny_standAt (wpAny_pure (wpAny_evalAll_nil ⟨hKs (c.pr p).base, ?_⟩))))))
    obtain ⟨v, rfl, rd⟩ := rds.one
    obtain ⟨u, rfl⟩ := rd.str_inv
    exact hc X { s with heap := h', toks := tk' } (.ref t) x u nm (c.pr p).hp hx hl A Q E (rm.mono (by omega)) fun v' h2 tk2 p2 rd2 => h v' h2 tk2 (p.trans p2) rd2
  · rw [hb]; rfl
end
end Mine
end
section
open PySem PySem.W PyProof.Rows PySem.Calls PySem.Spec PySem.Builtin.Re
set_option maxRecDepth 100000
set_option linter.unusedVariables false
namespace Mine
section
variable {g : G} {n : Nat} {M : List Addr} {h₀ : Heap} {env : Env} {X₀ X : List Addr} {ρ ρ' : List (Str × Bnd)} {P : Fl → List (Str × Bnd) → Prop}

/-- a table's list is turned, and the tables -/
theorem fx_tabP {x : Str} {a : Addr} {l l' : List PyData} {h h' : Heap} (F : Fx g M h₀ env X₀ X ρ h) (mem : (x, Bnd.tab a l) ∈ ρ) (hs : Pr (a :: g.T) h h') (hl : LsP h' X a l') (hp : Put x (.tab a l') ρ ρ') : Fx g M h₀ env X₀ X ρ' h' ∧ Gw X h X h' := by
  have c := F.cx
  obtain ⟨v0, nv0, tb0, aX⟩ := F.cx.vars _ _ mem
  obtain ⟨t0, d0, hsh0, tk0, k0, e0, q1, q2, q3, q4, q5, aT⟩ := id tb0
  obtain ⟨vs, il, _⟩ := id q3
  have am : a ∈ ownAddrs ρ := List.mem_filterMap.mpr ⟨(x, .tab a l), mem, rfl⟩
  have sub : ∀ y ∈ a :: g.T, y ∈ X := fun y m => by
    rcases List.mem_cons.mp m with rfl | m
    · exact aX
    · exact c.tX y m
  have pX : Pr X h h' := hs.mono sub
  have ho : ownAddrs ρ' = ownAddrs ρ := hp.tab_same F.uniq mem
  have nin : ∀ {b}, b ≠ a → b ∉ g.T → b ∉ a :: g.T := fun ne nt m => (List.mem_cons.mp m).elim ne nt
  have nsne : ∀ {m}, h.Ns env.locals m → env.locals ≠ a := fun hn => (isList_ne_ns il.isList hn).symm
  have clne : ∀ {k v}, h.IsCell k v → k ≠ a := fun ic => (isList_ne_cell il.isList ic).symm
  have nsk : ∀ {m}, h.Ns env.locals m → h'.Ns env.locals m := fun hn => by
    obtain ⟨o, es, ep, q, r⟩ := id hn; exact ⟨o, es, ep, hs.1 _ _ q (nin (nsne hn) c.lT), r⟩
  have clk : ∀ {y k v}, env.cells.lookup y = some k → h.IsCell k v → h'.IsCell k v := fun ey ic => by
    obtain ⟨o, q, r⟩ := id ic; exact ⟨o, hs.1 _ _ q (nin (clne ic) (c.cl _ _ ey).2.2), r⟩
  have nmk : ∀ {y v}, Nm env h y v → Nm env h' y v := fun {y v} hy => by
    rcases hy with ⟨ky, m', hm', e⟩ | ⟨ky, cc, e, ic⟩
    · exact .inl ⟨ky, m', nsk hm', e⟩
    · exact .inr ⟨ky, cc, e, clk e ic⟩
  have new : a ∈ M ∨ h₀.get? a = none := F.ownM a am
  have lsk : ∀ {a' l}, a' ≠ a → a' ∉ g.T → LsP h X a' l → LsP h' X a' l := fun ne nt r => by
    obtain ⟨vs, ⟨k, q⟩, r⟩ := r
    exact ⟨vs, ⟨k, hs.1 _ _ q (nin ne nt)⟩, r.pr pX⟩
  have outX : ∀ {b}, b ∉ X → b ∉ a :: g.T := fun nb m => nb (sub _ m)
  have tbk : ∀ {v a' l}, a' ≠ a → TabIs g h X v a' l → TabIs g h' X v a' l := fun {v a' l} ne r => by
    obtain ⟨t, d, hsh, tk, n, e, h1, h2, h3, h4, h5, h6⟩ := r
    exact ⟨t, d, hsh, tk, n, e, hs.1 _ _ h1 (outX h4), hs.1 _ _ h2 (outX h5), lsk ne h6 h3, h4, h5, h6⟩
  refine ⟨⟨⟨c.kind, c.glob, c.bltn, fun b o e => hs.1 b o (c.base b o e) fun m => ?_, c.xB, fun a ma => pX.2 a (c.xIn a ma), c.tX, ?_, c.lX, c.lT, fun y k e => ⟨?_, (c.cl y k e).2⟩, fun y b2 mb => ?_, c.ap⟩,
    hp.uniq F.uniq, by rw [ho]; exact F.dist, ⟨fun b o e nm => hs.1 b o (F.old.1 b o e nm) fun m => ?_, fun b e => pX.2 b (F.old.2 b e)⟩, F.x0, F.xNew, F.lNew, F.cNew, by rw [ho]; exact F.ownM, F.tM, F.x0In, F.b0⟩, Gw.of pX⟩
  · have := c.xB b (sub b m); rw [e] at this; cases this
  · obtain ⟨m, hn⟩ := c.ns; exact ⟨m, nsk hn⟩
  · obtain ⟨⟨v, ic⟩, _⟩ := c.cl y k e; exact ⟨v, clk e ic⟩
  · rcases hp.mem F.uniq y b2 mb with ⟨rfl, rfl⟩ | ⟨ny, mb⟩
    · exact ⟨v0, nmk nv0, ⟨t0, d0, hsh0, tk0, k0, e0, hs.1 _ _ q1 (outX q4), hs.1 _ _ q2 (outX q5), hl, q4, q5, aT⟩, aX⟩
    · obtain ⟨v, nv, bi⟩ := c.vars _ _ mb
      refine ⟨v, nmk nv, ?_⟩
      cases b2 with
      | dat d => exact RdX.pr pX bi
      | own a' l =>
        refine ⟨bi.1, lsk (fun q => ?_) bi.2.2.1 bi.2.1, bi.2.2⟩
        subst q
        have := own_one F.dist mb mem (.inl ⟨_, rfl⟩) (.inr ⟨_, rfl⟩)
        exact ny (Prod.mk.inj this).1
      | tab a' l =>
        refine ⟨tbk (fun q => ?_) bi.1, bi.2⟩
        subst q
        have := own_one F.dist mb mem (.inr ⟨_, rfl⟩) (.inr ⟨_, rfl⟩)
        exact ny (Prod.mk.inj this).1
      | tabF l =>
        obtain ⟨a', r, na⟩ := bi
        exact ⟨a', tbk (fun q => na (q ▸ aX)) r, na⟩
      | val w => exact bi
  · rcases List.mem_cons.mp m with rfl | m
    · rcases new with q | q
      · exact nm q
      · rw [q] at e; cases e
    · exact nm (F.tM b m)

/-- the class has the one attribute -/
structure HasHd (K : Frag) (C : Addr) : Prop where
  ga : findIn K (.ref C) "__getattribute__" = some (some (.builtin "object.__getattribute__"))
  gk : findIn K (.ref C) "__getattr__" = some none
  no : findIn K (.ref C) "_headers" = some none
  dc : hasDictIn K C = true

theorem kin_of {K : Frag} {h : Heap} (hK : K.In g.B) (b : ∀ b o, g.B.get? b = some o → h.get? b = some o) : K.In h := fun a o q => b _ _ (hK a o q)
theorem get_headers {K : Frag} (hK : K.In g.B) (hd : HasHd K g.C) {s : Shared} (hb : ∀ b o, g.B.get? b = some o → s.heap.get? b = some o) {v : Value} {a : Addr} {l : List PyData} (tb : TabIs g s.heap X v a l) {expr : Bool} {A : Around} {Q E : Value → Shared → Prop}
    (h : Q (.ref a) { s with toks := s.toks + 1 }) : wpAny g.M A (getAttr v "_headers" expr) Q E s := by
  obtain ⟨t, d, hs, tk, m, rfl, I⟩ := tb.inst
  exact get_value (kin_of hK hb) I hd.ga (findObj_own hd.dc hd.no rfl rfl) rfl h
/-- x._headers of an own table -/
theorem evv_headers {K : Frag} (hK : K.In g.B) (hd : HasHd K g.C) {x : Str} {xp pos : Pos} {a : Addr} {l : List PyData} (m : (x, Bnd.tab a l) ∈ ρ) (h1 : (x == ("__debug__" : Str)) = false := by decide) (h2 : (x == ("__classdict__" : Str)) = false := by decide) :
    EvV g n env X ρ (.Attribute (.Name x xp) "_headers" pos) (.ref a) := fun s c A Q E rm h => by
  obtain ⟨v, hm, r, _⟩ := c.vars _ _ m
  exact Attribute_Name_ (wpAny_Name (load_name c hm (get_headers hK hd c.base r (h s.heap _ (Pr.refl _ _))) h2) h1)
/-- x._headers.append(e) -/
theorem ws_tab_append {K : Frag} (hK : K.In g.B) (hd : HasHd K g.C) {x : Str} {xp ap apos pos pos' : Pos} {e : PySem.Expr} {pl : Sem Bool} {a : Addr} {l : List PyData} {d : PyData} (m : (x, Bnd.tab a l) ∈ ρ) (ee : ∀ X, EvP g n env X ρ e d) (hl : l.length ≤ 1000000) (hp : Put x (.tab a (l ++ [d])) ρ ρ') (k : P .nxt ρ')
    (he : eval (.Call (.Attribute (.Attribute (.Name x xp) "_headers" ap) "append" apos) [e] [] pos) env = (do
      let ov ← eval (.Attribute (.Name x xp) "_headers" ap) env
      standAt apos.atName
      let (f, first) ← holding [ov] (getMethod ov "append" pl)
      callWith pos f first (backTo pos (starEach [e] env)) []) := by rfl) (hn : noStar e = true := by rfl)
    (hi : interactive env = false := by rfl) (hs : swapsWith (.Call (.Attribute (.Attribute (.Name x xp) "_headers" ap) "append" apos) [e] [] pos) none pos'.line env = pure false := by rfl) (h1 : (x == ("__debug__" : Str)) = false := by decide) (h2 : (x == ("__classdict__" : Str)) = false := by decide) :
    WS g n M h₀ env X₀ (.Expr (.Call (.Attribute (.Attribute (.Name x xp) "_headers" ap) "append" apos) [e] [] pos) pos') ρ P := fun s X F A Q E rm c => by
  refine wpAny_Expr (MethodCall_ (evv_headers hK hd m h1 h2 s F.cx A _ E rm fun hh tk1 p1 => ?_) he) hi hs
  have F1 := F.pr p1
  obtain ⟨v, nv, tb, aX⟩ := F1.cx.vars _ _ m
  obtain ⟨t0, d0, hsh0, tk0, k0, e0, q1, q2, ls, q4, q5, nt⟩ := id tb
  obtain ⟨vs, ⟨nn, ho⟩, r⟩ := id ls
  refine getMethod_list_append (s := { s with heap := hh, toks := tk1 }) ho rfl rfl (callWith_builtin (backTo_any (by simpa using hn)) (args_ok (es := [e]) (ds := [d]) (by simpa using hn) ⟨ee X, trivial⟩ F1.cx rm fun us h' tk p rds => ?_))
  obtain ⟨u, rfl, rd⟩ := rds.one
  obtain ⟨vs', il, r'⟩ := ls.tpr F1.cx p nt
  have hsz : vs'.size = l.length := by rw [← Array.length_toList]; exact r'.length
  refine wpAny_list_append_plain (s := { s with heap := h', toks := tk }) il (fun h3 il3 sb => ?_) (by rw [sizeLine_eq]; omega)
  have pX : Pr X h' h3 := Pr.sameBut sb aX (by obtain ⟨nn, q⟩ := il3; rw [q]; rfl)
  obtain ⟨F3, gw3⟩ := fx_tab (F1.pr p) m sb ⟨_, il3, by simpa using (r'.append (ws := [u]) (es := [d]) ⟨rd, trivial⟩).pr pX⟩ hp
  exact c .nxt .next ρ' X h3 tk k F3 rfl ((Gw.of ((p1.trans p).mono F.cx.tX)).trans gw3)
end
end Mine
end
section
open PySem PySem.W PyProof.Rows PySem.Calls PySem.Spec PySem.Builtin.Re
set_option maxRecDepth 100000
set_option linter.unusedVariables false
namespace Mine
section
variable {g : G} {n : Nat} {M : List Addr} {X : List Addr} {ρ : List (Str × Bnd)} {P : Fl → List (Str × Bnd) → Prop}
/-- a def without cells: its body's walk is left open -/
theorem code_rawB {f : Addr} {o : Obj} {fd : FuncData} {body : List Stmt} {vs : List Value} {kw : List (Str × Value)} {binds : List (Str × Value)} {s : Shared} (hp : Hp g X s.heap) (ho : g.B.get? f = some o) (hdata : o.data = .func fd) (hlim : g.B.NoLimit) (hcd : g.B.CodeRec fd.code fd.qualname)
    (hbody : fd.body = .stmts body) (hbind : BindsTo s fd ⟨vs, kw⟩ binds) (hgl : fd.globals = mainGlobals) (hbl : fd.builtins = builtinsNs) (hclo : fd.closure = []) (hk : fd.scope.kind = .function) (hco : fd.scope.isCoroutine = false) (hgen : fd.scope.isGenerator = false)
    (hcell : ∀ x ∈ fd.scope.names, x.2 ≠ .cell) (hloc : ∀ x ∈ binds, fd.scope.names.lookup x.1 = some .local)
    (hb : ∀ x b, (x, b) ∈ ρ → ∃ v, binds.reverse.lookup x = some v ∧ fd.scope.names.lookup x = some .local ∧ BI g X s.heap v b) (uniq : (ρ.map (·.1)).Nodup) (dist : (ownAddrs ρ).Nodup) (ownM : ∀ a ∈ ownAddrs ρ, a ∈ M) (tM : ∀ t ∈ g.T, t ∈ M)
    {A : Around} {R : Result → Shared → Prop} (rm : Rm (n + 1) A)
    (body_ok : ∀ L h₁ tk E', s.heap.get? L = none → Fx g M s.heap (callEnv fd L f) X (L :: X) ρ h₁ → (∀ b o, s.heap.get? b = some o → h₁.get? b = some o) → Rm n (A.deeper (callEnv fd L f)) →
      wpAny g.M (A.deeper (callEnv fd L f)) (execs body (callEnv fd L f)) (fun fl s' => R (.ok (.ret (match fl with | .ret v => v | _ => .none))) s') E' { s with heap := h₁, toks := tk }) : codeAny g.M A (.call (.ref f) ⟨vs, kw⟩) R s := by
  refine (codeAny_call_def (Nat.lt_of_le_of_lt (Nat.le_add_right _ _) rm.2.1) (hp.base _ _ ho) hdata (by obtain ⟨mc, q, r⟩ := hlim; exact ⟨mc, q.keeps hp.base, r⟩) (hcd.keeps hp.base) hbody hbind hcell hloc (fun h₁ hns keep => ?_) hco hgen hk)
  generalize hL : s.heap.objs.size = L at hns
  have nL : s.heap.get? L = none := by rw [← hL]; exact get_size _
  have p01 : Pr g.T s.heap h₁ := Pr.of_keeps keep
  have growX : ∀ b o, s.heap.get? b = some o → b ∉ X → b ∉ L :: X := fun b o e nb m => by
    rcases List.mem_cons.mp m with rfl | m
    · rw [nL] at e; cases e
    · exact nb m
  have subX : ∀ a ∈ X, a ∈ L :: X := fun a m => .tail _ m
  have noc : ∀ x, (callEnv fd L f).cells.lookup x = none := fun x => by
    show fd.closure.lookup x = none
    rw [hclo]; rfl
  have F0 : Fx g M s.heap (callEnv fd L f) X (L :: X) ρ h₁ := by
    refine fx_init hp p01 hk hgl hbl ⟨_, hns⟩ nL (fun x a e => by rw [noc] at e; cases e) (fun x y a e e' => by rw [noc] at e; cases e) (fun a m => ?_) subX (.head _) (fun x b m => ?_) uniq dist (fun a m => .inl (ownM a m)) tM
    · rcases List.mem_cons.mp m with rfl | m
      · exact .inr ⟨nL, ns_some hns⟩
      · exact .inl m
    · obtain ⟨v, e, kl, bi⟩ := hb x b m
      exact ⟨v, .inl ⟨kl, _, hns, e⟩, (BI.grow growX subX bi).pr p01 fun t q => subX t (hp.tX t q)⟩
  exact body_ok L h₁ _ _ nL F0 keep rm.deeper

/-- a def with cells: its body's walk is left open -/
theorem code_rawC {f : Addr} {o : Obj} {fd : FuncData} {body : List Stmt} {vs : List Value} {binds : List (Str × Value)} {s : Shared} (hp : Hp g X s.heap) (ho : g.B.get? f = some o) (hdata : o.data = .func fd) (hlim : g.B.NoLimit) (hcd : g.B.CodeRec fd.code fd.qualname)
    (hbody : fd.body = .stmts body) (hbind : bindArgs fd ⟨vs, []⟩ = pure binds) (hclo : fd.closure = []) (hgl : fd.globals = mainGlobals) (hbl : fd.builtins = builtinsNs) (hk : fd.scope.kind = .function) (hco : fd.scope.isCoroutine = false) (hgen : fd.scope.isGenerator = false)
    (hkind : ∀ L, ∀ x ∈ binds, fd.scope.names.lookup x.1 = some .local ∨ (fd.scope.names.lookup x.1 = some .cell ∧ ((cellsFrom (L + 1) fd.scope.names []).lookup x.1).isSome = true)) (hbn : (binds.map (·.1)).Nodup)
    (hb : ∀ x b, (x, b) ∈ ρ → ∃ v, (x, v) ∈ binds ∧ BI g X s.heap v b) (uniq : (ρ.map (·.1)).Nodup) (dist : (ownAddrs ρ).Nodup) (ownM : ∀ a ∈ ownAddrs ρ, a ∈ M) (tM : ∀ t ∈ g.T, t ∈ M)
    {A : Around} {R : Result → Shared → Prop} (rm : Rm (n + 1) A)
    (body_ok : ∀ L Xc h₁ tk E', Fx g M s.heap (callEnvC fd L f) X Xc ρ h₁ → (∀ b o, s.heap.get? b = some o → h₁.get? b = some o) → Rm n (A.deeper (callEnvC fd L f)) →
      wpAny g.M (A.deeper (callEnvC fd L f)) (execs body (callEnvC fd L f)) (fun fl s' => R (.ok (.ret (match fl with | .ret v => v | _ => .none))) s') E' { s with heap := h₁, toks := tk }) : codeAny g.M A (.call (.ref f) ⟨vs, []⟩) R s := by
  refine (codeAny_call_cells (Nat.lt_of_le_of_lt (Nat.le_add_right _ _) rm.2.1) (hp.base _ _ ho) hdata (by obtain ⟨mc, q, r⟩ := hlim; exact ⟨mc, q.keeps hp.base, r⟩) (hcd.keeps hp.base) hbody hbind hclo (hkind _) (fun s₁ ic => ?_) hco hgen hk)
  obtain ⟨h₁, tk₁, rfl⟩ := ic.toInCall.same
  generalize hL : s.heap.objs.size = L at ic
  have keep := ic.toInCall.keep
  have nL : s.heap.get? L = none := by rw [← hL]; exact get_size _
  have p01 : Pr g.T s.heap h₁ := Pr.of_keeps keep
  have gnew : ∀ a, L ≤ a → s.heap.get? a = none := fun a q => by
    cases e : s.heap.get? a with
    | none => rfl
    | some o => exact absurd (Heap.lt_size e) (by rw [hL]; exact Nat.not_lt.mpr q)
  let cs := cellsFrom (L + 1) fd.scope.names []
  let Z := (cs.filter fun p => cs.lookup p.1 == some p.2).map (·.2)
  let Xc := L :: (Z ++ X)
  have hcell : ∀ x c, cs.lookup x = some c → h₁.IsCell c (bindC (callEnvC fd L f).kindOf binds (fun _ => none) x) := ic.cell
  have zMem : ∀ a ∈ Z, ∃ x, cs.lookup x = some a := fun a m => by
    obtain ⟨⟨x, c'⟩, m', rfl⟩ := List.mem_map.mp m
    exact ⟨x, by simpa using (List.mem_filter.mp m').2⟩
  have memZ : ∀ x c, cs.lookup x = some c → c ∈ Z := fun x c e => List.mem_map.mpr ⟨(x, c), List.mem_filter.mpr ⟨mem_of_lookup e, by simpa using e⟩, rfl⟩
  have zAbove : ∀ x c, cs.lookup x = some c → L < c := fun x c e => ic.above x c (mem_of_lookup e)
  have zNew : ∀ a ∈ Z, s.heap.get? a = none := fun a m => by obtain ⟨x, e⟩ := zMem a m; exact gnew a (Nat.le_of_lt (zAbove x a e))
  have zIn : ∀ a ∈ Z, (h₁.get? a).isSome = true := fun a m => by obtain ⟨x, e⟩ := zMem a m; exact cell_some (hcell x a e)
  have notT : ∀ a, s.heap.get? a = none → a ∉ g.T := fun a e m => by have := hp.xIn a (hp.tX a m); rw [e] at this; cases this
  have subX : ∀ a ∈ X, a ∈ Xc := fun a m => .tail _ (List.mem_append_right _ m)
  have growX : ∀ b o, s.heap.get? b = some o → b ∉ X → b ∉ Xc := fun b o e nb m => by
    rcases List.mem_cons.mp m with rfl | m
    · rw [nL] at e; cases e
    · rcases List.mem_append.mp m with m | m
      · rw [zNew b m] at e; cases e
      · exact nb m
  have F0 : Fx g M s.heap (callEnvC fd L f) X Xc ρ h₁ := by
    refine fx_init hp p01 hk hgl hbl ⟨_, ic.toInCall.ns⟩ nL (fun x a e => ⟨⟨_, hcell x a e⟩, .tail _ (List.mem_append_left _ (memZ x a e)), notT a (zNew a (memZ x a e)), fun _ => zNew a (memZ x a e)⟩) (fun x y a e e' => name_of_addr ic.apart (mem_of_lookup e) (mem_of_lookup e'))
      (fun a m => ?_) subX (.head _) (fun x b m => ?_) uniq dist (fun a m => .inl (ownM a m)) tM
    · rcases List.mem_cons.mp m with rfl | m
      · exact .inr ⟨nL, ns_some ic.toInCall.ns⟩
      · rcases List.mem_append.mp m with m | m
        · exact .inr ⟨zNew a m, zIn a m⟩
        · exact .inl m
    · obtain ⟨v, mb, bi⟩ := hb x b m
      refine ⟨v, ?_, (BI.grow growX subX bi).pr p01 fun t q => subX t (hp.tX t q)⟩
      rcases hkind L (x, v) mb with q | ⟨q, q'⟩
      · exact .inl ⟨q, _, ic.toInCall.ns, bindL_at q hbn (.inl mb)⟩
      · obtain ⟨c, ec⟩ := Option.isSome_iff_exists.mp q'
        have := hcell x c ec
        rw [bindC_at (kindOf := (callEnvC fd L f).kindOf) (by show fd.scope.names.lookup x ≠ _; rw [q]; decide) hbn (.inl mb)] at this
        exact .inr ⟨.inl q, c, ec, this⟩
  exact body_ok L Xc h₁ tk₁ _ F0 keep rm.deeper
end

section
variable {prog : Program} {w : World} {A : Around} {E : Value → Shared → Prop} {s : Shared} {K : Frag} {C : Addr}
theorem set_first {t d : Addr} {v : Value} {Q : Unit → Shared → Prop} (X : K.In s.heap) (ht : s.heap.get? t = some (instObj C d)) (hd : s.heap.get? d = some emptyDict)
    (hs : findIn K (.ref C) "__setattr__" = some (some (.builtin "object.__setattr__"))) (hp : plainOver K C = true) (htk : takerIn K C "_headers" = some none) (hh : hasDictIn K C = true)
    (h : ∀ hs tk h' tk', Heap.SameBut d s.heap h' → h'.get? d = some (dictOf [⟨hs, .str "_headers" tk, v⟩] 1) → Q () { s with heap := h', toks := tk' }) : wpAny (model prog w) A (setAttr (.ref t) "_headers" v) Q E s := by
  have I : InstAt s.heap t (instObj C d) C (some emptyDict) := ⟨ht, rfl, rfl, hd⟩
  refine set_plain X I hs (osa_open (s := { s with toks := s.toks + 1 }) X I hp htk fun b => ?_)
  obtain ⟨cd, hc, hd'⟩ := any_some hh
  refine wpAny_bind (wpAny_pure (wpAny_bind (wpAny_bind (wpAny_loadPart ht (wpAny_bind (Looks.here (s := { s with toks := s.toks + 1 }) (looks_clsIn X hc) ?_))))))
  rw [hd']
  refine wpAny_pure (a := some d) (wpAny_bind (wpAny_pure (wpAny_bind ?_)))
  unfold nsSet
  refine wpAny_bind (wpAny_bind (wpAny_askSetting (wpAny_pure (wpAny_bind (wpAny_mkText (wpAny_bind (wpAny_loadPart hd ?_)))))))
  dsimp only
  have c : aRefKeyMayBeTheName "_headers" (#[] : Array DictEntry) = false := by decide +kernel
  rw [c]
  refine wpAny_updatePart hd ?_
  have hD : (s.heap.update d (Obj.putName "_headers" (PyData.keyHash w.params "_headers") (.str "_headers" (s.toks + 1)) v)).get? d = some (dictOf [⟨PyData.keyHash w.params "_headers", .str "_headers" (s.toks + 1), v⟩] 1) := by
    rw [Heap.get?_update_self _ hd (by rfl)]; rfl
  refine wpAny_bind (wpAny_lookBehind hD (pastItsLine_dict (by rw [sizeLine_eq]; simp)) ?_)
  exact wpAny_pure (h _ _ _ _ (Heap.SameBut.update ..) hD)
end
end Mine
end
section
open PySem PySem.W PyProof.Rows PySem.Calls PySem.Spec PySem.Builtin.Re
set_option maxRecDepth 100000
set_option linter.unusedVariables false
namespace Mine
section
variable {g : G} {n : Nat} {M : List Addr} {h₀ : Heap} {env : Env} {X₀ X : List Addr} {ρ ρ' : List (Str × Bnd)} {P : Fl → List (Str × Bnd) → Prop}
/-- an expression that makes a new table -/
def EvNew (g : G) (n : Nat) (env : Env) (X : List Addr) (ρ : List (Str × Bnd)) (e : PySem.Expr) (l : List PyData) : Prop :=
  ∀ s, Cx g env X ρ s.heap → ∀ (A : Around) (Q : Value → Shared → Prop) (E : Value → Shared → Prop), Rm n A →
    (∀ v a h' tk, Pr g.T s.heap h' → s.heap.get? a = none → TabIs g h' (a :: X) v a l → Q v { s with heap := h', toks := tk }) → wpAny g.M A (eval e env) Q E s
def MakeOK (g : G) (m : Nat) : Prop := ∀ (X : List Addr) (s : Shared), Hp g X s.heap → ∀ (A : Around) (Q E : Value → Shared → Prop), Rm m A →
  (∀ v a h' tk, Pr g.T s.heap h' → s.heap.get? a = none → TabIs g h' (a :: X) v a [] → Q v { s with heap := h', toks := tk }) → wpAny g.M A (call (.ref g.C) []) Q E s
theorem evnew_make {K : Frag} (hK : K.In g.B) (hk : keepIn K (.ref g.C) = true) {m : Nat} (mk : MakeOK g m) (hm : m ≤ n) {f : Str} {p pos : Pos} (hg : Gv g f (.ref g.C))
    (hkd : env.kindOf f = some .globalImplicit := by rfl) (hd : (f == ("__debug__" : Str)) = false := by decide) : EvNew g n env X ρ (.Call (.Name f p) [] [] pos) [] := fun s c A Q E rm h => by
  refine Call_ (load_glob c hg hkd hd (callWith_of (P := K.In) (by rfl) (keeps_K hk) (PyProof.Rows.evalArgs_none ⟨kin_of hK c.base, ?_⟩)))
  exact mk X s c.hp A Q E (rm.mono hm) h
theorem isTab_list {h : Heap} {v : Value} {a : Addr} {l : List PyData} (tb : TabIs g h X v a l) : LsP h X a l := by obtain ⟨t, d, hs, tk, n, e, h1, h2, h3, _⟩ := tb; exact h3
theorem fx_tabnew {x : Str} {a : Addr} {l : List PyData} {v : Value} {h h' : Heap} (F : Fx g M h₀ env X₀ X ρ h) (na : h.get? a = none) (p : Pr g.T h h') (tb : TabIs g h' (a :: X) v a l) : Fx g M h₀ env X₀ (a :: X) ρ h' ∧ a ∉ ownAddrs ρ ∧ h₀.get? a = none ∧ BI g (a :: X) h' v (.tab a l) := by
  have nX : a ∉ X := fun m => by have := F.cx.xIn a m; rw [na] at this; cases this
  have nO : a ∉ ownAddrs ρ := fun m => by
    obtain ⟨⟨y, b⟩, mb, e⟩ := List.mem_filterMap.mp m
    obtain ⟨v, nv, bi⟩ := F.cx.vars y b mb
    cases b with
    | dat d => cases e
    | tabF l => cases e
    | val w => cases e
    | own b l => cases e; exact nX bi.2.2.2
    | tab b l => cases e; exact nX bi.2
  exact ⟨fx_grow (Z := [a]) F (fun z m => by simp at m; subst m; exact na) p (fun z m => by simp at m; subst m; exact lsP_some (isTab_list tb)), nO, new_of F.old na, tb, .head _⟩
/-- x = a new table -/
theorem ws_newtab {x : Str} {pos' pos : Pos} {value : PySem.Expr} {l : List PyData} (ev : ∀ X, EvNew g n env X ρ value l) (hk : Storable env x) (k : ∀ a, a ∉ g.T → ∃ ρ', Put x (.tab a l) ρ ρ' ∧ P .nxt ρ')
    (hs : swapsWith value (some (.Name x pos')) pos.line env = pure false := by rfl) : WS g n M h₀ env X₀ (.Assign [.Name x pos'] value pos) ρ P := fun s X F A Q E rm c =>
  wpAny_Assign_Name (ev X s F.cx A _ E rm fun v a h' tk p na tb => by
    obtain ⟨F', nO, n0, bi⟩ := fx_tabnew (x := x) F na p tb
    obtain ⟨t0, d0, hs0, tk0, k0, e0, q1, q2, q3, q4, q5, aT⟩ := id tb
    obtain ⟨ρ', hp, hP⟩ := k a aT
    refine fx_store (b := .tab a l) (s := { s with heap := h', toks := tk }) F' hk bi hp (hp.own_new (.inr ⟨l, rfl⟩) nO F.dist) (fun b m => ?_) fun h2 tk2 F2 p2 => c .nxt .next ρ' (a :: X) h2 tk2 hP F2 rfl ⟨fun b m => ?_, (p.mono F.cx.tX).trans ?_⟩
    · rcases hp.own_sub b m with q | ⟨l', q⟩ | ⟨l', q⟩
      · exact F.ownM b q
      · cases q
      · cases q; exact .inr n0
    · rcases List.mem_cons.mp m with q | q
      · subst q; exact .inr na
      · exact .inl q
    · exact (p2.pr F.cx)) hs
/-- an object that the frame may turn, hidden from all else, is turned: what is bound holds on -/
theorem fx_turn {h h' : Heap} {d : Addr} (F : Fx g M h₀ env X₀ X ρ h) (dM : d ∈ M) (dX : d ∉ X) (dB : g.B.get? d = none) (sb : Heap.SameBut d h h') (hx : (h'.get? d).isSome = true)
    (hv : ∀ y b, (y, b) ∈ ρ → ∀ v, BI g X h v b → BI g X h' v b) (nl : ∀ m, h.Ns env.locals m → env.locals ≠ d) : Fx g M h₀ env X₀ X ρ h' := by
  have c := F.cx
  have inX : ∀ a ∈ X, a ≠ d := fun a m q => dX (q ▸ m)
  have keep : ∀ b, (h.get? b).isSome = true → (h'.get? b).isSome = true := fun b e => by
    by_cases q : b = d
    · subst q; exact hx
    · rw [sb.2 b q]; exact e
  refine ⟨⟨c.kind, c.glob, c.bltn, fun b o e => (sb.2 b fun q => ?_).trans (c.base b o e), c.xB, fun a ma => keep a (c.xIn a ma), c.tX, ?_, c.lX, c.lT, fun y k e => ?_, fun y b mb => ?_, c.ap⟩,
    F.uniq, F.dist, ⟨fun b o e nm => (sb.2 b fun q => nm (q ▸ dM)).trans (F.old.1 b o e nm), fun b e => keep b (F.old.2 b e)⟩, F.x0, F.xNew, F.lNew, F.cNew, F.ownM, F.tM, F.x0In, F.b0⟩
  · rw [q, dB] at e; cases e
  · obtain ⟨m, hn⟩ := c.ns; exact ⟨m, hn.sameBut sb (inX _ c.lX)⟩
  · obtain ⟨⟨v, ic⟩, kX, kT⟩ := c.cl y k e
    exact ⟨⟨v, ic.sameBut sb (inX _ kX)⟩, kX, kT⟩
  · obtain ⟨v, nv, bi⟩ := c.vars y b mb
    refine ⟨v, ?_, hv y b mb v bi⟩
    rcases nv with ⟨ky, m', hm', e⟩ | ⟨ky, cc, e, ic⟩
    · exact .inl ⟨ky, m', hm'.sameBut sb (inX _ c.lX), e⟩
    · exact .inr ⟨ky, cc, e, ic.sameBut sb (inX _ (c.cl y cc e).2.1)⟩
theorem evt_debug {p : Pos} : EvT g n env X ρ (.Name "__debug__" p) true := fun s c A Q E rm h =>
  isTrue_plain (M := g.M) (by
    rw [arm_eval_Name]
    refine wpAny_bind (wpAny_standAt ?_)
    rw [if_pos (by decide)]
    exact wpAny_bind (wpAny_rule (wpAny_pure (wpAny_truthy_bool (h s.heap s.toks (Pr.refl _ _)))))) (isTrue_plainTest (by rfl))
/-- type(x) of an own list -/
theorem evv_type_list {f : Str} {p pos xp : Pos} {x : Str} {a : Addr} {l : List PyData} (hg : Gv g f (.type "type")) (m : (x, Bnd.own a l) ∈ ρ) (hk : env.kindOf f = some .globalImplicit := by rfl) (hd : (f == ("__debug__" : Str)) = false := by decide) (h1 : (x == ("__debug__" : Str)) = false := by decide) (h2 : (x == ("__classdict__" : Str)) = false := by decide) :
    EvV g n env X ρ (.Call (.Name f p) [.Name x xp] [] pos) (.type "list") := fun s c A Q E rm h => by
  obtain ⟨nv, ls, nt, aX⟩ := own_at c m
  refine Call_ (load_glob c hg hk hd (PyProof.Rows.callWith_type (backTo_any (by rfl)) ?_))
  rw [starEach_plain (by rfl)]
  refine evalArgs_plain (spliced_cons (wpAny_Name (load_name c nv (spliced_nil ?_) h2) h1))
  obtain ⟨vs, il, r⟩ := ls
  exact call_type_of (Tx := "list") il.isList.typeIs (by decide) (h s.heap s.toks (Pr.refl _ _))
theorem evt_isNot_type {l r : PySem.Expr} {pos : Pos} {T : String} (el : EvV g n env X ρ l (.type T)) (er : EvV g n env X ρ r (.type T)) (hm : behindInMarks .IsNot r = false := by with_unfolding_all rfl) : EvT g n env X ρ (.Compare l [.IsNot] [r] pos) false := fun s c A Q E rm h =>
  wpAny_isTrue_Compare1 (el s c A _ E rm fun h' tk p => er { s with heap := h', toks := tk } (c.pr p) A _ E rm fun h'' tk' p' => by
    show wpAny g.M A (compareOp .IsNot (.type T) (.type T)) _ E _
    exact wpAny_isNot_self (by rfl) (wpAny_truthy_bool (h h'' tk' (p.trans p')))) hm
theorem evf_ifexp {t b o : PySem.Expr} {pos : Pos} {q : Bool} {l : List PyData} (et : EvT g n env X ρ t q) (eb : q = true → EvF g n env X ρ b l) (eo : q = false → EvF g n env X ρ o l) : EvF g n env X ρ (.IfExp t b o pos) l := fun s c A Q E rm h => by
  refine wpAny_IfExp (et s c A _ E rm fun h' tk p => ?_)
  cases q with
  | true => exact eb rfl _ (c.pr p) A Q E rm fun v h'' tk' p' na ls => h v h'' tk' (p.trans p') (new_of p na) ls
  | false => exact eo rfl _ (c.pr p) A Q E rm fun v h'' tk' p' na ls => h v h'' tk' (p.trans p') (new_of p na) ls
end
end Mine
end
section
open PySem PySem.W PyProof.Rows PySem.Calls PySem.Spec PySem.Builtin.Re
set_option maxRecDepth 100000
set_option linter.unusedVariables false
namespace Mine
section
variable {g : G} {n : Nat} {M : List Addr} {h₀ : Heap} {env : Env} {X₀ X : List Addr} {ρ ρ' : List (Str × Bnd)} {P : Fl → List (Str × Bnd) → Prop}
theorem raw_cons {st : Stmt} {rest : List Stmt} (hw : WS g n M h₀ env X₀ st ρ P) {s : Shared} (F : Fx g M h₀ env X₀ X ρ s.heap) {A : Around} {Q : Flow → Shared → Prop} {E : Value → Shared → Prop} (rm : Rm n A)
    (k : ∀ ρ' X' h' tk, P .nxt ρ' → Fx g M h₀ env X₀ X' ρ' h' → Gw X s.heap X' h' → wpAny g.M A (execs rest env) Q E { s with heap := h', toks := tk })
    (kr : ∀ R ρ' X' h' tk v, P (.ret R) ρ' → Fx g M h₀ env X₀ X' ρ' h' → R h' X₀ v → Gw X s.heap X' h' → Q (.ret v) { s with heap := h', toks := tk }) : wpAny g.M A (execs (st :: rest) env) Q E s :=
  wpAny_execs_cons (hw s X F A _ E rm fun f fl ρ' X' h' tk hp F' ok gw => by
    cases f with
    | nxt => cases (show fl = .next from ok); exact k ρ' X' h' tk hp F' gw
    | ret R => obtain ⟨v, rfl, r⟩ := ok; exact kr R ρ' X' h' tk v hp F' r gw)
theorem Hp.keep {h h' : Heap} (c : Hp g X h) (k : ∀ b o, h.get? b = some o → h'.get? b = some o) : Hp g X h' :=
  ⟨fun b o e => k b o (c.base b o e), c.xB, fun a m => (Pr.of_keeps (X := X) k).2 a (c.xIn a m), c.tX⟩
theorem Hp.pr {h h' : Heap} (c : Hp g X h) (p : Pr g.T h h') : Hp g X h' :=
  ⟨fun b o e => p.1 b o (c.base b o e) fun m => (by have := c.xB b (c.tX b m); rw [e] at this; cases this), c.xB, fun a m => p.2 a (c.xIn a m), c.tX⟩
theorem val_at {x : Str} {v : Value} {h : Heap} (c : Cx g env X ρ h) (m : (x, Bnd.val v) ∈ ρ) : Nm env h x v := by
  obtain ⟨u, nv, r⟩ := c.vars _ _ m
  cases (show u = v from r); exact nv
theorem Rm.under_type {A : Around} {C : Addr} {vs : List Value} {kw : List (Str × Value)} (r : Rm (n + 1) A) : Rm n (A.under (.builtin "type.__call__" ⟨.ref C :: vs, kw⟩)) := by
  refine ⟨r.1, ?_, ?_⟩
  · have := r.2.1
    show A.depth + 1 + n < recursionLimit
    omega
  · have := r.2.2
    show A.units + (Code.builtin "type.__call__" ⟨.ref C :: vs, kw⟩).cUnits + 10 * n + 200 < cLine
    have : (Code.builtin "type.__call__" ⟨.ref C :: vs, kw⟩).cUnits ≤ 10 := by
      have e : (Code.builtin "type.__call__" ⟨.ref C :: vs, kw⟩).cUnits = 1 := rfl
      omega
    omega
def isNo : PyData → Bool
  | .none => true
  | _ => false
theorem RdX.no {h : Heap} {v : Value} {d : PyData} (r : RdX h X v d) : plainIs v .none = true ∧ (v == .none) = isNo d := by
  obtain ⟨as, r⟩ := r
  cases r <;> exact ⟨rfl, rfl⟩
theorem evt_isNone {l : PySem.Expr} {k : Nat} {p pos : Pos} {d : PyData} (el : EvP g n env X ρ l d) : EvT g n env X ρ (.Compare l [.Is] [.Constant .none k p] pos) (isNo d) := fun s c A Q E rm h =>
  wpAny_isTrue_Compare1 (el s c A _ E rm fun v h' tk p rd => ev_none { s with heap := h', toks := tk } (c.pr p) A _ E rm fun v2 h'' tk' p' rd2 => by
    cases rd2.none_inv
    exact wpAny_is_plain rd.no.1 (by rw [rd.no.2]; exact wpAny_truthy_bool (h h'' tk' (p.trans p')))) (by with_unfolding_all rfl)
theorem evt_isNotNone {l : PySem.Expr} {k : Nat} {p pos : Pos} {d : PyData} (el : EvP g n env X ρ l d) : EvT g n env X ρ (.Compare l [.IsNot] [.Constant .none k p] pos) (!isNo d) := fun s c A Q E rm h =>
  wpAny_isTrue_Compare1 (el s c A _ E rm fun v h' tk p rd => ev_none { s with heap := h', toks := tk } (c.pr p) A _ E rm fun v2 h'' tk' p' rd2 => by
    cases rd2.none_inv
    exact wpAny_isNot_plain rd.no.1 (by rw [rd.no.2]; exact wpAny_truthy_bool (h h'' tk' (p.trans p')))) (by with_unfolding_all rfl)
end
end Mine
end
section
open PySem PySem.W PyProof.Rows PySem.Calls PySem.Spec PySem.Builtin.Re
set_option maxRecDepth 100000
set_option linter.unusedVariables false
namespace Mine
section
variable {g : G} {n : Nat} {M : List Addr} {h₀ : Heap} {env : Env} {X₀ X : List Addr} {ρ ρ' : List (Str × Bnd)} {P : Fl → List (Str × Bnd) → Prop}
/-- a def without cells, a dict made for its own keywords: its body's walk is left open -/
theorem code_rawN {f : Addr} {o : Obj} {fd : FuncData} {body : List Stmt} {vs : List Value} {kw : List (Str × Value)} {binds : List (Str × Value)} {s : Shared} {hB : Heap} (hp0 : Hp g X s.heap) (ho : g.B.get? f = some o) (hdata : o.data = .func fd) (hlim : g.B.NoLimit) (hcd : g.B.CodeRec fd.code fd.qualname)
    (hbody : fd.body = .stmts body) (kB : ∀ b o, s.heap.get? b = some o → hB.get? b = some o) (hbind : ∀ (M : Model) (A : Around) (E : Value → Shared → Prop) (Q : List (Str × Value) → Shared → Prop), Q binds { s with heap := hB } → wpAny M A (bindArgs fd ⟨vs, kw⟩) Q E s)
    (hgl : fd.globals = mainGlobals) (hbl : fd.builtins = builtinsNs) (hclo : fd.closure = []) (hk : fd.scope.kind = .function) (hco : fd.scope.isCoroutine = false) (hgen : fd.scope.isGenerator = false)
    (hcell : ∀ x ∈ fd.scope.names, x.2 ≠ .cell) (hloc : ∀ x ∈ binds, fd.scope.names.lookup x.1 = some .local)
    (hb : ∀ x b, (x, b) ∈ ρ → ∃ v, binds.reverse.lookup x = some v ∧ fd.scope.names.lookup x = some .local ∧ BI g X hB v b) (uniq : (ρ.map (·.1)).Nodup) (dist : (ownAddrs ρ).Nodup) (ownM : ∀ a ∈ ownAddrs ρ, a ∈ M) (tM : ∀ t ∈ g.T, t ∈ M)
    {A : Around} {R : Result → Shared → Prop} (rm : Rm (n + 1) A)
    (body_ok : ∀ L h₁ tk E', hB.get? L = none → Fx g M hB (callEnv fd L f) X (L :: X) ρ h₁ → (∀ b o, hB.get? b = some o → h₁.get? b = some o) → Rm n (A.deeper (callEnv fd L f)) →
      wpAny g.M (A.deeper (callEnv fd L f)) (execs body (callEnv fd L f)) (fun fl s' => R (.ok (.ret (match fl with | .ret v => v | _ => .none))) s') E' { s with heap := h₁, toks := tk }) : codeAny g.M A (.call (.ref f) ⟨vs, kw⟩) R s := by
  have hp : Hp g X hB := hp0.keep kB
  refine codeAny_call_function (Nat.lt_of_le_of_lt (Nat.le_add_right _ _) rm.2.1) (hp0.base _ _ ho) hdata hco hgen hbody (hcd.keeps hp0.base) (hbind _ _ _ _ ?_)
  have hlim' : hB.NoLimit := by obtain ⟨mc, q, r⟩ := hlim; exact ⟨mc, q.keeps hp.base, r⟩
  refine wpAny_newFunctionEnv (s := { s with heap := hB }) hcell hloc (fun h₁ hns hsb₀ => ⟨hlim'.fresh _ hsb₀, codeAny_func ?_⟩) hk
  have keep : ∀ b o, hB.get? b = some o → h₁.get? b = some o := fun b o e => hsb₀.extBut b o (Nat.ne_of_lt (Heap.lt_size e)) (Heap.get?_push_of_some _ e)
  replace hns : h₁.Ns hB.objs.size (fun x => binds.reverse.lookup x) := hns
  show wpAny _ (A.deeper (callEnv fd hB.objs.size f)) (execs body (callEnv fd hB.objs.size f)) _ _ _
  clear hsb₀
  generalize hL : hB.objs.size = L at hns
  have nL : hB.get? L = none := by rw [← hL]; exact get_size _
  have p01 : Pr g.T hB h₁ := Pr.of_keeps keep
  have growX : ∀ b o, hB.get? b = some o → b ∉ X → b ∉ L :: X := fun b o e nb m => by
    rcases List.mem_cons.mp m with rfl | m
    · rw [nL] at e; cases e
    · exact nb m
  have subX : ∀ a ∈ X, a ∈ L :: X := fun a m => .tail _ m
  have noc : ∀ x, (callEnv fd L f).cells.lookup x = none := fun x => by
    show fd.closure.lookup x = none
    rw [hclo]; rfl
  have F0 : Fx g M hB (callEnv fd L f) X (L :: X) ρ h₁ := by
    refine fx_init hp p01 hk hgl hbl ⟨_, hns⟩ nL (fun x a e => by rw [noc] at e; cases e) (fun x y a e e' => by rw [noc] at e; cases e) (fun a m => ?_) subX (.head _) (fun x b m => ?_) uniq dist (fun a m => .inl (ownM a m)) tM
    · rcases List.mem_cons.mp m with rfl | m
      · exact .inr ⟨nL, ns_some hns⟩
      · exact .inl m
    · obtain ⟨v, e, kl, bi⟩ := hb x b m
      exact ⟨v, .inl ⟨kl, _, hns, e⟩, (BI.grow growX subX bi).pr p01 fun t q => subX t (hp.tX t q)⟩
  exact body_ok L h₁ _ _ nL F0 keep rm.deeper

theorem noKeys {prog : Program} {w : World} {h : Heap} {d : Addr} (hd : h.get? d = some emptyDict) : h.DictAt (PySem.strKind prog w) d [] 0 :=
  ⟨_, #[], hd, ⟨rfl, rfl, rfl⟩, rfl, by intro e m; simp at m, .nil, List.nodup_nil⟩
/-- for .. in x.items(), x an empty dict -/
theorem ws_for_none {x : Str} {xp apos cpos pos : Pos} {target : PySem.Expr} {body : List Stmt} {dp : Addr} {pl : Sem Bool} (m : (x, Bnd.val (.ref dp)) ∈ ρ) (hd0 : h₀.get? dp = some emptyDict) (nM : dp ∉ M) (nX : dp ∉ X₀) (hsys : (dp == sysModules) = false) (k : P .nxt ρ)
    (he : eval (.Call (.Attribute (.Name x xp) "items" apos) [] [] cpos) env = (do
      let ov ← eval (.Name x xp) env
      standAt apos.atName
      let (f, first) ← holding [ov] (getMethod ov "items" pl)
      callWith cpos f first (backTo cpos (starEach [] env)) []) := by rfl)
    (h1 : (x == ("__debug__" : Str)) = false := by decide) (h2 : (x == ("__classdict__" : Str)) = false := by decide)
    (hs' : ∀ y, foldedSetIterable (.Call (.Attribute (.Name x xp) "items" apos) [] [] cpos) env y = pure y := by intro _; rfl) :
    WS g n M h₀ env X₀ (.For target (.Call (.Attribute (.Name x xp) "items" apos) [] [] cpos) body [] pos) ρ P := fun s X F A Q E rm c => by
  have nv := val_at F.cx m
  have hd1 : s.heap.get? dp = some emptyDict := F.old.1 _ _ hd0 nM
  refine wpAny_For ?_ hs'
  refine MethodCall_ (wpAny_Name (load_name F.cx nv ?_ h2) h1) he
  refine getMethod_builtin (s := s) ⟨_, hd1, rfl⟩ PySem.F.plainAttrs_dict PySem.F.slot_dict_items PySem.F.type_dict_items (fun q e => by cases e; exact ⟨_, hd1, rfl⟩) ?_
  refine callWith_builtin (by rfl) (PyProof.Rows.evalArgs_none ?_)
  refine call_meetsIn PySem.F.slot_dict_items ⟨_, hd1, rfl⟩ PySem.F.entry_dict_items (PySem.F.args_dict_items_1 _) (meets_dict_items (PySem.strKind g.prog g.w) dp hsys) ⟨⟨[], _, #[], 0, hd1, ⟨rfl, rfl, rfl⟩, rfl, (by intro e m; simp at m), .nil, List.nodup_nil⟩, ?_⟩
  have hd2 : (s.heap.push { cls := .type "dict_items", data := .fields #[.ref dp] }).get? dp = some emptyDict := Heap.get?_push_of_some _ hd1
  refine wpAny_pyIter_items (knd := PySem.strKind g.prog g.w) (s := { s with heap := s.heap.push { cls := .type "dict_items", data := .fields #[.ref dp] } }) ⟨_, Heap.get?_push_size _ rfl, rfl, rfl⟩ (noKeys hd2) ?_
  have k2 : ∀ b o, s.heap.get? b = some o → (((s.heap.push { cls := .type "dict_items", data := .fields #[.ref dp] })).push { cls := .type "dict_itemiterator", data := .fields #[.none, .bool false, .ref dp, .int 0 0, .int ([] : List (Str × Value)).length 0, .int 0 0, .none, .none] }).get? b = some o := fun b o e => Heap.get?_push_of_some _ (Heap.get?_push_of_some _ e)
  generalize hI : (s.heap.push { cls := .type "dict_items", data := .fields #[.ref dp] }).objs.size = I
  have hit : IsItemIter ((s.heap.push { cls := .type "dict_items", data := .fields #[.ref dp] }).push { cls := .type "dict_itemiterator", data := .fields #[.none, .bool false, .ref dp, .int 0 0, .int ([] : List (Str × Value)).length 0, .int 0 0, .none, .none] }) I dp 0 ([] : List (Str × Value)).length 0 .none .none := by
    rw [← hI]; exact Heap.get?_push_size _ rfl
  have nI : s.heap.get? I = none := by
    cases q : s.heap.get? I with
    | none => rfl
    | some o => have := Heap.lt_size q; rw [← hI, Heap.size_push] at this; exact absurd this (by simp)
  generalize (s.heap.push { cls := .type "dict_items", data := .fields #[.ref dp] }).push { cls := .type "dict_itemiterator", data := .fields #[.none, .bool false, .ref dp, .int 0 0, .int ([] : List (Str × Value)).length 0, .int 0 0, .none, .none] } = h2 at k2 hit
  have p2 : Pr g.T s.heap h2 := Pr.of_keeps k2
  have F2 := F.pr p2
  refine codeAny_forLoop_any (fun k s' => k = 0 ∧ s' = { s with heap := h2 }) ?_ 0 ⟨rfl, rfl⟩
  rintro _ _ ⟨rfl, rfl⟩
  refine wpAny_pyNext_items_end (knd := PySem.strKind g.prog g.w) (kvs := []) (s := { s with heap := h2 }) rm.1 hit (noKeys (k2 _ _ hd1)) rfl fun h3 ex => ?_
  have nI0 : h₀.get? I = none := new_of F.old nI
  have nIX : I ∉ X := fun q => by have := F.cx.xIn I q; rw [nI] at this; cases this
  exact wpAny_execs_nil (c .nxt .next ρ X h3 s.toks k (fx_iter F2 ⟨_, _, hit, rfl⟩ ex nI0 nIX) rfl ((Gw.of (p2.mono F.cx.tX)).iter nI ex))
end
end Mine
end
section
open PySem PySem.W PyProof.Rows PySem.Calls PySem.Spec PySem.Builtin.Re
set_option maxRecDepth 100000
set_option linter.unusedVariables false
namespace Mine
abbrev lineD (p : Str × Str) : PyData := .tuple [.str p.1, .str p.2]
/-- add_header's contract -/
def AddOK (g : G) (m : Nat) (f : Addr) : Prop := ∀ (X : List Addr) (s : Shared) (v : Value) (a : Addr) (l : List PyData) (nm val : Str) (t1 t2 : Tok), Hp g X s.heap → TabIs g s.heap X v a l → a ∈ X → Pretty nm → Pretty val → nm.length ≤ 100000 → val.length ≤ 100000 → l.length ≤ 1000 →
  ∀ (A : Around) (Q E : Value → Shared → Prop), Rm m A → (∀ h' tk w, (∀ z, w ≠ Value.ref z) → Pr (a :: g.T) s.heap h' → LsP h' X a (l ++ [lineD (nm, val)]) → Q w { s with heap := h', toks := tk }) → wpAny g.M A (call (.ref f) [v, .str nm t1, .str val t2]) Q E s
section
variable {g : G} {n : Nat} {M : List Addr} {h₀ : Heap} {env : Env} {X₀ X : List Addr} {ρ ρ' : List (Str × Bnd)} {P : Fl → List (Str × Bnd) → Prop}
/-- x.m(e1, e2), a method that adds a line -/
theorem ws_add {K : Frag} {nmeth : Str} {f : Addr} {o : Obj} {fd : FuncData} (hK : K.In g.B) (im : IsMeth K g.C nmeth f) (ho : g.B.get? f = some o) (hfd : o.data = .func fd) {m : Nat} (ok : AddOK g m f) (hm : m ≤ n) {x : Str} {xp apos pos pos' : Pos} {e1 e2 : PySem.Expr} {pl : Sem Bool} {a : Addr} {l : List PyData} {nm val : Str}
    (mem : (x, Bnd.tab a l) ∈ ρ) (ee : ∀ X, EvP g n env X ρ e1 (.str nm)) (ee2 : ∀ X, EvP g n env X ρ e2 (.str val)) (h1 : Pretty nm) (h2 : Pretty val) (l1 : nm.length ≤ 100000) (l2 : val.length ≤ 100000) (hl : l.length ≤ 1000) (hp : Put x (.tab a (l ++ [lineD (nm, val)])) ρ ρ') (k : P .nxt ρ')
    (he : eval (.Call (.Attribute (.Name x xp) nmeth apos) [e1, e2] [] pos) env = (do
      let ov ← eval (.Name x xp) env
      standAt apos.atName
      let (f, first) ← holding [ov] (getMethod ov nmeth pl)
      callWith pos f first (backTo pos (starEach [e1, e2] env)) []) := by rfl) (hn : [e1, e2].all noStar = true := by rfl)
    (hi : interactive env = false := by rfl) (hs : swapsWith (.Call (.Attribute (.Name x xp) nmeth apos) [e1, e2] [] pos) none pos'.line env = pure false := by rfl) (hd1 : (x == ("__debug__" : Str)) = false := by decide) (hd2 : (x == ("__classdict__" : Str)) = false := by decide) :
    WS g n M h₀ env X₀ (.Expr (.Call (.Attribute (.Name x xp) nmeth apos) [e1, e2] [] pos) pos') ρ P := fun s X F A Q E rm c => by
  obtain ⟨v, nv, tb, aX⟩ := F.cx.vars _ _ mem
  obtain ⟨m1, m2, m3, m4, m5, m6⟩ := im
  obtain ⟨t, d, hs', tk, nn, rfl, I⟩ := tb.inst
  refine wpAny_Expr (MethodCall_ (wpAny_Name (load_name F.cx nv ?_ hd2) hd1) he) hi hs
  refine method_fn (kin_of hK F.cx.base) I m1 m2 m3 m4 (shadow_one m6) ?_
  refine callWith_function (o := o) (fd := fd) (args_ok (es := [e1, e2]) (ds := [.str nm, .str val]) hn ⟨ee X, ee2 X, trivial⟩ F.cx rm fun us h' tk' p rds => ⟨⟨(F.pr p).cx.base _ _ ho, hfd⟩, ?_⟩)
  obtain ⟨u, w, rfl, r1, r2⟩ := rds.two
  obtain ⟨t1, rfl⟩ := r1.str_inv
  obtain ⟨t2, rfl⟩ := r2.str_inv
  have F1 := F.pr p
  refine ok X { s with heap := h', toks := tk' } (.ref t) a l nm val t1 t2 F1.cx.hp (tb.pr p F.cx.tX) aX h1 h2 l1 l2 hl A _ _ (rm.mono hm) fun h3 tk3 w3 nr p3 ls => ?_
  obtain ⟨F3, gw3⟩ := fx_tabP F1 mem p3 ls hp
  have fin : Q .next { s with heap := h3, toks := tk3 } := c .nxt .next ρ' X h3 tk3 k F3 rfl ((Gw.of (p.mono F.cx.tX)).trans gw3)
  cases w3 <;> first | exact fin | exact absurd rfl (nr _)

/-- an own list beside a table that is turned is not turned any more -/
theorem wss_freezeT {x z : Str} {a a0 : Addr} {l l0 : List PyData} {sts : List Stmt} (m : (x, Bnd.own a l) ∈ ρ) (m0 : (z, Bnd.tab a0 l0) ∈ ρ) (hM : M = a0 :: g.T) (na : a ∉ g.T) (hp : Put x (.dat (.list l)) ρ ρ') (k : WSs g n M h₀ env X₀ sts ρ' P) : WSs g n M h₀ env X₀ sts ρ P := fun s X F A Q E rm c => by
  have aM : a ∉ M := fun q => by
    rw [hM] at q
    rcases List.mem_cons.mp q with rfl | q
    · have := own_one F.dist m m0 (.inl ⟨_, rfl⟩) (.inr ⟨_, rfl⟩)
      cases this
    · exact na q
  exact wss_freeze m aM hp k s X F A Q E rm c
theorem tabF_at {x : Str} {l : List PyData} {h : Heap} (c : Cx g env X ρ h) (m : (x, Bnd.tabF l) ∈ ρ) : ∃ v a, Nm env h x v ∧ TabIs g h X v a l ∧ a ∉ X := by
  obtain ⟨v, nv, a, tb, na⟩ := c.vars _ _ m
  exact ⟨v, a, nv, tb, na⟩
/-- for .. in x._headers, x a table that is not turned -/
theorem evi_headers {K : Frag} (hK : K.In g.B) (hd : HasHd K g.C) {x : Str} {xp pos : Pos} {l : List PyData} (m : (x, Bnd.tabF l) ∈ ρ) (h1 : (x == ("__debug__" : Str)) = false := by decide) (h2 : (x == ("__classdict__" : Str)) = false := by decide) :
    EvI g n env X ρ (.Attribute (.Name x xp) "_headers" pos) l := fun s c A Q E rm h => by
  obtain ⟨v, a, nv, tb, na⟩ := tabF_at c m
  refine Attribute_Name_ (wpAny_Name (load_name c nv (get_headers hK hd c.base tb ?_) h2) h1)
  obtain ⟨vs, pl, q⟩ := isTab_list tb
  have il := pl.isList
  refine wpAny_pyIter_list (s := { s with toks := s.toks + 1 }) il (h _ _ _ (Pr.push _ _ _) (get_size _) c.fresh ?_)
  have it : (s.heap.push { cls := .type "list_iterator", data := .fields #[.ref a, .int 0 0] }).IsListIter s.heap.objs.size a 0 := ⟨_, Heap.get?_push_size _ rfl, rfl, rfl⟩
  exact ItIs.list (ds := l) it (il.push _) na (q.pr (Pr.push _ _ _))
/-- a method of a table that is not turned, one text its argument -/
def GetOK (g : G) (m : Nat) (f : Addr) (Pre : List (Str × Str) → Str → Prop) (res : List (Str × Str) → Str → PyData) : Prop := ∀ (X : List Addr) (s : Shared) (v : Value) (l : List (Str × Str)) (nm : Str) (t : Tok), Hp g X s.heap → (∃ a, TabIs g s.heap X v a (l.map lineD) ∧ a ∉ X) → Pre l nm →
  ∀ (A : Around) (Q E : Value → Shared → Prop), Rm m A → (∀ u h' tk, Pr g.T s.heap h' → RdX h' X u (res l nm) → Q u { s with heap := h', toks := tk }) → wpAny g.M A (call (.ref f) [v, .str nm t]) Q E s
end
end Mine
end
section
open PySem PySem.W PyProof.Rows PySem.Calls PySem.Spec
set_option maxRecDepth 100000
set_option linter.unusedVariables false
namespace Mine
open PySem.Builtin PySem.Builtin.Str
/-! splitting, as lists -/
def splitS (y : List Nat) : Nat → List Nat → List (List Nat)
  | _, [] => [[]]
  | k + 1, _ :: r => splitS y k r
  | 0, c :: r => if y.isPrefixOf (c :: r) then [] :: splitS y (y.length - 1) r else match splitS y 0 r with
    | p :: ps => (c :: p) :: ps
    | [] => [[c]]
def onHead (a : List Nat) : List (List Nat) → List (List Nat)
  | p :: ps => (a ++ p) :: ps
  | [] => [a]
theorem splitS_ne (y : List Nat) : ∀ (k : Nat) (l : List Nat), ∃ p ps, splitS y k l = p :: ps
  | _, [] => ⟨_, _, rfl⟩
  | k + 1, _ :: r => splitS_ne y k r
  | 0, c :: r => by
    unfold splitS
    split
    · exact ⟨_, _, rfl⟩
    · split <;> exact ⟨_, _, rfl⟩
def cutsR (x y : Str) (hi : Nat) : Nat → Nat → Nat → List Nat
  | 0, _, _ => []
  | m + 1, i, free => if free ≤ i ∧ i + y.length ≤ hi ∧ subAt x y i = true then i :: cutsR x y hi m (i + 1) (i + y.length) else cutsR x y hi m (i + 1) free
theorem occ_run (x y : Str) (hi limit : Nat) : ∀ (m i : Nat) (st : Array Nat × Nat), st.1.size + m ≤ limit → (forIn (List.range' i m) st (StrLaws.occBody x y hi limit)).run.fst.toList = st.1.toList ++ cutsR x y hi m i st.2
  | 0, i, st, _ => by simp [cutsR]
  | m + 1, i, st, h => by
    rw [List.range'_succ, List.forIn_cons]
    unfold StrLaws.occBody cutsR
    by_cases hc : st.2 ≤ i ∧ i + y.length ≤ hi ∧ subAt x y i = true
    · rw [if_pos ⟨⟨⟨by omega, hc.1⟩, hc.2.1⟩, hc.2.2⟩, if_pos hc]
      show (forIn (List.range' (i + 1) m) (st.1.push i, i + y.length) (StrLaws.occBody x y hi limit)).run.fst.toList = _
      rw [occ_run x y hi limit m (i + 1) _ (by simp; omega)]
      simp
    · rw [if_neg (fun q => hc ⟨q.1.1.2, q.1.2, q.2⟩), if_neg hc]
      exact occ_run x y hi limit m (i + 1) st (by omega)
theorem occ_all (x y : Str) : occurrences x y 0 x.length (x.length + 1) = cutsR x y x.length (x.length + 1) 0 0 := by
  rw [StrLaws.occ_eq, occ_run x y x.length (x.length + 1) _ 0 (#[], 0) (by simp)]; simp
theorem pre_iff {x y : Str} {i : Nat} (hy : 0 < y.length) : (i + y.length ≤ x.length ∧ subAt x y i = true) ↔ y.cps.toList.isPrefixOf (x.cps.toList.drop i) = true := by
  rw [StrLaws.subAt_eq, List.isPrefixOf_iff_prefix]
  have hl : x.cps.toList.length = x.length := by simp [Str.length]
  have hl2 : y.cps.toList.length = y.length := by simp [Str.length]
  constructor
  · rintro ⟨_, h⟩
    rw [← eq_of_beq h]
    exact List.take_prefix _ _
  · intro h
    have h1 := h.length_le
    rw [List.length_drop, hl, hl2] at h1
    refine ⟨by omega, ?_⟩
    rw [List.prefix_iff_eq_take, hl2] at h
    exact beq_iff_eq.mpr h.symm
theorem drop_cons_of {L : List Nat} {i : Nat} (h : i < L.length) : L.drop i = L[i] :: L.drop (i + 1) := List.drop_eq_getElem_cons h
theorem parts_split (x y : Str) (hy : 0 < y.length) : ∀ (m i k a : Nat), x.length = i + m → ((k = 0 ∧ a ≤ i) ∨ (0 < k ∧ a = i + k ∧ i + k ≤ x.length)) →
    (StrLaws.partsFrom x y.length a (cutsR x y x.length (m + 1) i (i + k))).map (·.cps.toList) = onHead ((x.cps.toList.drop a).take (i - a)) (splitS y.cps.toList k (x.cps.toList.drop i))
  | 0, i, k, a, hm, hk => by
    have hl : x.cps.toList.length = x.length := by simp [Str.length]
    have hd : x.cps.toList.drop i = [] := List.drop_of_length_le (by omega)
    have hc : cutsR x y x.length 1 i (i + k) = [] := by
      unfold cutsR
      rw [if_neg (by omega)]; rfl
    rw [hc, hd]
    have e : splitS y.cps.toList k [] = [[]] := by cases k <;> rfl
    rw [e]
    show [(strSub x a x.length).cps.toList] = [_ ++ []]
    rw [StrLaws.strSub_toList, List.append_nil, show x.length - a = i - a by omega]
  | m + 1, i, k, a, hm, hk => by
    have hl : x.cps.toList.length = x.length := by simp [Str.length]
    have hi : i < x.cps.toList.length := by omega
    have hdc := drop_cons_of hi
    have hcut : cutsR x y x.length (m + 1 + 1) i (i + k) = (if i + k ≤ i ∧ i + y.length ≤ x.length ∧ subAt x y i = true then i :: cutsR x y x.length (m + 1) (i + 1) (i + y.length) else cutsR x y x.length (m + 1) (i + 1) (i + k)) := rfl
    cases k with
    | succ k =>
      rcases hk with ⟨q, _⟩ | ⟨_, q, q'⟩
      · cases q
      · rw [hcut, if_neg (by omega)]
        have ih := parts_split x y hy m (i + 1) k a (by omega) (by omega)
        rw [show i + 1 + k = i + (k + 1) by omega] at ih
        rw [ih, hdc]
        have e1 : i - a = 0 := by omega
        have e2 : i + 1 - a = 0 := by omega
        rw [e1, e2]; rfl
    | zero =>
      rcases hk with ⟨_, ha⟩ | ⟨q, _⟩
      · rw [hcut]
        by_cases hp : i + y.length ≤ x.length ∧ subAt x y i = true
        · rw [if_pos ⟨by omega, hp⟩]
          have hpre := (pre_iff hy).mp hp
          have ih := parts_split x y hy m (i + 1) (y.length - 1) (i + y.length) (by omega) (by omega)
          rw [show i + 1 + (y.length - 1) = i + y.length by omega] at ih
          show (strSub x a i).cps.toList :: (StrLaws.partsFrom x y.length (i + y.length) (cutsR x y x.length (m + 1) (i + 1) (i + y.length))).map (·.cps.toList) = _
          rw [ih, StrLaws.strSub_toList]
          have e0 : splitS y.cps.toList 0 (x.cps.toList.drop i) = [] :: splitS y.cps.toList (y.length - 1) (x.cps.toList.drop (i + 1)) := by
            rw [hdc] at hpre ⊢
            show (if y.cps.toList.isPrefixOf (x.cps.toList[i] :: x.cps.toList.drop (i + 1)) then _ else _) = _
            rw [if_pos hpre]
            have : y.cps.toList.length = y.length := by simp [Str.length]
            rw [this]
          rw [e0]
          obtain ⟨p, ps, e⟩ := splitS_ne y.cps.toList (y.length - 1) (x.cps.toList.drop (i + 1))
          rw [e]
          show _ :: ((x.cps.toList.drop (i + y.length)).take (i + 1 - (i + y.length)) ++ p) :: ps = (_ ++ []) :: p :: ps
          rw [show i + 1 - (i + y.length) = 0 by omega]
          simp
        · rw [if_neg (fun q => hp q.2)]
          have hpre : ¬ y.cps.toList.isPrefixOf (x.cps.toList.drop i) = true := fun q => hp ((pre_iff hy).mpr q)
          have ih := parts_split x y hy m (i + 1) 0 a (by omega) (.inl ⟨rfl, by omega⟩)
          have hcc : ∀ m i f f', f ≤ i → f' ≤ i → cutsR x y x.length m i f = cutsR x y x.length m i f' := by
            intro m
            induction m with
            | zero => intros; rfl
            | succ m ih =>
              intro i f f' h1 h2
              unfold cutsR
              by_cases hq : i + y.length ≤ x.length ∧ subAt x y i = true
              · rw [if_pos ⟨h1, hq⟩, if_pos ⟨h2, hq⟩]
              · rw [if_neg (fun z => hq z.2), if_neg (fun z => hq z.2)]
                exact ih (i + 1) f f' (by omega) (by omega)
          rw [hcc (m + 1) (i + 1) (i + 0) (i + 1 + 0) (by omega) (by omega), ih]
          have e0 : splitS y.cps.toList 0 (x.cps.toList.drop i) = onHead [x.cps.toList[i]] (splitS y.cps.toList 0 (x.cps.toList.drop (i + 1))) := by
            rw [hdc] at hpre ⊢
            show (if y.cps.toList.isPrefixOf (x.cps.toList[i] :: x.cps.toList.drop (i + 1)) then _ else _) = _
            rw [if_neg hpre]
            obtain ⟨p, ps, e⟩ := splitS_ne y.cps.toList 0 (x.cps.toList.drop (i + 1))
            rw [e]; rfl
          rw [e0]
          obtain ⟨p, ps, e⟩ := splitS_ne y.cps.toList 0 (x.cps.toList.drop (i + 1))
          rw [e]
          show (_ ++ p) :: ps = (_ ++ ([x.cps.toList[i]] ++ p)) :: ps
          rw [← List.append_assoc]
          congr 2
          rw [show i + 1 - a = (i - a) + 1 by omega, List.take_add_one]
          congr 1
          rw [List.getElem?_drop, show a + (i - a) = i by omega, List.getElem?_eq_getElem hi]; rfl
      · omega
theorem kind_ge (x : Str) : 1 ≤ PySem.Builtin.Str.strKind x := by unfold PySem.Builtin.Str.strKind; split <;> (try split) <;> omega
/-- the text split, as lists -/
theorem split_lists (x y : Str) (hy : 0 < y.length) (hk : PySem.Builtin.Str.strKind y = 1) : (Txt.split x y).map (·.cps.toList) = splitS y.cps.toList 0 x.cps.toList := by
  have main := parts_split x y hy x.length 0 0 0 (by omega) (.inl ⟨rfl, by omega⟩)
  have hon : onHead ((x.cps.toList.drop 0).take (0 - 0)) (splitS y.cps.toList 0 (x.cps.toList.drop 0)) = splitS y.cps.toList 0 x.cps.toList := by
    obtain ⟨p, ps, e⟩ := splitS_ne y.cps.toList 0 x.cps.toList
    rw [List.drop_zero, e]; rfl
  rw [hon] at main
  have whole : (occurrences x y 0 x.length (x.length + 1)).isEmpty = true → [x].map (·.cps.toList) = splitS y.cps.toList 0 x.cps.toList := fun h => by
    rw [← main, ← occ_all, List.isEmpty_iff.mp h]
    show [_] = [(strSub x 0 x.length).cps.toList]
    rw [StrLaws.sub_whole]
  unfold Txt.split
  have hkx := kind_ge x
  split
  · rename_i h
    refine whole ?_
    have hlt : x.length < y.length := by
      rw [hk] at h
      simp only [Bool.or_eq_true, decide_eq_true_eq] at h
      rcases h with h | h
      · exact h
      · omega
    rcases StrLaws.occ_head x y (x.length + 1) (by omega) with ⟨e, _⟩ | ⟨i, r, e, a, _⟩
    · rw [e]; rfl
    · have := a.1; omega
  · split
    · rename_i h; exact whole h
    · rw [StrLaws.partsBetween_eq, occ_all, main]
end Mine
end
section
open PySem PySem.W PyProof.Rows PySem.Calls PySem.Spec
set_option maxRecDepth 100000
set_option linter.unusedVariables false
namespace Mine
open PySem.Builtin PySem.Builtin.Str
/-- no line end in it -/
def Plain (l : List Nat) : Prop := ∀ c ∈ l, c ≠ 10 ∧ c ≠ 13
def cat (ls : List (List Nat)) (e : List Nat) : List Nat := (ls.map (· ++ e)).flatten
def dotted (l : List Nat) : List Nat := if l.head? = some 46 then 46 :: l else l
theorem crlf_step {c : Nat} {r : List Nat} (h1 : c ≠ 10) (h2 : c ≠ 13) : crlf (c :: r) = c :: crlf r := by
  rw [crlf]
  · rw [if_neg (by unfold isEnd; simp [h1, h2])]; rfl
  · intro r' q; exact absurd q h2
theorem crlf_plain {r : List Nat} : ∀ {l : List Nat}, Plain l → crlf (l ++ r) = l ++ crlf r
  | [], _ => rfl
  | c :: l, h => by
    rw [List.cons_append, crlf_step (h c (.head _)).1 (h c (.head _)).2, crlf_plain (l := l) (fun d m => h d (.tail _ m))]; rfl
theorem crlf_10 {r : List Nat} : crlf (10 :: r) = 13 :: 10 :: crlf r := by
  rw [crlf]
  · rfl
  · rintro r' h; cases h
theorem crlf_13 {r : List Nat} (h : r.head? ≠ some 10) : crlf (13 :: r) = 13 :: 10 :: crlf r := by
  rw [crlf]
  · rfl
  · rintro r' h' e; subst e; exact h rfl
theorem crlf_1310 {r : List Nat} : crlf (13 :: 10 :: r) = 13 :: 10 :: crlf r := by rw [crlf]
def IsNl (e : List Nat) : Prop := e = [10] ∨ e = [13] ∨ e = [13, 10]
theorem crlf_nl {e r : List Nat} (he : IsNl e) (h : r.head? ≠ some 10) : crlf (e ++ r) = 13 :: 10 :: crlf r := by
  rcases he with rfl | rfl | rfl
  · exact crlf_10
  · exact crlf_13 h
  · exact crlf_1310
theorem cat_head {e t : List Nat} (he : IsNl e) (ht : t.head? ≠ some 10) : ∀ {ls : List (List Nat)}, (∀ l ∈ ls, Plain l) → e ≠ [10] → (cat ls e ++ t).head? ≠ some 10
  | [], _, _ => ht
  | l :: ls, h, hne => by
    cases l with
    | nil =>
      rcases he with rfl | rfl | rfl
      · exact absurd rfl hne
      · simp [cat]
      · simp [cat]
    | cons c l =>
      have := (h _ (.head _) c (.head _)).1
      simp [cat]; exact this
theorem crlf_cat {e t : List Nat} (he : IsNl e) (ht : t.head? ≠ some 10) : ∀ {ls : List (List Nat)}, (∀ l ∈ ls, Plain l) → crlf (cat ls e ++ t) = cat ls [13, 10] ++ crlf t
  | [], _ => rfl
  | l :: ls, h => by
    have h' : ∀ l ∈ ls, Plain l := fun q m => h q (.tail _ m)
    have e1 : cat (l :: ls) e ++ t = l ++ (e ++ (cat ls e ++ t)) := by simp [cat]
    have e2 : crlf (e ++ (cat ls e ++ t)) = 13 :: 10 :: crlf (cat ls e ++ t) := by
      by_cases q : e = [10]
      · subst q; exact crlf_10
      · exact crlf_nl he (cat_head he ht h' q)
    rw [e1, crlf_plain (h l (.head _)), e2, crlf_cat he ht h']
    simp [cat]
theorem stuff_false {r : List Nat} : ∀ {l : List Nat}, Plain l → stuff false (l ++ r) = l ++ stuff false r
  | [], _ => rfl
  | c :: l, h => by
    have hc : (c == 10) = false := by simpa using (h c (.head _)).1
    show (if (false && c == 46) = true then _ else c :: stuff (c == 10) (l ++ r)) = _
    rw [if_neg (by simp), hc, stuff_false (l := l) (fun d m => h d (.tail _ m))]; rfl
theorem stuff_nl {b : Bool} {r : List Nat} : stuff b (13 :: 10 :: r) = 13 :: 10 :: stuff true r := by
  show (if (b && 13 == 46) = true then _ else 13 :: (if (false && 10 == 46) = true then _ else 10 :: stuff true r)) = _
  rw [if_neg (by simp), if_neg (by simp)]
theorem stuff_line {l r : List Nat} (h : Plain l) : stuff true (l ++ 13 :: 10 :: r) = dotted l ++ 13 :: 10 :: stuff true r := by
  cases l with
  | nil => exact stuff_nl
  | cons c l =>
    have hc : (c == 10) = false := by simpa using (h c (.head _)).1
    have h' : Plain l := fun d m => h d (.tail _ m)
    show (if (true && c == 46) = true then 46 :: 46 :: stuff false (l ++ 13 :: 10 :: r) else c :: stuff (c == 10) (l ++ 13 :: 10 :: r)) = _
    unfold dotted
    rw [hc, stuff_false h', stuff_nl]
    by_cases q : c = 46
    · subst q; rfl
    · rw [if_neg (by simpa using q), if_neg (by simpa using q)]; rfl
theorem stuff_last {l : List Nat} (h : Plain l) : stuff true l = dotted l := by
  cases l with
  | nil => rfl
  | cons c l =>
    have hc : (c == 10) = false := by simpa using (h c (.head _)).1
    have h' : Plain l := fun d m => h d (.tail _ m)
    have e : stuff false l = l := by
      have := stuff_false (r := []) h'
      rw [List.append_nil] at this
      rw [this]; show l ++ [] = l; simp
    show (if (true && c == 46) = true then 46 :: 46 :: stuff false l else c :: stuff (c == 10) l) = _
    unfold dotted
    rw [hc, e]
    by_cases q : c = 46
    · subst q; rfl
    · rw [if_neg (by simpa using q), if_neg (by simpa using q)]
theorem stuff_cat {t : List Nat} (ht : Plain t) : ∀ {ls : List (List Nat)}, (∀ l ∈ ls, Plain l) → stuff true (cat ls [13, 10] ++ t) = cat (ls.map dotted) [13, 10] ++ dotted t
  | [], _ => stuff_last ht
  | l :: ls, h => by
    have e1 : cat (l :: ls) [13, 10] ++ t = l ++ 13 :: 10 :: (cat ls [13, 10] ++ t) := by simp [cat]
    rw [e1, stuff_line (h l (.head _)), stuff_cat ht (fun q m => h q (.tail _ m))]
    simp [cat]
theorem plain_dotted {l : List Nat} (h : Plain l) : Plain (dotted l) := by
  unfold dotted
  split
  · intro c m
    rcases List.mem_cons.mp m with rfl | m
    · decide
    · exact h c m
  · exact h
theorem split_last : ∀ {l : List Nat}, Plain l → splitS [13, 10] 0 l = [l]
  | [], _ => rfl
  | c :: l, h => by
    have hc := (h c (.head _)).2
    show (if List.isPrefixOf [13, 10] (c :: l) = true then _ else _) = _
    rw [if_neg (by simp [List.isPrefixOf]; intro q; exact absurd q.symm hc), split_last (l := l) (fun d m => h d (.tail _ m))]
theorem split_line {r : List Nat} : ∀ {l : List Nat}, Plain l → splitS [13, 10] 0 (l ++ 13 :: 10 :: r) = l :: splitS [13, 10] 0 r
  | [], _ => rfl
  | c :: l, h => by
    have hc := (h c (.head _)).2
    show (if List.isPrefixOf [13, 10] (c :: (l ++ 13 :: 10 :: r)) = true then _ else _) = _
    have e : l.append (13 :: 10 :: r) = l ++ 13 :: 10 :: r := rfl
    rw [if_neg (by simp [List.isPrefixOf]; intro q; exact absurd q.symm hc), e, split_line (l := l) (fun d m => h d (.tail _ m))]
theorem split_cat {t : List Nat} (ht : Plain t) : ∀ {ls : List (List Nat)}, (∀ l ∈ ls, Plain l) → splitS [13, 10] 0 (cat ls [13, 10] ++ t) = ls ++ [t]
  | [], _ => split_last ht
  | l :: ls, h => by
    have e1 : cat (l :: ls) [13, 10] ++ t = l ++ 13 :: 10 :: (cat ls [13, 10] ++ t) := by simp [cat]
    rw [e1, split_line (h l (.head _)), split_cat ht (fun q m => h q (.tail _ m))]; rfl
def mkS (l : List Nat) : Str := ⟨l.toArray⟩
theorem mkS_list (l : List Nat) : (mkS l).cps.toList = l := by simp [mkS]
theorem str_mk (x : Str) : x = mkS x.cps.toList := by
  obtain ⟨⟨l⟩⟩ := x; rfl
theorem map_mk {xs : List Str} {ls : List (List Nat)} (h : xs.map (·.cps.toList) = ls) : xs = ls.map mkS := by
  subst h
  rw [List.map_map]
  induction xs with
  | nil => rfl
  | cons x xs ih => rw [List.map_cons, ← ih]; congr 1
theorem quoted_mk (x : List Nat) : quoted (mkS x) = mkS (stuff true (crlf x)) := by unfold quoted; rw [mkS_list]; rfl
theorem plain_head {t : List Nat} (h : Plain t) : t.head? ≠ some 10 := by
  cases t with
  | nil => simp
  | cons c t => simp; exact (h c (.head _)).1
/-- the rows heard -/
theorem sent_rows {ls : List (List Nat)} {t e : List Nat} (h : ∀ l ∈ ls, Plain l) (ht : Plain t) (he : IsNl e) : Txt.split (quoted (mkS (cat ls e ++ t))) "\r\n" = (ls.map dotted ++ [dotted t]).map mkS := by
  refine map_mk ?_
  have hcr : ("\r\n" : Str).cps.toList = [13, 10] := by decide +kernel
  rw [split_lists _ _ (by decide +kernel) (by decide +kernel), quoted_mk, mkS_list, hcr, crlf_cat he (plain_head ht) h]
  have e1 : crlf t = t := by
    have := crlf_plain (r := []) ht
    rw [List.append_nil] at this
    rw [this]; show t ++ crlf [] = t; simp [crlf]
  rw [e1, stuff_cat ht h, split_cat (plain_dotted ht)]
  intro l m
  obtain ⟨q, mq, rfl⟩ := List.mem_map.mp m
  exact plain_dotted (h q mq)
end Mine
end
section
open PySem PySem.W PyProof.Rows PySem.Calls PySem.Spec
set_option maxRecDepth 100000
set_option linter.unusedVariables false
namespace Mine
theorem quoted_len (x : Str) (hx : x.length ≤ 10000) : (quoted x).length ≤ 40000 := by
  obtain ⟨ps, h1, h2, h3, h4, h5⟩ := end_text x hx
  obtain ⟨qs, k1, k2, k3, k4, k5⟩ := dot_text (Txt.join "" ps) h5
  have e : quoted x = Txt.join "" qs := by
    rw [k2, h2]; rfl
  rw [e]; exact k5
theorem add_len (a b : Str) : (a ++ b).length = a.length + b.length := by simp [Str.length, Str.cps_append]
section
variable {g : G} {n : Nat} {M : List Addr} {h₀ : Heap} {env : Env} {X₀ X : List Addr} {ρ ρ' : List (Str × Bnd)} {P : Fl → List (Str × Bnd) → Prop}
end
end Mine
end
section
open PySem PySem.W PyProof.Rows PySem.Calls PySem.Spec
set_option maxRecDepth 100000
set_option linter.unusedVariables false
namespace Mine
section
variable {prog : Program} {w : World} {A : Around} {E : Value → Shared → Prop} {s : Shared}
theorem ints_of_get : ∀ {vs : List Value} {ns : List Int}, vs.length = ns.length → (∀ (i : Nat) (v : Value) (k : Int), vs[i]? = some v → ns[i]? = some k → ∃ t, v = Value.int k t) → IntsAre vs ns
  | [], [], _, _ => .nil
  | v :: vs, k :: ns, hl, h => by
    obtain ⟨t, rfl⟩ := h 0 v k rfl rfl
    exact .cons k t (ints_of_get (by simpa using hl) fun i v k h1 h2 => h (i + 1) v k (by simpa using h1) (by simpa using h2))
end
end Mine
end
section
open PySem PySem.W PyProof.Rows PySem.Calls PySem.Spec
set_option maxRecDepth 100000
set_option linter.unusedVariables false
namespace Mine
section
variable {g : G} {n : Nat} {M : List Addr} {h₀ : Heap} {env : Env} {X₀ X : List Addr} {ρ ρ' : List (Str × Bnd)} {P : Fl → List (Str × Bnd) → Prop}
end
end Mine
end
section
open PySem PySem.W PyProof.Rows PySem.Calls PySem.Spec
set_option maxRecDepth 100000
set_option linter.unusedVariables false
namespace Mine
theorem Put.own_fix {x : Str} {b : Bnd} {ρ ρ' : List (Str × Bnd)} (hb : Fix b) (p : Put x b ρ ρ') : (ownAddrs ρ').Sublist (ownAddrs ρ) := by
  have e : ∀ r, ownAddrs ((x, b) :: r) = ownAddrs r := fun r => by cases b <;> first | rfl | exact hb.elim
  induction p with
  | nil => rw [e]; exact .slnil
  | @here c r =>
    rw [e]
    cases c <;> first | exact List.Sublist.refl _ | exact List.Sublist.cons _ (List.Sublist.refl _)
  | @there y c r r' n p ih =>
    cases c <;> first | exact ih | exact List.Sublist.cons_cons _ ih
section
variable {g : G} {n : Nat} {M : List Addr} {h₀ : Heap} {env : Env} {X₀ X : List Addr} {ρ ρ1 ρ' : List (Str × Bnd)} {P : Fl → List (Str × Bnd) → Prop}
end
end Mine
end
section
open PySem PySem.W PyProof.Rows PySem.Calls PySem.Spec
set_option maxRecDepth 100000
set_option linter.unusedVariables false
namespace Mine
section
variable {g : G} {n : Nat} {env : Env} {X : List Addr} {ρ : List (Str × Bnd)}
/-- min over a list that is not empty -/
theorem blt_min_list {l : List Int} {m : Int} (hm : m ∈ l) (hle : ∀ x ∈ l, m ≤ x) : BltOK g n X "min" [.list (l.map .int)] (.int m) := fun s vs hx r A Q E rm h => by
  obtain ⟨v, rfl, rd⟩ := r.one
  obtain ⟨a, us, rfl, _, il, q⟩ := rd.list_inv
  obtain ⟨xs, e, f⟩ := ints_items q.ints
  have il' : s.heap.IsList a (intItems xs.toArray) := by
    have : us = intItems xs.toArray := by apply Array.toList_inj.mp; rw [e]; simp [intItems]
    rw [← this]; exact il
  have hlen : xs.length = l.length := by rw [← f, List.length_map]
  have hpos : 0 < xs.length := by rw [hlen]; exact List.length_pos_of_mem hm
  refine min_intList rm.1 il' (by simpa using hpos) fun v h' tk hv hk => ?_
  obtain ⟨hb1, hb2⟩ := argBest_lt (numAt xs.toArray) (xs.toArray.size - 1)
  generalize argBest _ _ = i at hv hb1 hb2
  have hi : i < xs.length := by simp at hb1; omega
  have hnum : ∀ j, (hj : j < xs.length) → numAt xs.toArray j = (xs[j]'hj).1 := fun j hj => by simp [numAt, hj]
  have hv' : v = .int (xs[i]'hi).1 (xs[i]'hi).2 := by
    simp [intItems, hi] at hv
    exact hv.symm
  have hml : (xs[i]'hi).1 ∈ l := by rw [← f]; exact List.mem_map.mpr ⟨_, List.getElem_mem hi, rfl⟩
  have h1 := hle _ hml
  have h2 : (xs[i]'hi).1 ≤ m := by
    rw [← f] at hm
    obtain ⟨p, mp, rfl⟩ := List.mem_map.mp hm
    obtain ⟨j, hj, rfl⟩ := List.getElem_of_mem mp
    have := hb2 j (by simp; omega)
    rw [hnum i hi, hnum j hj] at this
    exact this
  have : (xs[i]'hi).1 = m := by omega
  rw [hv', this]
  exact h _ h' tk (Pr.of_keeps hk) rdX_int
/-- list(range(a, b)) -/
theorem ev_list_range {fl fr : Str} {p1 p2 pos1 pos2 : Pos} {e1 e2 : PySem.Expr} {a b : Int} {k : Nat} (hl : Gv g fl (.type "list")) (hr : Gv g fr (.type "range")) (ee1 : EvP g n env X ρ e1 (.int a)) (ee2 : EvP g n env X ρ e2 (.int b)) (h0 : 0 ≤ a) (hab : a ≤ b) (hkk : b < 1000000) (hk' : (b - a).toNat = k)
    (hk1 : env.kindOf fl = some .globalImplicit := by rfl) (hd1 : (fl == ("__debug__" : Str)) = false := by decide) (hk2 : env.kindOf fr = some .globalImplicit := by rfl) (hd2 : (fr == ("__debug__" : Str)) = false := by decide) (hn : [e1, e2].all noStar = true := by rfl) :
    EvP g n env X ρ (.Call (.Name fl p1) [.Call (.Name fr p2) [e1, e2] [] pos2] [] pos1) (.list ((List.range k).map fun (j : Nat) => .int (a + (j : Int)))) := fun s c A Q E rm h => by
  refine Call_ (load_glob c hl hk1 hd1 (PyProof.Rows.callWith_type (backTo_any (by rfl)) ?_))
  refine evalArgs_plain (spliced_cons ?_)
  refine Call_ (load_glob c hr hk2 hd2 (PyProof.Rows.callWith_type (backTo_any hn) (args_ok (es := [e1, e2]) (ds := [.int a, .int b]) hn ⟨ee1, ee2, trivial⟩ c rm fun vs h' tk p rds => ?_)))
  obtain ⟨v, w, rfl, rd, rd2⟩ := rds.two
  obtain ⟨t, rfl⟩ := rd.int_inv
  obtain ⟨u, rfl⟩ := rd2.int_inv
  refine call_range_2 (spliced_nil ?_)
  have e2 : Builtin.Range.rangeSize a b 1 = (k : Int) := by rw [rangeSize_one]; split <;> omega
  refine call_list_range (n := k) rm.1 (IsRange.new ..) (small_one (by omega) (by omega) (by omega) (by omega)) e2 (by omega) fun h2 tk2 acc c2 keep hD hI => ?_
  have pr : Pr g.T s.heap h2 := (p.trans (Pr.push _ _ _)).trans (Pr.of_keeps keep)
  refine h _ h2 tk2 pr (rdX_list (fun m => ?_) ⟨_, hD, rfl, _, rfl⟩ ?_)
  · have := (c.pr p).xIn _ m
    obtain ⟨o, q⟩ := Option.isSome_iff_exists.mp this
    exact absurd (Heap.lt_size q) (by simp)
  · have hints : IntsAre acc.toList ((List.range k).map fun (j : Nat) => a + (j : Int)) := ints_of_get (by rw [Array.length_toList, hI.1]; simp) fun i v kk h1 h2 => by
      obtain ⟨t, ht⟩ := hI.2 i v (by rw [← h1, Array.getElem?_toList])
      refine ⟨t, ?_⟩
      rw [ht]
      have hi : i < k := by
        by_cases q : i < k
        · exact q
        · rw [List.getElem?_eq_none (by simp; omega)] at h2; cases h2
      rw [List.getElem?_map, List.getElem?_range hi] at h2
      have : a + (i : Int) = kk := Option.some.inj h2
      rw [← this, Int.mul_one]
    have := rds_ints (X := X) (h := h2) hints
    rw [List.map_map] at this
    exact this
end
end Mine
end
section
open PySem PySem.W PyProof.Rows PySem.Calls PySem.Spec PySem.Builtin PySem.Builtin.Str
set_option maxRecDepth 100000
set_option linter.unusedVariables false
namespace Mine
section
variable {g : G} {n : Nat} {M : List Addr} {h₀ : Heap} {env : Env} {X₀ X : List Addr} {ρ ρ' : List (Str × Bnd)} {P : Fl → List (Str × Bnd) → Prop} {N : Nat}
/-- from states whose next token is at least N -/
def EvN (N : Nat) (g : G) (n : Nat) (env : Env) (X : List Addr) (ρ : List (Str × Bnd)) (e : PySem.Expr) (d : PyData) : Prop :=
  ∀ s, N ≤ s.toks → Cx g env X ρ s.heap → ∀ (A : Around) (Q : Value → Shared → Prop) (E : Value → Shared → Prop), Rm n A →
    (∀ v h' tk, Pr g.T s.heap h' → RdX h' X v d → Q v { s with heap := h', toks := tk }) → wpAny g.M A (eval e env) Q E s
def WSn (N : Nat) (g : G) (n : Nat) (M : List Addr) (h₀ : Heap) (env : Env) (X₀ : List Addr) (st : Stmt) (ρ : List (Str × Bnd)) (P : Fl → List (Str × Bnd) → Prop) : Prop :=
  ∀ s X, N ≤ s.toks → Fx g M h₀ env X₀ X ρ s.heap → ∀ (A : Around) (Q : Flow → Shared → Prop) (E : Value → Shared → Prop), Rm n A →
    (∀ f fl ρ' X' h' tk, P f ρ' → Fx g M h₀ env X₀ X' ρ' h' → FlOK h' X₀ f fl → Gw X s.heap X' h' → Q fl { s with heap := h', toks := tk }) → wpAny g.M A (exec st env) Q E s
def WSsn (N : Nat) (g : G) (n : Nat) (M : List Addr) (h₀ : Heap) (env : Env) (X₀ : List Addr) (sts : List Stmt) (ρ : List (Str × Bnd)) (P : Fl → List (Str × Bnd) → Prop) : Prop :=
  ∀ s X, N ≤ s.toks → Fx g M h₀ env X₀ X ρ s.heap → ∀ (A : Around) (Q : Flow → Shared → Prop) (E : Value → Shared → Prop), Rm n A →
    (∀ f fl ρ' X' h' tk, P f ρ' → Fx g M h₀ env X₀ X' ρ' h' → FlOK h' X₀ f fl → Gw X s.heap X' h' → Q fl { s with heap := h', toks := tk }) → wpAny g.M A (execs sts env) Q E s
theorem evn_of {e : PySem.Expr} {d : PyData} (h : EvP g n env X ρ e d) : EvN N g n env X ρ e d := fun s _ c => h s c
theorem wsn_of {st : Stmt} (h : WS g n M h₀ env X₀ st ρ P) : WSn N g n M h₀ env X₀ st ρ P := fun s X _ => h s X
theorem wssn_of {sts : List Stmt} (h : WSs g n M h₀ env X₀ sts ρ P) : WSsn N g n M h₀ env X₀ sts ρ P := fun s X _ => h s X
theorem wssn_cons {st : Stmt} {rest : List Stmt} (h : WSn N g n M h₀ env X₀ st ρ (fun f ρ' => match f with | .nxt => WSsn N g n M h₀ env X₀ rest ρ' P | .ret R => P (.ret R) ρ')) : WSsn N g n M h₀ env X₀ (st :: rest) ρ P := fun s X hN F A Q E rm k => by
  refine wpAny_execs_cons (wpAny_with_toks hN (h s X hN F A _ _ rm fun f fl ρ' X' h' tk hp F' ok gw hN' => ?_))
  cases f with
  | nxt =>
    cases (show fl = .next from ok)
    exact wpAny_mono (hp { s with heap := h', toks := tk } X' hN' F' A Q E rm fun f2 fl2 ρ2 X2 h2 tk2 hp2 F2 ok2 gw2 => k f2 fl2 ρ2 X2 h2 tk2 hp2 F2 ok2 (gw.trans gw2)) (fun _ _ q => q) (fun _ _ q => q)
  | ret R =>
    obtain ⟨v, rfl, r⟩ := ok
    exact k (.ret R) (.ret v) ρ' X' h' tk hp F' ⟨v, rfl, r⟩ gw
theorem wsn_assign {x : Str} {pos' pos : Pos} {value : PySem.Expr} {d : PyData} (ev : ∀ X, EvN N g n env X ρ value d) (hk : Storable env x) (hp : Put x (.dat d) ρ ρ') (k : P .nxt ρ')
    (hs : swapsWith value (some (.Name x pos')) pos.line env = pure false := by rfl) : WSn N g n M h₀ env X₀ (.Assign [.Name x pos'] value pos) ρ P := fun s X hN F A Q E rm c =>
  wpAny_Assign_Name (ev X s hN F.cx A _ E rm fun v h' tk p rd =>
    fx_store (b := .dat _) (s := { s with heap := h', toks := tk }) (F.pr p) hk rd hp (F.dist.sublist hp.own_dat) (fun a m => F.ownM a (hp.own_dat.subset m)) fun h2 tk2 F2 p2 =>
      c .nxt .next ρ' X h2 tk2 k F2 rfl (Gw.of ((p.mono F.cx.tX).trans (p2.pr F.cx)))) hs
/-- a call of a def with one argument -/
theorem evn_callF1 {m : Nat} {nm : Str} {p pos : Pos} {e : PySem.Expr} {f : Addr} {o : Obj} {fd : FuncData} {d0 d : PyData} (hg : Gv g nm (.ref f)) (ho : g.B.get? f = some o) (hfd : o.data = .func fd) (ee : EvN N g n env X ρ e d0) (hc : CallOK g m f [d0] d) (hm : m ≤ n)
    (hk : env.kindOf nm = some .globalImplicit := by rfl) (hd : (nm == ("__debug__" : Str)) = false := by decide) (hn : noStar e = true := by rfl) : EvN N g n env X ρ (.Call (.Name nm p) [e] [] pos) d := fun s hN c A Q E rm h =>
  Call_ (load_glob c hg hk hd (callWith_function (o := o) (fd := fd) (by
    rw [starEach_plain hn]
    exact evalArgs_plain (spliced_cons (ee s hN c A _ E rm fun v h' tk p rd => spliced_nil ⟨⟨(c.pr p).base _ _ ho, hfd⟩,
      hc X { s with heap := h', toks := tk } [v] (c.pr p).hp ⟨rd, trivial⟩ A Q E (rm.mono hm) fun v h'' tk' p' rd => h v h'' tk' (p.trans p') rd⟩)))))
theorem evn_split {o e : PySem.Expr} {apos pos : Pos} {pl : Sem Bool} {x y : Str} (eo : EvN N g n env X ρ o (.str x)) (ee : EvP g n env X ρ e (.str y)) (hy : (y.length == 0) = false) (hx : x.length ≤ 16777216) (hp : (partsBetween x (occurrences x y 0 x.length (x.length + 1)) y.length).length ≤ 16777216)
    (he : eval (.Call (.Attribute o "split" apos) [e] [] pos) env = (do
      let ov ← eval o env
      standAt apos.atName
      let (f, first) ← holding [ov] (getMethod ov "split" pl)
      callWith pos f first (backTo pos (starEach [e] env)) []) := by rfl) (hn : noStar e = true := by rfl) : EvN N g n env X ρ (.Call (.Attribute o "split" apos) [e] [] pos) (.list ((Txt.split x y).map .str)) := fun s hN c A Q E rm h =>
  MethodCall_ (eo s hN c A _ E rm fun v h' tk p rd => by
    obtain ⟨t, rfl⟩ := rd.str_inv
    refine PySem.GM.split (callWith_builtin (backTo_any (by simpa using hn)) (args_ok (es := [e]) (ds := [.str y]) (by simpa using hn) ⟨ee, trivial⟩ (s := { s with heap := h', toks := tk }) (c.pr p) rm fun vs h2 tk2 p2 rds => ?_))
    obtain ⟨v, rfl, rd⟩ := rds.one; obtain ⟨u, rfl⟩ := rd.str_inv
    refine split_raw (s := { s with heap := h2, toks := tk2 }) hy (fun l k e => h _ _ k ((p.trans p2).trans (Pr.push _ _ _)) ?_) (by rw [sizeLine_eq]; exact hx) (by rw [sizeLine_eq]; exact hp)
    rw [← e]
    exact rdX_newList ((c.pr p).pr p2).xIn (rdsX_strs l)) he
/-- x.replace('..', z): z's own token is older -/
theorem evn_replace {o : PySem.Expr} {zn : Str} {zp cp apos pos : Pos} {ck : Nat} {pl : Sem Bool} {x y z : Str} {v : Tok} (eo : EvP g n env X ρ o (.str x)) (m : (zn, Bnd.val (.str z v)) ∈ ρ) (v0 : v ≠ 0) (vN : v < N) (hnb : NoneBooked g.B) (hb : x.length + (x.length + 1) * z.length ≤ 16777216)
    (he : eval (.Call (.Attribute o "replace" apos) [.Constant (.str y) ck cp, .Name zn zp] [] pos) env = (do
      let ov ← eval o env
      standAt apos.atName
      let (f, first) ← holding [ov] (getMethod ov "replace" pl)
      callWith pos f first (backTo pos (starEach [.Constant (.str y) ck cp, .Name zn zp] env)) []) := by rfl) (h1 : (zn == ("__debug__" : Str)) = false := by decide) (h2 : (zn == ("__classdict__" : Str)) = false := by decide) :
    EvN N g n env X ρ (.Call (.Attribute o "replace" apos) [.Constant (.str y) ck cp, .Name zn zp] [] pos) (.str (Txt.replace x y z)) := fun s hN c A Q E rm h =>
  MethodCall_ (wpAny_with_toks hN (eo s c A _ _ rm fun w h' tk p rd hN' => by
    obtain ⟨t, rfl⟩ := rd.str_inv
    have hv : v < tk := Nat.lt_of_lt_of_le vN hN'
    refine PySem.GM.replace (callWith_builtin (backTo_any (by rfl)) ?_)
    rw [starEach_plain (e := .Constant (.str y) ck cp) rfl, starEach_plain (e := .Name zn zp) rfl]
    refine evalArgs_plain (spliced_cons (wpAny_Constant_str (k := ck) (pos := cp) (spliced_cons (evv_name (pos := zp) m h1 h2 { s with heap := h', toks := tk + 1 } (c.pr p) A _ E rm fun h3 tk3 p3 => spliced_nil ?_))))
    refine SC.replaceA (u := tk) (v := v) (Nat.ne_of_gt (Nat.lt_of_le_of_lt (Nat.zero_le _) hv)) v0 (Nat.ne_of_gt hv) hb (fun t' k => h _ h3 k (p.trans p3) rdX_str) ?_
    obtain ⟨mc, q1, q2⟩ := hnb
    exact ⟨mc, q1.keeps ((c.pr p).pr p3).base, q2⟩)) he
theorem wsn_for {target iter : PySem.Expr} {body : List Stmt} {pos : Pos} {l : List PyData} (ei : ∀ X, EvI g n env X ρ iter l) (Inv : Nat → List (Str × Bnd) → Prop) (i0 : Inv 0 ρ)
    (step : ∀ k d ρ1, l[k]? = some d → Inv k ρ1 → AsgOK g n M h₀ env X₀ target d ρ1 fun ρ2 => WSsn N g n M h₀ env X₀ body ρ2 fun f ρ3 => match f with | .nxt => Inv (k + 1) ρ3 | .ret R => P (.ret R) ρ3)
    (fin : ∀ ρ1, Inv l.length ρ1 → P .nxt ρ1) (ht : TgOK target l) (hs : ∀ x, foldedSetIterable iter env x = pure x := by intro _; rfl) : WSn N g n M h₀ env X₀ (.For target iter body [] pos) ρ P := fun s X hN F A Q E rm c => by
  refine wpAny_For (wpAny_mono (wpAny_toks_of hN (ei X s F.cx A (fun it s' => N ≤ s'.toks → codeAny g.M A (Code.forLoop target it body [] env) (fun r s' => match r with | .ok f => Q f s' | .error e => cameBackBy g.M A env E e s') s') E rm fun I h1 tk1 p1 nI nX it => fun hN1 => ?_))
    (fun x s1 q => wpAny_with_toks q.1 (wpAny_mono q.2 (fun _ _ z => z) (fun _ _ z _ => z))) (fun _ _ q => q.2)) hs
  have hN1 : N ≤ tk1 := hN1
  have nI0 : h₀.get? I = none := new_of F.old nI
  refine codeAny_forLoop_any (fun k s' => N ≤ s'.toks ∧ ∃ rest ρ1 X1 h' tk, s' = { s with heap := h', toks := tk } ∧ rest.length = k ∧ (∃ j, l.drop j = rest ∧ j ≤ l.length ∧ Inv j ρ1) ∧ Fx g M h₀ env X₀ X1 ρ1 h' ∧ Gw X s.heap X1 h' ∧ ItIs h' X1 I rest ∧ I ∉ X1)
    ?_ l.length ⟨hN1, l, ρ, X, h1, tk1, rfl, rfl, ⟨0, rfl, Nat.zero_le _, i0⟩, F.pr p1, Gw.of (p1.mono F.cx.tX), it, nX⟩
  rintro k s' ⟨hNs, rest, ρ1, X1, h', tk, rfl, rfl, ⟨j, hj, hjl, hinv⟩, F1, gw, it1, nX1⟩
  refine wpAny_with_toks hNs (it_next (s := { s with heap := h', toks := tk }) it1 rm.1 (fun e h2 ex => ?_) fun d r e v h2 tk2 ex isI rd it2 kd => ?_)
  · intro _
    have hjj : j = l.length := by
      have := congrArg List.length hj
      rw [e, List.length_drop] at this
      have : l.length - j = 0 := this
      omega
    subst hjj
    exact wpAny_execs_nil (c .nxt .next ρ1 X1 h2 tk (fin ρ1 hinv) (fx_iter F1 it1.isf ex nI0 nX1) rfl (gw.iter nI ex))
  · intro hN2
    have hd : l[j]? = some d := by
      have : (l.drop j)[0]? = some d := by rw [hj, e]; rfl
      simpa using this
    have md : d ∈ l := List.mem_of_getElem? hd
    refine wpAny_with_toks hN2 (letgo (s := { s with heap := h2, toks := tk2 }) rd ht md kd ?_)
    intro hN3
    have F2 := fx_iter F1 it1.isf ex nI0 nX1
    have gw2 := gw.iter nI ex
    refine wpAny_with_toks hN3 (step j d ρ1 hd hinv { s with heap := h2, toks := tk2 } X1 v F2 rd A _ _ rm fun ρ2 h3 tk3 hb F3 p3 => ?_)
    intro hN4
    refine wpAny_with_toks hN4 (hb { s with heap := h3, toks := tk3 } X1 hN4 F3 A _ _ rm fun f fl ρ4 X4 h4 tk4 hp F4 ok gw4 => ?_)
    intro hN5
    have gw3 : Gw X1 h2 X1 h3 := Gw.of (p3.pr F2.cx)
    cases f with
    | nxt =>
      cases (show fl = .next from ok)
      refine ⟨r.length, by rw [e]; exact Nat.lt_succ_self _, hN5, r, ρ4, X4, h4, tk4, rfl, rfl, ⟨j + 1, ?_, ?_, hp⟩, F4, gw2.trans (gw3.trans gw4), it2.gw (gw3.trans gw4) nX1, (gw3.trans gw4).out isI nX1⟩
      · rw [← List.drop_drop, hj, e]; rfl
      · have : j < l.length := by
          by_cases q : j < l.length
          · exact q
          · rw [List.getElem?_eq_none (by omega)] at hd; cases hd
        omega
    | ret R =>
      obtain ⟨v', rfl, r'⟩ := ok
      exact c (.ret R) (.ret v') ρ4 X4 h4 tk4 hp F4 ⟨v', rfl, r'⟩ (gw2.trans (gw3.trans gw4))
end
end Mine
end
section
open PySem PySem.W PyProof.Rows PySem.Calls PySem.Spec PySem.Builtin PySem.Builtin.Str
set_option maxRecDepth 100000
set_option linter.unusedVariables false
namespace Mine
theorem append_mk (a b : List Nat) : mkS a ++ mkS b = mkS (a ++ b) := by
  apply Str.ext'; simp [mkS, Str.cps_append]
theorem mk_len (l : List Nat) : (mkS l).length = l.length := by show l.toArray.size = _; simp
theorem foldl_dots : ∀ (k : Nat) (acc : List Nat), ((List.replicate k (#[46] : Array Nat)).foldl (· ++ ·) acc.toArray) = (acc ++ List.replicate k 46).toArray
  | 0, acc => by simp
  | k + 1, acc => by
    rw [List.replicate_succ, List.foldl_cons, List.replicate_succ]
    have e : acc.toArray ++ (#[46] : Array Nat) = (acc ++ [46]).toArray := by simp
    rw [e, foldl_dots k (acc ++ [46])]
    simp
theorem mul_dots (k : Nat) : Txt.mul "." (k : Int) = mkS (List.replicate k 46) := by
  unfold Txt.mul
  by_cases h0 : (k : Int) < 1
  · have : k = 0 := by omega
    subst this; rw [if_pos h0]; rfl
  · rw [if_neg h0]
    have hd : (".": Str).cps = (#[46] : Array Nat) := by decide +kernel
    by_cases h1 : k = 1
    · subst h1; rw [if_pos (by decide)]; decide +kernel
    · rw [if_neg (by
        have : (".": Str).length = 1 := by decide +kernel
        rw [this]; simp; omega)]
      rw [hd, Int.toNat_natCast]
      have := foldl_dots k []
      rw [show ([] : List Nat).toArray = #[] from rfl] at this
      rw [this]; rfl
theorem strOk_list {l : List Nat} (h : ∀ c ∈ l, c < 1000) : PyData.strOk (mkS l) = true := by
  unfold PyData.strOk mkS
  rw [Array.all_eq_true']
  intro c m
  have := h c (by simpa using m)
  simp; omega
theorem join_nothing : ∀ ls : List (List Nat), Txt.join "" (ls.map mkS) = mkS ls.flatten := by
  have key : ∀ ls : List (List Nat), Str.join "" (ls.map mkS) = mkS ls.flatten := by
    intro ls
    induction ls with
    | nil => rfl
    | cons x ls ih =>
      cases ls with
      | nil => show mkS x = _; simp
      | cons y r =>
        show mkS x ++ "" ++ Str.join "" ((y :: r).map mkS) = _
        rw [ih]
        show mkS x ++ mkS [] ++ mkS (y :: r).flatten = _
        rw [append_mk, append_mk, List.append_nil]; rfl
  intro ls
  unfold Txt.join
  rw [StrLaws.glued_eq_join, key]
theorem mk_sum : ∀ ls : List (List Nat), ((ls.map mkS).map (·.length)).sum = ls.flatten.length
  | [] => rfl
  | x :: ls => by rw [List.map_cons, List.map_cons, List.sum_cons, mk_sum ls, mk_len, List.flatten_cons, List.length_append]
theorem cat_len {k : Nat} : ∀ {ls : List (List Nat)}, (∀ l ∈ ls, l.length ≤ k) → ∀ e : List Nat, (cat ls e).length ≤ ls.length * (k + e.length)
  | [], _, e => by simp [cat]
  | l :: ls, h, e => by
    have h1 := cat_len (ls := ls) (fun q m => h q (.tail _ m)) e
    have h2 := h l (.head _)
    have h3 : (cat (l :: ls) e).length = l.length + e.length + (cat ls e).length := by simp [cat]; omega
    rw [h3, List.length_cons, Nat.add_mul]; omega
end Mine
end
section
open PySem PySem.W PyProof.Rows PySem.Calls PySem.Spec PySem.Builtin.Re
set_option maxRecDepth 100000
set_option linter.unusedVariables false
set_option maxHeartbeats 4000000
namespace Mine
section
open PySem.Builtin PySem.Builtin.Str
theorem fmt_kv (k v : Str) (tk tv t : Tok) (b : Addr) (hk : k.length ≤ 100000) (hv : v.length ≤ 100000) : Meets («str.__mod__» ⟨[.str ⟨#[37, 115, 58, 32, 37, 115]⟩ t, .ref b], []⟩)
    (fun _ R s => IsTup s.heap b #[.str k tk, .str v tv] ∧ ∀ t' k', R (.ok (.ret (.str (k ++ (⟨#[58, 32]⟩ : Str) ++ v) t'))) { s with toks := k' }) := by
  kpt_run
end
section
variable {g : G} {n : Nat} {M : List Addr} {h₀ : Heap} {env : Env} {X₀ X : List Addr} {ρ ρ' : List (Str × Bnd)} {P : Fl → List (Str × Bnd) → Prop}
/-- '%s: %s' % (k, v) -/
theorem bin_mod_kv {k v : Str} (hk : k.length ≤ 100000) (hv : v.length ≤ 100000) : BinOK g n X .Mod (.str "%s: %s") (.tuple [.str k, .str v]) (.str (k ++ (mkS [58, 32]) ++ v)) := fun s x y _ ra rb A Q E _ h => by
  obtain ⟨t, rfl⟩ := ra.str_inv
  obtain ⟨b, vs, rfl, nb, it, q⟩ := rb.tuple_inv
  obtain ⟨u, w, e, r1, r2⟩ := q.two
  obtain ⟨tk, rfl⟩ := r1.str_inv
  obtain ⟨tv, rfl⟩ := r2.str_inv
  have hvs : vs = #[.str k tk, .str v tv] := by apply Array.toList_inj.mp; rw [e]
  subst hvs
  have hT : s.TypeIs (.ref b) "tuple" := by
    obtain ⟨o, ho, hc, _⟩ := it
    exact ⟨o, ho, hc⟩
  exact KPt.bin_left (T := "str") (U := "tuple") (op := .Mod) (by decide) (typeIs_str s _ t) hT PySem.F.fills_str_mod KPt.fills_tuple PySem.F.slot_str_mod
    (call_meets PySem.F.slot_str_mod (typeIs_str s _ t) PySem.F.entry_str_mod (PySem.F.args_str_mod_2 _ _) (fmt_kv k v tk tv t b hk hv) ⟨it, fun t' k' => ⟨(fun e => nomatch e), h _ s.heap _ (Pr.refl _ _) rdX_str⟩⟩)
/-- a table is not turned any more -/
theorem fx_freezeTab {x : Str} {a : Addr} {l : List PyData} {h : Heap} (F : Fx g M h₀ env X₀ X ρ h) (hM : a ∉ M) (m : (x, Bnd.tab a l) ∈ ρ) (hp : Put x (.tabF l) ρ ρ') : Fx g M h₀ env X₀ (X.filter (· != a)) ρ' h := by
  have c := F.cx
  obtain ⟨v0, nv, tb, aX⟩ := F.cx.vars _ _ m
  obtain ⟨t0, d0, hs0, tk0, n0', e0, i1, i2, ls, i4, i5, nt⟩ := id tb
  obtain ⟨vs, il, r⟩ := id ls
  have am : a ∈ ownAddrs ρ := List.mem_filterMap.mpr ⟨(x, .tab a l), m, rfl⟩
  have n0 : h₀.get? a = none := (F.ownM a am).resolve_left hM
  have sub : ∀ b ∈ X.filter (· != a), b ∈ X := fun b q => (List.mem_filter.mp q).1
  have inn : ∀ b ∈ X, b ≠ a → b ∈ X.filter (· != a) := fun b q ne => List.mem_filter.mpr ⟨q, by simpa using ne⟩
  have lsk : ∀ {b l}, LsP h X b l → LsP h (X.filter (· != a)) b l := fun q => by obtain ⟨vs, i, r⟩ := q; exact ⟨vs, i, r.less sub⟩
  have tbk : ∀ {v b l}, TabIs g h X v b l → TabIs g h (X.filter (· != a)) v b l := fun q => by
    obtain ⟨t, d, hs, tk, n, eq, h1, h2, h3, h4, h5, h6⟩ := q
    exact ⟨t, d, hs, tk, n, eq, h1, h2, lsk h3, fun q => h4 (sub _ q), fun q => h5 (sub _ q), h6⟩
  refine ⟨⟨c.kind, c.glob, c.bltn, c.base, fun b q => c.xB b (sub b q), fun b q => c.xIn b (sub b q), fun t q => inn t (c.tX t q) fun w => nt (w ▸ q), c.ns, inn _ c.lX ?_, c.lT, fun y k e => ?_, fun y b mb => ?_, c.ap⟩,
    hp.uniq F.uniq, F.dist.sublist (Put.own_fix (b := .tabF l) trivial hp), F.old, fun b q => inn b (F.x0 b q) fun w => ?_, fun b q => F.xNew b (sub b q), F.lNew, F.cNew, fun b q => F.ownM b ((Put.own_fix (b := .tabF l) trivial hp).subset q), F.tM, F.x0In, F.b0⟩
  · obtain ⟨m', hn⟩ := c.ns; exact (isList_ne_ns il.isList hn).symm
  · obtain ⟨⟨v, ic⟩, cX, cT⟩ := c.cl y k e
    exact ⟨⟨v, ic⟩, inn k cX (isList_ne_cell il.isList ic).symm, cT⟩
  · rcases hp.mem F.uniq y b mb with ⟨rfl, rfl⟩ | ⟨ny, mb⟩
    · exact ⟨v0, nv, a, tbk tb, fun q => by simpa using (List.mem_filter.mp q).2⟩
    · obtain ⟨v, nv', bi⟩ := c.vars y b mb
      refine ⟨v, nv', ?_⟩
      cases b with
      | dat d => exact RdX.less sub bi
      | own b l' =>
        refine ⟨bi.1, lsk bi.2.1, bi.2.2.1, inn b bi.2.2.2 fun q => ?_⟩
        subst q
        exact ny (Prod.mk.inj (own_one F.dist mb m (.inl ⟨_, rfl⟩) (.inr ⟨_, rfl⟩))).1
      | tab b l' =>
        refine ⟨tbk bi.1, inn b bi.2 fun q => ?_⟩
        subst q
        exact ny (Prod.mk.inj (own_one F.dist mb m (.inr ⟨_, rfl⟩) (.inr ⟨_, rfl⟩))).1
      | tabF l' =>
        obtain ⟨b, tb, nb⟩ := bi
        exact ⟨b, tbk tb, fun q => nb (sub _ q)⟩
      | val w => exact bi
  · subst w; have := F.x0In b q; rw [n0] at this; cases this
theorem wss_freezeTab {x : Str} {a : Addr} {l : List PyData} {sts : List Stmt} (m : (x, Bnd.tab a l) ∈ ρ) (hM : a ∉ M) (hp : Put x (.tabF l) ρ ρ') (k : WSs g n M h₀ env X₀ sts ρ' P) : WSs g n M h₀ env X₀ sts ρ P := fun s X F A Q E rm c =>
  k s (X.filter (· != a)) (fx_freezeTab F hM m hp) A Q E rm fun f fl ρ2 X2 h2 tk2 hP F2 ok gw => c f fl ρ2 X2 h2 tk2 hP F2 ok (Gw.trans ⟨fun b q => .inl (List.mem_filter.mp q).1, Pr.refl _ _⟩ gw)
/-- str(x) of a table that is not turned -/
def StrOK (g : G) (m : Nat) (f : Addr) (Pre : List (Str × Str) → Prop) (res : List (Str × Str) → Str) : Prop := ∀ (X : List Addr) (s : Shared) (v : Value) (l : List (Str × Str)), Hp g X s.heap → (∃ a, TabIs g s.heap X v a (l.map lineD) ∧ a ∉ X) → Pre l →
  ∀ (A : Around) (Q E : Value → Shared → Prop), Rm m A → (∀ u h' tk, Pr g.T s.heap h' → RdX h' X u (.str (res l)) → Q u { s with heap := h', toks := tk }) → wpAny g.M A (call (.ref f) [v]) Q E s
theorem ev_strtab {K : Frag} {f : Addr} {Pre : List (Str × Str) → Prop} {res : List (Str × Str) → Str} (hK : K.In g.B) (hs : findIn K (.ref g.C) "__str__" = some (some (.ref f))) (hf : isFn K (.ref f) = true) {m : Nat} (ok : StrOK g m f Pre res) (hm : m + 2 ≤ n) {fs : Str} (hg : Gv g fs (.type "str")) {x : Str} {p xp pos : Pos} {l : List (Str × Str)}
    (mem : (x, Bnd.tabF (l.map lineD)) ∈ ρ) (pre : Pre l) (hk : env.kindOf fs = some .globalImplicit := by rfl) (hd : (fs == ("__debug__" : Str)) = false := by decide) (hd1 : (x == ("__debug__" : Str)) = false := by decide) (hd2 : (x == ("__classdict__" : Str)) = false := by decide) :
    EvP g n env X ρ (.Call (.Name fs p) [.Name x xp] [] pos) (.str (res l)) := fun s c A Q E rm h => by
  obtain ⟨v, a, nv, tb, na⟩ := tabF_at c mem
  obtain ⟨t, d, hs', tk, nn, rfl, I⟩ := tb.inst
  have rm2 : Rm m A.in1.in1 := ((rm.mono (m := m + 1 + 1) hm).in1).in1
  refine Call_ (load_glob c hg hk hd (PyProof.Rows.callWith_type (backTo_any (by rfl)) ?_))
  rw [starEach_plain (by rfl)]
  refine evalArgs_plain (spliced_cons (wpAny_Name (load_name c nv (spliced_nil ?_) hd2) hd1))
  refine kso_call (K := K) (by have := rm2.2.2; omega) (kin_of hK c.base) I hs hf ?_
  refine ok X s (.ref t) l c.hp ⟨a, tb, na⟩ pre A.in1.in1 _ _ rm2 fun u h' tk' p rd => ?_
  obtain ⟨t', rfl⟩ := rd.str_inv
  exact h _ h' tk' p rd
/-- x.get(e) of a table that is turned: what comes back is a text or None -/
def atomD : PyData → Prop
  | .str _ => True
  | .none => True
  | _ => False
theorem rdX_atom {h : Heap} {X Y : List Addr} {v : Value} {d : PyData} (ha : atomD d) (r : RdX h X v d) : RdX h Y v d := by
  cases d <;> first | exact ha.elim | skip
  · cases r.none_inv; exact rdX_none
  · obtain ⟨t, rfl⟩ := r.str_inv; exact rdX_str
theorem ev_getO {K : Frag} {nmeth : Str} {f : Addr} {o : Obj} {fd : FuncData} {Pre : List (Str × Str) → Str → Prop} {res : List (Str × Str) → Str → PyData} (hK : K.In g.B) (im : IsMeth K g.C nmeth f) (ho : g.B.get? f = some o) (hfd : o.data = .func fd) {m : Nat} (ok : GetOK g m f Pre res) (hm : m ≤ n) {x : Str} {xp apos pos : Pos} {e1 : PySem.Expr} {pl : Sem Bool} {a : Addr} {l : List (Str × Str)} {nm : Str}
    (mem : (x, Bnd.tab a (l.map lineD)) ∈ ρ) (ee : EvP g n env X ρ e1 (.str nm)) (pre : Pre l nm) (hat : atomD (res l nm))
    (he : eval (.Call (.Attribute (.Name x xp) nmeth apos) [e1] [] pos) env = (do
      let ov ← eval (.Name x xp) env
      standAt apos.atName
      let (f, first) ← holding [ov] (getMethod ov nmeth pl)
      callWith pos f first (backTo pos (starEach [e1] env)) []) := by rfl) (hn : noStar e1 = true := by rfl) (hd1 : (x == ("__debug__" : Str)) = false := by decide) (hd2 : (x == ("__classdict__" : Str)) = false := by decide) :
    EvP g n env X ρ (.Call (.Attribute (.Name x xp) nmeth apos) [e1] [] pos) (res l nm) := fun s c A Q E rm h => by
  obtain ⟨v, nv, tb, aX⟩ := c.vars _ _ mem
  obtain ⟨m1, m2, m3, m4, m5, m6⟩ := im
  obtain ⟨t, d, hs', tk, nn, rfl, I⟩ := tb.inst
  have nt : a ∉ g.T := by obtain ⟨_, _, _, _, _, _, _, _, _, _, _, q⟩ := id tb; exact q
  have sub : ∀ b ∈ X.filter (· != a), b ∈ X := fun b q => (List.mem_filter.mp q).1
  refine MethodCall_ (wpAny_Name (load_name c nv ?_ hd2) hd1) he
  refine method_fn (kin_of hK c.base) I m1 m2 m3 m4 (shadow_one m6) ?_
  refine callWith_function (o := o) (fd := fd) (args_ok (es := [e1]) (ds := [.str nm]) (by simpa using hn) ⟨ee, trivial⟩ c rm fun us h' tk' p rds => ⟨⟨(c.pr p).base _ _ ho, hfd⟩, ?_⟩)
  obtain ⟨u, rfl, r1⟩ := rds.one
  obtain ⟨t1, rfl⟩ := r1.str_inv
  have tb1 := tb.pr p c.tX
  have hp1 := (c.pr p).hp
  have hp2 : Hp g (X.filter (· != a)) h' := ⟨hp1.base, fun b q => hp1.xB b (sub b q), fun b q => hp1.xIn b (sub b q), fun t q => List.mem_filter.mpr ⟨hp1.tX t q, by simpa using fun w : t = a => nt (w ▸ q)⟩⟩
  refine ok (X.filter (· != a)) { s with heap := h', toks := tk' } (.ref t) l nm t1 hp2 ⟨a, ?_, fun q => by simpa using (List.mem_filter.mp q).2⟩ pre A Q E (rm.mono hm) fun u h2 tk2 p2 rd => h u h2 tk2 (p.trans p2) (rdX_atom hat rd)
  obtain ⟨t', d', hs2, tk2, n2, eq, h1, h2, ⟨vs, i, r⟩, h4, h5, h6⟩ := tb1
  exact ⟨t', d', hs2, tk2, n2, eq, h1, h2, ⟨vs, i, r.less sub⟩, fun q => h4 (sub _ q), fun q => h5 (sub _ q), h6⟩
/-- a method of two texts that turns a table -/
def MutOK (g : G) (m : Nat) (f : Addr) (Pre : List (Str × Str) → Str → Str → Prop) (res : List (Str × Str) → Str → Str → List (Str × Str)) : Prop := ∀ (X : List Addr) (s : Shared) (v : Value) (a : Addr) (l : List (Str × Str)) (nm val : Str) (t1 t2 : Tok), Hp g X s.heap → TabIs g s.heap X v a (l.map lineD) → a ∈ X → Pre l nm val →
  ∀ (A : Around) (Q E : Value → Shared → Prop), Rm m A → (∀ h' tk w, (∀ z, w ≠ Value.ref z) → Pr (a :: g.T) s.heap h' → LsP h' X a ((res l nm val).map lineD) → Q w { s with heap := h', toks := tk }) → wpAny g.M A (call (.ref f) [v, .str nm t1, .str val t2]) Q E s
theorem ws_mut {K : Frag} {nmeth : Str} {f : Addr} {o : Obj} {fd : FuncData} {Pre : List (Str × Str) → Str → Str → Prop} {res : List (Str × Str) → Str → Str → List (Str × Str)} (hK : K.In g.B) (im : IsMeth K g.C nmeth f) (ho : g.B.get? f = some o) (hfd : o.data = .func fd) {m : Nat} (ok : MutOK g m f Pre res) (hm : m ≤ n) {x : Str} {xp apos pos pos' : Pos} {e1 e2 : PySem.Expr} {pl : Sem Bool} {a : Addr} {l : List (Str × Str)} {nm val : Str}
    (mem : (x, Bnd.tab a (l.map lineD)) ∈ ρ) (ee : ∀ X, EvP g n env X ρ e1 (.str nm)) (ee2 : ∀ X, EvP g n env X ρ e2 (.str val)) (pre : Pre l nm val) (hp : Put x (.tab a ((res l nm val).map lineD)) ρ ρ') (k : P .nxt ρ')
    (he : eval (.Call (.Attribute (.Name x xp) nmeth apos) [e1, e2] [] pos) env = (do
      let ov ← eval (.Name x xp) env
      standAt apos.atName
      let (f, first) ← holding [ov] (getMethod ov nmeth pl)
      callWith pos f first (backTo pos (starEach [e1, e2] env)) []) := by rfl) (hn : [e1, e2].all noStar = true := by rfl)
    (hi : interactive env = false := by rfl) (hs : swapsWith (.Call (.Attribute (.Name x xp) nmeth apos) [e1, e2] [] pos) none pos'.line env = pure false := by rfl) (hd1 : (x == ("__debug__" : Str)) = false := by decide) (hd2 : (x == ("__classdict__" : Str)) = false := by decide) :
    WS g n M h₀ env X₀ (.Expr (.Call (.Attribute (.Name x xp) nmeth apos) [e1, e2] [] pos) pos') ρ P := fun s X F A Q E rm c => by
  obtain ⟨v, nv, tb, aX⟩ := F.cx.vars _ _ mem
  obtain ⟨m1, m2, m3, m4, m5, m6⟩ := im
  obtain ⟨t, d, hs', tk, nn, rfl, I⟩ := tb.inst
  refine wpAny_Expr (MethodCall_ (wpAny_Name (load_name F.cx nv ?_ hd2) hd1) he) hi hs
  refine method_fn (kin_of hK F.cx.base) I m1 m2 m3 m4 (shadow_one m6) ?_
  refine callWith_function (o := o) (fd := fd) (args_ok (es := [e1, e2]) (ds := [.str nm, .str val]) hn ⟨ee X, ee2 X, trivial⟩ F.cx rm fun us h' tk' p rds => ⟨⟨(F.pr p).cx.base _ _ ho, hfd⟩, ?_⟩)
  obtain ⟨u, w, rfl, r1, r2⟩ := rds.two
  obtain ⟨t1, rfl⟩ := r1.str_inv
  obtain ⟨t2, rfl⟩ := r2.str_inv
  have F1 := F.pr p
  refine ok X { s with heap := h', toks := tk' } (.ref t) a l nm val t1 t2 F1.cx.hp (tb.pr p F.cx.tX) aX pre A _ _ (rm.mono hm) fun h3 tk3 w3 nr p3 ls => ?_
  obtain ⟨F3, gw3⟩ := fx_tabP F1 mem p3 ls hp
  have fin : Q .next { s with heap := h3, toks := tk3 } := c .nxt .next ρ' X h3 tk3 k F3 rfl ((Gw.of (p.mono F.cx.tX)).trans gw3)
  cases w3 <;> first | exact fin | exact absurd rfl (nr _)
end
end Mine
end
section
open PySem PySem.W PyProof.Rows PySem.Calls PySem.Spec
set_option maxRecDepth 100000
set_option linter.unusedVariables false
namespace Mine
section
variable {g : G} {n : Nat} {M : List Addr} {X : List Addr} {ρ : List (Str × Bnd)} {P : Fl → List (Str × Bnd) → Prop}
theorem call_enterN {f : Addr} {o : Obj} {fd : FuncData} {body : List Stmt} {vs : List Value} {kw : List (Str × Value)} {binds : List (Str × Value)} {s : Shared} {N : Nat} (hN : N ≤ s.toks + binds.length) (hp : Hp g X s.heap) (ho : g.B.get? f = some o) (hdata : o.data = .func fd) (hlim : g.B.NoLimit) (hcd : g.B.CodeRec fd.code fd.qualname)
    (hbody : fd.body = .stmts body) (hbind : BindsTo s fd ⟨vs, kw⟩ binds) (hgl : fd.globals = mainGlobals) (hbl : fd.builtins = builtinsNs) (hclo : fd.closure = []) (hk : fd.scope.kind = .function) (hco : fd.scope.isCoroutine = false) (hgen : fd.scope.isGenerator = false)
    (hcell : ∀ x ∈ fd.scope.names, x.2 ≠ .cell) (hloc : ∀ x ∈ binds, fd.scope.names.lookup x.1 = some .local)
    (hb : ∀ x b, (x, b) ∈ ρ → ∃ v, binds.reverse.lookup x = some v ∧ fd.scope.names.lookup x = some .local ∧ BI g X s.heap v b) (uniq : (ρ.map (·.1)).Nodup) (dist : (ownAddrs ρ).Nodup) (ownM : ∀ a ∈ ownAddrs ρ, a ∈ M) (tM : ∀ t ∈ g.T, t ∈ M)
    {A : Around} {Q : Value → Shared → Prop} {E : Value → Shared → Prop} (rm : Rm (n + 1) A) (body_ok : ∀ L, WSsn N g n M s.heap (callEnv fd L f) X body ρ P)
    (k : ∀ fl ρ' X' h' tk v, N ≤ tk → P fl ρ' → Pr M s.heap h' → Gw X s.heap X' h' → (∀ a ∈ X, a ∈ X') → (match fl with | .ret R => R h' X v | .nxt => v = .none) → Q v { s with heap := h', toks := tk }) : wpAny g.M A (call (.ref f) vs kw) Q E s := by
  refine wpAny_call (codeAny_call_def (Nat.lt_of_le_of_lt (Nat.le_add_right _ _) rm.2.1) (hp.base _ _ ho) hdata (by obtain ⟨mc, q, r⟩ := hlim; exact ⟨mc, q.keeps hp.base, r⟩) (hcd.keeps hp.base) hbody hbind hcell hloc (fun h₁ hns keep => ?_) hco hgen hk)
  generalize hL : s.heap.objs.size = L at hns
  have nL : s.heap.get? L = none := by rw [← hL]; exact get_size _
  have p01 : Pr g.T s.heap h₁ := Pr.of_keeps keep
  let Xc := L :: X
  have growX : ∀ b o, s.heap.get? b = some o → b ∉ X → b ∉ Xc := fun b o e nb m => by
    rcases List.mem_cons.mp m with rfl | m
    · rw [nL] at e; cases e
    · exact nb m
  have subX : ∀ a ∈ X, a ∈ Xc := fun a m => .tail _ m
  have noc : ∀ x, (callEnv fd L f).cells.lookup x = none := fun x => by
    show fd.closure.lookup x = none
    rw [hclo]; rfl
  have F0 : Fx g M s.heap (callEnv fd L f) X Xc ρ h₁ := by
    refine fx_init hp p01 hk hgl hbl ⟨_, hns⟩ nL (fun x a e => by rw [noc] at e; cases e) (fun x y a e e' => by rw [noc] at e; cases e) (fun a m => ?_) subX (.head _) (fun x b m => ?_) uniq dist (fun a m => .inl (ownM a m)) tM
    · rcases List.mem_cons.mp m with rfl | m
      · exact .inr ⟨nL, ns_some hns⟩
      · exact .inl m
    · obtain ⟨v, e, kl, bi⟩ := hb x b m
      exact ⟨v, .inl ⟨kl, _, hns, e⟩, (BI.grow growX subX bi).pr p01 fun t q => subX t (hp.tX t q)⟩
  refine wpAny_with_toks (n := N) hN (body_ok L { s with heap := h₁, toks := s.toks + binds.length } Xc hN F0 (A.deeper (callEnv fd L f)) _ _ rm.deeper fun fl fw ρ' X' h' tk hP F' ok gw => ?_)
  intro hN'
  have gwX : Gw X s.heap X' h' := ⟨fun a m => F'.xNew a m, ?_⟩
  · cases fl with
    | nxt => cases (show fw = .next from ok); exact k .nxt ρ' X' h' tk .none hN' hP F'.old gwX F'.x0 rfl
    | ret R => obtain ⟨v, rfl, r⟩ := ok; exact k (.ret R) ρ' X' h' tk v hN' hP F'.old gwX F'.x0 r
  · refine ⟨fun b o e nb => gw.pr.1 b o (keep b o e) (growX b o e nb), fun b e => F'.old.2 b e⟩
end
section
variable {g : G} {n : Nat} {M : List Addr} {h₀ : Heap} {env : Env} {X₀ X : List Addr} {ρ ρ' : List (Str × Bnd)} {P : Fl → List (Str × Bnd) → Prop} {N : Nat}
theorem wssn_freezeTab {x : Str} {a : Addr} {l : List PyData} {sts : List Stmt} (m : (x, Bnd.tab a l) ∈ ρ) (hM : a ∉ M) (hp : Put x (.tabF l) ρ ρ') (k : WSsn N g n M h₀ env X₀ sts ρ' P) : WSsn N g n M h₀ env X₀ sts ρ P := fun s X hN F A Q E rm c =>
  k s (X.filter (· != a)) hN (fx_freezeTab F hM m hp) A Q E rm fun f fl ρ2 X2 h2 tk2 hP F2 ok gw => c f fl ρ2 X2 h2 tk2 hP F2 ok (Gw.trans ⟨fun b q => .inl (List.mem_filter.mp q).1, Pr.refl _ _⟩ gw)
theorem wssn_weak {sts : List Stmt} (s : ρ'.Sublist ρ) (k : WSsn N g n M h₀ env X₀ sts ρ' P) : WSsn N g n M h₀ env X₀ sts ρ P := fun s' X hN F A Q E rm c => k s' X hN (fx_weak F s) A Q E rm c
end
end Mine
end
section
open PySem PySem.W PyProof.Rows PySem.Calls PySem.Spec
set_option maxRecDepth 100000
set_option linter.unusedVariables false
namespace Mine
section
variable {g : G} {n : Nat} {M : List Addr} {h₀ : Heap} {env : Env} {X₀ X : List Addr} {ρ ρ' : List (Str × Bnd)} {P : Fl → List (Str × Bnd) → Prop} {N : Nat}
/-- d, and the next token is at least N -/
def EvM (N : Nat) (g : G) (n : Nat) (env : Env) (X : List Addr) (ρ : List (Str × Bnd)) (e : PySem.Expr) (d : PyData) : Prop :=
  ∀ s, Cx g env X ρ s.heap → ∀ (A : Around) (Q : Value → Shared → Prop) (E : Value → Shared → Prop), Rm n A →
    (∀ v h' tk, N ≤ tk → Pr g.T s.heap h' → RdX h' X v d → Q v { s with heap := h', toks := tk }) → wpAny g.M A (eval e env) Q E s
def CallM (N : Nat) (g : G) (m : Nat) (f : Addr) (ds : List PyData) (d : PyData) : Prop := ∀ X s vs, Hp g X s.heap → RdsX s.heap X vs ds → ∀ (A : Around) (Q : Value → Shared → Prop) (E : Value → Shared → Prop), Rm m A →
    (∀ v h' tk, N ≤ tk → Pr g.T s.heap h' → RdX h' X v d → Q v { s with heap := h', toks := tk }) → wpAny g.M A (call (.ref f) vs) Q E s
theorem evm_callF {m : Nat} {nm : Str} {p pos : Pos} {es : List PySem.Expr} {f : Addr} {o : Obj} {fd : FuncData} {ds : List PyData} {d : PyData} (hg : Gv g nm (.ref f)) (ho : g.B.get? f = some o) (hfd : o.data = .func fd) (ea : EvS g n env X ρ es ds) (hc : CallM N g m f ds d) (hm : m ≤ n)
    (hk : env.kindOf nm = some .globalImplicit := by rfl) (hd : (nm == ("__debug__" : Str)) = false := by decide) (hn : es.all noStar = true := by rfl) : EvM N g n env X ρ (.Call (.Name nm p) es [] pos) d := fun s c A Q E rm h =>
  Call_ (load_glob c hg hk hd (callWith_function (o := o) (fd := fd) (args_ok hn ea c rm fun vs h' tk p rds => ⟨⟨(c.pr p).base _ _ ho, hfd⟩,
    hc X { s with heap := h', toks := tk } vs (c.pr p).hp rds A Q E (rm.mono hm) fun v h'' tk' hN p' rd => h v h'' tk' hN (p.trans p') rd⟩)))
/-- x, y = e; what comes behind it knows of the tokens -/
theorem wss_unpackM {elts : List PySem.Expr} {j : Nat} {tpos pos : Pos} {value : PySem.Expr} {d : PyData} {rest : List Stmt} (ev : ∀ X, EvM N g n env X ρ value d) (a : AsgOK g n M h₀ env X₀ (.Tuple elts j tpos) d ρ (fun ρ' => WSsn N g n M h₀ env X₀ rest ρ' P))
    (h1 : swapsWithSole [.Tuple elts j tpos] value pos.line env = pure false := by rfl) (h2 : swappedStores [.Tuple elts j tpos] value env = pure none := by rfl) : WSs g n M h₀ env X₀ (.Assign [.Tuple elts j tpos] value pos :: rest) ρ P := fun s X F A Q E rm c =>
  wpAny_execs_cons (Assign_Tuple (ev X s F.cx A _ E rm fun v h' tk hN p rd => wpAny_with_toks (s := { s with heap := h', toks := tk }) hN (a { s with heap := h', toks := tk } X v (F.pr p) rd A _ _ rm fun ρ' h2 tk2 k F2 p2 => fun hN2 =>
    k { s with heap := h2, toks := tk2 } X hN2 F2 A Q E rm fun f fl ρ3 X3 h3 tk3 hp3 F3 ok3 gw3 => c f fl ρ3 X3 h3 tk3 hp3 F3 ok3 ((Gw.of ((p.mono F.cx.tX).trans (p2.pr F.cx))).trans gw3))) h1 h2)
/-- x = ['..', '..', '..'][k]: the text with its token -/
theorem wssn_pick {x : Str} {xp lp sp pos p0 p1 p2 : Pos} {k0 k1 k2 : Nat} {y0 y1 y2 y : Str} {ix : PySem.Expr} {k : Nat} {rest : List Stmt} (hN1 : 1 ≤ N) (hy : [y0, y1, y2][k]? = some y) (ei : ∀ X, EvP g n env X ρ ix (.int (k : Int))) (hk : Storable env x)
    (cont : ∀ te, te ≠ 0 → ∃ ρ', Put x (.val (.str y te)) ρ ρ' ∧ WSsn (te + 1) g n M h₀ env X₀ rest ρ' P) (hpl : plainIx ix = true := by rfl)
    (hs : swapsWith (.Subscript (.List [.Constant (.str y0) k0 p0, .Constant (.str y1) k1 p1, .Constant (.str y2) k2 p2] lp) ix sp) (some (.Name x xp)) pos.line env = pure false := by rfl) :
    WSsn N g n M h₀ env X₀ (.Assign [.Name x xp] (.Subscript (.List [.Constant (.str y0) k0 p0, .Constant (.str y1) k1 p1, .Constant (.str y2) k2 p2] lp) ix sp) pos :: rest) ρ P := fun s X hN F A Q E rm c => by
  refine wpAny_execs_cons (wpAny_Assign_Name (Subscript_ (List_ ?_)) hs)
  rw [starEach_plain (e := .Constant (.str y0) k0 p0) rfl, starEach_plain (e := .Constant (.str y1) k1 p1) rfl, starEach_plain (e := .Constant (.str y2) k2 p2) rfl]
  refine spliced_cons (wpAny_Constant_str (k := k0) (pos := p0) (spliced_cons (wpAny_Constant_str (k := k1) (pos := p1) (spliced_cons (wpAny_Constant_str (k := k2) (pos := p2) (spliced_nil ?_))))))
  refine wpAny_newObj_type ?_ (by show 3 ≤ sizeLine; rw [sizeLine_eq]; decide)
  have h0 : 1 ≤ s.toks := Nat.le_trans hN1 hN
  have pp : Pr g.T s.heap (s.heap.push { cls := .type "list", data := .seq ([.str y0 s.toks, .str y1 (s.toks + 1), .str y2 (s.toks + 1 + 1)] : List Value).toArray }) := Pr.push _ _ _
  have il : (s.heap.push { cls := .type "list", data := .seq ([.str y0 s.toks, .str y1 (s.toks + 1), .str y2 (s.toks + 1 + 1)] : List Value).toArray }).get? s.heap.objs.size = some { cls := .type "list", data := .seq ([.str y0 s.toks, .str y1 (s.toks + 1), .str y2 (s.toks + 1 + 1)] : List Value).toArray } := Heap.get?_push_size _ rfl
  have aT : s.heap.objs.size ∉ g.T := fun m => by have := F.cx.xIn _ (F.cx.tX _ m); rw [get_size] at this; cases this
  show wpAny g.M A _ _ _ { s with heap := s.heap.push { cls := .type "list", data := .seq ([.str y0 s.toks, .str y1 (s.toks + 1), .str y2 (s.toks + 1 + 1)] : List Value).toArray }, toks := s.toks + 1 + 1 + 1 }
  generalize s.heap.push { cls := .type "list", data := .seq ([.str y0 s.toks, .str y1 (s.toks + 1), .str y2 (s.toks + 1 + 1)] : List Value).toArray } = h1 at pp il
  have hk3 : k < 3 := by
    by_cases q : k < 3
    · exact q
    · rw [List.getElem?_eq_none (by simp; omega)] at hy; cases hy
  obtain ⟨te, e1, e2, e3⟩ : ∃ te, ([.str y0 s.toks, .str y1 (s.toks + 1), .str y2 (s.toks + 1 + 1)] : List Value)[k]? = some (.str y te) ∧ te ≠ 0 ∧ te + 1 ≤ s.toks + 1 + 1 + 1 := by
    have : k = 0 ∨ k = 1 ∨ k = 2 := by omega
    rcases this with rfl | rfl | rfl <;> (cases hy; refine ⟨_, rfl, ?_, ?_⟩)
    · exact Nat.ne_of_gt h0
    · exact Nat.le_add_right (s.toks + 1) 2
    · exact Nat.succ_ne_zero _
    · exact Nat.le_add_right (s.toks + 1 + 1) 1
    · exact Nat.succ_ne_zero _
    · exact Nat.le_refl _
  obtain ⟨ρ', hput, hrest⟩ := cont te e2
  refine wpAny_with_toks (n := te + 1) e3 (ei X { s with heap := h1, toks := s.toks + 1 + 1 + 1 } (F.cx.pr pp) A _ _ rm fun v' h'' tk' p' rd => fun hN2 => ?_)
  obtain ⟨u, rfl⟩ := rd.int_inv
  have il2 := p'.1 _ _ il aT
  have il' : h''.IsList s.heap.objs.size ([.str y0 s.toks, .str y1 (s.toks + 1), .str y2 (s.toks + 1 + 1)] : List Value).toArray := ⟨_, il2, rfl, _, rfl⟩
  refine tail_any (Heap.IsList.typeIs (s := { s with heap := h'', toks := tk' }) il') slot_list_getitem.lookup (wpAny_getItem_list (x := .str y te) il' (by omega) (by omega) ?_ ?_) (subscripted_plain hpl)
  · rw [Int.toNat_natCast]; simpa using e1
  · have F2 := F.pr (pp.trans p')
    refine wpAny_with_toks (s := { s with heap := h'', toks := tk' }) hN2 (fx_store (b := .val (.str y te)) (s := { s with heap := h'', toks := tk' }) F2 hk rfl hput (F.dist.sublist (own_val hput)) (fun a m => F.ownM a ((own_val hput).subset m)) fun h3 tk3 F3 p3 => fun hN3 => ?_)
    exact hrest { s with heap := h3, toks := tk3 } X hN3 F3 A Q E rm fun f fl ρ4 X4 h4 tk4 hp4 F4 ok4 gw4 => c f fl ρ4 X4 h4 tk4 hp4 F4 ok4 ((Gw.of (((pp.trans p').mono F.cx.tX).trans (p3.pr F.cx))).trans gw4)
end
end Mine
end
section
open PySem PySem.W PyProof.Rows PySem.Calls PySem.Spec
set_option maxRecDepth 100000
set_option linter.unusedVariables false
namespace Mine
section
variable {g : G} {n : Nat} {M : List Addr} {h₀ : Heap} {env : Env} {X₀ X : List Addr} {ρ ρ' : List (Str × Bnd)} {P : Fl → List (Str × Bnd) → Prop} {N : Nat}
/-- a def's call: data, and a text with its token -/
def CallV (N : Nat) (g : G) (m : Nat) (f : Addr) (d0 : PyData) (e : Str) (te : Tok) (d : PyData) : Prop := ∀ (X : List Addr) (s : Shared) (v : Value), N ≤ s.toks → Hp g X s.heap → RdX s.heap X v d0 →
  ∀ (A : Around) (Q E : Value → Shared → Prop), Rm m A → (∀ u h' tk, Pr g.T s.heap h' → RdX h' X u d → Q u { s with heap := h', toks := tk }) → wpAny g.M A (call (.ref f) [v, .str e te]) Q E s
theorem evn_callV {m : Nat} {nm x1 x2 : Str} {p q1 q2 pos : Pos} {f : Addr} {o : Obj} {fd : FuncData} {d0 d : PyData} {e : Str} {te : Tok} (hg : Gv g nm (.ref f)) (ho : g.B.get? f = some o) (hfd : o.data = .func fd) (m1 : (x1, Bnd.dat d0) ∈ ρ) (m2 : (x2, Bnd.val (.str e te)) ∈ ρ) (hc : CallV N g m f d0 e te d) (hm : m ≤ n)
    (hk : env.kindOf nm = some .globalImplicit := by rfl) (hd : (nm == ("__debug__" : Str)) = false := by decide) (a1 : (x1 == ("__debug__" : Str)) = false := by decide) (a2 : (x1 == ("__classdict__" : Str)) = false := by decide) (b1 : (x2 == ("__debug__" : Str)) = false := by decide) (b2 : (x2 == ("__classdict__" : Str)) = false := by decide) :
    EvN N g n env X ρ (.Call (.Name nm p) [.Name x1 q1, .Name x2 q2] [] pos) d := fun s hN c A Q E rm h => by
  obtain ⟨v1, n1, r1⟩ := c.vars _ _ m1
  obtain ⟨v2, n2, r2⟩ := c.vars _ _ m2
  cases (show v2 = .str e te from r2)
  refine Call_ (load_glob c hg hk hd (callWith_function (o := o) (fd := fd) ?_))
  rw [starEach_plain (by rfl), starEach_plain (by rfl)]
  refine evalArgs_plain (spliced_cons (wpAny_Name (load_name c n1 (spliced_cons (wpAny_Name (load_name c n2 (spliced_nil ⟨⟨c.base _ _ ho, hfd⟩, ?_⟩) b2) b1)) a2) a1))
  exact hc X s v1 hN c.hp r1 A Q E (rm.mono hm) h
end
end Mine
end
section
open PySem PySem.W PyProof.Rows PySem.Calls PySem.Spec PySem.Builtin PySem.Builtin.Str
set_option maxRecDepth 100000
set_option linter.unusedVariables false
set_option Elab.async false
namespace Mine
/-- the first place at lo or behind it -/
theorem occ_from (x y : Str) (lo hi : Nat) :
    (occurrences x y lo hi 1 = [] ∧ ∀ i, lo ≤ i → ¬ StrLaws.At x y hi i) ∨
    ∃ i r, occurrences x y lo hi 1 = i :: r ∧ lo ≤ i ∧ StrLaws.At x y hi i ∧ ∀ k, lo ≤ k → k < i → ¬ StrLaws.At x y hi k := by
  have inside : ∀ {i}, i ∈ List.range' lo (hi + 1 - lo) ↔ lo ≤ i ∧ i < lo + (hi + 1 - lo) := List.mem_range'_1
  have key := StrLaws.occ_first x y hi 1 (Nat.le_refl _) _ lo fun i m => (inside.mp m).1
  rw [StrLaws.occ_eq]
  generalize (forIn (List.range' lo (hi + 1 - lo)) ((#[] : Array Nat), lo) (StrLaws.occBody x y hi 1)).run.fst = arr at key ⊢
  cases key with
  | inl k =>
    exact .inl ⟨by rw [k.1], fun i hlo hat => k.2 i (inside.mpr ⟨hlo, by have := hat.1; omega⟩) hat⟩
  | inr k =>
    obtain ⟨pre, a, post, e, h0, hat, hn⟩ := k
    obtain ⟨hla, hpre⟩ := StrLaws.range'_split_from e
    obtain ⟨⟨arr⟩⟩ := arr
    · cases h0
    · rename_i b t
      have hb : b = a := by simpa using h0
      exact .inr ⟨a, t, by rw [hb], hla, hat, fun k hk hka => hn k (hpre k hk hka)⟩
/-- w stands in K at i -/
def AtL (K w : List Nat) (i : Nat) : Prop := ∃ a r, K = a ++ (w ++ r) ∧ a.length = i
theorem atL_iff {x y : Str} {e i : Nat} (he : e ≤ x.length) : StrLaws.At x y e i ↔ AtL (x.cps.toList.take e) y.cps.toList i := by
  have hl : x.cps.toList.length = x.length := by simp [Str.length]
  have hy : y.cps.toList.length = y.length := by simp [Str.length]
  unfold StrLaws.At AtL
  rw [StrLaws.subAt_eq, beq_iff_eq]
  generalize x.cps.toList = L at hl
  rw [← hy]
  generalize y.cps.toList = w
  constructor
  · rintro ⟨h1, h2⟩
    refine ⟨(L.take e).take i, ((L.take e).drop i).drop w.length, ?_, by simp; omega⟩
    have h3 : ((L.take e).drop i).take w.length = w := by
      rw [List.drop_take, List.take_take, Nat.min_eq_left (by omega)]; exact h2
    have h4 : w ++ ((L.take e).drop i).drop w.length = (L.take e).drop i := by
      have := List.take_append_drop w.length ((L.take e).drop i)
      rwa [h3] at this
    rw [h4, List.take_append_drop]
  · rintro ⟨a, r, h1, rfl⟩
    have h2 : (L.take e).length = e := by simp; omega
    have h3 := congrArg List.length h1
    rw [h2] at h3
    simp at h3
    refine ⟨by omega, ?_⟩
    have h4 : L = a ++ (w ++ (r ++ L.drop e)) := by
      have := List.take_append_drop e L
      rw [h1] at this
      exact this.symm.trans (by simp)
    have h5 : L.drop a.length = w ++ (r ++ L.drop e) := by
      conv => lhs; rw [h4]
      simp
    rw [h5]; simp
/-- the words stand in l, one behind the other -/
def Place : List (List Nat) → List Nat → Prop
  | [], _ => True
  | w :: ws, l => ∃ a r, l = a ++ (w ++ r) ∧ Place ws r
theorem place_ext {x : List Nat} : ∀ {ws : List (List Nat)} {r : List Nat}, Place ws r → Place ws (x ++ r)
  | [], _, _ => trivial
  | w :: ws, _, ⟨a, r', e, h⟩ => ⟨x ++ a, r', by rw [e]; simp, h⟩
theorem place_mono {K : List Nat} {i j : Nat} {ws : List (List Nat)} (hij : i ≤ j) (h : Place ws (K.drop j)) : Place ws (K.drop i) := by
  have : K.drop i = (K.drop i).take (j - i) ++ K.drop j := by
    have := List.take_append_drop (j - i) (K.drop i)
    rw [List.drop_drop, show i + (j - i) = j by omega] at this
    exact this.symm
  rw [this]; exact place_ext h
theorem place_cons {K w : List Nat} {ws : List (List Nat)} {s : Nat} (hs : s ≤ K.length) : Place (w :: ws) (K.drop s) ↔ ∃ i, s ≤ i ∧ AtL K w i ∧ Place ws (K.drop (i + w.length)) := by
  constructor
  · rintro ⟨a, r, e, h⟩
    have h1 : K = (K.take s ++ a) ++ (w ++ r) := by
      have := List.take_append_drop s K
      rw [e] at this
      exact this.symm.trans (by simp)
    refine ⟨s + a.length, Nat.le_add_right _ _, ⟨K.take s ++ a, r, h1, by simp; omega⟩, ?_⟩
    have h2 : K.drop (s + a.length + w.length) = r := by
      rw [Nat.add_assoc, ← List.drop_drop, e, ← List.drop_drop]; simp
    rw [h2]; exact h
  · rintro ⟨i, hi, ⟨a, r, e, rfl⟩, h⟩
    have h2 : K.drop (a.length + w.length) = r := by rw [e, ← List.drop_drop]; simp
    rw [h2] at h
    refine ⟨a.drop s, r, ?_, h⟩
    rw [e, List.drop_append_of_le_length hi]
theorem place_front {ws : List (List Nat)} {l : List Nat} : Place ([] :: ws) l ↔ Place ws l :=
  ⟨fun ⟨a, r, e, h⟩ => by rw [e]; exact place_ext h, fun h => ⟨[], l, rfl, h⟩⟩
theorem place_back : ∀ {ws : List (List Nat)} {l : List Nat}, Place (ws ++ [[]]) l ↔ Place ws l
  | [], l => ⟨fun _ => trivial, fun _ => ⟨l, [], by simp, trivial⟩⟩
  | w :: ws, l => ⟨fun ⟨a, r, e, h⟩ => ⟨a, r, e, place_back.mp h⟩, fun ⟨a, r, e, h⟩ => ⟨a, r, e, place_back.mpr h⟩⟩
theorem from_nat {n i : Nat} (h : i ≤ n) : fromIndex n (i : Int) = i := by
  unfold fromIndex
  split <;> (try split) <;> omega
theorem find_place {got : Str} {e : Nat} (he : e ≤ got.length) : ∀ {ws : List Str} {s : Nat}, s ≤ e → (ellFind got (e : Int) (s : Int) ws = true ↔ Place (ws.map (·.cps.toList)) ((got.cps.toList.take e).drop s))
  | [], s, _ => by simp [ellFind, Place]
  | w :: ws, s, hs => by
    have hl : (got.cps.toList.take e).length = e := by
      have : got.cps.toList.length = got.length := by simp [Str.length]
      rw [List.length_take, this]; omega
    have hw : w.cps.toList.length = w.length := by simp [Str.length]
    rw [List.map_cons, place_cons (by omega)]
    have hf : find4 got w (s : Int) (e : Int) = match occurrences got w s e 1 with | k :: _ => (k : Int) | [] => -1 := by
      unfold find4
      rw [from_nat (by omega), from_nat (by omega), Nat.min_eq_left he] <;> rfl
    rcases occ_from got w s e with ⟨h0, hn⟩ | ⟨i, r, h0, hi, ha, hn⟩
    · have hf : find4 got w (s : Int) (e : Int) = -1 := by rw [hf, h0]
      unfold ellFind
      rw [hf, if_pos (by decide)]
      refine ⟨fun q => (Bool.false_ne_true q).elim, fun ⟨i, hi, a, _⟩ => absurd ((atL_iff he).mpr a) (hn i hi)⟩
    · have hf : find4 got w (s : Int) (e : Int) = (i : Int) := by rw [hf, h0]
      unfold ellFind
      rw [hf, if_neg (by omega)]
      have hie : i + w.length ≤ e := ha.1
      have := find_place he (ws := ws) (s := i + w.length) hie
      rw [show ((i : Int) + (w.length : Int)) = ((i + w.length : Nat) : Int) by simp, this]
      constructor
      · intro h
        exact ⟨i, hi, (atL_iff he).mp ha, by rw [hw]; exact h⟩
      · rintro ⟨j, hj, aj, h⟩
        have hij : i ≤ j := by
          rcases Nat.lt_or_ge j i with q | q
          · exact absurd ((atL_iff he).mpr aj) (hn j hj q)
          · exact q
        rw [hw] at h
        exact place_mono (by omega) h
/-! the words of a pattern: a text that begins, the texts that stand between gaps, a text that ends -/
theorem lens (x : Str) : x.cps.toList.length = x.length := by simp [Str.length]
theorem starts_iff (x y : Str) : Txt.startswith x y = true ↔ ∃ r, x.cps.toList = y.cps.toList ++ r := by
  have := atL_iff (x := x) (y := y) (i := 0) (Nat.le_refl _)
  unfold StrLaws.At at this
  rw [← lens x, List.take_length] at this
  have e : Txt.startswith x y = true ↔ 0 + y.length ≤ x.cps.toList.length ∧ subAt x y 0 = true := by
    unfold Txt.startswith; rw [lens]; simp
  rw [e, this]
  constructor
  · rintro ⟨a, r, e, h⟩
    have : a = [] := List.length_eq_zero_iff.mp h
    subst this
    exact ⟨r, e⟩
  · rintro ⟨r, e⟩
    exact ⟨[], r, e, rfl⟩
theorem ends_iff (x y : Str) : Txt.endswith x y = true ↔ ∃ a, x.cps.toList = a ++ y.cps.toList := by
  by_cases hle : y.length ≤ x.length
  · have := atL_iff (x := x) (y := y) (i := x.length - y.length) (Nat.le_refl _)
    unfold StrLaws.At at this
    rw [← lens x, List.take_length, lens x] at this
    have e : Txt.endswith x y = true ↔ x.length - y.length + y.length ≤ x.length ∧ subAt x y (x.length - y.length) = true := by
      unfold Txt.endswith; simp; omega
    rw [e, this]
    constructor
    · rintro ⟨a, r, e, h⟩
      have h2 := congrArg List.length e
      rw [List.length_append, List.length_append, lens, lens] at h2
      have : r = [] := List.length_eq_zero_iff.mp (by omega)
      subst this
      exact ⟨a, by rw [e, List.append_nil]⟩
    · rintro ⟨a, e⟩
      have h2 := congrArg List.length e
      rw [List.length_append, lens, lens] at h2
      exact ⟨a, [], by rw [e, List.append_nil], by omega⟩
  · constructor
    · intro h
      unfold Txt.endswith at h
      simp at h
      omega
    · rintro ⟨a, e⟩
      have h2 := congrArg List.length e
      rw [List.length_append, lens, lens] at h2
      omega
/-- the text from sp to ep is nothing but gaps and the words -/
theorem tail_place {got : Str} {sp ep : Nat} (he : ep ≤ got.length) (ws : List Str) : ellTail got (sp : Int) (ep : Int) ws = true ↔ sp ≤ ep ∧ Place (ws.map (·.cps.toList)) ((got.cps.toList.take ep).drop sp) := by
  unfold ellTail
  by_cases h : ep < sp
  · rw [if_pos (by omega)]
    exact ⟨fun q => (Bool.false_ne_true q).elim, fun q => absurd q.1 (by omega)⟩
  · rw [if_neg (by omega), find_place he (by omega)]
    exact ⟨fun q => ⟨by omega, q⟩, fun q => q.2⟩
theorem last_place {got : Str} {sp : Nat} (ms : List Str) (wk : Str) (hs : sp ≤ got.length) : ellLast got (sp : Int) (ms ++ [wk]) = true ↔ ∃ mid, got.cps.toList.drop sp = mid ++ wk.cps.toList ∧ Place (ms.map (·.cps.toList)) mid := by
  have hlast : (ms ++ [wk]).getLastD "" = wk := by simp
  unfold ellLast
  rw [hlast]
  by_cases h0 : wk.length = 0
  · have hnil : wk.cps.toList = [] := List.length_eq_zero_iff.mp (by rw [lens]; exact h0)
    rw [if_pos h0, tail_place (Nat.le_refl _), List.map_append, List.map_cons, List.map_nil, hnil, place_back]
    have e : got.cps.toList.take got.length = got.cps.toList := by rw [← lens, List.take_length]
    rw [e]
    exact ⟨fun q => ⟨_, by rw [List.append_nil], q.2⟩, fun ⟨mid, e, h⟩ => ⟨hs, by rw [e, List.append_nil]; exact h⟩⟩
  · rw [if_neg h0]
    by_cases he : Txt.endswith got wk = true
    · rw [if_pos he, List.dropLast_concat]
      obtain ⟨a, ea⟩ := (ends_iff _ _).mp he
      have h2 := congrArg List.length ea
      rw [List.length_append, lens, lens] at h2
      rw [show ((got.length : Int) - (wk.length : Int)) = ((got.length - wk.length : Nat) : Int) by omega, tail_place (by omega)]
      have e1 : got.cps.toList.take (got.length - wk.length) = a := by
        rw [ea, show got.length - wk.length = a.length by omega]; simp
      rw [e1]
      constructor
      · rintro ⟨h3, h4⟩
        refine ⟨a.drop sp, ?_, h4⟩
        rw [ea, List.drop_append_of_le_length (by omega)]
      · rintro ⟨mid, e3, h4⟩
        have h5 := congrArg List.length e3
        rw [List.length_drop, List.length_append, lens, lens] at h5
        refine ⟨by omega, ?_⟩
        rw [ea, List.drop_append_of_le_length (by omega)] at e3
        have : a.drop sp = mid := List.append_cancel_right e3
        rw [this]; exact h4
    · rw [if_neg he]
      refine ⟨fun q => (Bool.false_ne_true q).elim, fun ⟨mid, e, h⟩ => absurd ((ends_iff _ _).mpr ⟨got.cps.toList.take sp ++ mid, ?_⟩) he⟩
      have := List.take_append_drop sp got.cps.toList
      rw [e] at this
      exact this.symm.trans (by simp)
theorem ell_words {want got : Str} {w0 : Str} {ms : List Str} {wk : Str} (hm : (occurrences want "..." 0 want.length 1).isEmpty = false) (hs : Txt.split want "..." = w0 :: (ms ++ [wk])) :
    ell want got = true ↔ ∃ mid, got.cps.toList = w0.cps.toList ++ (mid ++ wk.cps.toList) ∧ Place (ms.map (·.cps.toList)) mid := by
  unfold ell
  rw [if_neg (by rw [hm]; decide), hs]
  show (if w0.length = 0 then ellLast got 0 (w0 :: (ms ++ [wk])) else if Txt.startswith got w0 then ellLast got w0.length (ms ++ [wk]) else false) = true ↔ _
  by_cases h0 : w0.length = 0
  · have hnil : w0.cps.toList = [] := List.length_eq_zero_iff.mp (by rw [lens]; exact h0)
    rw [if_pos h0]
    have := last_place (got := got) (sp := 0) (w0 :: ms) wk (Nat.zero_le _)
    rw [show ((0 : Nat) : Int) = 0 from rfl] at this
    rw [show w0 :: (ms ++ [wk]) = (w0 :: ms) ++ [wk] from rfl, this, hnil, List.map_cons, hnil]
    simp only [List.drop_zero, List.nil_append, place_front]
  · rw [if_neg h0]
    by_cases he : Txt.startswith got w0 = true
    · rw [if_pos he]
      obtain ⟨r, er⟩ := (starts_iff _ _).mp he
      have h2 := congrArg List.length er
      rw [List.length_append, lens, lens] at h2
      rw [last_place ms wk (by omega)]
      have e1 : got.cps.toList.drop w0.length = r := by rw [er, ← lens]; simp
      rw [e1, er]
      exact ⟨fun ⟨mid, e, h⟩ => ⟨mid, by rw [e], h⟩, fun ⟨mid, e, h⟩ => ⟨mid, List.append_cancel_left e, h⟩⟩
    · rw [if_neg he]
      exact ⟨fun q => (Bool.false_ne_true q).elim, fun ⟨mid, e, _⟩ => absurd ((starts_iff _ _).mpr ⟨_, e⟩) he⟩
/-! the pattern, sign by sign: none is a gap -/
def toks : List Nat → List (Option Nat)
  | 46 :: 46 :: 46 :: r => none :: toks r
  | c :: r => some c :: toks r
  | [] => []
def M : List (Option Nat) → List Nat → Prop
  | [], g => g = []
  | some c :: p, g => ∃ r, g = c :: r ∧ M p r
  | none :: p, g => ∃ x r, g = x ++ r ∧ M p r
theorem m_word {p : List (Option Nat)} : ∀ {w g : List Nat}, M (w.map some ++ p) g ↔ ∃ r, g = w ++ r ∧ M p r
  | [], g => ⟨fun h => ⟨g, rfl, h⟩, fun ⟨r, e, h⟩ => by rw [e]; exact h⟩
  | c :: w, g => by
    constructor
    · rintro ⟨r, e, h⟩
      obtain ⟨r', e', h'⟩ := m_word.mp h
      exact ⟨r', by rw [e, e']; rfl, h'⟩
    · rintro ⟨r, e, h⟩
      exact ⟨w ++ r, e, m_word.mpr ⟨r, rfl, h⟩⟩
theorem m_gaps : ∀ {ms : List (List Nat)} {wk g : List Nat}, M ((ms ++ [wk]).flatMap fun w => none :: w.map some) g ↔ ∃ mid, g = mid ++ wk ∧ Place ms mid
  | [], wk, g => by
    show M (none :: (wk.map some ++ [])) g ↔ _
    constructor
    · rintro ⟨x, r, e, h⟩
      obtain ⟨r', e', h'⟩ := m_word.mp h
      have : r' = [] := h'
      subst this
      exact ⟨x, by rw [e, e', List.append_nil], trivial⟩
    · rintro ⟨mid, e, _⟩
      exact ⟨mid, wk, e, m_word.mpr ⟨[], by simp, rfl⟩⟩
  | m :: ms, wk, g => by
    show M (none :: (m.map some ++ (ms ++ [wk]).flatMap fun w => none :: w.map some)) g ↔ _
    constructor
    · rintro ⟨x, r, e, h⟩
      obtain ⟨r', e', h'⟩ := m_word.mp h
      obtain ⟨mid, e2, h2⟩ := m_gaps.mp h'
      exact ⟨x ++ (m ++ mid), by rw [e, e', e2]; simp, x, mid, rfl, h2⟩
    · rintro ⟨mid, e, a, r, e2, h⟩
      exact ⟨a, m ++ (r ++ wk), by rw [e, e2]; simp, m_word.mpr ⟨_, rfl, m_gaps.mpr ⟨r, rfl, h⟩⟩⟩
theorem toks_split : ∀ (n : Nat) (l : List Nat), l.length ≤ n → ∃ w ws, splitS [46, 46, 46] 0 l = w :: ws ∧ toks l = w.map some ++ ws.flatMap fun w => none :: w.map some
  | _, [], _ => ⟨[], [], rfl, rfl⟩
  | 0, _ :: _, h => by simp at h
  | n + 1, c :: r, h => by
    have hr : r.length ≤ n := by simpa using h
    by_cases hp : List.isPrefixOf [46, 46, 46] (c :: r) = true
    · obtain ⟨t, ht⟩ := List.isPrefixOf_iff_prefix.mp hp
      cases r with
      | nil => simp at ht
      | cons c2 r =>
        cases r with
        | nil => simp at ht
        | cons c3 r =>
          simp at ht
          obtain ⟨rfl, rfl, rfl, rfl⟩ := ht
          obtain ⟨w, ws, e1, e2⟩ := toks_split n t (by simp at hr; omega)
          refine ⟨[], w :: ws, ?_, ?_⟩
          · show (if List.isPrefixOf [46, 46, 46] (46 :: 46 :: 46 :: t) = true then [] :: splitS [46, 46, 46] 2 (46 :: 46 :: t) else _) = _
            rw [if_pos hp]
            show [] :: splitS [46, 46, 46] 0 t = _
            rw [e1]
          · show toks (46 :: 46 :: 46 :: t) = _
            rw [toks, e2]
            rfl
    · obtain ⟨w, ws, e1, e2⟩ := toks_split n r hr
      refine ⟨c :: w, ws, ?_, ?_⟩
      · show (if List.isPrefixOf [46, 46, 46] (c :: r) = true then _ else _) = _
        rw [if_neg hp, e1]
      · have : toks (c :: r) = some c :: toks r := by
          rw [toks]
          intro r' e1' e2'
          subst e1'; subst e2'
          exact hp (by simp [List.isPrefixOf])
        rw [this, e2]; rfl
theorem occ_split {x : Str} : (occurrences x "..." 0 x.length 1).isEmpty = true → Txt.split x "..." = [x] := by
  intro h
  unfold Txt.split
  split
  · rfl
  · split
    · rfl
    · rename_i h1 h2
      exfalso
      apply h2
      rcases StrLaws.occ_head x "..." 1 (Nat.le_refl _) with ⟨_, n⟩ | ⟨i, r, e, _⟩
      · rcases StrLaws.occ_head x "..." (x.length + 1) (by omega) with ⟨e, _⟩ | ⟨j, r, _, a, _⟩
        · rw [e]; rfl
        · exact absurd a (n j)
      · rw [e] at h; cases h
theorem ell_toks (want got : List Nat) : ell (mkS want) (mkS got) = true ↔ M (toks want) got := by
  have hd : ("..." : Str).cps.toList = [46, 46, 46] := by decide +kernel
  have hsp := split_lists (mkS want) "..." (by decide +kernel) (by decide +kernel)
  rw [hd, mkS_list] at hsp
  obtain ⟨w, ws, e1, e2⟩ := toks_split want.length want (Nat.le_refl _)
  rw [e1] at hsp
  cases hm : (occurrences (mkS want) "..." 0 (mkS want).length 1).isEmpty with
  | true =>
    rw [occ_split hm] at hsp
    simp only [List.map_cons, List.map_nil, mkS_list] at hsp
    cases hsp
    rw [e2]
    unfold ell
    rw [if_pos hm, beq_iff_eq, m_word]
    constructor
    · intro h
      have : want = got := by simpa [mkS] using congrArg (fun x : Str => x.cps.toList) h
      exact ⟨[], by rw [this, List.append_nil], rfl⟩
    · rintro ⟨r, e, h⟩
      have : r = [] := h
      rw [e, this, List.append_nil]
  | false =>
    have h2 := split_two (y := "...") hm (by decide +kernel)
    cases hs : Txt.split (mkS want) "..." with
    | nil => rw [hs] at h2; simp at h2
    | cons w0 rest =>
      rw [hs] at hsp h2
      have hne : rest ≠ [] := by intro q; subst q; simp at h2
      have hrest : rest = rest.dropLast ++ [rest.getLast hne] := (List.dropLast_concat_getLast hne).symm
      generalize rest.dropLast = ms at hrest
      generalize rest.getLast hne = wk at hrest
      subst hrest
      rw [ell_words hm hs, mkS_list]
      simp only [List.map_cons, List.map_append, List.map_nil] at hsp
      obtain ⟨rfl, rfl⟩ := List.cons.inj hsp
      rw [e2, m_word]
      exact ⟨fun ⟨mid, e, h⟩ => ⟨_, e, m_gaps.mpr ⟨mid, rfl, h⟩⟩, fun ⟨r, e, h⟩ => by obtain ⟨mid, e3, h3⟩ := m_gaps.mp h; exact ⟨mid, by rw [e, e3], h3⟩⟩
end Mine
end
section
open PySem PySem.W PyProof.Rows PySem.Calls PySem.Spec
set_option maxRecDepth 100000
set_option linter.unusedVariables false
set_option Elab.async false
set_option maxHeartbeats 4000000
namespace Mine
local macro_rules | `(tactic| walk_at "mem") => `(tactic| first | exact List.Mem.head _ | (apply List.Mem.tail; walk_at "mem"))
local macro_rules | `(tactic| walk_at "put") => `(tactic| first | exact Put.nil | exact Put.here | (apply Put.there; all_goals (first | (decide; done) | walk_at "put")))
local macro_rules | `(tactic| walk_at "puts") => `(tactic| first | exact Puts.nil | (apply Puts.cons; all_goals (first | walk_at "put" | walk_at "puts")))
local macro_rules | `(tactic| walk_at "nm") => `(tactic| (refine ev_name ?_; walk_at "mem"))
section
variable {g : G} {P : Params} (b : Bs g (hd2.heap_39 P))
include b
theorem g2_len : Gv g "len" (.builtin "len") := gv_blt b (by rfl) (by decide +kernel) (by decide)
theorem g2_range : Gv g "range" (.type "range") := gv_blt b (by rfl) (by decide +kernel) (by decide)
theorem g2_mark : ∃ t, Gv g "ELLIPSIS_MARKER" (.str "..." t) := ⟨_, gv_glob b (by rfl)⟩

set_option pp.maxSteps 3000
set_option pp.deepTerms false
set_option pp.deepTerms.threshold 5
theorem ell2_call (want got : Str) (hw : want.length ≤ 100000) (hg : got.length ≤ 100000) : CallOK g 3 45 [.str want, .str got] (.bool (ell want got)) := by
  obtain ⟨tm, gm⟩ := g2_mark b
  have gl := g2_len b
  refine call_ok (n := 2) (names := ["want", "got"]) (b.kin 45 _ rfl) rfl b.lim ⟨_, _, _, _, rfl, b.kin _ _ rfl, rfl, rfl⟩ rfl (fun vs hl => ?_) rfl (by decide) (fun L => by rfl) fun L h₀ X₀ => ?_
  · match vs, hl with
    | [v, w], _ => rfl
  show WSs _ _ _ _ _ _ _ [("want", Bnd.dat (.str want)), ("got", .dat (.str got))] (RetD (.bool (ell want got)))
  refine wss_cons (ws_if (fun X => evt_cmp (ev_gstr gm) (by walk_at "nm") cmp_notIn_str) (fun q => ?_) (fun q => ?_))
  · refine wss_cons (ws_return (d := .bool (want == got)) (fun X => ev_cmp (by walk_at "nm") (by walk_at "nm") cmp_eq_str) ?_)
    have e : ell want got = (want == got) := by unfold ell; rw [if_pos (by simpa using q)]
    rw [e]
    exact fun h X v r => r
  refine wss_nil ?_
  have hne : (PySem.Builtin.Str.occurrences want "..." 0 want.length 1).isEmpty = false := by simpa using q
  have h2 := split_two hne (by decide +kernel)
  have h3 := split_count (x := want) (y := "...")
  have h4 := split_len (x := want) (y := "...")
  have e0 : ell want got = (match Txt.split want "..." with
      | [] => true
      | w :: ws => if w.length = 0 then ellLast got 0 (w :: ws) else if Txt.startswith got w then ellLast got w.length ws else false) := by unfold ell; rw [if_neg (by simpa using hne)] <;> rfl
  refine wss_cons (ws_own (fun X => evf_split (by walk_at "nm") (ev_gstr gm) (by decide) (by omega) (by have := parts_count (x := want) (y := "..."); omega)) (.inl rfl) fun a na => ⟨_, by walk_at "put", ?_⟩)
  rw [e0]
  clear e0 hne q
  revert h2 h3 h4
  generalize Txt.split want "..." = S
  intro h2 h3 h4
  match S, h2, h3, h4 with
  | w0 :: wt, h2, h3, h4 =>
  have hw0 : w0.length ≤ 100000 := Nat.le_trans (h4 w0 (.head _)) hw
  have hwt : 1 ≤ wt.length := by simpa using h2
  refine wss_cons (ws_assert (fun X => EvT.eq (evt_cmp (ev_len_list gl (evl_own (by walk_at "mem")) (by simp at h3 ⊢; omega)) ev_int cmp_ge_int) (by simp; omega)) ?_)
  refine wss_cons (ws_swap (names := ["startpos", "endpos"]) (fun X => ev_tuple (ds := [_, _]) ⟨ev_int, ev_callB gl (ds := [_]) ⟨by walk_at "nm", trivial⟩ (blt_len_str (by omega)), trivial⟩) (fun x m => by simp only [List.mem_cons, List.not_mem_nil, or_false] at m; rcases m with rfl | rfl <;> exact .inl rfl) (by walk_at "puts") rfl ?_)
  refine wss_cons (ws_assign (fun X => ev_item (j := 0) (d := .str w0) (evl_own (by walk_at "mem")) ev_int (seqIx_zero (by simp)) rfl (by simp at h3 ⊢; omega)) (.inl rfl) (by walk_at "put") ?_)
  refine wss_cons (ws_mono (P := fun f ρ' => match f with
    | .nxt => ∃ S' sp w, S' ≠ [] ∧ (∀ p ∈ S', p.length ≤ 100000) ∧ S'.length ≤ 200000 ∧ 0 ≤ sp ∧ sp ≤ 100000 ∧ (match w0 :: wt with
      | [] => true
      | w :: ws => if w.length = 0 then ellLast got 0 (w :: ws) else if Txt.startswith got w then ellLast got w.length ws else false) = ellLast got sp S' ∧
        ρ' = ([("want", Bnd.dat (.str want)), ("got", .dat (.str got)), ("ws", .own a (S'.map .str)), ("endpos", .dat (.int got.length)), ("startpos", .dat (.int sp)), ("w", .dat (.str w))] : List (Str × Bnd))
    | .ret R => RetD (.bool (match w0 :: wt with
      | [] => true
      | w :: ws => if w.length = 0 then ellLast got 0 (w :: ws) else if Txt.startswith got w then ellLast got w.length ws else false)) (.ret R) ρ') ?_ ?_)
  · refine ws_if (fun X => evt_str (by walk_at "nm") (by omega)) (fun q => ?_) (fun q => ?_)
    · have q' : ¬ w0.length = 0 := by simpa using q
      refine wss_cons (ws_if (fun X => evt_bool (ev_startswith (by walk_at "nm") (by walk_at "nm"))) (fun r => ?_) (fun r => ?_))
      · refine wss_cons (ws_assign (fun X => ev_callB gl (ds := [_]) ⟨by walk_at "nm", trivial⟩ (blt_len_str (by omega))) (.inl rfl) (by walk_at "put") ?_)
        refine wss_cons (ws_delitem (by walk_at "mem") (fun X => ev_int) (seqIx_zero (by simp)) (by decide) (by simp at h3 ⊢; omega) (by walk_at "put") ?_)
        refine wss_nil (wss_nil ⟨wt, w0.length, w0, ?_, fun p m => Nat.le_trans (h4 p (.tail _ m)) hw, ?_, by omega, by omega, ?_, rfl⟩)
        · intro e; rw [e] at hwt; simp at hwt
        · simp at h3; omega
        · simp only [q', if_false, r, if_true]
      · refine wss_cons (ws_return (fun X => ev_bool) ?_)
        simp only [q', if_false, r]
        exact fun h X v r => r
    · have q' : w0.length = 0 := by simpa using q
      refine wss_nil ⟨w0 :: wt, 0, w0, by simp, fun p m => Nat.le_trans (h4 p m) hw, by simp at h3 ⊢; omega, by omega, by omega, ?_, rfl⟩
      simp only [q', if_true]
  · intro f ρ' hm
    cases f with
    | ret R => exact hm
    | nxt =>
    obtain ⟨S', sp, w, hS, hp, hl, h0, h1, e, rfl⟩ := hm
    show WSs _ _ _ _ _ _ _ _ _
    rw [e]
    clear e h2 h3 h4 hw0 hwt
    obtain ⟨wl, hwl⟩ : ∃ wl, wl = S'.getLastD "" := ⟨_, rfl⟩
    have hml : wl ∈ S' := by
      rw [hwl, List.getLastD_eq_getLast?, List.getLast?_eq_some_getLast hS]; exact List.getLast_mem hS
    have hlast : (S'.map PyData.str)[S'.length - 1]? = some (.str wl) := by
      rw [List.getElem?_map, ← List.getLast?_eq_getElem?, hwl, List.getLastD_eq_getLast?, List.getLast?_eq_some_getLast hS]; rfl
    have hpos : 0 < S'.length := List.length_pos_iff.mpr hS
    have hwll := hp wl hml
    have e0 : ellLast got sp S' = (if wl.length = 0 then ellTail got sp got.length S' else if Txt.endswith got wl then ellTail got sp (got.length - wl.length) S'.dropLast else false) := by rw [hwl]; rfl
    rw [e0]
    clear e0
    refine wss_cons (ws_assign (fun X => ev_item (j := S'.length - 1) (d := .str wl) (evl_own (by walk_at "mem")) (ev_neg ev_int) (by rw [List.length_map]; exact seqIx_last hpos) hlast (by simp; omega)) (.inl rfl) (by walk_at "put") ?_)
    refine wss_cons (ws_mono (P := fun f ρ' => match f with
      | .nxt => ∃ S2 ep, S2.length ≤ 200000 ∧ (∀ p ∈ S2, p.length ≤ 100000) ∧ ep ≤ 100000 ∧ (if wl.length = 0 then ellTail got sp got.length S' else if Txt.endswith got wl then ellTail got sp (got.length - wl.length) S'.dropLast else false) = ellTail got sp ep S2 ∧
        ρ' = ([("want", Bnd.dat (.str want)), ("got", .dat (.str got)), ("ws", .own a (S2.map .str)), ("endpos", .dat (.int ep)), ("startpos", .dat (.int sp)), ("w", .dat (.str wl))] : List (Str × Bnd))
      | .ret R => RetD (.bool (if wl.length = 0 then ellTail got sp got.length S' else if Txt.endswith got wl then ellTail got sp (got.length - wl.length) S'.dropLast else false)) (.ret R) ρ') ?_ ?_)
    · refine ws_if (fun X => evt_str (by walk_at "nm") (by omega)) (fun q => ?_) (fun q => ?_)
      · have q' : ¬ wl.length = 0 := by simpa using q
        refine wss_cons (ws_if (fun X => evt_bool (ev_endswith (by walk_at "nm") (by walk_at "nm"))) (fun r => ?_) (fun r => ?_))
        · refine wss_cons (ws_isub (by walk_at "mem") (fun X => ev_callB gl (ds := [_]) ⟨by walk_at "nm", trivial⟩ (blt_len_str (by omega))) (.inl rfl) (by walk_at "put") ?_)
          refine wss_cons (ws_delitem (j := S'.length - 1) (by walk_at "mem") (fun X => ev_neg ev_int) (by rw [List.length_map]; exact seqIx_last hpos) (by decide) (by simp; omega) (by walk_at "put") ?_)
          refine wss_nil (wss_nil ⟨S'.dropLast, (got.length : Int) - wl.length, by simp; omega, fun p m => hp p (List.dropLast_subset _ m), ?_, ?_, ?_⟩)
          · omega
          · simp only [q', if_false, r, if_true]
          · have : (S'.map PyData.str).eraseIdx (S'.length - 1) = S'.dropLast.map PyData.str := by
              rw [List.map_dropLast, ← List.eraseIdx_length_sub_one, List.length_map]
            rw [this]
        · refine wss_cons (ws_return (fun X => ev_bool) ?_)
          simp only [q', if_false, r]
          exact fun h X v r => r
      · have q' : wl.length = 0 := by simpa using q
        refine wss_nil ⟨S', got.length, hl, hp, by omega, ?_, rfl⟩
        simp only [q', if_true]
    · intro f ρ' hm
      cases f with
      | ret R => exact hm
      | nxt =>
      obtain ⟨S2, ep, hl2, hp2, hep, e, rfl⟩ := hm
      show WSs _ _ _ _ _ _ _ _ _
      rw [e]
      clear e
      unfold ellTail
      refine wss_cons (ws_if (fun X => evt_cmp (by walk_at "nm") (by walk_at "nm") cmp_gt_int) (fun q => ?_) (fun q => ?_))
      · have q' : ep < sp := by simpa using q
        refine wss_cons (ws_return (fun X => ev_bool) ?_)
        rw [if_pos q']
        exact fun h X v r => r
      · have q' : ¬ ep < sp := by simpa using q
        rw [if_neg q']
        refine wss_nil (wss_freeze (by walk_at "mem") na (by walk_at "put") ?_)
        refine wss_cons (ws_for (l := S2.map .str) (fun X => evi_list (by walk_at "nm")) (fun k ρ' => ∃ s w, s ≤ 200000 ∧ ellFind got ep sp S2 = ellFind got ep s (S2.drop k) ∧
          ρ' = ([("want", Bnd.dat (.str want)), ("got", .dat (.str got)), ("ws", .dat (.list (S2.map .str))), ("endpos", .dat (.int ep)), ("startpos", .dat (.int s)), ("w", .dat (.str w))] : List (Str × Bnd))) ⟨sp, wl, by omega, rfl, rfl⟩ (fun k d ρ1 hd hi => ?_) (fun ρ1 hi => ?_) tg_name)
        · obtain ⟨s, w, hs, e, rfl⟩ := hi
          rw [List.getElem?_map] at hd
          cases hd2 : S2[k]? with
          | none => rw [hd2] at hd; cases hd
          | some x =>
          rw [hd2] at hd
          cases hd
          have hxm := hp2 x (List.mem_of_getElem? hd2)
          have hdr : S2.drop k = x :: S2.drop (k + 1) := by
            obtain ⟨hlt, hx⟩ := List.getElem?_eq_some_iff.mp hd2
            rw [List.drop_eq_getElem_cons hlt, hx]
          rw [hdr] at e
          have e : ellFind got ep sp S2 = (if find4 got x s ep < 0 then false else ellFind got ep (find4 got x s ep + x.length) (S2.drop (k + 1))) := e
          refine asg_name (.inl rfl) (by walk_at "put") ?_
          refine wss_cons (ws_assign (fun X => ev_find4 (by walk_at "nm") (by walk_at "nm") (by walk_at "nm") (by walk_at "nm")) (.inl rfl) (by walk_at "put") ?_)
          refine wss_cons (ws_if (fun X => evt_cmp (by walk_at "nm") ev_int cmp_lt_int) (fun q => ?_) (fun q => ?_))
          · have q' : find4 got x s ep < 0 := by simpa using q
            rw [if_pos q'] at e
            refine wss_cons (ws_return (fun X => ev_bool) ?_)
            show RetD (.bool (ellFind got ep sp S2)) (.ret _) _
            rw [e]
            exact fun h X v r => r
          · have q' : ¬ find4 got x s ep < 0 := by simpa using q
            rw [if_neg q'] at e
            refine wss_nil (wss_cons (ws_iadd (by walk_at "mem") (fun X => ev_callB gl (ds := [_]) ⟨by walk_at "nm", trivial⟩ (blt_len_str (by omega))) (.inl rfl) (by walk_at "put") ?_))
            exact wss_nil ⟨_, _, by have := find4_len got x s ep; omega, e, rfl⟩
        · obtain ⟨s, w, hs, e, rfl⟩ := hi
          rw [List.length_map, List.drop_length] at e
          refine wss_cons (ws_return (fun X => ev_bool) ?_)
          show RetD (.bool (ellFind got ep sp S2)) (.ret _) _
          rw [e]
          exact fun h X v r => r
end
end Mine
end
section
open PySem PySem.W PyProof.Rows PySem.Calls PySem.Spec PySem.Builtin.Re
set_option maxRecDepth 100000
set_option linter.unusedVariables false
set_option Elab.async false
set_option maxHeartbeats 4000000
namespace Mine
local macro_rules | `(tactic| walk_at "mem") => `(tactic| first | exact List.Mem.head _ | (apply List.Mem.tail; walk_at "mem"))
local macro_rules | `(tactic| walk_at "put") => `(tactic| first | exact Put.nil | exact Put.here | (apply Put.there; all_goals (first | (decide; done) | walk_at "put")))
local macro_rules | `(tactic| walk_at "puts") => `(tactic| first | exact Puts.nil | (apply Puts.cons; all_goals (first | walk_at "put" | walk_at "puts")))
local macro_rules | `(tactic| walk_at "nm") => `(tactic| (refine ev_name ?_; walk_at "mem"))
local macro_rules | `(tactic| walk_at "sub") => `(tactic| first | exact List.Sublist.slnil | (apply List.Sublist.cons_cons; walk_at "sub") | (apply List.Sublist.cons; walk_at "sub"))
local macro_rules | `(tactic| walk_at "lt") => `(tactic| first | exact Nat.lt_succ_self _ | (refine Nat.lt_succ_of_lt ?_; walk_at "lt"))
local macro_rules | `(tactic| walk_at "cell") => `(tactic| exact .inr ⟨rfl, _, rfl, by walk_at "lt"⟩)
local macro_rules | `(tactic| walk_at "dats") => `(tactic| simp only [dats, List.map_cons, List.map_nil])
local macro_rules | `(tactic| walk_at "caps") => `(tactic| first | exact trivial | exact ⟨⟨by walk_at "mem", .inl rfl, .inl rfl, fun _ => rfl⟩, by walk_at "caps"⟩)

section
variable {g : G} {P : Params} (b : Bs g (hd2.heap_39 P))
include b
theorem p2_name : PatAt g.B 72 codeName 0 := ⟨_, _, _, _, _, _, _, b.kin 72 _ rfl, rfl, b.kin 71 _ rfl, rfl, rfl, by decide +kernel, rfl, rfl⟩
theorem p2_value : PatAt g.B 77 codeValue 0 := ⟨_, _, _, _, _, _, _, b.kin 77 _ rfl, rfl, b.kin 76 _ rfl, rfl, rfl, by decide +kernel, rfl, rfl⟩
theorem p2_dot : PatAt g.B 50 codeDot 0 := ⟨_, _, _, _, _, _, _, b.kin 50 _ rfl, rfl, b.kin 49 _ rfl, rfl, rfl, by decide +kernel, rfl, rfl⟩
theorem p2_end : PatAt g.B 55 codeEnd 0 := ⟨_, _, _, _, _, _, _, b.kin 55 _ rfl, rfl, b.kin 54 _ rfl, rfl, rfl, by decide +kernel, rfl, rfl⟩
theorem g2_dot : Gv g "_twin_re_1" (.ref 50) := gv_glob b (by rfl)
theorem g2_end : Gv g "_twin_re_2" (.ref 55) := gv_glob b (by rfl)
theorem g2_crlf : ∃ t, Gv g "CRLF" (.str "\r\n" t) := ⟨_, gv_glob b (by rfl)⟩
theorem quote2_call (x : Str) (hx : x.length ≤ 10000) : CallOK g 3 62 [.str x] (.str (quoted x)) := by
  obtain ⟨tc, gc⟩ := g2_crlf b
  refine call_ok (n := 2) (names := ["data"]) (b.kin 62 _ rfl) rfl b.lim ⟨_, _, _, _, rfl, b.kin _ _ rfl, rfl, rfl⟩ rfl (fun vs hl => ?_) rfl (by decide) (fun L => by rfl) fun L h₀ X₀ => ?_
  · match vs, hl with
    | [v], _ => rfl
  show WSs _ _ _ _ _ _ _ [("data", Bnd.dat (.str x))] (RetD _)
  obtain ⟨ps, h1, h2, h3, h4, h5⟩ := end_text x hx
  obtain ⟨qs, k1, k2, k3, k4, k5⟩ := dot_text (Txt.join "" ps) h5
  have e : quoted x = Txt.join "" qs := by
    rw [k2, h2]; rfl
  rw [e]
  refine wss_cons (ws_return (fun X => ev_resub (g2_dot b) (p2_dot b) ev_str (ev_resub (g2_end b) (p2_end b) (ev_gstr gc) (by walk_at "nm") h1 (by decide +kernel) (by omega) h3 h4) k1 (by decide +kernel) (by omega) k3 k4) ?_)
  exact fun h X v r => r
end
end Mine
end
section
open PySem PySem.W PyProof.Rows PySem.Calls PySem.Spec PySem.Builtin.Re
set_option maxRecDepth 100000
set_option linter.unusedVariables false
set_option Elab.async false
set_option maxHeartbeats 4000000
namespace Mine
local macro_rules | `(tactic| walk_at "mem") => `(tactic| first | exact List.Mem.head _ | (apply List.Mem.tail; walk_at "mem"))
local macro_rules | `(tactic| walk_at "put") => `(tactic| first | exact Put.nil | exact Put.here | (apply Put.there; all_goals (first | (decide; done) | walk_at "put")))
local macro_rules | `(tactic| walk_at "puts") => `(tactic| first | exact Puts.nil | (apply Puts.cons; all_goals (first | walk_at "put" | walk_at "puts")))
local macro_rules | `(tactic| walk_at "nm") => `(tactic| (refine ev_name ?_; walk_at "mem"))
local macro_rules | `(tactic| walk_at "sub") => `(tactic| first | exact List.Sublist.slnil | (apply List.Sublist.cons_cons; walk_at "sub") | (apply List.Sublist.cons; walk_at "sub"))
local macro_rules | `(tactic| walk_at "lt") => `(tactic| first | exact Nat.lt_succ_self _ | (refine Nat.lt_succ_of_lt ?_; walk_at "lt"))
local macro_rules | `(tactic| walk_at "cell") => `(tactic| exact .inr ⟨rfl, _, rfl, by walk_at "lt"⟩)
local macro_rules | `(tactic| walk_at "dats") => `(tactic| simp only [dats, List.map_cons, List.map_nil])
local macro_rules | `(tactic| walk_at "caps") => `(tactic| first | exact trivial | exact ⟨⟨by walk_at "mem", .inl rfl, .inl rfl, fun _ => rfl⟩, by walk_at "caps"⟩)

section
variable {g : G} {P : Params} (b : Bs g (hd2.heap_39 P))
include b
theorem g2_type : Gv g "type" (.type "type") := gv_blt b (by rfl) (by decide +kernel) (by decide)
theorem g2_str : Gv g "str" (.type "str") := gv_blt b (by rfl) (by decide +kernel) (by decide)
theorem g2_ndre : Gv g "_name_disallowed_re" (.ref 72) := gv_glob b (by rfl)
theorem g2_vdre : Gv g "_value_disallowed_re" (.ref 77) := gv_glob b (by rfl)
set_option pp.maxSteps 3000
set_option pp.deepTerms false
set_option pp.deepTerms.threshold 5
theorem conv2_call (X : List Addr) (s : Shared) (self : Value) (x : Str) (t : Tok) (nm : Bool) (hp : Hp g X s.heap) (hx : Pretty x) (hl : x.length ≤ 100000) : ∀ (A : Around) (Q E : Value → Shared → Prop), Rm 3 A →
    (∀ v h' tk, Pr g.T s.heap h' → RdX h' X v (.str x) → Q v { s with heap := h', toks := tk }) → wpAny g.M A (call (.ref 107) [self, .str x t] [("name", .bool nm)]) Q E s := by
  intro A Q E rm h
  refine call_enterB (n := 2) (M := g.T) (ρ := [("value", .dat (.str x)), ("name", .dat (.bool nm))]) (P := RetD (.str x)) (binds := [("self", self), ("value", .str x t), ("name", .bool nm)]) hp (b.kin 107 _ rfl) rfl b.lim ⟨_, _, _, _, rfl, b.kin _ _ rfl, rfl, rfl⟩ rfl (BindsTo.of_eq (by rfl)) rfl rfl rfl rfl rfl rfl (by decide) (fun y m => ?_) (fun y c m => ?_) ?_ List.nodup_nil (fun a m => by cases m) (fun t m => m) rm (fun L => ?_) fun fl ρ' X' h' tk v hP pr gw x0 r => ?_
  · simp only [List.mem_cons, List.not_mem_nil, or_false] at m
    rcases m with rfl | rfl | rfl <;> rfl
  · simp only [List.mem_cons, List.not_mem_nil, or_false] at m
    rcases m with m | m <;> cases m
    · exact ⟨_, rfl, rfl, rdX_str⟩
    · exact ⟨_, rfl, rfl, rdX_bool⟩
  · simp only [List.map_cons, List.map_nil]; decide
  · refine wss_cons (ws_if (fun X => evt_is_type (evv_type_str (g2_type b) (by walk_at "nm")) (evv_glob (g2_str b))) (fun _ => ?_) (fun q => by cases q))
    refine wss_cons (ws_assign_val (v := if nm then .ref 72 else .ref 77) (fun X => evv_ifexp (evt_bool (by walk_at "nm")) (fun q => by rw [q]; exact evv_glob (g2_ndre b)) (fun q => by rw [q]; exact evv_glob (g2_vdre b))) (.inl rfl) (by walk_at "put") ?_)
    refine wss_cons (ws_if (q := false) (fun X => evt_none ?_) (fun q => by cases q) (fun _ => wss_nil ?_))
    · cases nm with
      | true => exact ev_research (evv_name (by walk_at "mem")) (p2_name b) (by walk_at "nm") (none_name hx) (by omega)
      | false => exact ev_research (evv_name (by walk_at "mem")) (p2_value b) (by walk_at "nm") (none_value hx) (by omega)
    · exact wss_cons (ws_return (fun X => by walk_at "nm") fun h X v r => r)
  · cases fl with
    | nxt => cases (show PyData.str x = .none from hP)
    | ret R => exact h v h' tk pr (hP h' X v r)
end
end Mine
end
section
open PySem PySem.W PyProof.Rows PySem.Calls PySem.Spec PySem.Builtin.Re
set_option maxRecDepth 100000
set_option linter.unusedVariables false
set_option Elab.async false
set_option maxHeartbeats 4000000
namespace Mine
local macro_rules | `(tactic| walk_at "mem") => `(tactic| first | exact List.Mem.head _ | (apply List.Mem.tail; walk_at "mem"))
local macro_rules | `(tactic| walk_at "put") => `(tactic| first | exact Put.nil | exact Put.here | (apply Put.there; all_goals (first | (decide; done) | walk_at "put")))
local macro_rules | `(tactic| walk_at "puts") => `(tactic| first | exact Puts.nil | (apply Puts.cons; all_goals (first | walk_at "put" | walk_at "puts")))
local macro_rules | `(tactic| walk_at "nm") => `(tactic| (refine ev_name ?_; walk_at "mem"))
local macro_rules | `(tactic| walk_at "sub") => `(tactic| first | exact List.Sublist.slnil | (apply List.Sublist.cons_cons; walk_at "sub") | (apply List.Sublist.cons; walk_at "sub"))
local macro_rules | `(tactic| walk_at "lt") => `(tactic| first | exact Nat.lt_succ_self _ | (refine Nat.lt_succ_of_lt ?_; walk_at "lt"))
local macro_rules | `(tactic| walk_at "cell") => `(tactic| exact .inr ⟨rfl, _, rfl, by walk_at "lt"⟩)
local macro_rules | `(tactic| walk_at "dats") => `(tactic| simp only [dats, List.map_cons, List.map_nil])
local macro_rules | `(tactic| walk_at "caps") => `(tactic| first | exact trivial | exact ⟨⟨by walk_at "mem", .inl rfl, .inl rfl, fun _ => rfl⟩, by walk_at "caps"⟩)
section
variable {g : G} {P : Params} (b : Bs g (hd2.heap_39 P))
include b
theorem g2_list : Gv g "list" (.type "list") := gv_blt b (by rfl) (by decide +kernel) (by decide)
variable (hC : g.C = 208)
include hC
set_option pp.maxSteps 3000
set_option pp.deepTerms false
set_option pp.deepTerms.threshold 5
theorem make2_ok : MakeOK g 4 := by
  intro X s hp A Q E rm h
  rw [hC]
  obtain ⟨hh, gs, dr, t0, os⟩ := s
  have hK : Frag.In (hd2.heap_39 P) hh := kin_of b.kin hp.base
  refine wpAny_call (make_core (makes_of hK (C := 208) (by rfl)) (looks_findIn hK (by rfl)) (fun self => bind_fn hK self (by rfl)) (.inl rfl) ?_)
  generalize hd : hh.objs.size = d
  have kk : ∀ b o, hh.get? b = some o → ((hh.push emptyDict).push (instObj 208 d)).get? b = some o := fun b o e => Heap.get?_push_of_some _ (Heap.get?_push_of_some _ e)
  have gt : ((hh.push emptyDict).push (instObj 208 d)).get? (d + 1) = some (instObj 208 d) := by rw [← hd]; heap_get
  have gd : ((hh.push emptyDict).push (instObj 208 d)).get? d = some emptyDict := by rw [← hd]; heap_get
  have nt : hh.get? (d + 1) = none := by
    cases e : hh.get? (d + 1) with
    | none => rfl
    | some o => have := Heap.lt_size e; rw [hd] at this; exact absurd this (by simp)
  have nd : hh.get? d = none := by rw [← hd]; exact get_size hh
  generalize (hh.push emptyDict).push (instObj 208 d) = H at kk gt gd
  have hp' : Hp g X H := Hp.keep (show Hp g X hh from hp) kk
  have nX : ∀ a, hh.get? a = none → a ∉ X := fun a e m => by have := hp.xIn a m; rw [show (⟨hh, gs, dr, t0, os⟩ : Shared).heap.get? a = none from e] at this; cases this
  have nB : ∀ a, hh.get? a = none → g.B.get? a = none := fun a e => by
    cases q : g.B.get? a with
    | none => rfl
    | some o => have := hp.base a o q; rw [show (⟨hh, gs, dr, t0, os⟩ : Shared).heap.get? a = none from e] at this; cases this
  have hK' : Frag.In (hd2.heap_39 P) H := kin_of b.kin hp'.base
  refine code_rawB (n := 2) (M := d :: g.T) (s := ⟨H, gs, dr, t0, os⟩) (ρ := [("headers", .dat .none), ("self", .val (.ref (d + 1)))]) (binds := [("self", .ref (d + 1)), ("headers", .none)]) hp' (b.kin 100 _ rfl) rfl b.lim ⟨_, _, _, _, rfl, b.kin _ _ rfl, rfl, rfl⟩ rfl
    (binds_K hK' rfl rfl rfl rfl rfl) rfl rfl rfl rfl rfl rfl (by decide) (fun y m => ?_) (fun y c m => ?_) ?_ List.nodup_nil (fun a m => by cases m) (fun t m => .tail _ m) (Rm.under_type (n := 3) rm) (fun L h₁ tk E' nL F0 keep rm1 => ?_)
  · simp only [List.mem_cons, List.not_mem_nil, or_false] at m
    rcases m with rfl | rfl <;> rfl
  · simp only [List.mem_cons, List.not_mem_nil, or_false] at m
    rcases m with m | m <;> cases m
    · exact ⟨_, rfl, rfl, rdX_none⟩
    · exact ⟨_, rfl, rfl, rfl⟩
  · simp only [List.map_cons, List.map_nil]; decide
  have ht1 := keep _ _ gt
  have hd2' := keep _ _ gd
  have nL' : ∀ a o, H.get? a = some o → a ≠ L := fun a o e q => by subst q; rw [show (⟨H, gs, dr, t0, os⟩ : Shared).heap.get? a = none from nL] at e; cases e
  have tX : d + 1 ∉ L :: X := fun m => (List.mem_cons.mp m).elim (nL' _ _ gt) (nX _ nt)
  have dX : d ∉ L :: X := fun m => (List.mem_cons.mp m).elim (nL' _ _ gd) (nX _ nd)
  refine raw_cons (P := fun f ρ' => match f with | .nxt => ∃ a, a ∉ g.T ∧ ρ' = ([("headers", .own a []), ("self", .val (.ref (d + 1)))] : List (Str × Bnd)) | .ret _ => False)
    (ws_own (fun X => evf_ifexp (q := false) (EvT.eq (evt_isNotNone (by walk_at "nm")) rfl) (fun q => by cases q) (fun _ => evf_list (es := []) (ds := []) trivial)) (.inl rfl) fun a na => ⟨_, by walk_at "put", a, na, rfl⟩) F0 rm1 (fun ρ1 X1 h2 tk2 hP F1 gw1 => ?_) (fun R ρ' X' h' tk v hP => hP.elim)
  obtain ⟨a, na, rfl⟩ := hP
  have tX1 := gw1.out (by rw [ht1]; rfl) tX
  have dX1 := gw1.out (by rw [hd2']; rfl) dX
  have ht2 := gw1.get ht1 tX
  have hz2 := gw1.get hd2' dX
  refine raw_cons (P := fun f ρ' => match f with | .nxt => ρ' = ([("headers", .own a []), ("self", .val (.ref (d + 1)))] : List (Str × Bnd)) | .ret _ => False)
    (ws_if (q := false) (fun X => evt_isNot_type (evv_type_list (g2_type b) (by walk_at "mem")) (evv_glob (g2_list b))) (fun q => by cases q) (fun _ => wss_nil rfl)) F1 rm1 (fun ρ2 X2 h3 tk3 hP F2 gw2 => ?_) (fun R ρ' X' h' tk v hP => hP.elim)
  subst hP
  have tX2 := gw2.out (by rw [show Heap.get? _ _ = _ from ht2]; rfl) tX1
  have dX2 := gw2.out (by rw [show Heap.get? _ _ = _ from hz2]; rfl) dX1
  have ht3 := gw2.get ht2 tX1
  have hd3 := gw2.get hz2 dX1
  obtain ⟨nv, ls, nt', aX⟩ := own_at (x := "headers") F2.cx (by walk_at "mem")
  have nv2 := val_at (x := "self") F2.cx (by walk_at "mem")
  have ha : a ≠ d := fun q => dX2 (q ▸ aX)
  have hK3 : Frag.In (hd2.heap_39 P) h3 := kin_of b.kin F2.cx.base
  refine wpAny_execs_cons (plainObj_wpAny_Assign_Attribute (wpAny_Name (load_name (s := ⟨h3, gs, dr, tk3, os⟩) F2.cx nv (wpAny_Name (load_name (s := ⟨h3, gs, dr, tk3, os⟩) F2.cx nv2 (set_first (s := ⟨h3, gs, dr, tk3, os⟩) hK3 ht3 hd3 (by rfl) (by rfl) (by rfl) (by rfl) fun hs tk h4 tk4 sb hd4 => ?_) (by decide)) (by decide)) (by decide)) (by decide)))
  have ht4 : h4.get? (d + 1) = some (instObj 208 d) := (sb.2 _ (Nat.succ_ne_self d)).trans ht3
  have hbv : ∀ y c, (y, c) ∈ ([("headers", .own a []), ("self", .val (.ref (d + 1)))] : List (Str × Bnd)) → ∀ v, BI g X2 h3 v c → BI g X2 h4 v c := fun y c m v bi => by
    simp only [List.mem_cons, List.not_mem_nil, or_false] at m
    rcases m with m | m <;> cases m
    · obtain ⟨e, ⟨vs, ⟨nn, q⟩, r⟩, r'⟩ := bi
      refine ⟨e, ⟨vs, ⟨nn, (sb.2 _ ha).trans q⟩, ?_⟩, r'⟩
      cases hv : vs.toList with
      | nil => trivial
      | cons => rw [hv] at r; exact r.elim
    · exact bi
  have F3 := fx_turn F2 (.head _) dX2 (nB _ nd) sb (by rw [hd4]; rfl) hbv (fun m hn q => dX2 (q ▸ F2.cx.lX))
  obtain ⟨nv4, ⟨vs4, il4, r4⟩, nt4, aX4⟩ := own_at (x := "headers") F3.cx (by walk_at "mem")
  have aM : a ∉ d :: g.T := fun m => (List.mem_cons.mp m).elim ha na
  have F4 := fx_freeze F3 aM (x := "headers") (by walk_at "mem") (ρ' := [("headers", .dat (.list [])), ("self", .val (.ref (d + 1)))]) (by walk_at "put")
  have sub : ∀ z, z ∉ X2 → z ∉ X2.filter (· != a) := fun z n m => n (List.mem_filter.mp m).1
  have aX4' : a ∉ X2.filter (· != a) := fun q => by simpa using (List.mem_filter.mp q).2
  refine raw_cons (s := ⟨h4, gs, dr, tk4, os⟩) (P := fun f ρ' => match f with | .nxt => True | .ret _ => False)
    (by exact ws_if (fun X => evt_bool ev_bool) (fun _ => wss_cons (ws_for (l := []) (fun X => evi_list (by walk_at "nm")) (fun k ρ' => True) trivial (fun k d ρ1 hd _ => by cases hd) (fun ρ1 _ => wss_nil trivial) (.inr ⟨rfl, fun d m => by cases m⟩))) (fun q => by cases q)) F4 rm1 (fun ρ5 X5 h5 tk5 _ F5 gw5 => wpAny_execs_nil ⟨rfl, ?_⟩) (fun R ρ' X' h' tk v hP => hP.elim)
  have ht5 := gw5.get (show Heap.get? _ _ = _ from ht4) (sub _ tX2)
  have hd5 := gw5.get (show Heap.get? _ _ = _ from hd4) (sub _ dX2)
  obtain ⟨nn, ha4⟩ := id il4
  have ha5 := gw5.get (show Heap.get? _ _ = _ from ha4) aX4'
  have n0 : hh.get? a = none := by
    have hH : H.get? a = none := (F3.ownM a (by simp [ownAddrs])).resolve_left aM
    cases q : hh.get? a with
    | none => rfl
    | some o => rw [kk _ _ q] at hH; cases hH
  refine h (.ref (d + 1)) a h5 tk5 ⟨fun z o e nT => ?_, fun z e => ?_⟩ n0 ⟨d + 1, d, hs, tk, 1, rfl, ?_, hd5, ⟨vs4, ⟨nn, ha5⟩, ?_⟩, ?_, ?_, na⟩
  · exact F5.old.1 z o (kk _ _ e) fun m => (List.mem_cons.mp m).elim (fun q => by subst q; rw [show Heap.get? _ _ = none from nd] at e; cases e) nT
  · obtain ⟨o, e⟩ := Option.isSome_iff_exists.mp e
    exact F5.old.2 z (by rw [kk _ _ e]; rfl)
  · rw [hC]; exact ht5
  · cases hv : vs4.toList with
    | nil => trivial
    | cons => rw [hv] at r4; exact r4.elim
  · exact fun m => (List.mem_cons.mp m).elim (fun q => tX2 (q ▸ aX)) (nX _ nt)
  · exact fun m => (List.mem_cons.mp m).elim (fun q => ha q.symm) (nX _ nd)
end
end Mine
end
section
open PySem PySem.W PyProof.Rows PySem.Calls PySem.Spec PySem.Builtin.Re
set_option maxRecDepth 100000
set_option linter.unusedVariables false
set_option Elab.async false
set_option maxHeartbeats 4000000
namespace Mine
local macro_rules | `(tactic| walk_at "mem") => `(tactic| first | exact List.Mem.head _ | (apply List.Mem.tail; walk_at "mem"))
local macro_rules | `(tactic| walk_at "put") => `(tactic| first | exact Put.nil | exact Put.here | (apply Put.there; all_goals (first | (decide; done) | walk_at "put")))
local macro_rules | `(tactic| walk_at "puts") => `(tactic| first | exact Puts.nil | (apply Puts.cons; all_goals (first | walk_at "put" | walk_at "puts")))
local macro_rules | `(tactic| walk_at "nm") => `(tactic| (refine ev_name ?_; walk_at "mem"))
local macro_rules | `(tactic| walk_at "sub") => `(tactic| first | exact List.Sublist.slnil | (apply List.Sublist.cons_cons; walk_at "sub") | (apply List.Sublist.cons; walk_at "sub"))
local macro_rules | `(tactic| walk_at "lt") => `(tactic| first | exact Nat.lt_succ_self _ | (refine Nat.lt_succ_of_lt ?_; walk_at "lt"))
local macro_rules | `(tactic| walk_at "cell") => `(tactic| exact .inr ⟨rfl, _, rfl, by walk_at "lt"⟩)
local macro_rules | `(tactic| walk_at "dats") => `(tactic| simp only [dats, List.map_cons, List.map_nil])
local macro_rules | `(tactic| walk_at "caps") => `(tactic| first | exact trivial | exact ⟨⟨by walk_at "mem", .inl rfl, .inl rfl, fun _ => rfl⟩, by walk_at "caps"⟩)
section
variable {g : G} {P : Params} (b : Bs g (hd2.heap_39 P)) (hC : g.C = 208)
include b hC
theorem conv2_meth : IsMeth (hd2.heap_39 P) g.C "_convert_string_type" 107 := by rw [hC]; exact ⟨by rfl, by rfl, by rfl, by rfl, by rfl, by decide⟩
theorem add2_meth : IsMeth (hd2.heap_39 P) g.C "add_header" 205 := by rw [hC]; exact ⟨by rfl, by rfl, by rfl, by rfl, by rfl, by decide⟩
theorem hd2_has : HasHd (hd2.heap_39 P) g.C := by rw [hC]; exact ⟨by rfl, by rfl, by rfl, by rfl⟩
theorem conv2_ok : ConvOK g 107 := fun X s self x t nm hp hx hl => conv2_call b X s self x t nm hp hx hl
set_option pp.maxSteps 3000
set_option pp.deepTerms false
set_option pp.deepTerms.threshold 5
theorem add2_ok : AddOK g 5 205 := by
  intro X s v a l nm val t1 t2 hp tb aX h1 h2 l1 l2 hl A Q E rm h
  have kB : ∀ b o, s.heap.get? b = some o → (s.heap.push emptyDict).get? b = some o := fun b o e => Heap.get?_push_of_some _ e
  have gD : (s.heap.push emptyDict).get? s.heap.objs.size = some emptyDict := Heap.get?_push_size _ rfl
  have nD : s.heap.get? s.heap.objs.size = none := get_size _
  have hsys : (s.heap.objs.size == sysModules) = false := by
    have := Heap.lt_size (hp.base _ _ (b.kin 107 _ rfl))
    have e : sysModules = 1 := rfl
    rw [beq_eq_false_iff_ne, e]
    exact Nat.ne_of_gt (Nat.lt_trans (by decide) this)
  have tb1 : TabIs g (s.heap.push emptyDict) X v a l := tb.pr (Pr.of_keeps kB) hp.tX
  generalize hDp : s.heap.objs.size = dp at gD nD hsys
  have dX : dp ∉ X := fun m => by have := hp.xIn dp m; rw [nD] at this; cases this
  have dT : dp ∉ a :: g.T := fun m => (List.mem_cons.mp m).elim (fun q => dX (q ▸ aX)) (fun q => dX (hp.tX _ q))
  refine wpAny_call ?_
  refine code_rawN (n := 4) (M := a :: g.T) (hB := s.heap.push emptyDict) (ρ := [("_name", .dat (.str nm)), ("_value", .dat (.str val)), ("self", .tab a l), ("_params", .val (.ref dp))])
    (binds := [("self", v), ("_name", .str nm t1), ("_value", .str val t2), ("_params", .ref dp)]) hp (b.kin 205 _ rfl) rfl b.lim ⟨_, _, _, _, rfl, b.kin _ _ rfl, rfl, rfl⟩ rfl kB (fun M A E Q q => ?_) rfl rfl rfl rfl rfl rfl (by decide) (fun y m => ?_) (fun y c m => ?_) ?_ ?_ (fun a' m => ?_) (fun t m => .tail _ m) rm (fun L h₁ tk E' nL F0 keep rm1 => ?_)
  · show wpAny M A (alloc emptyDict >>= fun d => pure (([("self", v), ("_name", .str nm t1), ("_value", .str val t2)] : List (Str × Value)) ++ ([("_params", Value.ref d)] : List (Str × Value)))) Q E s
    refine wpAny_bind (wpAny_alloc (wpAny_pure ?_))
    rw [hDp]
    exact q
  · simp only [List.mem_cons, List.not_mem_nil, or_false] at m
    rcases m with rfl | rfl | rfl | rfl <;> rfl
  · simp only [List.mem_cons, List.not_mem_nil, or_false] at m
    rcases m with m | m | m | m <;> cases m
    · exact ⟨_, rfl, rfl, rdX_str⟩
    · exact ⟨_, rfl, rfl, rdX_str⟩
    · exact ⟨_, rfl, rfl, tb1, aX⟩
    · exact ⟨_, rfl, rfl, rfl⟩
  · simp only [List.map_cons, List.map_nil]; decide
  · exact List.nodup_cons.mpr ⟨by simp, List.nodup_nil⟩
  · exact List.mem_cons.mpr (.inl (List.mem_singleton.mp m))
  refine (show WSs g 4 (a :: g.T) (s.heap.push emptyDict) _ X _ [("_name", .dat (.str nm)), ("_value", .dat (.str val)), ("self", .tab a l), ("_params", .val (.ref dp))] (fun f ρ' => match f with | .nxt => ∃ r, ρ' = (("_name", Bnd.dat (.str nm)) :: ("_value", .dat (.str val)) :: ("self", .tab a (l ++ [lineD (nm, val)])) :: r : List (Str × Bnd)) | .ret _ => False) from ?_)
    { s with heap := h₁, toks := tk } (L :: X) F0 _ _ _ rm1 (fun f fl ρ' X' h' tk hP F' ok gw => ?_)
  · refine wss_cons (ws_own (fun X => evf_list (es := []) (ds := []) trivial) (.inl rfl) fun p np => ⟨_, by walk_at "put", ?_⟩)
    refine wss_cons (ws_if (q := true) (fun X => EvT.eq (evt_isNotNone (by walk_at "nm")) rfl) (fun _ => ?_) (fun q => by cases q))
    refine wss_cons (ws_assign (fun X => ev_conv b.kin (conv2_meth b hC) (conv2_ok b hC) (evtab_own (by walk_at "mem")) (by walk_at "nm") h2 l2) (.inl rfl) (by walk_at "put") ?_)
    refine wss_cons (ws_append (d := .str val) (by walk_at "mem") (fun X => by walk_at "nm") (by simp) (by walk_at "put") (wss_nil ?_))
    refine wss_cons (ws_for_none (by walk_at "mem") gD dT dX hsys ?_)
    refine wss_freezeT (x := "parts") (z := "self") (by walk_at "mem") (by walk_at "mem") rfl np (by walk_at "put") ?_
    refine wss_cons (ws_tab_append (d := lineD (nm, val)) b.kin (hd2_has b hC) (by walk_at "mem") (fun X => ev_tuple (ds := [_, _]) ⟨ev_conv b.kin (conv2_meth b hC) (conv2_ok b hC) (evtab_own (by walk_at "mem")) (by walk_at "nm") h1 l1,
      EvP.eq (ev_join (x := "; ") (ss := [val]) ev_str (by walk_at "nm") (joinOk_of_weight (by simp; omega) (by decide))) rfl, trivial⟩) (by omega) (by walk_at "put") (wss_nil ⟨_, rfl⟩))
  · cases f with
    | ret R => exact hP.elim
    | nxt =>
    obtain ⟨r, rfl⟩ := hP
    cases (show fl = .next from ok)
    obtain ⟨v2, nv2, tb2, _⟩ := F'.cx.vars "self" (.tab a (l ++ [lineD (nm, val)])) (by walk_at "mem")
    obtain ⟨vs, pl, q⟩ := isTab_list tb2
    refine h h' tk .none (fun z q => by cases q) ?_ ⟨vs, pl, q.less F'.x0⟩
    exact ⟨fun z o e nz => F'.old.1 z o (kB z o e) nz, fun z e => F'.old.2 z (by obtain ⟨o, e⟩ := Option.isSome_iff_exists.mp e; rw [kB _ _ e]; rfl)⟩
end
end Mine
end
section
open PySem PySem.W PyProof.Rows PySem.Calls PySem.Spec PySem.Builtin.Re
set_option maxRecDepth 100000
set_option linter.unusedVariables false
set_option Elab.async false
set_option maxHeartbeats 4000000
namespace Mine
local macro_rules | `(tactic| walk_at "mem") => `(tactic| first | exact List.Mem.head _ | (apply List.Mem.tail; walk_at "mem"))
local macro_rules | `(tactic| walk_at "put") => `(tactic| first | exact Put.nil | exact Put.here | (apply Put.there; all_goals (first | (decide; done) | walk_at "put")))
local macro_rules | `(tactic| walk_at "puts") => `(tactic| first | exact Puts.nil | (apply Puts.cons; all_goals (first | walk_at "put" | walk_at "puts")))
local macro_rules | `(tactic| walk_at "nm") => `(tactic| (refine ev_name ?_; walk_at "mem"))
local macro_rules | `(tactic| walk_at "sub") => `(tactic| first | exact List.Sublist.slnil | (apply List.Sublist.cons_cons; walk_at "sub") | (apply List.Sublist.cons; walk_at "sub"))
local macro_rules | `(tactic| walk_at "lt") => `(tactic| first | exact Nat.lt_succ_self _ | (refine Nat.lt_succ_of_lt ?_; walk_at "lt"))
local macro_rules | `(tactic| walk_at "cell") => `(tactic| exact .inr ⟨rfl, _, rfl, by walk_at "lt"⟩)
local macro_rules | `(tactic| walk_at "dats") => `(tactic| simp only [dats, List.map_cons, List.map_nil])
local macro_rules | `(tactic| walk_at "caps") => `(tactic| first | exact trivial | exact ⟨⟨by walk_at "mem", .inl rfl, .inl rfl, fun _ => rfl⟩, by walk_at "caps"⟩)
/-- dots, letter, value -/
abbrev Line := Nat × Nat × Str
def lineP (l : Line) : PyData := .tuple [.int (l.1 : Int), .str (mkS [l.2.1]), .str l.2.2]
def lowC (c : Nat) : Nat := if 65 ≤ c ∧ c ≤ 90 then c + 32 else c
def LetOK (c : Nat) : Prop := c = 97 ∨ c = 65 ∨ c = 98 ∨ c = 66
def LineOK (l : Line) : Prop := l.1 ≤ 20 ∧ LetOK l.2.1 ∧ (l.2.2 = "x" ∨ l.2.2 = "y" ∨ l.2.2 = "...")
def nameP (p : Nat × Nat) : PyData := .tuple [.int (p.1 : Int), .str (mkS [p.2])]
def addL (h : Nat) (st : List Line × List (Nat × Nat)) (l : Line) : List Line × List (Nat × Nat) :=
  if h == 0 || !(st.2.contains (l.1, lowC l.2.1)) then (st.1 ++ [((if 0 < l.1 then l.1 + h else 0), l.2.1, l.2.2)], st.2 ++ [(l.1, lowC l.2.1)]) else st
def foldH (h : Nat) (ls : List Line) : List Line × List (Nat × Nat) := ls.foldl (addL h) ([], [])
def linesH (h : Nat) (ls : List Line) : List Line := (foldH h ls).1
theorem foldH_snoc (h : Nat) (ls : List Line) (l : Line) : foldH h (ls ++ [l]) = addL h (foldH h ls) l := by
  unfold foldH; rw [List.foldl_append]; rfl
theorem foldH_len (h : Nat) (ls : List Line) : (foldH h ls).1.length ≤ ls.length ∧ (foldH h ls).2.length ≤ ls.length := by
  suffices ∀ (st : List Line × List (Nat × Nat)), (ls.foldl (addL h) st).1.length ≤ st.1.length + ls.length ∧ (ls.foldl (addL h) st).2.length ≤ st.2.length + ls.length by
    have := this ([], []); simpa [foldH] using this
  induction ls with
  | nil => intro st; simp
  | cons l ls ih =>
    intro st
    have := ih (addL h st l)
    have h1 : (addL h st l).1.length ≤ st.1.length + 1 ∧ (addL h st l).2.length ≤ st.2.length + 1 := by unfold addL; split <;> simp
    simp only [List.foldl_cons, List.length_cons]; omega
theorem low_let {c : Nat} (h : LetOK c) : Txt.lower (mkS [c]) = mkS [lowC c] := by
  rcases h with rfl | rfl | rfl | rfl <;> decide +kernel
theorem low_ok {c : Nat} (h : LetOK c) : LetOK (lowC c) := by
  rcases h with rfl | rfl | rfl | rfl <;> simp [lowC, LetOK]
theorem let_strOk {c : Nat} (h : LetOK c) : PyData.strOk (mkS [c]) = true := by
  rcases h with rfl | rfl | rfl | rfl <;> decide +kernel
theorem let_short {c : Nat} (h : LetOK c) : Builtin.Str.tooLong (Txt.lower (mkS [c])).length = false := by
  rcases h with rfl | rfl | rfl | rfl <;> decide +kernel
theorem mkS_one {a b : Nat} : (mkS [a] == mkS [b]) = (a == b) := by
  rw [Bool.eq_iff_iff]; simp [mkS]
theorem eqv_name (a b : Nat × Nat) : PyData.eqv (nameP a) (nameP b) = (a == b) := by
  obtain ⟨a1, a2⟩ := a; obtain ⟨b1, b2⟩ := b
  show PyData.eqv (.tuple [_, _]) (.tuple [_, _]) = _
  rw [Bool.eq_iff_iff]
  simp [PyData.eqv, PyData.eqvAll, mkS_one]
  omega
theorem sh_name {p : Nat × Nat} (h : LetOK p.2) : Sh 1 (nameP p) := sh_tuple fun d m => by
  simp only [List.mem_cons, List.not_mem_nil, or_false] at m
  rcases m with rfl | rfl
  · exact sh_int
  · exact sh_str (let_strOk h)
theorem foldH_names {h : Nat} {ls : List Line} (hl : ∀ l ∈ ls, LineOK l) : ∀ p ∈ (foldH h ls).2, LetOK p.2 := by
  suffices ∀ (st : List Line × List (Nat × Nat)), (∀ p ∈ st.2, LetOK p.2) → ∀ p ∈ (ls.foldl (addL h) st).2, LetOK p.2 from this ([], []) (fun p m => by cases m)
  induction ls with
  | nil => intro st hs; exact hs
  | cons l ls ih =>
    intro st hs
    refine ih (fun x m => hl x (.tail _ m)) (addL h st l) fun p m => ?_
    unfold addL at m
    split at m
    · rcases List.mem_append.mp m with m | m
      · exact hs p m
      · simp at m; subst m; exact low_ok (hl l (.head _)).2.1
    · exact hs p m
section
variable {g : G} {P : Params} (b : Bs g (hd2.heap_39 P))
include b
set_option pp.maxSteps 3000
set_option pp.deepTerms false
set_option pp.deepTerms.threshold 5
theorem lines2_call (ls : List Line) (h : Nat) (hl : ∀ l ∈ ls, LineOK l) (hn : ls.length ≤ 100) : CallOK g 3 231 [.list (ls.map lineP), .int (h : Int)] (.list ((linesH h ls).map lineP)) := by
  refine call_ok (n := 2) (names := ["lines", "hands"]) (b.kin 231 _ rfl) rfl b.lim ⟨_, _, _, _, rfl, b.kin _ _ rfl, rfl, rfl⟩ rfl (fun vs hl => ?_) rfl (by decide) (fun L => by rfl) fun L h₀ X₀ => ?_
  · match vs, hl with
    | [v, u], _ => rfl
  show WSs _ _ _ _ _ _ _ [("lines", Bnd.dat (.list (ls.map lineP))), ("hands", .dat (.int (h : Int)))] (RetD _)
  refine wss_cons (ws_own (fun X => evf_list (es := []) (ds := []) trivial) (.inl rfl) fun a na => ⟨_, by walk_at "put", ?_⟩)
  refine wss_cons (ws_own (fun X => evf_list (es := []) (ds := []) trivial) (.inl rfl) fun c nc => ⟨_, by walk_at "put", ?_⟩)
  refine wss_cons (ws_for (l := ls.map lineP) (fun X => evi_list (by walk_at "nm")) (fun i ρ' => ρ' = ([("lines", Bnd.dat (.list (ls.map lineP))), ("hands", .dat (.int (h : Int))), ("kept", .own a ((foldH h (ls.take i)).1.map lineP)), ("names", .own c ((foldH h (ls.take i)).2.map nameP))] : List (Str × Bnd))) rfl (fun i d ρ1 hd hi => ?_) (fun ρ1 hi => ?_) (.inr ⟨rfl, fun d m => ?_⟩))
  · subst hi
    rw [List.getElem?_map] at hd
    obtain ⟨⟨dt, lt, vl⟩, hli, rfl⟩ := Option.map_eq_some_iff.mp hd
    obtain ⟨o1, o2, o3⟩ := hl _ (List.mem_of_getElem? hli)
    have hstep : ls.take (i + 1) = ls.take i ++ [(dt, lt, vl)] := by rw [List.take_add_one, hli]; rfl
    have hlen := foldH_len h (ls.take i)
    have hlen2 : (ls.take i).length ≤ 100 := by simp; omega
    have hnm := foldH_names (h := h) (ls := ls.take i) fun l m => hl l (List.mem_of_mem_take m)
    generalize ls.take i = pre at hstep hlen hlen2 hnm
    have hadd := foldH_snoc h pre (dt, lt, vl)
    rw [← hstep] at hadd
    generalize foldH h (ls.take (i + 1)) = nw at hadd
    obtain ⟨n1, n2⟩ := nw
    generalize foldH h pre = st at hadd hlen hnm
    obtain ⟨s1, s2⟩ := st
    refine asg_tuple (names := ["dots", "letter", "value"]) (by rfl) (fun x m => by simp only [List.mem_cons, List.not_mem_nil, or_false] at m; rcases m with rfl | rfl | rfl <;> exact .inl rfl) (by walk_at "puts") rfl ?_
    refine wss_cons (ws_if (q := h == 0 || !(s2.contains (dt, lowC lt))) (fun X => EvT.eq (evt_or (evt_cmp (by walk_at "nm") ev_int cmp_eq_int) fun _ => evt_notIn_list (a := nameP (dt, lowC lt)) (ev_tuple (ds := [_, _]) ⟨by walk_at "nm", EvP.eq (ev_lower (by walk_at "nm") (let_short o2)) (by rw [low_let o2]), trivial⟩) (evl_own (by walk_at "mem")) (sh_name (low_ok o2)).shaped (sh_map (f := nameP) fun p m => sh_name (hnm p m)).shaped) ?_) (fun q => ?_) (fun q => ?_))
    · rw [any_eqv eqv_name]
      congr 1
      · rw [Bool.eq_iff_iff]; simp
      · congr 1
        rw [Bool.eq_iff_iff]; simp [List.contains_iff_mem]
    · refine wss_cons (ws_append (d := nameP (dt, lowC lt)) (by walk_at "mem") (fun X => (ev_tuple (ds := [_, _]) ⟨by walk_at "nm", EvP.eq (ev_lower (by walk_at "nm") (let_short o2)) (by rw [low_let o2]), trivial⟩)) (by simp at hlen ⊢; omega) (by walk_at "put") ?_)
      refine wss_cons (ws_append (d := lineP ((if 0 < dt then dt + h else 0), lt, vl)) (by walk_at "mem") (fun X => ev_tuple (ds := [.int ((if 0 < dt then dt + h else 0 : Nat) : Int), .str (mkS [lt]), .str vl]) ⟨ev_ifexp (evt_cmp (by walk_at "nm") ev_int cmp_gt_int) (fun q => ?_) (fun q => ?_), by walk_at "nm", by walk_at "nm", trivial⟩) (by simp at hlen ⊢; omega) (by walk_at "put") ?_)
      · have : 0 < dt := by simpa using q
        rw [if_pos this]
        exact EvP.eq (ev_binop (by walk_at "nm") (by walk_at "nm") bin_add_int) (by simp)
      · have : ¬ 0 < dt := by simpa using q
        rw [if_neg this]
        exact ev_int
      refine wss_nil (wss_weak (ρ' := [("lines", Bnd.dat (.list (ls.map lineP))), ("hands", .dat (.int (h : Int))), ("kept", .own a (n1.map lineP)), ("names", .own c (n2.map nameP))]) ?_ (wss_nil rfl))
      unfold addL at hadd
      rw [if_pos q] at hadd
      cases hadd
      rw [List.map_append, List.map_append]
      walk_at "sub"
    · refine wss_nil (wss_weak (ρ' := [("lines", Bnd.dat (.list (ls.map lineP))), ("hands", .dat (.int (h : Int))), ("kept", .own a (n1.map lineP)), ("names", .own c (n2.map nameP))]) ?_ (wss_nil rfl))
      unfold addL at hadd
      rw [if_neg (by rw [q]; decide)] at hadd
      cases hadd
      walk_at "sub"
  · subst hi
    rw [List.length_map, List.take_length]
    exact wss_cons (ws_return_own (by walk_at "mem") rfl (fun h X v r => r))
  · obtain ⟨l, _, rfl⟩ := List.mem_map.mp m
    exact ⟨_, rfl⟩
end
end Mine
end
section
open PySem PySem.W PyProof.Rows PySem.Calls PySem.Spec PySem.Builtin.Re
set_option maxRecDepth 100000
set_option linter.unusedVariables false
set_option Elab.async false
set_option maxHeartbeats 4000000
namespace Mine
local macro_rules | `(tactic| walk_at "mem") => `(tactic| first | exact List.Mem.head _ | (apply List.Mem.tail; walk_at "mem"))
local macro_rules | `(tactic| walk_at "put") => `(tactic| first | exact Put.nil | exact Put.here | (apply Put.there; all_goals (first | (decide; done) | walk_at "put")))
local macro_rules | `(tactic| walk_at "puts") => `(tactic| first | exact Puts.nil | (apply Puts.cons; all_goals (first | walk_at "put" | walk_at "puts")))
local macro_rules | `(tactic| walk_at "nm") => `(tactic| (refine ev_name ?_; walk_at "mem"))
local macro_rules | `(tactic| walk_at "sub") => `(tactic| first | exact List.Sublist.slnil | (apply List.Sublist.cons_cons; walk_at "sub") | (apply List.Sublist.cons; walk_at "sub"))
local macro_rules | `(tactic| walk_at "lt") => `(tactic| first | exact Nat.lt_succ_self _ | (refine Nat.lt_succ_of_lt ?_; walk_at "lt"))
local macro_rules | `(tactic| walk_at "cell") => `(tactic| exact .inr ⟨rfl, _, rfl, by walk_at "lt"⟩)
local macro_rules | `(tactic| walk_at "dats") => `(tactic| simp only [dats, List.map_cons, List.map_nil])
local macro_rules | `(tactic| walk_at "caps") => `(tactic| first | exact trivial | exact ⟨⟨by walk_at "mem", .inl rfl, .inl rfl, fun _ => rfl⟩, by walk_at "caps"⟩)
def nameT (d c : Nat) : List Nat := List.replicate d 46 ++ [c]
def lineT (l : Line) : List Nat := nameT l.1 l.2.1 ++ [58, 32] ++ l.2.2.cps.toList
def textL (ls : List Line) : List Nat := cat (ls.map lineT) [13, 10] ++ [13, 10]
def textOf (ls : List Line) : Str := mkS (textL ls)
theorem val_len {v : Str} (h : v = "x" ∨ v = "y" ∨ v = "...") : v.cps.toList.length ≤ 3 := by rcases h with rfl | rfl | rfl <;> decide +kernel
theorem lineT_len {l : Line} (h : LineOK l) : (lineT l).length ≤ 26 := by
  obtain ⟨d, c, v⟩ := l
  have := val_len h.2.2
  have := h.1
  simp [lineT, nameT] at *; omega
theorem str_cols : (": " : Str) = mkS [58, 32] := by rfl
theorem str_crlf : ("\r\n" : Str) = mkS [13, 10] := by rfl
section
variable {g : G} {P : Params} (b : Bs g (hd2.heap_39 P))
include b
set_option pp.maxSteps 3000
set_option pp.deepTerms false
set_option pp.deepTerms.threshold 5
theorem text2_call (ls : List Line) (hl : ∀ l ∈ ls, LineOK l) (hn : ls.length ≤ 100) : CallOK g 3 236 [.list (ls.map lineP)] (.str (textOf ls)) := by
  have hcl := cat_len (ls := ls.map lineT) (k := 26) (fun q m => by obtain ⟨l, ml, rfl⟩ := List.mem_map.mp m; exact lineT_len (hl l ml)) [13, 10]
  refine call_ok (n := 2) (names := ["lines"]) (b.kin 236 _ rfl) rfl b.lim ⟨_, _, _, _, rfl, b.kin _ _ rfl, rfl, rfl⟩ rfl (fun vs hl => ?_) rfl (by decide) (fun L => by rfl) fun L h₀ X₀ => ?_
  · match vs, hl with
    | [v], _ => rfl
  show WSs _ _ _ _ _ _ _ [("lines", Bnd.dat (.list (ls.map lineP)))] (RetD _)
  refine wss_cons (ws_return (d := .str (textOf ls)) (fun X => EvP.eq (ev_binop (ev_join (x := "") (ss := (ls.map fun l => lineT l ++ [13, 10]).map mkS) ev_str (evp_of_evf (EvF.eq (evf_comp (cs := []) (l := ls.map lineP) (fun d => match d with | .tuple [.int d, .str c, .str v] => some (.str (Txt.mul "." d ++ c ++ ": " ++ v ++ "\r\n")) | _ => none)
      (evi_list (by walk_at "nm")) trivial (fun d md C h₁ => ?_) (.inr ⟨rfl, fun d m => ?_⟩) (by rw [List.length_map]; omega)) ?_)) (joinOk_of_weight ?_ (by decide +kernel))) ev_str (bin_add_str ?_)) ?_) (fun h X v r => r))
  · obtain ⟨⟨dt, lt, vl⟩, ml, e0⟩ := List.mem_map.mp md
    have e0 : PyData.tuple [.int (dt : Int), .str (mkS [lt]), .str vl] = d := e0
    subst e0
    obtain ⟨o1, o2, o3⟩ := hl _ ml
    have o3 : vl = "x" ∨ vl = "y" ∨ vl = "..." := o3
    have hv := val_len o3
    have hv' : vl.length ≤ 3 := hv
    have hd : (dt : Nat) ≤ 20 := o1
    walk_at "dats"
    refine asg_tuple (names := ["dots", "letter", "value"]) (by rfl) (fun x m => by simp only [List.mem_cons, List.not_mem_nil, or_false] at m; rcases m with rfl | rfl | rfl <;> exact .inl rfl) (by walk_at "puts") rfl ⟨by walk_at "sub", fun X' => rfl, fun d' e X' => ?_⟩
    cases e
    have e1 : (Txt.mul "." (dt : Int)).length ≤ 20 := by rw [mul_dots, mk_len, List.length_replicate]; exact hd
    have e2 : (mkS [lt]).length = 1 := rfl
    have e3 : (": " : Str).length = 2 := rfl
    have e4 : ("\r\n" : Str).length = 2 := rfl
    have add_len : ∀ a b : Str, (a ++ b).length = a.length + b.length := fun a b => by simp [Str.length, Str.cps_append]
    exact ev_binop (ev_binop (ev_binop (ev_binop (ev_binop ev_str (by walk_at "nm") (bin_mul_str (by decide +kernel) (by omega) (by omega))) (by walk_at "nm") (bin_add_str (by omega))) ev_str (bin_add_str (by rw [add_len]; omega))) (by walk_at "nm") (bin_add_str (by rw [add_len, add_len]; omega))) ev_str (bin_add_str (by rw [add_len, add_len, add_len]; omega))
  · obtain ⟨l, _, rfl⟩ := List.mem_map.mp m
    exact ⟨_, rfl⟩
  · rw [filterMap_all (f := lineP) (q := fun l => .str (mkS (lineT l ++ [13, 10]))) (fun l => ?_), List.map_map, List.map_map]
    · rfl
    · obtain ⟨dt, lt, vl⟩ := l
      show some (PyData.str (Txt.mul "." (dt : Int) ++ mkS [lt] ++ ": " ++ vl ++ "\r\n")) = _
      rw [mul_dots, str_cols, str_crlf, str_mk vl, append_mk, append_mk, append_mk, append_mk]
      simp [lineT, nameT, mkS_list]
  · rw [mk_sum]
    have : (ls.map fun l => lineT l ++ [13, 10]).flatten = cat (ls.map lineT) [13, 10] := by unfold cat; rw [List.map_map]; rfl
    rw [this, List.length_map, List.length_map]
    rw [List.length_map] at hcl
    have : ls.length * (26 + [13, 10].length) ≤ 100 * 28 := Nat.mul_le_mul hn (by decide)
    omega
  · rw [join_nothing, mk_len]
    have : (ls.map fun l => lineT l ++ [13, 10]).flatten = cat (ls.map lineT) [13, 10] := by unfold cat; rw [List.map_map]; rfl
    rw [this]
    rw [List.length_map] at hcl
    have : ls.length * (26 + [13, 10].length) ≤ 100 * 28 := Nat.mul_le_mul hn (by decide)
    have e4 : ("\r\n" : Str).length = 2 := rfl
    omega
  · rw [join_nothing, str_crlf, append_mk]
    have : (ls.map fun l => lineT l ++ [13, 10]).flatten = cat (ls.map lineT) [13, 10] := by unfold cat; rw [List.map_map]; rfl
    rw [this]; rfl
end
end Mine
end
section
open PySem PySem.W PyProof.Rows PySem.Calls PySem.Spec PySem.Builtin.Re
set_option maxRecDepth 100000
set_option linter.unusedVariables false
set_option Elab.async false
set_option maxHeartbeats 4000000
namespace Mine
local macro_rules | `(tactic| walk_at "mem") => `(tactic| first | exact List.Mem.head _ | (apply List.Mem.tail; walk_at "mem"))
local macro_rules | `(tactic| walk_at "put") => `(tactic| first | exact Put.nil | exact Put.here | (apply Put.there; all_goals (first | (decide; done) | walk_at "put")))
local macro_rules | `(tactic| walk_at "puts") => `(tactic| first | exact Puts.nil | (apply Puts.cons; all_goals (first | walk_at "put" | walk_at "puts")))
local macro_rules | `(tactic| walk_at "nm") => `(tactic| (refine ev_name ?_; walk_at "mem"))
local macro_rules | `(tactic| walk_at "sub") => `(tactic| first | exact List.Sublist.slnil | (apply List.Sublist.cons_cons; walk_at "sub") | (apply List.Sublist.cons; walk_at "sub"))
local macro_rules | `(tactic| walk_at "lt") => `(tactic| first | exact Nat.lt_succ_self _ | (refine Nat.lt_succ_of_lt ?_; walk_at "lt"))
local macro_rules | `(tactic| walk_at "cell") => `(tactic| exact .inr ⟨rfl, _, rfl, by walk_at "lt"⟩)
local macro_rules | `(tactic| walk_at "dats") => `(tactic| simp only [dats, List.map_cons, List.map_nil])
local macro_rules | `(tactic| walk_at "caps") => `(tactic| first | exact trivial | exact ⟨⟨by walk_at "mem", .inl rfl, .inl rfl, fun _ => rfl⟩, by walk_at "caps"⟩)
def fitK (d : Nat) (reach : List Nat) (k m : Nat) : Bool := if d < 3 then reach.contains k && m == d else reach.any (fun r => decide (r ≤ k)) && decide (d % 3 ≤ m)
def addK (v : Str) (fits : Bool) (len k : Nat) : List Nat := if fits && v == "..." then (List.range (len - k)).map (fun j => k + 1 + j) else if fits then [k + 1] else []
def stepK (l : Line) (len : Nat) (reach : List Nat) (k : Nat) (q : Line) : List Nat := if q.2.1 == l.2.1 && ("..." == l.2.2 || q.2.2 == l.2.2) then addK l.2.2 (fitK l.1 reach k q.1) len k else []
def behindK (l : Line) (got : List Line) (reach : List Nat) (j : Nat) : List Nat := (List.range j).flatMap fun k => match got[k]? with | some q => stepK l got.length reach k q | none => []
def reachL (got : List Line) (ls : List Line) : List Nat := ls.foldl (fun r l => behindK l got r got.length) [0]
def takes (wanted got : List Line) : Bool := (reachL got wanted).contains got.length
theorem behindK_succ {l : Line} {got : List Line} {reach : List Nat} {j : Nat} {q : Line} (h : got[j]? = some q) : behindK l got reach (j + 1) = behindK l got reach j ++ stepK l got.length reach j q := by
  unfold behindK
  rw [List.range_succ, List.flatMap_append]
  simp [h]
theorem stepK_len (l : Line) (len : Nat) (reach : List Nat) (k : Nat) (q : Line) : (stepK l len reach k q).length ≤ len + 1 := by
  unfold stepK addK
  split
  · split
    · simp; omega
    · split <;> simp
  · simp
theorem behindK_len (l : Line) (got : List Line) (reach : List Nat) : ∀ j, (behindK l got reach j).length ≤ j * (got.length + 1)
  | 0 => by simp [behindK]
  | j + 1 => by
    have ih := behindK_len l got reach j
    cases h : got[j]? with
    | some q =>
      rw [behindK_succ h, List.length_append, Nat.add_mul]
      have := stepK_len l got.length reach j q
      omega
    | none =>
      have e : behindK l got reach (j + 1) = behindK l got reach j := by
        unfold behindK; rw [List.range_succ, List.flatMap_append]; simp [h]
      rw [e, Nat.add_mul]; omega
theorem behindK_small (l : Line) (got : List Line) (reach : List Nat) {j : Nat} (hg : got.length ≤ 10) (hj : j ≤ got.length) : (behindK l got reach j).length ≤ 110 := by
  have h1 := behindK_len l got reach j
  have h2 : j * (got.length + 1) ≤ 10 * 11 := Nat.mul_le_mul (by omega) (by omega)
  omega
theorem reachL_snoc (got ls : List Line) (l : Line) : reachL got (ls ++ [l]) = behindK l got (reachL got ls) got.length := by
  unfold reachL; rw [List.foldl_append]; rfl
theorem reachL_small {got : List Line} (hg : got.length ≤ 10) (ls : List Line) : (reachL got ls).length ≤ 110 := by
  suffices ∀ r : List Nat, r.length ≤ 110 → (ls.foldl (fun r l => behindK l got r got.length) r).length ≤ 110 from this [0] (by decide)
  induction ls with
  | nil => intro r h; exact h
  | cons l ls ih => intro r h; exact ih _ (behindK_small l got r hg (Nat.le_refl _))
theorem least : ∀ (l : List Nat) (x : Nat), ∃ m, m ∈ x :: l ∧ (∀ y ∈ x :: l, m ≤ y)
  | [], x => ⟨x, .head _, fun y m => by rw [List.mem_singleton.mp m]; exact Nat.le_refl _⟩
  | z :: l, x => by
    obtain ⟨m, h1, h2⟩ := least l z
    rcases Nat.le_total m x with q | q
    · exact ⟨m, .tail _ h1, fun y my => (List.mem_cons.mp my).elim (fun e => e ▸ q) (h2 y)⟩
    · exact ⟨x, .head _, fun y my => (List.mem_cons.mp my).elim (fun e => Nat.le_of_eq e.symm) (fun my => Nat.le_trans q (h2 y my))⟩
theorem val_strOk {v : Str} (h : v = "x" ∨ v = "y" ∨ v = "...") : PyData.strOk v = true := by rcases h with rfl | rfl | rfl <;> decide +kernel
theorem any_nat (l : List Nat) (k : Nat) : ((l.map natD).any fun y => PyData.eqv y (natD k)) = l.contains k := by
  rw [any_eqv (f := natD) (fun x y => eqv_nat)]
  rw [Bool.eq_iff_iff]; simp
section
variable {g : G} {P : Params} (b : Bs g (hd2.heap_39 P))
include b
theorem g2_min : Gv g "min" (.builtin "min") := gv_blt b (by rfl) (by decide +kernel) (by decide)
set_option pp.maxSteps 3000
set_option pp.deepTerms false
set_option pp.deepTerms.threshold 5
theorem takes2_call (ws gs : List Line) (hw : ∀ l ∈ ws, LineOK l) (hg : ∀ l ∈ gs, LineOK l) (nw : ws.length ≤ 10) (ng : gs.length ≤ 10) : CallOK g 3 243 [.list (ws.map lineP), .list (gs.map lineP)] (.bool (takes ws gs)) := by
  have gl := g2_len b
  have gr := g2_range b
  have gmin := g2_min b
  have glist := g2_list b
  refine call_ok (n := 2) (names := ["wanted", "got"]) (b.kin 243 _ rfl) rfl b.lim ⟨_, _, _, _, rfl, b.kin _ _ rfl, rfl, rfl⟩ rfl (fun vs hl => ?_) rfl (by decide) (fun L => by rfl) fun L h₀ X₀ => ?_
  · match vs, hl with
    | [v, u], _ => rfl
  show WSs _ _ _ _ _ _ _ [("wanted", Bnd.dat (.list (ws.map lineP))), ("got", .dat (.list (gs.map lineP)))] (RetD _)
  refine wss_cons (ws_assign (d := .list (([0] : List Nat).map natD)) (fun X => ev_list (ds := [.int 0]) ⟨ev_int, trivial⟩) (.inl rfl) (by walk_at "put") ?_)
  refine wss_cons (ws_for (l := ws.map lineP) (fun X => evi_list (by walk_at "nm")) (fun i ρ' => ρ' = ([("wanted", Bnd.dat (.list (ws.map lineP))), ("got", .dat (.list (gs.map lineP))), ("reach", .dat (.list ((reachL gs (ws.take i)).map natD)))] : List (Str × Bnd))) rfl (fun i d ρ1 hd hi => ?_) (fun ρ1 hi => ?_) (.inr ⟨rfl, fun d m => ?_⟩))
  · subst hi
    rw [List.getElem?_map] at hd
    obtain ⟨⟨dt, lt, vl⟩, hli, e0⟩ := Option.map_eq_some_iff.mp hd
    have e0 : PyData.tuple [.int (dt : Int), .str (mkS [lt]), .str vl] = d := e0
    subst e0
    obtain ⟨o1, o2, o3⟩ := hw _ (List.mem_of_getElem? hli)
    have hstep : ws.take (i + 1) = ws.take i ++ [(dt, lt, vl)] := by rw [List.take_add_one, hli]; rfl
    have hsm := reachL_small ng (ws.take i)
    have hadd := reachL_snoc gs (ws.take i) (dt, lt, vl)
    rw [← hstep] at hadd
    generalize reachL gs (ws.take (i + 1)) = nw at hadd
    generalize reachL gs (ws.take i) = R at hadd hsm
    refine asg_tuple (names := ["dots", "letter", "value"]) (by rfl) (fun x m => by simp only [List.mem_cons, List.not_mem_nil, or_false] at m; rcases m with rfl | rfl | rfl <;> exact .inl rfl) (by walk_at "puts") rfl ?_
    refine wss_cons (ws_assign (d := .list []) (fun X => ev_list (es := []) (ds := []) trivial) (.inl rfl) (by walk_at "put") ?_)
    refine wss_cons (ws_for (l := (List.range gs.length).map fun (j : Nat) => .int (j : Int)) (fun X => evi_range1 gr (EvP.eq (ev_len_list gl (evl_of (by walk_at "nm")) (by simp; omega)) (by simp)) (by omega))
      (fun k ρ' => ρ' = ([("wanted", Bnd.dat (.list (ws.map lineP))), ("got", .dat (.list (gs.map lineP))), ("reach", .dat (.list (R.map natD))), ("dots", .dat (.int (dt : Int))), ("letter", .dat (.str (mkS [lt]))), ("value", .dat (.str vl)), ("behind", .dat (.list ((behindK (dt, lt, vl) gs R k).map natD)))] : List (Str × Bnd))) rfl (fun k d ρ1 hd hi => ?_) (fun ρ1 hi => ?_) tg_name)
    · subst hi
      have hk : k < gs.length := by
        by_cases q : k < gs.length
        · exact q
        · rw [List.getElem?_eq_none (by simp; omega)] at hd; cases hd
      have hd' : d = .int (k : Int) := by
        rw [List.getElem?_map, List.getElem?_range hk] at hd
        exact (Option.some.inj hd).symm
      subst hd'
      obtain ⟨⟨dg, lg, vg⟩, hq⟩ : ∃ q, gs[k]? = some q := ⟨_, List.getElem?_eq_getElem hk⟩
      obtain ⟨p1, p2, p3⟩ := hg _ (List.mem_of_getElem? hq)
      have hbs := behindK_small (dt, lt, vl) gs R ng (Nat.le_of_lt hk)
      have hsucc := behindK_succ (l := (dt, lt, vl)) (reach := R) hq
      generalize behindK (dt, lt, vl) gs R (k + 1) = B1 at hsucc
      generalize behindK (dt, lt, vl) gs R k = B at hsucc hbs
      refine asg_name (.inl rfl) (by walk_at "put") ?_
      refine wss_cons (ws_unpack (fun X => ev_item (j := k) (d := .tuple [.int (dg : Int), .str (mkS [lg]), .str vg]) (evl_of (by walk_at "nm")) (by walk_at "nm") (seqIx_nat (by simpa using hk)) (by rw [List.getElem?_map, hq]; rfl) (by simp; omega)) (asg_tuple (names := ["many", "sign", "text"]) (by rfl) (fun x m => by simp only [List.mem_cons, List.not_mem_nil, or_false] at m; rcases m with rfl | rfl | rfl <;> exact .inl rfl) (by walk_at "puts") rfl ?_))
      refine wss_cons (ws_if (q := lg == lt && ("..." == vl || vg == vl)) (fun X => EvT.eq (evt_and (evt_cmp (by walk_at "nm") (by walk_at "nm") cmp_eq_str) fun _ => evt_cmp (by walk_at "nm") (ev_tuple (ds := [_, _]) ⟨ev_str, by walk_at "nm", trivial⟩) (cmp_in_tuple ?_ ?_)) ?_) (fun q => ?_) (fun q => ?_))
      · exact (sh_str (val_strOk o3)).shaped
      · refine (sh_tuple (k := 0) fun d m => ?_).shaped
        simp only [List.mem_cons, List.not_mem_nil, or_false] at m
        rcases m with rfl | rfl
        · exact sh_str (by decide +kernel)
        · exact sh_str (val_strOk p3)
      · rw [mkS_one]
        simp [eqv_str]
      · have hst : stepK (dt, lt, vl) gs.length R k (dg, lg, vg) = addK vl (fitK dt R k dg) gs.length k := by
          unfold stepK; rw [if_pos q]
        rw [hst] at hsucc
        have hfit : ∀ f, fitK dt R k dg = f → B1 = B ++ addK vl f gs.length k := fun f e => by rw [hsucc, e]
        refine wss_cons (ws_mono (P := fun f ρ' => f = .nxt ∧ ρ' = ([("wanted", Bnd.dat (.list (ws.map lineP))), ("got", .dat (.list (gs.map lineP))), ("reach", .dat (.list (R.map natD))), ("dots", .dat (.int (dt : Int))), ("letter", .dat (.str (mkS [lt]))), ("value", .dat (.str vl)), ("behind", .dat (.list (B.map natD))), ("k", .dat (.int (k : Int))), ("many", .dat (.int (dg : Int))), ("sign", .dat (.str (mkS [lg]))), ("text", .dat (.str vg)), ("fits", .dat (.bool (fitK dt R k dg)))] : List (Str × Bnd)))
          (ws_if (q := decide ((dt : Int) < 3)) (fun X => evt_cmp (by walk_at "nm") ev_int cmp_lt_int) (fun q3 => ?_) (fun q3 => ?_)) (fun f ρ' hh => ?_))
        · have q3' : dt < 3 := by have := of_decide_eq_true q3; omega
          refine wss_cons (ws_assign (d := .bool (fitK dt R k dg)) (fun X => EvP.eq (ev_and (ev_in_list (a := natD k) (by walk_at "nm") (evl_of (by walk_at "nm")) sh_int.shaped sh_nats.shaped) fun _ => ev_cmp (by walk_at "nm") (by walk_at "nm") cmp_eq_int) ?_) (.inl rfl) (by walk_at "put") (wss_nil ⟨rfl, rfl⟩))
          unfold fitK
          rw [if_pos q3', any_nat]
          congr 2
          rw [Bool.eq_iff_iff]; simp; omega
        · have q3' : ¬ dt < 3 := by have := of_decide_eq_false q3; omega
          obtain ⟨m, hm1, hm2⟩ := least R (k + 1)
          refine wss_cons (ws_assign (d := .bool (fitK dt R k dg)) (fun X => EvP.eq (ev_and (ev_cmp (ev_callB gmin (ds := [.list ((R ++ [k + 1]).map natD)]) (d := .int (Int.ofNat m)) ⟨EvP.eq (ev_add_list (evl_of (by walk_at "nm")) (evl_of (ev_list (ds := [.int ((k : Int) + 1)]) ⟨ev_binop (by walk_at "nm") ev_int bin_add_int, trivial⟩)) (by simp; omega)) ?_, trivial⟩ ?_) (by walk_at "nm") cmp_le_int) fun _ => ev_cmp (by walk_at "nm") (ev_binop (by walk_at "nm") ev_int (bin_mod_int (by decide))) cmp_ge_int) ?_) (.inl rfl) (by walk_at "put") (wss_nil ⟨rfl, rfl⟩))
          · rw [List.map_append]; rfl
          · have hl : (R ++ [k + 1]).map natD = ((R ++ [k + 1]).map fun (x : Nat) => (x : Int)).map .int := by rw [List.map_map]; rfl
            rw [hl]
            refine blt_min_list (m := Int.ofNat m) ?_ fun x mx => ?_
            · refine List.mem_map.mpr ⟨m, ?_, rfl⟩
              rcases List.mem_cons.mp hm1 with e | e
              · rw [e]; simp
              · exact List.mem_append.mpr (.inl e)
            · obtain ⟨y, my, rfl⟩ := List.mem_map.mp mx
              have : m ≤ y := hm2 y (by
                rcases List.mem_append.mp my with e | e
                · exact .tail _ e
                · rw [List.mem_singleton.mp e]; exact .head _)
              show (m : Int) ≤ (y : Int)
              omega
          · unfold fitK
            rw [if_neg q3']
            congr 1
            rw [Bool.eq_iff_iff]
            simp only [Bool.and_eq_true, decide_eq_true_eq, List.any_eq_true]
            have e3 : ((dt : Int).fmod 3) = ((dt % 3 : Nat) : Int) := by rw [Int.fmod_eq_emod_of_nonneg _ (by decide)]; omega
            rw [e3]
            refine and_congr ⟨fun h => ?_, fun ⟨r, hr, h⟩ => ?_⟩ (by omega)
            · have h : (m : Int) ≤ k := h
              rcases List.mem_cons.mp hm1 with e | e
              · omega
              · exact ⟨m, e, by omega⟩
            · have := hm2 r (.tail _ hr)
              show (m : Int) ≤ k
              omega
        obtain ⟨rfl, rfl⟩ := hh
        generalize hF : fitK dt R k dg = F at *
        have hB1 := hfit F rfl
        refine wss_cons (ws_if (q := F && vl == "...") (fun X => evt_and (evt_bool (by walk_at "nm")) fun _ => evt_cmp (by walk_at "nm") ev_str cmp_eq_str) (fun q4 => ?_) (fun q4 => ?_))
        · refine wss_cons (ws_assign (d := .list (B1.map natD)) (fun X => EvP.eq (ev_add_list (evl_of (by walk_at "nm")) (evl_of (ev_list_range (k := gs.length - k) glist gr (ev_binop (by walk_at "nm") ev_int bin_add_int) (ev_binop (ev_len_list gl (evl_of (by walk_at "nm")) (by simp; omega)) ev_int bin_add_int) (by omega) (by simp; omega) (by simp; omega) (by simp; omega))) (by simp; omega)) ?_) (.inl rfl) (by walk_at "put") (wss_nil ?_))
          · rw [hB1]; unfold addK; rw [if_pos q4, List.map_append, List.map_map]
            congr 2
          · exact wss_nil (wss_weak (ρ' := [("wanted", Bnd.dat (.list (ws.map lineP))), ("got", .dat (.list (gs.map lineP))), ("reach", .dat (.list (R.map natD))), ("dots", .dat (.int (dt : Int))), ("letter", .dat (.str (mkS [lt]))), ("value", .dat (.str vl)), ("behind", .dat (.list (B1.map natD)))]) (by walk_at "sub") (wss_nil rfl))
        · refine wss_cons (ws_if (q := F) (fun X => evt_bool (by walk_at "nm")) (fun q5 => ?_) (fun q5 => ?_))
          · refine wss_cons (ws_assign (d := .list (B1.map natD)) (fun X => EvP.eq (ev_add_list (evl_of (by walk_at "nm")) (evl_of (ev_list (ds := [.int ((k : Int) + 1)]) ⟨ev_binop (by walk_at "nm") ev_int bin_add_int, trivial⟩)) (by simp; omega)) ?_) (.inl rfl) (by walk_at "put") (wss_nil ?_))
            · rw [hB1]; unfold addK; rw [if_neg (by rw [q4]; decide), if_pos q5, List.map_append]; rfl
            · exact wss_nil (wss_nil (wss_weak (ρ' := [("wanted", Bnd.dat (.list (ws.map lineP))), ("got", .dat (.list (gs.map lineP))), ("reach", .dat (.list (R.map natD))), ("dots", .dat (.int (dt : Int))), ("letter", .dat (.str (mkS [lt]))), ("value", .dat (.str vl)), ("behind", .dat (.list (B1.map natD)))]) (by walk_at "sub") (wss_nil rfl)))
          · have hB2 : B1 = B := by rw [hB1]; unfold addK; rw [if_neg (by rw [q4]; decide), if_neg (by rw [q5]; decide), List.append_nil]
            rw [← hB2]
            exact wss_nil (wss_nil (wss_nil (wss_weak (ρ' := [("wanted", Bnd.dat (.list (ws.map lineP))), ("got", .dat (.list (gs.map lineP))), ("reach", .dat (.list (R.map natD))), ("dots", .dat (.int (dt : Int))), ("letter", .dat (.str (mkS [lt]))), ("value", .dat (.str vl)), ("behind", .dat (.list (B1.map natD)))]) (by walk_at "sub") (wss_nil rfl))))
      · have hB2 : B1 = B := by rw [hsucc]; unfold stepK; rw [if_neg (by rw [q]; decide), List.append_nil]
        rw [← hB2]
        exact wss_nil (wss_weak (ρ' := [("wanted", Bnd.dat (.list (ws.map lineP))), ("got", .dat (.list (gs.map lineP))), ("reach", .dat (.list (R.map natD))), ("dots", .dat (.int (dt : Int))), ("letter", .dat (.str (mkS [lt]))), ("value", .dat (.str vl)), ("behind", .dat (.list (B1.map natD)))]) (by walk_at "sub") (wss_nil rfl))
    · subst hi
      rw [List.length_map, List.length_range]
      refine wss_cons (ws_assign (d := .list (nw.map natD)) (fun X => EvP.eq (by walk_at "nm") (by rw [hadd])) (.inl rfl) (by walk_at "put") ?_)
      exact wss_weak (ρ' := [("wanted", Bnd.dat (.list (ws.map lineP))), ("got", .dat (.list (gs.map lineP))), ("reach", .dat (.list (nw.map natD)))]) (by walk_at "sub") (wss_nil rfl)
  · subst hi
    rw [List.length_map, List.take_length]
    refine wss_cons (ws_return (d := .bool (takes ws gs)) (fun X => EvP.eq (ev_in_list (a := natD gs.length) (EvP.eq (ev_len_list gl (evl_of (by walk_at "nm")) (by simp; omega)) (by simp)) (evl_of (by walk_at "nm")) sh_int.shaped sh_nats.shaped) (by rw [any_nat]; rfl)) (fun h X v r => r))
  · obtain ⟨l, _, rfl⟩ := List.mem_map.mp m
    exact ⟨_, rfl⟩
end
end Mine
end
section
open PySem PySem.W PyProof.Rows PySem.Calls PySem.Spec PySem.Builtin.Re
set_option maxRecDepth 100000
set_option linter.unusedVariables false
set_option Elab.async false
set_option maxHeartbeats 4000000
namespace Mine
local macro_rules | `(tactic| walk_at "mem") => `(tactic| first | exact List.Mem.head _ | (apply List.Mem.tail; walk_at "mem"))
local macro_rules | `(tactic| walk_at "put") => `(tactic| first | exact Put.nil | exact Put.here | (apply Put.there; all_goals (first | (decide; done) | walk_at "put")))
local macro_rules | `(tactic| walk_at "puts") => `(tactic| first | exact Puts.nil | (apply Puts.cons; all_goals (first | walk_at "put" | walk_at "puts")))
local macro_rules | `(tactic| walk_at "nm") => `(tactic| (refine ev_name ?_; walk_at "mem"))
local macro_rules | `(tactic| walk_at "sub") => `(tactic| first | exact List.Sublist.slnil | (apply List.Sublist.cons_cons; walk_at "sub") | (apply List.Sublist.cons; walk_at "sub"))
local macro_rules | `(tactic| walk_at "lt") => `(tactic| first | exact Nat.lt_succ_self _ | (refine Nat.lt_succ_of_lt ?_; walk_at "lt"))
local macro_rules | `(tactic| walk_at "cell") => `(tactic| exact .inr ⟨rfl, _, rfl, by walk_at "lt"⟩)
local macro_rules | `(tactic| walk_at "dats") => `(tactic| simp only [dats, List.map_cons, List.map_nil])
local macro_rules | `(tactic| walk_at "caps") => `(tactic| first | exact trivial | exact ⟨⟨by walk_at "mem", .inl rfl, .inl rfl, fun _ => rfl⟩, by walk_at "caps"⟩)
def numsN (l : List Int) : List Nat := (l.take 4).map (fun x => (x.fmod (10 ^ 6)).toNat) ++ ([24, 416, 58, 19] : List Nat).drop (l.take 4).length
def letC (n : Nat) : Nat := match n / 6 % 4 with | 0 => 97 | 1 => 65 | 2 => 98 | _ => 66
def valC (n : Nat) : Str := if n / 384 % 2 = 0 then "x" else "y"
def dG (n : Nat) : Nat := n / 24 % 4
def d1W (n : Nat) : Nat := if n % 6 = 3 ∨ n % 6 = 5 then n / 96 % 4 else dG n
def dW (n : Nat) : Nat := if n % 6 = 4 then d1W n + 3 else d1W n
def vW (n : Nat) : Str := if n % 6 = 1 then "..." else valC n
def lnG (n : Nat) : List Line := if n % 6 = 5 then [] else [(dG n, letC n, valC n)]
def lnW (n : Nat) : List Line := if n % 6 = 2 then [] else [(dW n, letC n, vW n)]
def wantL (ns : List Nat) : List Line := ns.flatMap lnW
def gotL (ns : List Nat) : List Line := ns.flatMap lnG
theorem wantL_snoc (ns : List Nat) (n : Nat) : wantL (ns ++ [n]) = wantL ns ++ lnW n := by unfold wantL; rw [List.flatMap_append]; simp
theorem gotL_snoc (ns : List Nat) (n : Nat) : gotL (ns ++ [n]) = gotL ns ++ lnG n := by unfold gotL; rw [List.flatMap_append]; simp
theorem letC_ok (n : Nat) : LetOK (letC n) := by
  unfold letC LetOK; split <;> simp
theorem valC_ok (n : Nat) : valC n = "x" ∨ valC n = "y" := by unfold valC; split <;> simp
theorem dW_le (n : Nat) : dW n ≤ 6 := by unfold dW d1W dG; split <;> split <;> omega
theorem lnG_ok (n : Nat) : (lnG n).length ≤ 1 ∧ ∀ l ∈ lnG n, l.1 ≤ 3 ∧ LetOK l.2.1 ∧ (l.2.2 = "x" ∨ l.2.2 = "y") := by
  unfold lnG
  split
  · exact ⟨by simp, fun l m => by cases m⟩
  · refine ⟨by simp, fun l m => ?_⟩
    rw [List.mem_singleton.mp m]
    exact ⟨by unfold dG; show n / 24 % 4 ≤ 3; omega, letC_ok n, valC_ok n⟩
theorem lnW_ok (n : Nat) : (lnW n).length ≤ 1 ∧ ∀ l ∈ lnW n, l.1 ≤ 6 ∧ LetOK l.2.1 ∧ (l.2.2 = "x" ∨ l.2.2 = "y" ∨ l.2.2 = "...") := by
  unfold lnW
  split
  · exact ⟨by simp, fun l m => by cases m⟩
  · refine ⟨by simp, fun l m => ?_⟩
    rw [List.mem_singleton.mp m]
    refine ⟨dW_le n, letC_ok n, ?_⟩
    show vW n = "x" ∨ vW n = "y" ∨ vW n = "..."
    unfold vW
    split
    · exact .inr (.inr rfl)
    · rcases valC_ok n with e | e
      · exact .inl e
      · exact .inr (.inl e)
theorem flat_len {f : Nat → List Line} (h : ∀ n, (f n).length ≤ 1) : ∀ ns : List Nat, (ns.flatMap f).length ≤ ns.length
  | [] => by simp
  | n :: ns => by rw [List.flatMap_cons, List.length_append, List.length_cons]; have := h n; have := flat_len h ns; omega
theorem numsN_len (l : List Int) : (numsN l).length = 4 := by
  unfold numsN
  rw [List.length_append, List.length_map, List.length_drop, List.length_take]
  have : min 4 l.length ≤ 4 := Nat.min_le_left _ _
  simp only [List.length_cons, List.length_nil]
  omega
theorem numsN_int (l : List Int) : (numsN l).map natD = ((l.take 4).map (fun x => PyData.int (x.fmod (10 ^ 6)))) ++ ([.int 24, .int 416, .int 58, .int 19] : List PyData).drop (l.take 4).length := by
  unfold numsN
  rw [List.map_append, List.map_map, List.map_drop]
  congr 1
  refine List.map_congr_left fun x _ => ?_
  show PyData.int (((x.fmod (10 ^ 6)).toNat : Nat) : Int) = _
  have : 0 ≤ x.fmod (10 ^ 6) := Int.fmod_nonneg_of_pos _ (by decide)
  rw [Int.toNat_of_nonneg this]
theorem fdm (n a b : Nat) (ha : 0 < a) (hb : 0 < b) : ((n : Int).fdiv (a : Int)).fmod (b : Int) = ((n / a % b : Nat) : Int) := by
  rw [Int.fdiv_eq_ediv_of_nonneg _ (by omega), Int.fmod_eq_emod_of_nonneg _ (by omega)]
  rw [← Int.natCast_ediv, ← Int.natCast_emod]
theorem fm6 (n : Nat) : ((n : Int).fmod 6) = ((n % 6 : Nat) : Int) := by
  rw [Int.fmod_eq_emod_of_nonneg _ (by decide)]; omega
section
variable {g : G} {P : Params} (b : Bs g (hd2.heap_39 P))
include b
set_option pp.maxSteps 3000
set_option pp.deepTerms false
set_option pp.deepTerms.threshold 5
theorem heads2_call (l : List Int) (hl : l.length ≤ 63) : CallM 1 g 3 217 [.list (l.map .int)] (.tuple [.list ((wantL (numsN l)).map lineP), .list ((gotL (numsN l)).map lineP)]) := by
  intro X s vs hp rds A Q E rm h
  obtain ⟨v, rfl, rv⟩ := rds.one
  have gl := g2_len b
  refine call_enterN (N := 1) (n := 2) (M := g.T) (ρ := [("script", .dat (.list (l.map .int)))]) (P := RetD (.tuple [.list ((wantL (numsN l)).map lineP), .list ((gotL (numsN l)).map lineP)])) (binds := [("script", v)]) (Nat.le_add_left _ _) hp (b.kin 217 _ rfl) rfl b.lim ⟨_, _, _, _, rfl, b.kin _ _ rfl, rfl, rfl⟩ rfl
    (BindsTo.of_eq (by rfl)) rfl rfl rfl rfl rfl rfl (by decide) (fun y m => ?_) (fun y c m => ?_) ?_ List.nodup_nil (fun a m => by cases m) (fun t m => m) rm (fun L => wssn_of ?_) fun fl ρ' X' h' tk u hN' hP pr gw x0 r => ?_
  · simp only [List.mem_cons, List.not_mem_nil, or_false] at m
    rcases m with rfl; rfl
  · simp only [List.mem_cons, List.not_mem_nil, or_false] at m
    cases m
    exact ⟨_, rfl, rfl, rv⟩
  · simp only [List.map_cons, List.map_nil]; decide
  rotate_left
  · cases fl with
    | nxt => cases (show PyData.tuple _ = .none from hP)
    | ret R => exact h u h' tk hN' pr (hP h' X u r)
  refine wss_cons (ws_comp (cs := []) (l := (l.take 4).map .int) (fun d => match d with | .int x => some (.int (x.fmod (10 ^ 6))) | _ => none)
    (fun X => evi_list (EvP.eq (ev_slice (klo := none) (khi := some 4) (evl_of (by walk_at "nm")) trivial ev_int (by simp; omega)) (by rw [show (4 : Int) = ((4 : Nat) : Int) from rfl, pickD_upto, List.map_take])))
    trivial (fun X d md C h₁ => ?_) tg_name (by simp; omega) (.inl rfl) (by walk_at "put") ?_)
  · obtain ⟨x, _, rfl⟩ := List.mem_map.mp md
    refine asg_name (.inl rfl) Put.nil ⟨List.nil_sublist _, fun _ => rfl, fun d' e X' => ?_⟩
    cases e
    exact ev_binop (by walk_at "nm") (ev_binop ev_int ev_int (bin_pow_int (by decide) (by decide) (by decide))) (bin_mod_int (by decide))
  rw [filterMap_all (f := PyData.int) (q := fun x => .int (x.fmod (10 ^ 6))) (fun x => rfl)]
  refine wss_cons (ws_assign (d := .list ((numsN l).map natD)) (fun X => EvP.eq (ev_add_list (evl_of (by walk_at "nm"))
    (evl_of (ev_slice (klo := some (l.take 4).length) (khi := none) (evl_of (ev_list (ds := [.int 24, .int 416, .int 58, .int 19]) ⟨ev_int, ev_int, ev_int, ev_int, trivial⟩)) (EvP.eq (ev_len_list gl (evl_of (by walk_at "nm")) (by simp; omega)) (by simp)) trivial (by decide))) (by simp [pickD]; omega)) ?_) (.inl rfl) (by walk_at "put") ?_)
  · rw [pickD_from, numsN_int]
  refine wss_cons (ws_own (fun X => evf_list (es := []) (ds := []) trivial) (.inl rfl) fun a na => ⟨_, by walk_at "put", ?_⟩)
  refine wss_cons (ws_own (fun X => evf_list (es := []) (ds := []) trivial) (.inl rfl) fun c nc => ⟨_, by walk_at "put", ?_⟩)
  have hnl := numsN_len l
  generalize numsN l = ns at hnl
  refine wss_cons (ws_for (l := ns.map natD) (fun X => evi_list (by walk_at "nm")) (fun i ρ' => ρ' = ([("script", Bnd.dat (.list (l.map .int))), ("numbers", .dat (.list (ns.map natD))), ("wanted", .own a ((wantL (ns.take i)).map lineP)), ("got", .own c ((gotL (ns.take i)).map lineP))] : List (Str × Bnd))) rfl (fun i d ρ1 hd hi => ?_) (fun ρ1 hi => ?_) tg_name)
  · subst hi
    rw [List.getElem?_map] at hd
    obtain ⟨n, hni, e0⟩ := Option.map_eq_some_iff.mp hd
    have e0 : PyData.int (n : Int) = d := e0
    subst e0
    have hstep : ns.take (i + 1) = ns.take i ++ [n] := by rw [List.take_add_one, hni]; rfl
    have hw := wantL_snoc (ns.take i) n
    have hg := gotL_snoc (ns.take i) n
    rw [← hstep] at hw hg
    have lw : (wantL (ns.take i)).length ≤ 4 := Nat.le_trans (flat_len (fun n => (lnW_ok n).1) _) (by simp; omega)
    have lg : (gotL (ns.take i)).length ≤ 4 := Nat.le_trans (flat_len (fun n => (lnG_ok n).1) _) (by simp; omega)
    generalize wantL (ns.take (i + 1)) = W1 at hw
    generalize gotL (ns.take (i + 1)) = G1 at hg
    generalize wantL (ns.take i) = W at hw lw
    generalize gotL (ns.take i) = G at hg lg
    refine asg_name (.inl rfl) (by walk_at "put") ?_
    refine wss_cons (ws_assign (d := .int ((n % 6 : Nat) : Int)) (fun X => EvP.eq (ev_binop (by walk_at "nm") ev_int (bin_mod_int (by decide))) (by rw [fm6])) (.inl rfl) (by walk_at "put") ?_)
    refine wss_cons (ws_assign (d := .str (mkS [letC n])) (fun X => ev_itemS (x := "aAbB") (k := ((n / 6 % 4 : Nat) : Int)) (ch := letC n) ev_str (EvP.eq (ev_binop (ev_binop (by walk_at "nm") ev_int (bin_fdiv_int (by decide) (by decide))) ev_int (bin_mod_int (by decide))) (by rw [show (6 : Int) = ((6 : Nat) : Int) from rfl, show (4 : Int) = ((4 : Nat) : Int) from rfl, fdm n 6 4 (by decide) (by decide)])) ?_ (by omega)) (.inl rfl) (by walk_at "put") ?_)
    · unfold letC
      have h4 : n / 6 % 4 = 0 ∨ n / 6 % 4 = 1 ∨ n / 6 % 4 = 2 ∨ n / 6 % 4 = 3 := by omega
      rcases h4 with e | e | e | e <;> rw [e] <;> decide +kernel
    refine wss_cons (ws_assign (d := .int ((dG n : Nat) : Int)) (fun X => EvP.eq (ev_binop (ev_binop (by walk_at "nm") ev_int (bin_fdiv_int (by decide) (by decide))) ev_int (bin_mod_int (by decide))) (by rw [show (24 : Int) = ((24 : Nat) : Int) from rfl, show (4 : Int) = ((4 : Nat) : Int) from rfl, fdm n 24 4 (by decide) (by decide)]; rfl)) (.inl rfl) (by walk_at "put") ?_)
    refine wss_cons (ws_assign (d := .str (valC n)) (fun X => EvP.eq (ev_itemS (x := "xy") (k := ((n / 384 % 2 : Nat) : Int)) (ch := 120 + n / 384 % 2) ev_str (EvP.eq (ev_binop (ev_binop (by walk_at "nm") ev_int (bin_fdiv_int (by decide) (by decide))) ev_int (bin_mod_int (by decide))) (by rw [show (384 : Int) = ((384 : Nat) : Int) from rfl, show (2 : Int) = ((2 : Nat) : Int) from rfl, fdm n 384 2 (by decide) (by decide)])) ?_ (by omega)) ?_) (.inl rfl) (by walk_at "put") ?_)
    · have h4 : n / 384 % 2 = 0 ∨ n / 384 % 2 = 1 := by omega
      rcases h4 with e | e <;> rw [e] <;> decide +kernel
    · unfold valC
      have h4 : n / 384 % 2 = 0 ∨ n / 384 % 2 = 1 := by omega
      rcases h4 with e | e <;> rw [e] <;> rfl
    have k5 : ∀ m : Nat, (((n % 6 : Nat) : Int) != (m : Int)) = !decide (n % 6 = m) := fun m => by rw [Bool.eq_iff_iff]; simp; omega
    have k6 : ∀ m : Nat, (((n % 6 : Nat) : Int) == (m : Int)) = decide (n % 6 = m) := fun m => by rw [Bool.eq_iff_iff]; simp; omega
    refine wss_cons (ws_mono (P := fun f ρ' => f = .nxt ∧ ρ' = ([("script", Bnd.dat (.list (l.map .int))), ("numbers", .dat (.list (ns.map natD))), ("wanted", .own a (W.map lineP)), ("got", .own c (G1.map lineP)), ("n", .dat (.int (n : Int))), ("kind", .dat (.int ((n % 6 : Nat) : Int))), ("letter", .dat (.str (mkS [letC n]))), ("dots", .dat (.int ((dG n : Nat) : Int))), ("value", .dat (.str (valC n)))] : List (Str × Bnd)))
      (ws_if (q := !decide (n % 6 = 5)) (fun X => EvT.eq (evt_cmp (by walk_at "nm") ev_int cmp_ne_int) (k5 5)) (fun q => ?_) (fun q => ?_)) (fun f ρ' hh => ?_))
    · refine wss_cons (ws_append (d := lineP (dG n, letC n, valC n)) (by walk_at "mem") (fun X => ev_tuple (ds := [.int ((dG n : Nat) : Int), .str (mkS [letC n]), .str (valC n)]) ⟨by walk_at "nm", by walk_at "nm", by walk_at "nm", trivial⟩) (by simp; omega) (by walk_at "put") (wss_nil ⟨rfl, ?_⟩))
      rw [hg]; unfold lnG; rw [if_neg (by simpa using q), List.map_append]; rfl
    · refine wss_nil ⟨rfl, ?_⟩
      rw [hg]; unfold lnG; rw [if_pos (by simpa using q), List.append_nil]
    obtain ⟨rfl, rfl⟩ := hh
    refine wss_cons (ws_mono (P := fun f ρ' => f = .nxt ∧ ρ' = ([("script", Bnd.dat (.list (l.map .int))), ("numbers", .dat (.list (ns.map natD))), ("wanted", .own a (W.map lineP)), ("got", .own c (G1.map lineP)), ("n", .dat (.int (n : Int))), ("kind", .dat (.int ((n % 6 : Nat) : Int))), ("letter", .dat (.str (mkS [letC n]))), ("dots", .dat (.int ((dG n : Nat) : Int))), ("value", .dat (.str (vW n)))] : List (Str × Bnd)))
      (ws_if (q := decide (n % 6 = 1)) (fun X => EvT.eq (evt_cmp (by walk_at "nm") ev_int cmp_eq_int) (k6 1)) (fun q => ?_) (fun q => ?_)) (fun f ρ' hh => ?_))
    · refine wss_cons (ws_assign (d := .str (vW n)) (fun X => EvP.eq ev_str (by unfold vW; rw [if_pos (by simpa using q)])) (.inl rfl) (by walk_at "put") (wss_nil ⟨rfl, rfl⟩))
    · refine wss_nil ⟨rfl, ?_⟩
      unfold vW; rw [if_neg (by simpa using q)]
    obtain ⟨rfl, rfl⟩ := hh
    refine wss_cons (ws_mono (P := fun f ρ' => f = .nxt ∧ ρ' = ([("script", Bnd.dat (.list (l.map .int))), ("numbers", .dat (.list (ns.map natD))), ("wanted", .own a (W.map lineP)), ("got", .own c (G1.map lineP)), ("n", .dat (.int (n : Int))), ("kind", .dat (.int ((n % 6 : Nat) : Int))), ("letter", .dat (.str (mkS [letC n]))), ("dots", .dat (.int ((d1W n : Nat) : Int))), ("value", .dat (.str (vW n)))] : List (Str × Bnd)))
      (ws_if (q := decide (n % 6 = 3 ∨ n % 6 = 5)) (fun X => EvT.eq (evt_cmp (by walk_at "nm") (ev_tuple (ds := [.int 3, .int 5]) ⟨ev_int, ev_int, trivial⟩) (cmp_in_tuple sh_int.shaped (sh_tuple (k := 0) fun d m => ?_).shaped)) ?_) (fun q => ?_) (fun q => ?_)) (fun f ρ' hh => ?_))
    · simp only [List.mem_cons, List.not_mem_nil, or_false] at m
      rcases m with rfl | rfl <;> exact sh_int
    · rw [Bool.eq_iff_iff]; simp [eqv_int]; omega
    · refine wss_cons (ws_assign (d := .int ((d1W n : Nat) : Int)) (fun X => EvP.eq (ev_binop (ev_binop (by walk_at "nm") ev_int (bin_fdiv_int (by decide) (by decide))) ev_int (bin_mod_int (by decide))) (by rw [show (96 : Int) = ((96 : Nat) : Int) from rfl, show (4 : Int) = ((4 : Nat) : Int) from rfl, fdm n 96 4 (by decide) (by decide)]; unfold d1W; rw [if_pos (by simpa using q)])) (.inl rfl) (by walk_at "put") (wss_nil ⟨rfl, rfl⟩))
    · refine wss_nil ⟨rfl, ?_⟩
      unfold d1W; rw [if_neg (by simpa using q)]
    obtain ⟨rfl, rfl⟩ := hh
    refine wss_cons (ws_mono (P := fun f ρ' => f = .nxt ∧ ρ' = ([("script", Bnd.dat (.list (l.map .int))), ("numbers", .dat (.list (ns.map natD))), ("wanted", .own a (W.map lineP)), ("got", .own c (G1.map lineP)), ("n", .dat (.int (n : Int))), ("kind", .dat (.int ((n % 6 : Nat) : Int))), ("letter", .dat (.str (mkS [letC n]))), ("dots", .dat (.int ((dW n : Nat) : Int))), ("value", .dat (.str (vW n)))] : List (Str × Bnd)))
      (ws_if (q := decide (n % 6 = 4)) (fun X => EvT.eq (evt_cmp (by walk_at "nm") ev_int cmp_eq_int) (k6 4)) (fun q => ?_) (fun q => ?_)) (fun f ρ' hh => ?_))
    · refine wss_cons (ws_assign (d := .int ((dW n : Nat) : Int)) (fun X => EvP.eq (ev_binop (by walk_at "nm") ev_int bin_add_int) (by unfold dW; rw [if_pos (by simpa using q)]; rfl)) (.inl rfl) (by walk_at "put") (wss_nil ⟨rfl, rfl⟩))
    · refine wss_nil ⟨rfl, ?_⟩
      unfold dW; rw [if_neg (by simpa using q)]
    obtain ⟨rfl, rfl⟩ := hh
    refine wss_cons (ws_mono (P := fun f ρ' => f = .nxt ∧ ρ' = ([("script", Bnd.dat (.list (l.map .int))), ("numbers", .dat (.list (ns.map natD))), ("wanted", .own a (W1.map lineP)), ("got", .own c (G1.map lineP)), ("n", .dat (.int (n : Int))), ("kind", .dat (.int ((n % 6 : Nat) : Int))), ("letter", .dat (.str (mkS [letC n]))), ("dots", .dat (.int ((dW n : Nat) : Int))), ("value", .dat (.str (vW n)))] : List (Str × Bnd)))
      (ws_if (q := !decide (n % 6 = 2)) (fun X => EvT.eq (evt_cmp (by walk_at "nm") ev_int cmp_ne_int) (k5 2)) (fun q => ?_) (fun q => ?_)) (fun f ρ' hh => ?_))
    · refine wss_cons (ws_append (d := lineP (dW n, letC n, vW n)) (by walk_at "mem") (fun X => ev_tuple (ds := [.int ((dW n : Nat) : Int), .str (mkS [letC n]), .str (vW n)]) ⟨by walk_at "nm", by walk_at "nm", by walk_at "nm", trivial⟩) (by simp; omega) (by walk_at "put") (wss_nil ⟨rfl, ?_⟩))
      rw [hw]; unfold lnW; rw [if_neg (by simpa using q), List.map_append]; rfl
    · refine wss_nil ⟨rfl, ?_⟩
      rw [hw]; unfold lnW; rw [if_pos (by simpa using q), List.append_nil]
    obtain ⟨rfl, rfl⟩ := hh
    exact wss_weak (ρ' := [("script", Bnd.dat (.list (l.map .int))), ("numbers", .dat (.list (ns.map natD))), ("wanted", .own a (W1.map lineP)), ("got", .own c (G1.map lineP))]) (by walk_at "sub") (wss_nil rfl)
  · subst hi
    rw [List.length_map, List.take_length]
    refine wss_freeze (x := "wanted") (by walk_at "mem") na (by walk_at "put") ?_
    refine wss_freeze (x := "got") (by walk_at "mem") nc (by walk_at "put") ?_
    exact wss_cons (ws_return (d := .tuple [.list ((wantL ns).map lineP), .list ((gotL ns).map lineP)]) (fun X => ev_tuple (ds := [_, _]) ⟨by walk_at "nm", by walk_at "nm", trivial⟩) (fun h X v r => r))
end
end Mine
end
section
open PySem PySem.W PyProof.Rows PySem.Calls PySem.Spec PySem.Builtin.Re
set_option maxRecDepth 100000
set_option linter.unusedVariables false
set_option Elab.async false
set_option maxHeartbeats 4000000
namespace Mine
local macro_rules | `(tactic| walk_at "mem") => `(tactic| first | exact List.Mem.head _ | (apply List.Mem.tail; walk_at "mem"))
local macro_rules | `(tactic| walk_at "put") => `(tactic| first | exact Put.nil | exact Put.here | (apply Put.there; all_goals (first | (decide; done) | walk_at "put")))
local macro_rules | `(tactic| walk_at "puts") => `(tactic| first | exact Puts.nil | (apply Puts.cons; all_goals (first | walk_at "put" | walk_at "puts")))
local macro_rules | `(tactic| walk_at "nm") => `(tactic| (refine ev_name ?_; walk_at "mem"))
local macro_rules | `(tactic| walk_at "sub") => `(tactic| first | exact List.Sublist.slnil | (apply List.Sublist.cons_cons; walk_at "sub") | (apply List.Sublist.cons; walk_at "sub"))
local macro_rules | `(tactic| walk_at "lt") => `(tactic| first | exact Nat.lt_succ_self _ | (refine Nat.lt_succ_of_lt ?_; walk_at "lt"))
local macro_rules | `(tactic| walk_at "cell") => `(tactic| exact .inr ⟨rfl, _, rfl, by walk_at "lt"⟩)
local macro_rules | `(tactic| walk_at "dats") => `(tactic| simp only [dats, List.map_cons, List.map_nil])
local macro_rules | `(tactic| walk_at "caps") => `(tactic| first | exact trivial | exact ⟨⟨by walk_at "mem", .inl rfl, .inl rfl, fun _ => rfl⟩, by walk_at "caps"⟩)
def firstOf (ls : List (Str × Str)) (nm : Str) : PyData := match ls.find? (fun p => Txt.lower p.1 == Txt.lower nm) with | some p => .str p.2 | none => .none
def GetPre (ls : List (Str × Str)) (nm : Str) : Prop := Builtin.Str.tooLong (Txt.lower nm).length = false ∧ Pretty (Txt.lower nm) ∧ (Txt.lower nm).length ≤ 100000 ∧ (∀ p ∈ ls, Builtin.Str.tooLong (Txt.lower p.1).length = false) ∧ ls.length ≤ 1000
theorem firstOf_atom (ls : List (Str × Str)) (nm : Str) : atomD (firstOf ls nm) := by unfold firstOf; split <;> trivial
def rowsS (ls : List (Str × Str)) : Str := Txt.join "\r\n" (ls.map (fun p => p.1 ++ mkS [58, 32] ++ p.2) ++ [("" : Str), ("" : Str)])
def StrPre (ls : List (Str × Str)) : Prop := (∀ p ∈ ls, p.1.length ≤ 1000 ∧ p.2.length ≤ 1000) ∧ ls.length ≤ 100
def SetPre (ls : List (Str × Str)) (nm val : Str) : Prop := GetPre ls nm ∧ Pretty nm ∧ Pretty val ∧ nm.length ≤ 100000 ∧ val.length ≤ 100000
def setS (ls : List (Str × Str)) (nm val : Str) : List (Str × Str) := if isNo (firstOf ls nm) then ls ++ [(nm, val)] else ls
theorem find_snoc {ls : List (Str × Str)} {i : Nat} {p : Str × Str} {f : Str × Str → Bool} (h : ∀ q ∈ ls.take i, f q = false) (hp : ls[i]? = some p) (hf : f p = true) : ls.find? f = some p := by
  induction ls generalizing i with
  | nil => simp at hp
  | cons x ls ih =>
    cases i with
    | zero =>
      simp at hp; subst hp
      rw [List.find?_cons_of_pos hf]
    | succ i =>
      have hx : f x = false := h x (by simp)
      rw [List.find?_cons_of_neg (by simp [hx])]
      exact ih (i := i) (fun q m => h q (by rw [List.take_succ_cons]; exact .tail _ m)) (by simpa using hp)
section
variable {g : G} {P : Params} (b : Bs g (hd2.heap_39 P)) (hC : g.C = 208)
include b hC
theorem get2_meth : IsMeth (hd2.heap_39 P) g.C "get" 155 := by rw [hC]; exact ⟨by rfl, by rfl, by rfl, by rfl, by rfl, by decide⟩
theorem setd2_meth : IsMeth (hd2.heap_39 P) g.C "setdefault" 198 := by rw [hC]; exact ⟨by rfl, by rfl, by rfl, by rfl, by rfl, by decide⟩
theorem str2_find : findIn (hd2.heap_39 P) (.ref g.C) "__str__" = some (some (.ref 184)) := by rw [hC]; rfl
set_option pp.maxSteps 3000
set_option pp.deepTerms false
set_option pp.deepTerms.threshold 5
theorem get2_ok : GetOK g 5 155 GetPre firstOf := by
  intro X s v ls nm t hp htb hpre A Q E rm h
  obtain ⟨p1, p2, p3, p4, p5⟩ := hpre
  have hK' : Frag.In (hd2.heap_39 P) s.heap := kin_of b.kin hp.base
  refine call_enterB (n := 4) (M := g.T) (ρ := [("self", .tabF (ls.map lineD)), ("name", .dat (.str nm)), ("default", .dat .none)]) (P := RetD (firstOf ls nm)) (binds := [("self", v), ("name", .str nm t), ("default", .none)]) hp (b.kin 155 _ rfl) rfl b.lim ⟨_, _, _, _, rfl, b.kin _ _ rfl, rfl, rfl⟩ rfl
    (binds_K hK' rfl rfl rfl rfl rfl) rfl rfl rfl rfl rfl rfl (by decide) (fun y m => ?_) (fun y c m => ?_) ?_ List.nodup_nil (fun a m => by cases m) (fun t m => m) rm (fun L => ?_) fun fl ρ' X' h' tk u hP pr gw x0 r => ?_
  · simp only [List.mem_cons, List.not_mem_nil, or_false] at m
    rcases m with rfl | rfl | rfl <;> rfl
  · simp only [List.mem_cons, List.not_mem_nil, or_false] at m
    rcases m with m | m | m <;> cases m
    · exact ⟨_, rfl, rfl, htb⟩
    · exact ⟨_, rfl, rfl, rdX_str⟩
    · exact ⟨_, rfl, rfl, rdX_none⟩
  · simp only [List.map_cons, List.map_nil]; decide
  · refine wss_cons (ws_assign (fun X => ev_conv b.kin (conv2_meth b hC) (conv2_ok b hC) (evtab_fixed (by walk_at "mem")) (ev_lower (by walk_at "nm") p1) p2 p3) (.inl rfl) (by walk_at "put") ?_)
    refine wss_cons (ws_for (l := ls.map lineD) (fun X => evi_headers b.kin (hd2_has b hC) (by walk_at "mem")) (fun i ρ' => ρ' = ([("self", .tabF (ls.map lineD)), ("name", .dat (.str (Txt.lower nm))), ("default", .dat .none)] : List (Str × Bnd)) ∧ ∀ p ∈ ls.take i, (Txt.lower p.1 == Txt.lower nm) = false) ⟨rfl, by simp⟩ (fun i d ρ1 hd hi => ?_) (fun ρ1 hi => ?_) (.inr ⟨rfl, fun d m => ?_⟩))
    · obtain ⟨rfl, hi⟩ := hi
      rw [List.getElem?_map] at hd
      obtain ⟨⟨k, w⟩, hli, e0⟩ := Option.map_eq_some_iff.mp hd
      have e0 : PyData.tuple [.str k, .str w] = d := e0
      subst e0
      refine asg_tuple (names := ["k", "v"]) (by rfl) (fun x m => by simp only [List.mem_cons, List.not_mem_nil, or_false] at m; rcases m with rfl | rfl <;> exact .inl rfl) (by walk_at "puts") rfl ?_
      refine wss_cons (ws_if (q := Txt.lower k == Txt.lower nm) (fun X => evt_cmp (ev_lower (by walk_at "nm") (p4 (k, w) (List.mem_of_getElem? hli))) (by walk_at "nm") cmp_eq_str) (fun q => ?_) (fun q => ?_))
      · refine wss_cons (ws_return (d := firstOf ls nm) (fun X => EvP.eq (by walk_at "nm") ?_) (fun h X v r => r))
        unfold firstOf
        rw [find_snoc hi hli q]
      · refine wss_nil (wss_weak (ρ' := [("self", .tabF (ls.map lineD)), ("name", .dat (.str (Txt.lower nm))), ("default", .dat .none)]) (by walk_at "sub") (wss_nil ⟨rfl, fun p m => ?_⟩))
        rw [List.take_add_one, hli] at m
        rcases List.mem_append.mp m with m | m
        · exact hi p m
        · simp at m; subst m; exact q
    · obtain ⟨rfl, hi⟩ := hi
      refine wss_cons (ws_return (d := firstOf ls nm) (fun X => EvP.eq (by walk_at "nm") ?_) (fun h X v r => r))
      unfold firstOf
      rw [List.find?_eq_none.mpr fun p m => by rw [List.length_map, List.take_length] at hi; rw [hi p m]; decide]
    · obtain ⟨l, _, rfl⟩ := List.mem_map.mp m
      exact ⟨_, rfl⟩
  · cases fl with
    | nxt => have : firstOf ls nm = .none := hP; rw [r]; exact h _ h' tk pr (by rw [this]; exact rdX_none)
    | ret R => exact h u h' tk pr (hP h' X u r)
theorem str2_ok : StrOK g 4 184 StrPre rowsS := by
  intro X s v ls hp htb hpre A Q E rm h
  obtain ⟨p1, p2⟩ := hpre
  have add_len : ∀ a b : Str, (a ++ b).length = a.length + b.length := fun a b => by simp [Str.length, Str.cps_append]
  refine call_enter (n := 3) (M := g.T) (ρ := [("self", .tabF (ls.map lineD))]) (P := RetD (.str (rowsS ls))) (binds := [("self", v)]) hp (b.kin 184 _ rfl) rfl b.lim ⟨_, _, _, _, rfl, b.kin _ _ rfl, rfl, rfl⟩ rfl (by rfl) rfl rfl rfl rfl rfl rfl
    (fun L y m => ?_) (by simp only [List.map_cons, List.map_nil]; decide) (fun y c m => ?_) ?_ List.nodup_nil (fun a m => by cases m) (fun t m => m) rm (fun L => ?_) fun fl ρ' X' h' tk u hP pr gw x0 r => ?_
  · rw [List.mem_singleton.mp m]; exact .inl rfl
  · simp only [List.mem_cons, List.not_mem_nil, or_false] at m
    cases m
    exact ⟨_, by walk_at "mem", htb⟩
  · simp only [List.map_cons, List.map_nil]; decide
  · refine wss_cons (ws_return (d := .str (rowsS ls)) (fun X => ev_join (x := "\r\n") (ss := ls.map (fun p => p.1 ++ mkS [58, 32] ++ p.2) ++ [("" : Str), ("" : Str)]) ev_str (EvP.eq (ev_add_list (evl_of (evp_of_evf (EvF.eq (evf_comp (cs := []) (l := ls.map lineD) (fun d => match d with | .tuple [.str a, .str b] => some (.str (a ++ mkS [58, 32] ++ b)) | _ => none)
      (evi_headers b.kin (hd2_has b hC) (by walk_at "mem")) trivial (fun d md C h₁ => ?_) tg_name (by rw [List.length_map]; omega)) (by rw [filterMap_all (f := lineD) (q := fun p => .str (p.1 ++ mkS [58, 32] ++ p.2)) (fun x => rfl)])))) (evl_of (ev_list (ds := [.str "", .str ""]) ⟨ev_str, ev_str, trivial⟩)) (by simp; omega)) ?_) (joinOk_of_weight ?_ (by decide +kernel))) (fun h X v r => r))
    · obtain ⟨p, mp, rfl⟩ := List.mem_map.mp md
      have hpp := p1 p mp
      walk_at "dats"
      refine asg_name (.inl rfl) (by walk_at "put") ⟨by walk_at "sub", fun X' => rfl, fun d' e X' => ?_⟩
      cases e
      exact ev_binop ev_str (by walk_at "nm") (bin_mod_kv (by omega) (by omega))
    · rw [List.map_append, List.map_map]; rfl
    · have key : ∀ l : List (Str × Str), (∀ p ∈ l, p.1.length ≤ 1000 ∧ p.2.length ≤ 1000) → ((l.map (fun p => p.1 ++ mkS [58, 32] ++ p.2)).map (·.length)).sum ≤ l.length * 2002 := by
        intro l hl
        induction l with
        | nil => simp
        | cons p l ih =>
          have h1 := hl p (.head _)
          have h2 := ih fun q m => hl q (.tail _ m)
          rw [List.map_cons, List.map_cons, List.sum_cons, List.length_cons, add_len, add_len, mk_len]
          have : [58, 32].length = 2 := rfl
          omega
      have := key ls p1
      have e0 : ("" : Str).length = 0 := rfl
      rw [List.map_append, List.sum_append, List.length_append, List.length_map]
      simp only [List.map_cons, List.map_nil, List.sum_cons, List.sum_nil, List.length_cons, List.length_nil, e0]
      have : ls.length * 2002 ≤ 100 * 2002 := Nat.mul_le_mul_right _ p2
      omega
  · cases fl with
    | nxt => cases (show PyData.str (rowsS ls) = .none from hP)
    | ret R => exact h u h' tk pr (hP h' X u r)
theorem setd2_ok : MutOK g 7 198 SetPre setS := by
  intro X s v a ls nm val t1 t2 hp tb aX hpre A Q E rm h
  obtain ⟨hg, h1, h2, l1, l2⟩ := hpre
  refine wpAny_call (code_rawC (n := 6) (M := a :: g.T) (ρ := [("self", .tab a (ls.map lineD)), ("name", .dat (.str nm)), ("value", .dat (.str val))]) (binds := [("self", v), ("name", .str nm t1), ("value", .str val t2)]) hp (b.kin 198 _ rfl) rfl b.lim ⟨_, _, _, _, rfl, b.kin _ _ rfl, rfl, rfl⟩ rfl (by rfl) rfl rfl rfl rfl rfl rfl
    (fun L y m => ?_) (by simp only [List.map_cons, List.map_nil]; decide) (fun y c m => ?_) ?_ ?_ (fun a' m => ?_) (fun t m => .tail _ m) rm (fun L Xc h₁ tk E' F0 keep rm1 => ?_))
  · simp only [List.mem_cons, List.not_mem_nil, or_false] at m
    rcases m with rfl | rfl | rfl <;> exact .inl rfl
  · simp only [List.mem_cons, List.not_mem_nil, or_false] at m
    rcases m with m | m | m <;> cases m
    · exact ⟨_, by walk_at "mem", tb, aX⟩
    · exact ⟨_, by walk_at "mem", rdX_str⟩
    · exact ⟨_, by walk_at "mem", rdX_str⟩
  · simp only [List.map_cons, List.map_nil]; decide
  · exact List.nodup_cons.mpr ⟨by simp, List.nodup_nil⟩
  · exact List.mem_cons.mpr (.inl (List.mem_singleton.mp m))
  refine (show WSs g 6 (a :: g.T) s.heap _ X _ [("self", .tab a (ls.map lineD)), ("name", .dat (.str nm)), ("value", .dat (.str val))] (fun f ρ' => match f with | .nxt => False | .ret R => (∃ d, atomD d ∧ R = fun h X v => RdX h X v d) ∧ ∃ r, ρ' = (("self", .tab a ((setS ls nm val).map lineD)) :: r : List (Str × Bnd))) from ?_)
    { s with heap := h₁, toks := tk } Xc F0 _ _ _ rm1 (fun f fl ρ' X' h' tk hP F' ok gw => ?_)
  · refine wss_cons (ws_assign (d := firstOf ls nm) (fun X => ev_getO b.kin (get2_meth b hC) (b.kin 155 _ rfl) rfl (get2_ok b hC) (by decide) (by walk_at "mem") (by walk_at "nm") hg (firstOf_atom _ _)) (.inl rfl) (by walk_at "put") ?_)
    refine wss_cons (ws_if (q := isNo (firstOf ls nm)) (fun X => evt_isNone (by walk_at "nm")) (fun q => ?_) (fun q => ?_))
    · refine wss_cons (ws_tab_append (d := lineD (nm, val)) b.kin (hd2_has b hC) (by walk_at "mem") (fun X => ev_tuple (ds := [_, _]) ⟨ev_conv b.kin (conv2_meth b hC) (conv2_ok b hC) (evtab_own (by walk_at "mem")) (by walk_at "nm") h1 l1,
        ev_conv b.kin (conv2_meth b hC) (conv2_ok b hC) (evtab_own (by walk_at "mem")) (by walk_at "nm") h2 l2, trivial⟩) (by have := hg.2.2.2.2; rw [List.length_map]; omega) (by walk_at "put") ?_)
      refine wss_cons (ws_return (d := .str val) (fun X => by walk_at "nm") ⟨⟨.str val, trivial, rfl⟩, ?_⟩)
      unfold setS
      rw [if_pos q, List.map_append]; exact ⟨_, rfl⟩
    · refine wss_cons (ws_return (d := firstOf ls nm) (fun X => by walk_at "nm") ⟨⟨firstOf ls nm, firstOf_atom _ _, rfl⟩, ?_⟩)
      unfold setS
      rw [if_neg (by rw [q]; decide)]; exact ⟨_, rfl⟩
  · cases f with
    | nxt => exact hP.elim
    | ret R =>
    obtain ⟨⟨d, ad, rfl⟩, r, rfl⟩ := hP
    obtain ⟨w, rfl, rw'⟩ := ok
    obtain ⟨v2, nv2, tb2, _⟩ := F'.cx.vars "self" (.tab a ((setS ls nm val).map lineD)) (by walk_at "mem")
    obtain ⟨vs, pl, q⟩ := isTab_list tb2
    refine h h' tk w (fun z e => ?_) F'.old ⟨vs, pl, q.less F'.x0⟩
    subst e
    cases d <;> first | exact ad.elim | skip
    · cases RdX.none_inv rw'
    · obtain ⟨t, e⟩ := RdX.str_inv rw'; cases e
end
end Mine
end
section
open PySem PySem.W PyProof.Rows PySem.Calls PySem.Spec PySem.Builtin.Re
set_option maxRecDepth 100000
set_option linter.unusedVariables false
set_option Elab.async false
set_option maxHeartbeats 4000000
namespace Mine
local macro_rules | `(tactic| walk_at "mem") => `(tactic| first | exact List.Mem.head _ | (apply List.Mem.tail; walk_at "mem"))
local macro_rules | `(tactic| walk_at "put") => `(tactic| first | exact Put.nil | exact Put.here | (apply Put.there; all_goals (first | (decide; done) | walk_at "put")))
local macro_rules | `(tactic| walk_at "puts") => `(tactic| first | exact Puts.nil | (apply Puts.cons; all_goals (first | walk_at "put" | walk_at "puts")))
local macro_rules | `(tactic| walk_at "nm") => `(tactic| (refine ev_name ?_; walk_at "mem"))
local macro_rules | `(tactic| walk_at "sub") => `(tactic| first | exact List.Sublist.slnil | (apply List.Sublist.cons_cons; walk_at "sub") | (apply List.Sublist.cons; walk_at "sub"))
local macro_rules | `(tactic| walk_at "lt") => `(tactic| first | exact Nat.lt_succ_self _ | (refine Nat.lt_succ_of_lt ?_; walk_at "lt"))
local macro_rules | `(tactic| walk_at "cell") => `(tactic| exact .inr ⟨rfl, _, rfl, by walk_at "lt"⟩)
local macro_rules | `(tactic| walk_at "dats") => `(tactic| simp only [dats, List.map_cons, List.map_nil])
local macro_rules | `(tactic| walk_at "caps") => `(tactic| first | exact trivial | exact ⟨⟨by walk_at "mem", .inl rfl, .inl rfl, fun _ => rfl⟩, by walk_at "caps"⟩)
open PySem.Builtin PySem.Builtin.Str
def LineB (n : Nat) (l : Line) : Prop := l.1 ≤ n ∧ LetOK l.2.1 ∧ (l.2.2 = "x" ∨ l.2.2 = "y" ∨ l.2.2 = "...")
def nv (l : Line) : Str × Str := (mkS (nameT l.1 l.2.1), l.2.2)
def upL (l : Line) : Line := ((if 0 < l.1 then l.1 + 1 else 0), l.2.1, l.2.2)
def hasN (ks : List Line) (l : Line) : Bool := ks.any fun k => k.1 == l.1 && lowC k.2.1 == lowC l.2.1
def addD (ks : List Line) (l : Line) : List Line := if hasN ks l then ks else ks ++ [l]
def dedup (ls : List Line) : List Line := ls.foldl addD []
def hand (ls : List Line) : List Line := dedup (ls.map upL)
theorem mkS_inj {a b : List Nat} (h : mkS a = mkS b) : a = b := by
  have := congrArg (fun x : Str => x.cps.toList) h
  simpa [mkS] using this
theorem nameT_inj {d c d' c' : Nat} (h : nameT d c = nameT d' c') : d = d' ∧ c = c' := by
  unfold nameT at h
  have hl := congrArg List.length h
  simp at hl
  subst hl
  exact ⟨rfl, by simpa using h⟩
theorem join_cat (e : List Nat) : ∀ (ls : List (List Nat)) (t : List Nat), Txt.join (mkS e) ((ls ++ [t]).map mkS) = mkS (cat ls e ++ t) := by
  have key : ∀ (ls : List (List Nat)) (t : List Nat), Str.join (mkS e) ((ls ++ [t]).map mkS) = mkS (cat ls e ++ t) := by
    intro ls t
    induction ls with
    | nil => show mkS t = _; simp [cat]
    | cons x ls ih =>
      have e1 : ((x :: ls) ++ [t]).map mkS = mkS x :: (ls ++ [t]).map mkS := rfl
      cases hr : (ls ++ [t]).map mkS with
      | nil => simp at hr
      | cons y r =>
        rw [e1, hr]
        show mkS x ++ mkS e ++ Str.join (mkS e) (y :: r) = _
        rw [← hr, ih, append_mk, append_mk]
        simp [cat]
  intro ls t
  unfold Txt.join
  rw [StrLaws.glued_eq_join, key]
theorem rows_text (ls : List Line) : rowsS (ls.map nv) = textOf ls := by
  unfold rowsS textOf textL
  have e : (ls.map nv).map (fun p => p.1 ++ mkS [58, 32] ++ p.2) ++ [("" : Str), ("" : Str)] = ((ls.map lineT ++ [[]]) ++ [[]]).map mkS := by
    rw [List.map_append, List.map_append, List.map_map, List.map_map, List.append_assoc]
    congr 1
    refine List.map_congr_left fun l _ => ?_
    show mkS (nameT l.1 l.2.1) ++ mkS [58, 32] ++ l.2.2 = mkS (lineT l)
    rw [str_mk l.2.2, append_mk, append_mk]
    simp [lineT, mkS_list]
  rw [e, str_crlf, join_cat]
  simp [cat]
theorem plain_line {l : Line} {n : Nat} (h : LineB n l) : Plain (lineT l) := by
  obtain ⟨d, c, v⟩ := l
  obtain ⟨h1, h2, h3⟩ := h
  intro x m
  unfold lineT nameT at m
  have h2 : LetOK c := h2
  have h3 : v = "x" ∨ v = "y" ∨ v = "..." := h3
  simp only [List.mem_append, List.mem_replicate, List.mem_cons, List.not_mem_nil, or_false] at m
  have hv : ∀ y ∈ v.cps.toList, y ≠ 10 ∧ y ≠ 13 := by rcases h3 with rfl | rfl | rfl <;> decide +kernel
  rcases m with ((⟨_, rfl⟩ | rfl) | rfl | rfl) | m
  · decide
  · rcases h2 with rfl | rfl | rfl | rfl <;> decide
  · decide
  · decide
  · exact hv x m
theorem dotted_line {l : Line} {n : Nat} (h : LineB n l) : dotted (lineT l) = lineT (upL l) := by
  obtain ⟨d, c, v⟩ := l
  have hc : c ≠ 46 := by rcases h.2.1 with e | e | e | e <;> (have e : c = _ := e; rw [e]; decide)
  cases d with
  | zero =>
    unfold dotted
    rw [if_neg (by simpa [lineT, nameT] using hc)]
    rfl
  | succ d =>
    unfold dotted
    rw [if_pos (by simp [lineT, nameT, List.replicate_succ])]
    show 46 :: lineT (d + 1, c, v) = lineT (d + 1 + 1, c, v)
    simp [lineT, nameT, List.replicate_succ]
theorem replace_cat {ls : List (List Nat)} (h : ∀ l ∈ ls, Plain l) (hne : ls ≠ []) (e : Str) : Txt.replace (mkS (cat ls [13, 10])) "\r\n" e = mkS (cat ls e.cps.toList) := by
  have hs : Txt.split (mkS (cat ls [13, 10])) "\r\n" = (ls ++ [[]]).map mkS := by
    refine map_mk ?_
    rw [split_lists _ _ (by decide +kernel) (by decide +kernel), mkS_list]
    have := split_cat (t := []) (fun c m => by cases m) h
    rw [List.append_nil] at this
    exact this
  have hl : 2 ≤ (Txt.split (mkS (cat ls [13, 10])) "\r\n").length := by
    rw [hs]; cases ls with
    | nil => exact absurd rfl hne
    | cons x r => simp
  have hj : Txt.replace (mkS (cat ls [13, 10])) "\r\n" e = Txt.join e (Txt.split (mkS (cat ls [13, 10])) "\r\n") := by
    unfold Txt.replace
    unfold Txt.split at hl ⊢
    split at hl
    · simp at hl
    · rename_i h1
      rw [if_neg h1]
      split at hl
      · simp at hl
      · rename_i h2
        rw [if_neg h2, if_neg (by simp at h2 ⊢; exact ⟨h2, fun q => by have : ("\r\n" : Str).length = 2 := rfl; omega⟩)]
        rfl
  rw [hj, hs, str_mk e, join_cat, mkS_list, List.append_nil]
/-- what is heard, the last two rows off -/
theorem heard_rows {ls : List Line} {n : Nat} {e : Str} (h : ∀ l ∈ ls, LineB n l) (he : IsNl e.cps.toList) : Txt.split (quoted (Txt.replace (textOf ls) "\r\n" e)) "\r\n" = (ls.map upL).map (fun l => mkS (lineT l)) ++ [("" : Str), ("" : Str)] := by
  have hp : ∀ l ∈ ls.map lineT ++ [[]], Plain l := fun l m => by
    rcases List.mem_append.mp m with m | m
    · obtain ⟨q, mq, rfl⟩ := List.mem_map.mp m; exact plain_line (h q mq)
    · rw [List.mem_singleton.mp m]; intro c mc; cases mc
  have e1 : textOf ls = mkS (cat (ls.map lineT ++ [[]]) [13, 10]) := by unfold textOf textL; simp [cat]
  rw [e1, replace_cat hp (by simp)]
  have := sent_rows (t := []) hp (fun c m => by cases m) he
  rw [List.append_nil] at this
  rw [this, List.map_append, List.map_append, List.map_append, List.map_map, List.map_map, List.map_map, List.append_assoc]
  congr 1
  rw [List.map_map]
  refine List.map_congr_left fun l ml => ?_
  show mkS (dotted (lineT l)) = _
  rw [dotted_line (h l ml)]; rfl
theorem letters {c : Nat} (h : LetOK c) : c ∈ [97, 65, 98, 66] := by rcases h with rfl | rfl | rfl | rfl <;> decide
theorem lower_name {d c : Nat} (hd : d ≤ 9) (hc : LetOK c) : Txt.lower (mkS (nameT d c)) = mkS (nameT d (lowC c)) := by
  have : ∀ d < 10, ∀ c ∈ [97, 65, 98, 66], Txt.lower (mkS (nameT d c)) = mkS (nameT d (lowC c)) := by decide +kernel
  exact this d (by omega) c (letters hc)
theorem part_line {l : Line} (h : LineB 9 l) : Txt.partition (mkS (lineT l)) ": " = (mkS (nameT l.1 l.2.1), (": " : Str), l.2.2) := by
  have : ∀ d < 10, ∀ c ∈ [97, 65, 98, 66], ∀ v ∈ [("x" : Str), "y", "..."], Txt.partition (mkS (lineT (d, c, v))) ": " = (mkS (nameT d c), (": " : Str), v) := by decide +kernel
  obtain ⟨d, c, v⟩ := l
  refine this d (by have : d ≤ 9 := h.1; omega) c (letters h.2.1) v ?_
  rcases h.2.2 with e | e | e <;> (have e : v = _ := e; rw [e]; simp)
theorem first_none {ks : List Line} {l : Line} (hk : ∀ k ∈ ks, LineB 9 k) (h : LineB 9 l) : isNo (firstOf (ks.map nv) (nv l).1) = !hasN ks l := by
  have e : ∀ k ∈ ks, (Txt.lower (nv k).1 == Txt.lower (nv l).1) = (k.1 == l.1 && lowC k.2.1 == lowC l.2.1) := fun k mk => by
    show (Txt.lower (mkS (nameT k.1 k.2.1)) == Txt.lower (mkS (nameT l.1 l.2.1))) = _
    rw [lower_name (hk k mk).1 (hk k mk).2.1, lower_name h.1 h.2.1, Bool.eq_iff_iff]
    simp only [beq_iff_eq, Bool.and_eq_true]
    exact ⟨fun q => nameT_inj (mkS_inj q), fun q => by rw [q.1, q.2]⟩
  unfold firstOf hasN
  rw [List.find?_map]
  cases hf : ks.find? ((fun p => Txt.lower p.1 == Txt.lower (nv l).1) ∘ nv) with
  | none =>
    have := List.find?_eq_none.mp hf
    have h2 : (ks.any fun k => k.1 == l.1 && lowC k.2.1 == lowC l.2.1) = false := by
      rw [List.any_eq_false]
      intro k mk
      rw [← e k mk]
      exact this k mk
    rw [h2]; rfl
  | some k =>
    have h1 := List.find?_some hf
    have mk := List.mem_of_find?_eq_some hf
    have h2 : (ks.any fun k => k.1 == l.1 && lowC k.2.1 == lowC l.2.1) = true := by
      rw [List.any_eq_true]
      exact ⟨k, mk, by rw [← e k mk]; exact h1⟩
    rw [h2]; rfl
theorem set_line {ks : List Line} {l : Line} (hk : ∀ k ∈ ks, LineB 9 k) (h : LineB 9 l) : setS (ks.map nv) (nv l).1 (nv l).2 = (addD ks l).map nv := by
  unfold setS addD
  rw [first_none hk h]
  cases hasN ks l <;> simp
theorem addD_mem {ks : List Line} {l x : Line} (m : x ∈ addD ks l) : x ∈ ks ∨ x = l := by
  unfold addD at m
  split at m
  · exact .inl m
  · simpa using m
theorem fold_mem : ∀ {ls ks : List Line} {x : Line}, x ∈ ls.foldl addD ks → x ∈ ks ∨ x ∈ ls
  | [], _, _, m => .inl m
  | l :: ls, ks, x, m => by
    rcases fold_mem (ls := ls) m with m | m
    · rcases addD_mem m with m | rfl
      · exact .inl m
      · exact .inr (.head _)
    · exact .inr (.tail _ m)
theorem dedup_mem {ls : List Line} {x : Line} (m : x ∈ dedup ls) : x ∈ ls := (fold_mem m).elim (fun q => by cases q) id
theorem dedup_len (ls : List Line) : (dedup ls).length ≤ ls.length := by
  suffices ∀ ks : List Line, (ls.foldl addD ks).length ≤ ks.length + ls.length by simpa [dedup] using this []
  induction ls with
  | nil => intro ks; simp
  | cons l ls ih =>
    intro ks
    have h1 := ih (addD ks l)
    have h2 : (addD ks l).length ≤ ks.length + 1 := by unfold addD; split <;> simp
    simp only [List.foldl_cons, List.length_cons]; omega
theorem up_ok {l : Line} {n : Nat} (h : LineB n l) : LineB (n + 1) (upL l) := by
  refine ⟨?_, h.2.1, h.2.2⟩
  have := h.1
  show (if 0 < l.1 then l.1 + 1 else 0) ≤ n + 1
  split <;> omega
theorem hand_ok {ls : List Line} {n : Nat} (h : ∀ l ∈ ls, LineB n l) : ∀ l ∈ hand ls, LineB (n + 1) l := fun l m => by
  obtain ⟨q, mq, rfl⟩ := List.mem_map.mp (dedup_mem m)
  exact up_ok (h q mq)
theorem hand_len (ls : List Line) : (hand ls).length ≤ ls.length := by
  have := dedup_len (ls.map upL); rwa [List.length_map] at this
theorem dedup_snoc (ls : List Line) (l : Line) : dedup (ls ++ [l]) = addD (dedup ls) l := by unfold dedup; rw [List.foldl_append]; rfl
theorem name_pretty {d c : Nat} (hc : LetOK c) : Pretty (mkS (nameT d c)) := by
  intro x m
  have m : x ∈ nameT d c := by simpa [mkS] using m
  unfold nameT at m
  rcases List.mem_append.mp m with m | m
  · rw [List.eq_of_mem_replicate m]; decide
  · rw [List.mem_singleton.mp m]; rcases hc with rfl | rfl | rfl | rfl <;> decide
theorem val_pretty {v : Str} (h : v = "x" ∨ v = "y" ∨ v = "...") : Pretty v := by
  rcases h with rfl | rfl | rfl <;> (unfold Pretty; decide +kernel)
theorem name_len (d c : Nat) : (mkS (nameT d c)).length = d + 1 := by rw [mk_len]; simp [nameT]
theorem name_short {d c : Nat} (hd : d ≤ 9) (hc : LetOK c) : Builtin.Str.tooLong (Txt.lower (mkS (nameT d c))).length = false := by
  rw [lower_name hd hc, name_len]
  unfold tooLong sizeLine
  exact decide_eq_false (by omega)
theorem getPre {ks : List Line} {l : Line} (hk : ∀ k ∈ ks, LineB 9 k) (h : LineB 9 l) (hn : ks.length ≤ 1000) : GetPre (ks.map nv) (nv l).1 := by
  refine ⟨name_short h.1 h.2.1, ?_, ?_, fun p m => ?_, by rwa [List.length_map]⟩
  · show Pretty (Txt.lower (mkS (nameT l.1 l.2.1)))
    rw [lower_name h.1 h.2.1]; exact name_pretty (low_ok h.2.1)
  · show (Txt.lower (mkS (nameT l.1 l.2.1))).length ≤ _
    rw [lower_name h.1 h.2.1, name_len]; have := h.1; omega
  · obtain ⟨k, mk, rfl⟩ := List.mem_map.mp m
    exact name_short (hk k mk).1 (hk k mk).2.1
theorem setPre {ks : List Line} {l : Line} (hk : ∀ k ∈ ks, LineB 9 k) (h : LineB 9 l) (hn : ks.length ≤ 1000) : SetPre (ks.map nv) (nv l).1 (nv l).2 := by
  refine ⟨getPre hk h hn, name_pretty h.2.1, val_pretty h.2.2, ?_, ?_⟩
  · show (mkS (nameT l.1 l.2.1)).length ≤ _
    rw [name_len]; have := h.1; omega
  · have := val_len h.2.2
    show l.2.2.cps.size ≤ _
    have : l.2.2.cps.toList.length = l.2.2.cps.size := by simp
    omega
end Mine
end
section
open PySem PySem.W PyProof.Rows PySem.Calls PySem.Spec PySem.Builtin.Re
set_option maxRecDepth 100000
set_option linter.unusedVariables false
set_option Elab.async false
set_option maxHeartbeats 4000000
namespace Mine
local macro_rules | `(tactic| walk_at "mem") => `(tactic| first | exact List.Mem.head _ | (apply List.Mem.tail; walk_at "mem"))
local macro_rules | `(tactic| walk_at "put") => `(tactic| first | exact Put.nil | exact Put.here | (apply Put.there; all_goals (first | (decide; done) | walk_at "put")))
local macro_rules | `(tactic| walk_at "puts") => `(tactic| first | exact Puts.nil | (apply Puts.cons; all_goals (first | walk_at "put" | walk_at "puts")))
local macro_rules | `(tactic| walk_at "nm") => `(tactic| (refine ev_name ?_; walk_at "mem"))
local macro_rules | `(tactic| walk_at "sub") => `(tactic| first | exact List.Sublist.slnil | (apply List.Sublist.cons_cons; walk_at "sub") | (apply List.Sublist.cons; walk_at "sub"))
local macro_rules | `(tactic| walk_at "lt") => `(tactic| first | exact Nat.lt_succ_self _ | (refine Nat.lt_succ_of_lt ?_; walk_at "lt"))
local macro_rules | `(tactic| walk_at "cell") => `(tactic| exact .inr ⟨rfl, _, rfl, by walk_at "lt"⟩)
local macro_rules | `(tactic| walk_at "dats") => `(tactic| simp only [dats, List.map_cons, List.map_nil])
local macro_rules | `(tactic| walk_at "caps") => `(tactic| first | exact trivial | exact ⟨⟨by walk_at "mem", .inl rfl, .inl rfl, fun _ => rfl⟩, by walk_at "caps"⟩)
def hands : Nat → List Line → List Line
  | 0, ls => ls
  | k + 1, ls => hand (hands k ls)
theorem hands_ok {ls : List Line} (h : ∀ l ∈ ls, LineB 6 l) : ∀ k, ∀ l ∈ hands k ls, LineB (6 + k) l
  | 0 => h
  | k + 1 => hand_ok (hands_ok h k)
theorem hands_len (ls : List Line) : ∀ k, (hands k ls).length ≤ ls.length
  | 0 => Nat.le_refl _
  | k + 1 => Nat.le_trans (hand_len _) (hands_len ls k)
def sentT (k : Nat) (ls : List Line) : List Str := (List.range (k + 1)).map fun i => textOf (hands i ls)
theorem sentT_succ (k : Nat) (ls : List Line) : sentT (k + 1) ls = sentT k ls ++ [textOf (hands (k + 1) ls)] := by
  unfold sentT; rw [List.range_succ, List.map_append]; rfl
theorem sentT_len (k : Nat) (ls : List Line) : (sentT k ls).length = k + 1 := by unfold sentT; simp
theorem sentT_last (k : Nat) (ls : List Line) : (sentT k ls)[k]? = some (textOf (hands k ls)) := by
  unfold sentT; rw [List.getElem?_map, List.getElem?_range (Nat.lt_succ_self _)]; rfl
theorem lineB_ok {n : Nat} {l : Line} (hn : n ≤ 20) (h : LineB n l) : LineOK l := ⟨Nat.le_trans h.1 hn, h.2⟩
theorem lineB_up {n m : Nat} {l : Line} (hn : n ≤ m) (h : LineB n l) : LineB m l := ⟨Nat.le_trans h.1 hn, h.2⟩
theorem text_len {ls : List Line} (h : ∀ l ∈ ls, LineOK l) (hn : ls.length ≤ 10) : (textOf ls).length ≤ 300 := by
  have hcl := cat_len (ls := ls.map lineT) (k := 26) (fun q m => by obtain ⟨l, ml, rfl⟩ := List.mem_map.mp m; exact lineT_len (h l ml)) [13, 10]
  unfold textOf textL
  rw [mk_len, List.length_append]
  rw [List.length_map] at hcl
  have : ls.length * (26 + [13, 10].length) ≤ 10 * 28 := Nat.mul_le_mul hn (by decide)
  have : [13, 10].length = 2 := rfl
  omega
theorem strPre {ls : List Line} (h : ∀ l ∈ ls, LineOK l) (hn : ls.length ≤ 100) : StrPre (ls.map nv) := by
  refine ⟨fun p m => ?_, by rwa [List.length_map]⟩
  obtain ⟨l, ml, rfl⟩ := List.mem_map.mp m
  have h1 := (h l ml).1
  have h2 := val_len (h l ml).2.2
  refine ⟨by show (mkS (nameT l.1 l.2.1)).length ≤ _; rw [name_len]; omega, ?_⟩
  show l.2.2.cps.size ≤ _
  have : l.2.2.cps.toList.length = l.2.2.cps.size := by simp
  omega
/-- the texts, sent 0, 1, 2 times -/
def SentOK (g : G) (m : Nat) (f : Addr) (ls : List Line) (e : Str) : Prop := ∀ (X : List Addr) (s : Shared) (v : Value) (te : Tok), Hp g X s.heap → RdX s.heap X v (.list (ls.map lineP)) → te ≠ 0 → te < s.toks →
  ∀ (A : Around) (Q E : Value → Shared → Prop), Rm m A → (∀ u h' tk, Pr g.T s.heap h' → RdX h' X u (.list ((sentT 2 ls).map .str)) → Q u { s with heap := h', toks := tk }) → wpAny g.M A (call (.ref f) [v, .str e te]) Q E s
section
variable {g : G} {P : Params} (b : Bs g (hd2.heap_39 P)) (hC : g.C = 208)
include b
theorem booked2 : NoneBooked g.B := by
  obtain ⟨mc, hn, r⟩ := b.lim
  refine ⟨mc, hn, ?_⟩
  obtain ⟨o, es, ep, ho, hd, _, e⟩ := id hn
  have h3 := b.kin cStatics _ rfl
  rw [show cStatics = 2 from rfl] at ho
  rw [show cStatics = 2 from rfl, ho] at h3
  cases h3
  cases hd
  rw [← e]
  rfl
theorem g2_headers : Gv g "Headers" (.ref 208) := gv_glob b (by rfl)
theorem g2_quote : Gv g "quotedata" (.ref 62) := gv_glob b (by rfl)
include hC
set_option pp.maxSteps 3000
set_option pp.deepTerms false
set_option pp.deepTerms.threshold 5
theorem sent2_ok (ls : List Line) (hl : ∀ l ∈ ls, LineB 6 l) (hn : ls.length ≤ 10) (e : Str) (he : IsNl e.cps.toList) : SentOK g 9 224 ls e := by
  intro X s v te hp rv te0 tes A Q E rm h
  have gl := g2_len b
  have gr := g2_range b
  have gstr := g2_str b
  have gH : Gv g "Headers" (.ref g.C) := by rw [hC]; exact g2_headers b
  have gq := g2_quote b
  have hnb := booked2 b
  have hel : e.length ≤ 2 := by
    show e.cps.size ≤ 2
    have : e.cps.toList.length = e.cps.size := by simp
    rcases he with q | q | q <;> (rw [q] at this; simp at this; omega)
  refine call_enterN (N := te + 1) (n := 8) (M := g.T) (ρ := [("lines", .dat (.list (ls.map lineP))), ("end", .val (.str e te))]) (P := RetD (.list ((sentT 2 ls).map .str))) (binds := [("lines", v), ("end", .str e te)]) (Nat.le_trans tes (Nat.le_add_right _ _)) hp (b.kin 224 _ rfl) rfl b.lim ⟨_, _, _, _, rfl, b.kin _ _ rfl, rfl, rfl⟩ rfl
    (BindsTo.of_eq (by rfl)) rfl rfl rfl rfl rfl rfl (by decide) (fun y m => ?_) (fun y c m => ?_) ?_ List.nodup_nil (fun a m => by cases m) (fun t m => m) rm (fun L => ?_) fun fl ρ' X' h' tk u hN' hP pr gw x0 r => ?_
  · simp only [List.mem_cons, List.not_mem_nil, or_false] at m
    rcases m with rfl | rfl <;> rfl
  · simp only [List.mem_cons, List.not_mem_nil, or_false] at m
    rcases m with m | m <;> cases m
    · exact ⟨_, rfl, rfl, rv⟩
    · exact ⟨_, rfl, rfl, rfl⟩
  · simp only [List.map_cons, List.map_nil]; decide
  · have hl9 : ∀ l ∈ ls, LineB 9 l := fun l m => lineB_up (by decide) (hl l m)
    refine wssn_cons (wsn_of (ws_newtab (fun X => evnew_make b.kin (by rw [hC]; rfl) (make2_ok b hC) (by decide) gH) (.inl rfl) fun c nc => ⟨_, by walk_at "put", ?_⟩))
    refine wssn_cons (wsn_of (ws_for (l := ls.map lineP) (fun X => evi_list (by walk_at "nm")) (fun i ρ' => ρ' = ([("lines", .dat (.list (ls.map lineP))), ("end", .val (.str e te)), ("table", .tab c (((ls.take i).map nv).map lineD))] : List (Str × Bnd))) rfl (fun i d ρ1 hd hi => ?_) (fun ρ1 hi => ?_) (.inr ⟨rfl, fun d m => ?_⟩)))
    · subst hi
      rw [List.getElem?_map] at hd
      obtain ⟨⟨dt, lt, vl⟩, hli, e0⟩ := Option.map_eq_some_iff.mp hd
      have e0 : PyData.tuple [.int (dt : Int), .str (mkS [lt]), .str vl] = d := e0
      subst e0
      obtain ⟨o1, o2, o3⟩ := hl9 _ (List.mem_of_getElem? hli)
      have o1 : dt ≤ 9 := o1
      have o3 : vl = "x" ∨ vl = "y" ∨ vl = "..." := o3
      have hstep : ls.take (i + 1) = ls.take i ++ [(dt, lt, vl)] := by rw [List.take_add_one, hli]; rfl
      refine asg_tuple (names := ["dots", "letter", "value"]) (by rfl) (fun x m => by simp only [List.mem_cons, List.not_mem_nil, or_false] at m; rcases m with rfl | rfl | rfl <;> exact .inl rfl) (by walk_at "puts") rfl ?_
      have hvl : vl.length ≤ 3 := by have := val_len o3; show vl.cps.size ≤ 3; have h2 : vl.cps.toList.length = vl.cps.size := by simp
                                     omega
      refine wss_cons (ws_add (nm := mkS (nameT dt lt)) (val := vl) b.kin (add2_meth b hC) (b.kin 205 _ rfl) rfl (add2_ok b hC) (by decide) (by walk_at "mem") (fun X => EvP.eq (ev_binop (ev_binop ev_str (by walk_at "nm") (bin_mul_str (by decide +kernel) (by omega) (by omega))) (by walk_at "nm") (bin_add_str ?_)) ?_) (fun X => by walk_at "nm") (name_pretty o2) (val_pretty o3) (by rw [name_len]; omega) (by omega) (by simp; omega) (by walk_at "put") ?_)
      · rw [mul_dots, mk_len, mk_len, List.length_replicate]; simp; omega
      · rw [mul_dots, append_mk]; rfl
      refine wss_weak (ρ' := [("lines", .dat (.list (ls.map lineP))), ("end", .val (.str e te)), ("table", .tab c (((ls.take (i + 1)).map nv).map lineD))]) ?_ (wss_nil rfl)
      rw [hstep, List.map_append, List.map_append]
      walk_at "sub"
    · subst hi
      rw [List.length_map, List.take_length]
      refine wssn_freezeTab (x := "table") (by walk_at "mem") nc (by walk_at "put") ?_
      refine wssn_cons (wsn_of (ws_own (l := (sentT 0 ls).map .str) (fun X => EvF.eq (evf_list (ds := [.str (rowsS (ls.map nv))]) ⟨ev_strtab b.kin (str2_find b hC) (by rfl) (str2_ok b hC) (by decide) gstr (by walk_at "mem") (strPre (fun l m => lineB_ok (by decide) (hl l m)) (by omega)), trivial⟩) (by rw [rows_text]; rfl)) (.inl rfl) fun a na => ⟨_, by walk_at "put", ?_⟩))
      refine wssn_weak (ρ' := [("lines", .dat (.list (ls.map lineP))), ("end", .val (.str e te)), ("texts", .own a ((sentT 0 ls).map .str))]) (by walk_at "sub") ?_
      refine wssn_cons (wsn_for (l := (List.range 2).map fun (j : Nat) => .int (j : Int)) (fun X => evi_range1 gr ev_int (by decide)) (fun i ρ' => ρ' = ([("lines", .dat (.list (ls.map lineP))), ("end", .val (.str e te)), ("texts", .own a ((sentT i ls).map .str))] : List (Str × Bnd))) rfl (fun i d ρ1 hd hi => ?_) (fun ρ1 hi => ?_) tg_name)
      · subst hi
        have hi2 : i < 2 := by
          by_cases q : i < 2
          · exact q
          · rw [List.getElem?_eq_none (by simp; omega)] at hd; cases hd
        have hd' : d = .int (i : Int) := by
          rw [List.getElem?_map, List.getElem?_range hi2] at hd
          exact (Option.some.inj hd).symm
        subst hd'
        have hB := hands_ok hl i
        have hB9 : ∀ l ∈ hands i ls, LineB 9 l := fun l m => lineB_up (by omega) (hB l m)
        have hok : ∀ l ∈ hands i ls, LineOK l := fun l m => lineB_ok (by omega) (hB l m)
        have hln := hands_len ls i
        have htl := text_len hok (by omega)
        have hsl := sentT_len i ls
        have hla := sentT_last i ls
        have hs1 := sentT_succ i ls
        have hh : hands (i + 1) ls = hand (hands i ls) := rfl
        rw [hh] at hs1
        generalize sentT (i + 1) ls = T1 at hs1
        generalize sentT i ls = T0 at hsl hla hs1
        generalize hands i ls = hs at hB hB9 hok hln htl hla hs1
        have hrows := heard_rows hB he
        have hrl : (Txt.replace (textOf hs) "\r\n" e).length ≤ 1000 := by
          have hp : ∀ l ∈ hs.map lineT ++ [[]], Plain l := fun l m => by
            rcases List.mem_append.mp m with m | m
            · obtain ⟨q, mq, rfl⟩ := List.mem_map.mp m; exact plain_line (hB q mq)
            · rw [List.mem_singleton.mp m]; intro c mc; cases mc
          have e1 : textOf hs = mkS (cat (hs.map lineT ++ [[]]) [13, 10]) := by unfold textOf textL; simp [cat]
          rw [e1, replace_cat hp (by simp), mk_len]
          have h1 := cat_len (ls := hs.map lineT ++ [[]]) (k := 26) (fun q m => by
            rcases List.mem_append.mp m with m | m
            · obtain ⟨l, ml, rfl⟩ := List.mem_map.mp m; exact lineT_len (hok l ml)
            · rw [List.mem_singleton.mp m]; decide) e.cps.toList
          have h2 : e.cps.toList.length ≤ 2 := by have : e.cps.toList.length = e.cps.size := by simp
                                                  rw [this]; exact hel
          have h3 : (hs.map lineT ++ [[]]).length ≤ 11 := by simp; omega
          have h4 := Nat.mul_le_mul h3 (show 26 + e.cps.toList.length ≤ 28 by omega)
          omega
        refine asg_name (.inl rfl) (by walk_at "put") ?_
        refine wssn_cons (wsn_assign (d := .list (((hs.map upL).map (fun l => mkS (lineT l)) ++ [("" : Str), ("" : Str)]).map .str)) (fun X => ?_) (.inl rfl) (by walk_at "put") ?_)
        · rw [← hrows]
          refine evn_split (evn_callF1 gq (b.kin 62 _ rfl) rfl (evn_replace (N := te + 1) (ev_item (j := i) (d := .str (textOf hs)) (evl_own (by walk_at "mem")) (ev_neg ev_int) ?_ ?_ ?_) (by walk_at "mem") te0 (Nat.lt_succ_self _) hnb ?_) (quote2_call b _ ?_) (by decide)) ev_str (by decide +kernel) ?_ ?_
          · rw [List.length_map, hsl]; simp [seqIndex?]; omega
          · rw [List.getElem?_map, hla]; rfl
          · rw [List.length_map, hsl]; omega
          · have : (textOf hs).length + 1 ≤ 301 := by omega
            have := Nat.mul_le_mul this hel
            omega
          · omega
          · have := quoted_len (Txt.replace (textOf hs) "\r\n" e) (by omega); omega
          · have := quoted_len (Txt.replace (textOf hs) "\r\n" e) (by omega)
            have := parts_count (x := quoted (Txt.replace (textOf hs) "\r\n" e)) (y := "\r\n")
            omega
        refine wssn_of ?_
        have hul : ∀ l ∈ hs.map upL, LineB 9 l := fun l m => by
          obtain ⟨q, mq, rfl⟩ := List.mem_map.mp m
          exact lineB_up (by omega) (up_ok (hB q mq))
        have hun : (hs.map upL).length ≤ 10 := by rw [List.length_map]; omega
        have hhand : hand hs = dedup (hs.map upL) := rfl
        rw [hhand] at hs1
        generalize hs.map upL = us at hul hun hs1
        refine wss_cons (ws_newtab (fun X => evnew_make b.kin (by rw [hC]; rfl) (make2_ok b hC) (by decide) gH) (.inl rfl) fun c2 nc2 => ⟨_, by walk_at "put", ?_⟩)
        refine wss_cons (ws_for (l := us.map fun l => .str (mkS (lineT l))) (fun X => evi_list (EvP.eq (ev_slice (klo := none) (khi := some (-2)) (evl_of (by walk_at "nm")) trivial (ev_neg ev_int) (by simp; omega)) ?_)) (fun j ρ' => ρ' = ([("lines", .dat (.list (ls.map lineP))), ("end", .val (.str e te)), ("texts", .own a (T0.map .str)), ("hand", .dat (.int (i : Int))), ("heard", .dat (.list ((us.map (fun l => mkS (lineT l)) ++ [("" : Str), ("" : Str)]).map .str))), ("table", .tab c2 (((dedup (us.take j)).map nv).map lineD))] : List (Str × Bnd))) rfl (fun j d ρ1 hd hi => ?_) (fun ρ1 hi => ?_) tg_name)
        · rw [show (-2 : Int) = -((2 : Nat) : Int) from rfl, pickD_butLast _ 2 (by decide)]
          simp
        · subst hi
          rw [List.getElem?_map] at hd
          obtain ⟨l, hli, e0⟩ := Option.map_eq_some_iff.mp hd
          subst e0
          have lB := hul l (List.mem_of_getElem? hli)
          have hstep : us.take (j + 1) = us.take j ++ [l] := by rw [List.take_add_one, hli]; rfl
          have hkB : ∀ k ∈ dedup (us.take j), LineB 9 k := fun k m => hul k (List.mem_of_mem_take (dedup_mem m))
          have hkl : (dedup (us.take j)).length ≤ 1000 := by have := dedup_len (us.take j); simp at this; omega
          have hadd := dedup_snoc (us.take j) l
          rw [← hstep] at hadd
          generalize dedup (us.take (j + 1)) = k1 at hadd
          generalize dedup (us.take j) = ks at hadd hkB hkl
          have hll := lineT_len (lineB_ok (by decide) lB)
          refine asg_name (.inl rfl) (by walk_at "put") ?_
          refine wss_cons (ws_unpack (d := .tuple [.str (nv l).1, .str (": " : Str), .str (nv l).2]) (fun X => EvP.eq (ev_partition (x := mkS (lineT l)) (by walk_at "nm") ev_str (by decide +kernel) (by rw [mk_len]; omega)) (by rw [part_line lB]; rfl)) (asg_tuple (names := ["name", "colon", "value"]) (by rfl) (fun x m => by simp only [List.mem_cons, List.not_mem_nil, or_false] at m; rcases m with rfl | rfl | rfl <;> exact .inl rfl) (by walk_at "puts") rfl ?_))
          refine wss_cons (ws_mut (l := ks.map nv) (nm := (nv l).1) (val := (nv l).2) b.kin (setd2_meth b hC) (b.kin 198 _ rfl) rfl (setd2_ok b hC) (by decide) (by walk_at "mem") (fun X => by walk_at "nm") (fun X => by walk_at "nm") (setPre hkB lB hkl) (by walk_at "put") ?_)
          refine wss_weak (ρ' := [("lines", .dat (.list (ls.map lineP))), ("end", .val (.str e te)), ("texts", .own a (T0.map .str)), ("hand", .dat (.int (i : Int))), ("heard", .dat (.list ((us.map (fun l => mkS (lineT l)) ++ [("" : Str), ("" : Str)]).map .str))), ("table", .tab c2 ((k1.map nv).map lineD))]) ?_ (wss_nil rfl)
          rw [hadd, ← set_line hkB lB]
          walk_at "sub"
        · subst hi
          rw [List.length_map, List.take_length]
          refine wss_freezeTab (x := "table") (by walk_at "mem") nc2 (by walk_at "put") ?_
          have hdl := dedup_len us
          have hd9 : ∀ l ∈ dedup us, LineOK l := fun l m => lineB_ok (by decide) (hul l (dedup_mem m))
          refine wss_cons (ws_append (d := .str (rowsS ((dedup us).map nv))) (by walk_at "mem") (fun X => ev_strtab b.kin (str2_find b hC) (by rfl) (str2_ok b hC) (by decide) gstr (by walk_at "mem") (strPre hd9 (by omega))) (by rw [List.length_map, hsl]; omega) (by walk_at "put") ?_)
          refine wss_weak (ρ' := [("lines", .dat (.list (ls.map lineP))), ("end", .val (.str e te)), ("texts", .own a (T1.map .str))]) ?_ (wss_nil rfl)
          rw [rows_text, hs1, List.map_append]
          walk_at "sub"
      · subst hi
        exact wssn_of (wss_cons (ws_return_own (by walk_at "mem") rfl (fun h X v r => r)))
    · obtain ⟨l, _, rfl⟩ := List.mem_map.mp m
      exact ⟨_, rfl⟩
  · cases fl with
    | nxt => cases (show PyData.list ((sentT 2 ls).map .str) = .none from hP)
    | ret R => exact h u h' tk pr (hP h' X u r)
end
end Mine
end
section
open PySem PySem.W PyProof.Rows PySem.Calls PySem.Spec PySem.Builtin.Re
set_option maxRecDepth 100000
set_option linter.unusedVariables false
set_option Elab.async false
set_option maxHeartbeats 4000000
namespace Mine
local macro_rules | `(tactic| walk_at "mem") => `(tactic| first | exact List.Mem.head _ | (apply List.Mem.tail; walk_at "mem"))
local macro_rules | `(tactic| walk_at "put") => `(tactic| first | exact Put.nil | exact Put.here | (apply Put.there; all_goals (first | (decide; done) | walk_at "put")))
local macro_rules | `(tactic| walk_at "puts") => `(tactic| first | exact Puts.nil | (apply Puts.cons; all_goals (first | walk_at "put" | walk_at "puts")))
local macro_rules | `(tactic| walk_at "nm") => `(tactic| (refine ev_name ?_; walk_at "mem"))
local macro_rules | `(tactic| walk_at "sub") => `(tactic| first | exact List.Sublist.slnil | (apply List.Sublist.cons_cons; walk_at "sub") | (apply List.Sublist.cons; walk_at "sub"))
local macro_rules | `(tactic| walk_at "lt") => `(tactic| first | exact Nat.lt_succ_self _ | (refine Nat.lt_succ_of_lt ?_; walk_at "lt"))
local macro_rules | `(tactic| walk_at "cell") => `(tactic| exact .inr ⟨rfl, _, rfl, by walk_at "lt"⟩)
local macro_rules | `(tactic| walk_at "dats") => `(tactic| simp only [dats, List.map_cons, List.map_nil])
local macro_rules | `(tactic| walk_at "caps") => `(tactic| first | exact trivial | exact ⟨⟨by walk_at "mem", .inl rfl, .inl rfl, fun _ => rfl⟩, by walk_at "caps"⟩)
/-- the law's own arithmetic -/
structure Law2 (l : List Int) : Prop where
  w1 : sentT 2 (wantL (numsN l)) = (List.range 3).map fun h => textOf (linesH h (wantL (numsN l)))
  g1 : sentT 2 (gotL (numsN l)) = (List.range 3).map fun h => textOf (linesH h (gotL (numsN l)))
  m : ∀ s < 3, ∀ t < 3, ell (textOf (linesH s (wantL (numsN l)))) (textOf (linesH t (gotL (numsN l)))) = takes (linesH s (wantL (numsN l))) (linesH t (gotL (numsN l)))
theorem wantL_ok (l : List Int) : (wantL (numsN l)).length ≤ 4 ∧ ∀ x ∈ wantL (numsN l), LineB 6 x := by
  refine ⟨by have := flat_len (fun n => (lnW_ok n).1) (numsN l); rw [numsN_len] at this; exact this, fun x m => ?_⟩
  obtain ⟨n, _, hn⟩ := List.mem_flatMap.mp m
  exact (lnW_ok n).2 x hn
theorem gotL_ok (l : List Int) : (gotL (numsN l)).length ≤ 4 ∧ ∀ x ∈ gotL (numsN l), LineB 6 x := by
  refine ⟨by have := flat_len (fun n => (lnG_ok n).1) (numsN l); rw [numsN_len] at this; exact this, fun x m => ?_⟩
  obtain ⟨n, _, hn⟩ := List.mem_flatMap.mp m
  obtain ⟨h1, h2, h3⟩ := (lnG_ok n).2 x hn
  exact ⟨by omega, h2, by rcases h3 with e | e <;> simp [e]⟩
theorem addL_mem {h : Nat} {st : List Line × List (Nat × Nat)} {l x : Line} (m : x ∈ (addL h st l).1) : x ∈ st.1 ∨ x = ((if 0 < l.1 then l.1 + h else 0), l.2.1, l.2.2) := by
  unfold addL at m
  split at m
  · simpa using m
  · exact .inl m
theorem linesH_ok {h n : Nat} {ls : List Line} (hl : ∀ l ∈ ls, LineB n l) : ∀ x ∈ linesH h ls, LineB (n + h) x := by
  suffices ∀ st : List Line × List (Nat × Nat), (∀ x ∈ st.1, LineB (n + h) x) → ∀ x ∈ (ls.foldl (addL h) st).1, LineB (n + h) x from this ([], []) (fun x m => by cases m)
  induction ls with
  | nil => intro st hs; exact hs
  | cons l ls ih =>
    intro st hs
    refine ih (fun x m => hl x (.tail _ m)) (addL h st l) fun x m => ?_
    rcases addL_mem m with m | rfl
    · exact hs x m
    · have := hl l (.head _)
      refine ⟨?_, this.2.1, this.2.2⟩
      have h1 := this.1
      show (if 0 < l.1 then l.1 + h else 0) ≤ n + h
      split <;> omega
abbrev linesP (ls : List Line) : PyData := .list (ls.map lineP)
def unP (d : PyData) : Line := match d with | .tuple [.int d, .str c, .str v] => (d.toNat, c.cps.toList.headD 0, v) | _ => (0, 0, "")
theorem unP_map (ls : List Line) : (ls.map lineP).map unP = ls := by
  rw [List.map_map]
  have : (unP ∘ lineP) = id := by funext l; obtain ⟨d, c, v⟩ := l; rfl
  rw [this, List.map_id]
def textD (d : PyData) : Option PyData := match d with | .list x => some (.str (textOf (x.map unP))) | _ => none
theorem textD_lines (ls : List Line) : textD (linesP ls) = some (.str (textOf ls)) := by
  show some (PyData.str (textOf ((ls.map lineP).map unP))) = _
  rw [unP_map]
def nl3 (k : Nat) : Str := match k with | 0 => "\n" | 1 => "\r" | _ => "\r\n"
theorem nl3_is (k : Nat) : IsNl (nl3 k).cps.toList := by
  unfold nl3
  split
  · exact .inl (by decide +kernel)
  · exact .inr (.inl (by decide +kernel))
  · exact .inr (.inr (by decide +kernel))
theorem strOk_text {ls : List Line} (h : ∀ l ∈ ls, LineB 8 l) : PyData.strOk (textOf ls) = true := by
  refine strOk_list fun c m => ?_
  unfold textL cat at m
  simp only [List.mem_append, List.mem_flatten, List.mem_map] at m
  rcases m with ⟨q, ⟨r, ⟨l, ml, rfl⟩, rfl⟩, mq⟩ | m
  · rcases List.mem_append.mp mq with mq | mq
    · obtain ⟨d, k, v⟩ := l
      obtain ⟨h1, h2, h3⟩ := h _ ml
      have h2 : LetOK k := h2
      have h3 : v = "x" ∨ v = "y" ∨ v = "..." := h3
      have hv : ∀ y ∈ v.cps.toList, y < 1000 := by rcases h3 with rfl | rfl | rfl <;> decide +kernel
      simp only [lineT, nameT, List.mem_append, List.mem_replicate, List.mem_cons, List.not_mem_nil, or_false] at mq
      rcases mq with ((⟨_, rfl⟩ | rfl) | rfl | rfl) | mq
      · decide
      · rcases h2 with rfl | rfl | rfl | rfl <;> decide
      · decide
      · decide
      · exact hv c mq
    · simp at mq; omega
  · simp at m; omega
section
variable {g : G} {P : Params} (b : Bs g (hd2.heap_39 P)) (hC : g.C = 208)
include b
theorem g2_sum : Gv g "sum" (.builtin "sum") := gv_blt b (by rfl) (by decide +kernel) (by decide)
theorem g2_bool : Gv g "bool" (.type "bool") := gv_blt b (by rfl) (by decide +kernel) (by decide)
include hC
set_option pp.maxSteps 3000
set_option pp.deepTerms false
set_option pp.deepTerms.threshold 5
theorem law2_call (l : List Int) (hl : l.length ≤ 63) (H : Law2 l) : CallOK g 12 248 [.list (l.map .int)] (.bool true) := by
  intro X s vs hp rds A Q E rm h
  obtain ⟨v, rfl, rv⟩ := rds.one
  have gr := g2_range b
  have gsum := g2_sum b
  have gbool := g2_bool b
  have gtype := g2_type b
  have gheads : Gv g "_law_heads" (.ref 217) := gv_glob b (by rfl)
  have gsent : Gv g "_law_sent" (.ref 224) := gv_glob b (by rfl)
  have glines : Gv g "_law_lines" (.ref 231) := gv_glob b (by rfl)
  have gtext : Gv g "_law_text" (.ref 236) := gv_glob b (by rfl)
  have gtakes : Gv g "_law_takes" (.ref 243) := gv_glob b (by rfl)
  have gell : Gv g "_ellipsis_match" (.ref 45) := gv_glob b (by rfl)
  obtain ⟨t, ht⟩ : ∃ t : Nat, l.sum.fmod 3 = (t : Int) := Int.eq_ofNat_of_zero_le (Int.fmod_nonneg_of_pos _ (by decide))
  have ht3 : t < 3 := by have := Int.fmod_lt_of_pos l.sum (show (0 : Int) < 3 by decide); omega
  refine call_enter (n := 11) (M := g.T) (ρ := [("script", .dat (.list (l.map .int)))]) (P := RetD (.bool true)) (binds := [("script", v)]) hp (b.kin 248 _ rfl) rfl b.lim ⟨_, _, _, _, rfl, b.kin _ _ rfl, rfl, rfl⟩ rfl (by rfl) rfl rfl rfl rfl rfl rfl
    (fun L y m => ?_) (by simp only [List.map_cons, List.map_nil]; decide) (fun y c m => ?_) ?_ List.nodup_nil (fun a m => by cases m) (fun t m => m) rm (fun L => ?_) fun fl ρ' X' h' tk u hP pr gw x0 r => ?_
  · rw [List.mem_singleton.mp m]; exact .inl rfl
  · simp only [List.mem_cons, List.not_mem_nil, or_false] at m
    cases m
    exact ⟨_, by walk_at "mem", rv⟩
  · simp only [List.map_cons, List.map_nil]; decide
  · obtain ⟨w1, g1, hm⟩ := H
    obtain ⟨wl, wok⟩ := wantL_ok l
    obtain ⟨gl', gok⟩ := gotL_ok l
    have heads := heads2_call b l hl
    generalize wantL (numsN l) = W at *
    generalize gotL (numsN l) = G at *
    refine wss_unpackM (N := 1) (fun X => evm_callF gheads (b.kin 217 _ rfl) rfl (ds := [_]) ⟨by walk_at "nm", trivial⟩ heads (by decide)) (asg_tuple (names := ["wanted", "got"]) (by rfl) (fun x m => by simp only [List.mem_cons, List.not_mem_nil, or_false] at m; rcases m with rfl | rfl <;> walk_at "cell") (by walk_at "puts") rfl ?_)
    refine wssn_pick (y := nl3 t) (k := t) (Nat.le_refl _) ?_ (fun X => EvP.eq (ev_binop (ev_callB gsum (ds := [_]) ⟨by walk_at "nm", trivial⟩ blt_sum) ev_int (bin_mod_int (by decide))) (by rw [ht])) (.inl rfl) fun te te0 => ⟨_, by walk_at "put", ?_⟩
    · have : t = 0 ∨ t = 1 ∨ t = 2 := by omega
      rcases this with rfl | rfl | rfl <;> rfl
    have sW : CallV (te + 1) g 9 224 (linesP W) (nl3 t) te (.list ((sentT 2 W).map .str)) := fun X s v hN hp rv => sent2_ok b hC W wok (by omega) (nl3 t) (nl3_is t) X s v te hp rv te0 hN
    have sG : CallV (te + 1) g 9 224 (linesP G) (nl3 t) te (.list ((sentT 2 G).map .str)) := fun X s v hN hp rv => sent2_ok b hC G gok (by omega) (nl3 t) (nl3_is t) X s v te hp rv te0 hN
    refine wssn_cons (wsn_assign (fun X => evn_callV gsent (b.kin 224 _ rfl) rfl (by walk_at "mem") (by walk_at "mem") sW (by decide)) (.inl rfl) (by walk_at "put") ?_)
    refine wssn_cons (wsn_assign (fun X => evn_callV gsent (b.kin 224 _ rfl) rfl (by walk_at "mem") (by walk_at "mem") sG (by decide)) (.inl rfl) (by walk_at "put") ?_)
    refine wssn_of ?_
    refine wss_cons (ws_comp (cs := [("wanted", linesP W)]) (l := (List.range 3).map natD) (fun d => match d with | .int x => some (linesP (linesH x.toNat W)) | _ => none) (fun X => evi_range1 gr ev_int (by decide)) (by walk_at "caps") (fun X d md C h₁ => ?_) tg_name (by simp) (.inl rfl) (by walk_at "put") ?_)
    · obtain ⟨k, mk, rfl⟩ := List.mem_map.mp md
      walk_at "dats"
      refine asg_name (.inl rfl) (by walk_at "put") ⟨by walk_at "sub", fun X' => rfl, fun d' e X' => ?_⟩
      cases e
      exact ev_callF glines (b.kin 231 _ rfl) rfl (ds := [_, _]) ⟨by walk_at "nm", by walk_at "nm", trivial⟩ (lines2_call b W k (fun l m => lineB_ok (by decide) (wok l m)) (by omega)) (by decide)
    rw [filterMap_all (f := natD) (q := fun k => linesP (linesH k W)) (fun x => rfl)]
    refine wss_cons (ws_comp (cs := [("got", linesP G)]) (l := (List.range 3).map natD) (fun d => match d with | .int x => some (linesP (linesH x.toNat G)) | _ => none) (fun X => evi_range1 gr ev_int (by decide)) (by walk_at "caps") (fun X d md C h₁ => ?_) tg_name (by simp) (.inl rfl) (by walk_at "put") ?_)
    · obtain ⟨k, mk, rfl⟩ := List.mem_map.mp md
      walk_at "dats"
      refine asg_name (.inl rfl) (by walk_at "put") ⟨by walk_at "sub", fun X' => rfl, fun d' e X' => ?_⟩
      cases e
      exact ev_callF glines (b.kin 231 _ rfl) rfl (ds := [_, _]) ⟨by walk_at "nm", by walk_at "nm", trivial⟩ (lines2_call b G k (fun l m => lineB_ok (by decide) (gok l m)) (by omega)) (by decide)
    rw [filterMap_all (f := natD) (q := fun k => linesP (linesH k G)) (fun x => rfl)]
    have lW : ∀ k < 3, ∀ x ∈ linesH k W, LineB 8 x := fun k hk x m => lineB_up (by omega) (linesH_ok wok x m)
    have lG : ∀ k < 3, ∀ x ∈ linesH k G, LineB 8 x := fun k hk x m => lineB_up (by omega) (linesH_ok gok x m)
    have nW : ∀ k, (linesH k W).length ≤ 10 := fun k => by have := (foldH_len k W).1; show (foldH k W).1.length ≤ 10; omega
    have nG : ∀ k, (linesH k G).length ≤ 10 := fun k => by have := (foldH_len k G).1; show (foldH k G).1.length ≤ 10; omega
    have tW : ∀ k < 3, (textOf (linesH k W)).length ≤ 300 := fun k hk => text_len (fun l m => lineB_ok (by decide) (lW k hk l m)) (nW k)
    have tG : ∀ k < 3, (textOf (linesH k G)).length ≤ 300 := fun k hk => text_len (fun l m => lineB_ok (by decide) (lG k hk l m)) (nG k)
    rw [w1, g1]
    refine wss_cons (ws_if (q := false) (fun X => EvT.eq (evt_cmp (da := .list (((List.range 3).map fun k => textOf (linesH k W)).map .str)) (db := .list (((List.range 3).map fun k => textOf (linesH k W)).map .str)) (by walk_at "nm") (evp_of_evf (EvF.eq (evf_comp (cs := []) (l := (List.range 3).map fun k => linesP (linesH k W)) textD (evi_list (by walk_at "nm")) trivial (fun d md C h₁ => ?_) tg_name (by simp)) ?_)) (cmp_ne_data (sh_map (k := 0) fun x m => ?_).shaped (sh_map (k := 0) fun x m => ?_).shaped)) ?_) (fun q => by cases q) (fun _ => wss_nil ?_))
    · obtain ⟨k, mk, rfl⟩ := List.mem_map.mp md
      have hk := List.mem_range.mp mk
      walk_at "dats"
      refine asg_name (.inl rfl) (by walk_at "put") ⟨by walk_at "sub", fun X' => by rw [textD_lines]; rfl, fun d' e X' => ?_⟩
      rw [textD_lines] at e
      cases e
      exact ev_callF gtext (b.kin 236 _ rfl) rfl (ds := [_]) ⟨by walk_at "nm", trivial⟩ (text2_call b (linesH k W) (fun l m => lineB_ok (by decide) (lW k hk l m)) (Nat.le_trans (nW k) (by decide))) (by decide)
    · rw [filterMap_all (f := fun k => linesP (linesH k W)) (q := fun k => .str (textOf (linesH k W))) (fun k => textD_lines _), List.map_map]; rfl
    · obtain ⟨k, mk, rfl⟩ := List.mem_map.mp m
      exact sh_str (strOk_text (lW k (List.mem_range.mp mk)))
    · obtain ⟨k, mk, rfl⟩ := List.mem_map.mp m
      exact sh_str (strOk_text (lW k (List.mem_range.mp mk)))
    · rw [eqv_list (f := PyData.str) (fun x y => eqv_str)]; simp
    refine wss_cons (ws_if (q := false) (fun X => EvT.eq (evt_cmp (da := .list (((List.range 3).map fun k => textOf (linesH k G)).map .str)) (db := .list (((List.range 3).map fun k => textOf (linesH k G)).map .str)) (by walk_at "nm") (evp_of_evf (EvF.eq (evf_comp (cs := []) (l := (List.range 3).map fun k => linesP (linesH k G)) textD (evi_list (by walk_at "nm")) trivial (fun d md C h₁ => ?_) tg_name (by simp)) ?_)) (cmp_ne_data (sh_map (k := 0) fun x m => ?_).shaped (sh_map (k := 0) fun x m => ?_).shaped)) ?_) (fun q => by cases q) (fun _ => wss_nil ?_))
    · obtain ⟨k, mk, rfl⟩ := List.mem_map.mp md
      have hk := List.mem_range.mp mk
      walk_at "dats"
      refine asg_name (.inl rfl) (by walk_at "put") ⟨by walk_at "sub", fun X' => by rw [textD_lines]; rfl, fun d' e X' => ?_⟩
      rw [textD_lines] at e
      cases e
      exact ev_callF gtext (b.kin 236 _ rfl) rfl (ds := [_]) ⟨by walk_at "nm", trivial⟩ (text2_call b (linesH k G) (fun l m => lineB_ok (by decide) (lG k hk l m)) (Nat.le_trans (nG k) (by decide))) (by decide)
    · rw [filterMap_all (f := fun k => linesP (linesH k G)) (q := fun k => .str (textOf (linesH k G))) (fun k => textD_lines _), List.map_map]; rfl
    · obtain ⟨k, mk, rfl⟩ := List.mem_map.mp m
      exact sh_str (strOk_text (lG k (List.mem_range.mp mk)))
    · obtain ⟨k, mk, rfl⟩ := List.mem_map.mp m
      exact sh_str (strOk_text (lG k (List.mem_range.mp mk)))
    · rw [eqv_list (f := PyData.str) (fun x y => eqv_str)]; simp
    refine wss_weak (ρ' := [("asked", .dat (.list (((List.range 3).map fun k => textOf (linesH k W)).map .str))), ("heard", .dat (.list (((List.range 3).map fun k => textOf (linesH k G)).map .str))), ("wishes", .dat (.list ((List.range 3).map fun k => linesP (linesH k W)))), ("stands", .dat (.list ((List.range 3).map fun k => linesP (linesH k G))))]) (by walk_at "sub") ?_
    refine wss_cons (ws_for (l := (List.range 3).map fun (j : Nat) => .int (j : Int)) (fun X => evi_range1 gr ev_int (by decide)) (fun i ρ' => ρ' = ([("asked", .dat (.list (((List.range 3).map fun k => textOf (linesH k W)).map .str))), ("heard", .dat (.list (((List.range 3).map fun k => textOf (linesH k G)).map .str))), ("wishes", .dat (.list ((List.range 3).map fun k => linesP (linesH k W)))), ("stands", .dat (.list ((List.range 3).map fun k => linesP (linesH k G))))] : List (Str × Bnd))) rfl (fun i d ρ1 hd hi => ?_) (fun ρ1 hi => ?_) tg_name)
    · subst hi
      have hi3 : i < 3 := by
        by_cases q : i < 3
        · exact q
        · rw [List.getElem?_eq_none (by simp; omega)] at hd; cases hd
      have hd' : d = .int (i : Int) := by
        rw [List.getElem?_map, List.getElem?_range hi3] at hd
        exact (Option.some.inj hd).symm
      subst hd'
      refine asg_name (.inl rfl) (by walk_at "put") ?_
      refine wss_cons (ws_for (l := (List.range 3).map fun (j : Nat) => .int (j : Int)) (fun X => evi_range1 gr ev_int (by decide)) (fun j ρ' => ρ' = ([("asked", .dat (.list (((List.range 3).map fun k => textOf (linesH k W)).map .str))), ("heard", .dat (.list (((List.range 3).map fun k => textOf (linesH k G)).map .str))), ("wishes", .dat (.list ((List.range 3).map fun k => linesP (linesH k W)))), ("stands", .dat (.list ((List.range 3).map fun k => linesP (linesH k G)))), ("s", .dat (.int (i : Int)))] : List (Str × Bnd))) rfl (fun j d ρ1 hd hi => ?_) (fun ρ1 hi => ?_) tg_name)
      · subst hi
        have hj3 : j < 3 := by
          by_cases q : j < 3
          · exact q
          · rw [List.getElem?_eq_none (by simp; omega)] at hd; cases hd
        have hd' : d = .int (j : Int) := by
          rw [List.getElem?_map, List.getElem?_range hj3] at hd
          exact (Option.some.inj hd).symm
        subst hd'
        refine asg_name (.inl rfl) (by walk_at "put") ?_
        have gi : ∀ {α : Type} (f : Nat → α) {k : Nat}, k < 3 → ((List.range 3).map f)[k]? = some (f k) := fun f k hk => by rw [List.getElem?_map, List.getElem?_range hk]; rfl
        have gs : ∀ (f : Nat → Str) {k : Nat}, k < 3 → (((List.range 3).map f).map PyData.str)[k]? = some (.str (f k)) := fun f k hk => by rw [List.getElem?_map, gi f hk]; rfl
        refine wss_cons (ws_assign (d := .bool (ell (textOf (linesH i W)) (textOf (linesH j G)))) (fun X => ev_callF gell (b.kin 45 _ rfl) rfl (ds := [.str (textOf (linesH i W)), .str (textOf (linesH j G))]) ⟨ev_item (j := i) (evl_of (by walk_at "nm")) (by walk_at "nm") (seqIx_nat (by simpa using hi3)) (gs _ hi3) (by simp), ev_item (j := j) (evl_of (by walk_at "nm")) (by walk_at "nm") (seqIx_nat (by simpa using hj3)) (gs _ hj3) (by simp), trivial⟩ (ell2_call b _ _ (Nat.le_trans (tW i hi3) (by decide)) (Nat.le_trans (tG j hj3) (by decide))) (by decide)) (.inl rfl) (by walk_at "put") ?_)
        refine wss_cons (ws_if (q := false) (fun X => EvT.eq (evt_or (evt_isNot_type (evv_type_bool gtype (by walk_at "nm")) (evv_glob gbool)) fun _ => evt_cmp (by walk_at "nm") (ev_callF gtakes (b.kin 243 _ rfl) rfl (ds := [linesP (linesH i W), linesP (linesH j G)]) ⟨ev_item (j := i) (evl_of (by walk_at "nm")) (by walk_at "nm") (seqIx_nat (by simpa using hi3)) (gi (fun k => linesP (linesH k W)) hi3) (by simp), ev_item (j := j) (evl_of (by walk_at "nm")) (by walk_at "nm") (seqIx_nat (by simpa using hj3)) (gi (fun k => linesP (linesH k G)) hj3) (by simp), trivial⟩ (takes2_call b _ _ (fun l m => lineB_ok (by decide) (lW i hi3 l m)) (fun l m => lineB_ok (by decide) (lG j hj3 l m)) (nW i) (nG j)) (by decide)) cmp_ne_bool) ?_) (fun q => by cases q) (fun _ => wss_nil ?_))
        · rw [hm i hi3 j hj3]; simp
        · exact wss_weak (ρ' := [("asked", .dat (.list (((List.range 3).map fun k => textOf (linesH k W)).map .str))), ("heard", .dat (.list (((List.range 3).map fun k => textOf (linesH k G)).map .str))), ("wishes", .dat (.list ((List.range 3).map fun k => linesP (linesH k W)))), ("stands", .dat (.list ((List.range 3).map fun k => linesP (linesH k G)))), ("s", .dat (.int (i : Int)))]) (by walk_at "sub") (wss_nil rfl)
      · subst hi
        exact (wss_weak (ρ' := [("asked", .dat (.list (((List.range 3).map fun k => textOf (linesH k W)).map .str))), ("heard", .dat (.list (((List.range 3).map fun k => textOf (linesH k G)).map .str))), ("wishes", .dat (.list ((List.range 3).map fun k => linesP (linesH k W)))), ("stands", .dat (.list ((List.range 3).map fun k => linesP (linesH k G))))]) (by walk_at "sub") (wss_nil rfl))
    · subst hi
      exact wss_cons (ws_return (d := .bool true) (fun X => ev_bool) (fun h X v r => r))
  · cases fl with
    | nxt => cases (show PyData.bool true = .none from hP)
    | ret R => exact h u h' tk pr (hP h' X u r)
end
end Mine
end
section
open PySem PySem.W PyProof.Rows PySem.Calls PySem.Spec PySem.Builtin.Re
set_option maxRecDepth 100000
set_option linter.unusedVariables false
set_option Elab.async false
set_option maxHeartbeats 4000000
namespace Mine
local macro_rules | `(tactic| walk_at "mem") => `(tactic| first | exact List.Mem.head _ | (apply List.Mem.tail; walk_at "mem"))
local macro_rules | `(tactic| walk_at "put") => `(tactic| first | exact Put.nil | exact Put.here | (apply Put.there; all_goals (first | (decide; done) | walk_at "put")))
local macro_rules | `(tactic| walk_at "puts") => `(tactic| first | exact Puts.nil | (apply Puts.cons; all_goals (first | walk_at "put" | walk_at "puts")))
local macro_rules | `(tactic| walk_at "nm") => `(tactic| (refine ev_name ?_; walk_at "mem"))
local macro_rules | `(tactic| walk_at "sub") => `(tactic| first | exact List.Sublist.slnil | (apply List.Sublist.cons_cons; walk_at "sub") | (apply List.Sublist.cons; walk_at "sub"))
local macro_rules | `(tactic| walk_at "lt") => `(tactic| first | exact Nat.lt_succ_self _ | (refine Nat.lt_succ_of_lt ?_; walk_at "lt"))
local macro_rules | `(tactic| walk_at "cell") => `(tactic| exact .inr ⟨rfl, _, rfl, by walk_at "lt"⟩)
local macro_rules | `(tactic| walk_at "dats") => `(tactic| simp only [dats, List.map_cons, List.map_nil])
local macro_rules | `(tactic| walk_at "caps") => `(tactic| first | exact trivial | exact ⟨⟨by walk_at "mem", .inl rfl, .inl rfl, fun _ => rfl⟩, by walk_at "caps"⟩)
theorem holds2 (pure2 : ∀ l : List Int, Law2 l) : PySem.Challenge.rw_pu0051_02.Holds := by
  refine hd2 ?_
  intro w s₀ s₁ mg mb G Y a o pm cd doc dV kV ho hod hrec hdf hmg hgens args vals as hpre hlay hreads hwell hlow
  have KX := kIn_of Y
  have T := G.T
  have ha : a = 248 := by
    obtain ⟨o, es, ep, ho, hd, _, e⟩ := T.g
    have h3 := KX mainGlobals _ rfl
    rw [ho] at h3
    cases h3
    cases hd
    rw [← e] at hmg
    have : some (Value.ref 248) = some (Value.ref a) := hmg
    cases this; rfl
  subst ha
  clear G Y hod hrec hdf hmg ho
  wrow_args hpre hlay hreads hwell hlow
  rename_i l _ _ _ _ _ as0 as1 la vs1 as2 hL _ _ r0 hI _ hlen _
  have hl : l.length ≤ 63 := by omega
  have P1 := pure2 l
  let g : G := { prog := PySem.Challenge.rw_pu0051_02.row.prog, w := w, B := s₁.heap, T := [], C := 208 }
  have bs : Bs g (hd2.heap_39 w.params) := ⟨KX, T.nolimit, ⟨mg, T.g⟩, ⟨mb, T.b, T.builtins⟩⟩
  have hp : Hp g [] s₁.heap := ⟨fun b o e => e, fun a m => (nomatch m), fun a m => (nomatch m), fun a m => m⟩
  have rv : RdX s₁.heap [] (.ref la) (.list (l.map .int)) := ⟨_, PyProof.Rows.Reads.keeps (fun b o e => hideAll_get [] e (by simp)) r0⟩
  refine law2_call (g := g) bs rfl l hl P1 [] s₁ [.ref la] hp ⟨rv, trivial⟩ callerA _ _ ⟨rfl, by decide, by decide⟩ fun v h' tk p rd => ?_
  cases rd.bool_inv
  refine ⟨.inl ⟨.bool true, .bool true, [], rfl, raisesW_false (fun ct m => (nomatch m)), .bool true, by (refine' PySem.W.postW_of ?ps9 ?pv9 ?pe9; (case ps9 => o_shape); (case pv9 => wtm_val); (case pe9 => rfl)), fun _ => ⟨List.nodup_nil, fun a m => (nomatch m)⟩⟩, ⟨fun z o e => ?_, fun z o e => ?_⟩, rfl, .of_eq hgens⟩
  · exact .inl (p.1 z o e (fun m => (nomatch m)))
  · have := p.2 z (by rw [e]; rfl)
    exact Option.isSome_iff_exists.mp this
end Mine
end
section
open PySem PySem.W PyProof.Rows PySem.Calls PySem.Spec PySem.Builtin PySem.Builtin.Str
set_option maxRecDepth 100000
set_option linter.unusedVariables false
set_option Elab.async false
namespace Mine
theorem textL_nil : textL [] = [13, 10] := rfl
theorem textL_cons (b : Line) (B : List Line) : textL (b :: B) = List.replicate b.1 46 ++ b.2.1 :: 58 :: 32 :: (b.2.2.cps.toList ++ 13 :: 10 :: textL B) := by
  simp [textL, cat, lineT, nameT]
theorem toks_ne {c : Nat} {r : List Nat} (h : c ≠ 46) : toks (c :: r) = some c :: toks r := by
  rw [toks]
  intro r' e1 e2
  exact h e1
theorem toks_dots {c : Nat} {r : List Nat} (h : c ≠ 46) : ∀ d, toks (List.replicate d 46 ++ c :: r) = List.replicate (d / 3) none ++ (List.replicate (d % 3) (some 46) ++ toks (c :: r))
  | 0 => rfl
  | 1 => by
    show toks (46 :: c :: r) = some 46 :: toks (c :: r)
    rw [toks]
    intro r' e1 e2
    exact h (List.cons.inj e2).1
  | 2 => by
    show toks (46 :: 46 :: c :: r) = some 46 :: some 46 :: toks (c :: r)
    rw [toks]
    · congr 1
      rw [toks]
      intro r' e1 e2
      exact h (List.cons.inj e2).1
    · intro r' e1 e2
      exact h (List.cons.inj (List.cons.inj e2).2).1
  | d + 3 => by
    have e : List.replicate (d + 3) 46 ++ c :: r = 46 :: 46 :: 46 :: (List.replicate d 46 ++ c :: r) := by simp [List.replicate_succ]
    rw [e, toks, toks_dots h d, show (d + 3) / 3 = d / 3 + 1 by omega, show (d + 3) % 3 = d % 3 by omega, List.replicate_succ]; rfl
theorem m_two {p : List (Option Nat)} {g : List Nat} : M (none :: none :: p) g ↔ M (none :: p) g :=
  ⟨fun ⟨x, r, e, y, r', e', h⟩ => ⟨x ++ y, r', by rw [e, e']; simp, h⟩, fun h => ⟨[], g, rfl, h⟩⟩
theorem m_many {p : List (Option Nat)} {g : List Nat} : ∀ k, M (List.replicate (k + 1) none ++ p) g ↔ M (none :: p) g
  | 0 => Iff.rfl
  | k + 1 => by
    have e : List.replicate (k + 1 + 1) (none : Option Nat) ++ p = none :: none :: (List.replicate k none ++ p) := by simp [List.replicate_succ]
    have e2 : List.replicate (k + 1) (none : Option Nat) ++ p = none :: (List.replicate k none ++ p) := by simp [List.replicate_succ]
    have := m_many (p := p) (g := g) k
    rw [e2] at this
    rw [e, m_two, this]
theorem m_some {c z : Nat} {p : List (Option Nat)} {g : List Nat} : M (some c :: p) (z :: g) ↔ c = z ∧ M p g :=
  ⟨fun ⟨r, e, h⟩ => by cases e; exact ⟨rfl, h⟩, fun ⟨e, h⟩ => ⟨g, by rw [e], h⟩⟩
theorem m_some_nil {c : Nat} {p : List (Option Nat)} : ¬ M (some c :: p) [] := fun ⟨r, e, h⟩ => by cases e
theorem m_none_cons {z : Nat} {p : List (Option Nat)} {g : List Nat} : M (none :: p) (z :: g) ↔ M p (z :: g) ∨ M (none :: p) g := by
  constructor
  · rintro ⟨x, r, e, h⟩
    cases x with
    | nil => left; rw [e]; exact h
    | cons y x => cases e; exact .inr ⟨x, r, rfl, h⟩
  · rintro (h | ⟨x, r, e, h⟩)
    · exact ⟨[], _, rfl, h⟩
    · exact ⟨z :: x, r, by rw [e]; rfl, h⟩
theorem m_none_nil {p : List (Option Nat)} : M (none :: p) [] ↔ M p [] := by
  constructor
  · rintro ⟨x, r, e, h⟩
    have := List.append_eq_nil_iff.mp e.symm
    rw [this.2] at h; exact h
  · intro h; exact ⟨[], [], rfl, h⟩
theorem m_nil : ∀ {p : List (Option Nat)} {c : Nat}, some c ∈ p → ¬ M p []
  | some _ :: _, _, _ => m_some_nil
  | none :: p, c, m => fun h => m_nil (p := p) (c := c) (by simpa using m) (m_none_nil.mp h)
/-- the begin of a line -/
theorem m_head {c l : Nat} {q : List (Option Nat)} {t : List Nat} (hc : c ≠ 46) (hl : l ≠ 46) : ∀ {e m : Nat}, M (List.replicate e (some 46) ++ some c :: q) (List.replicate m 46 ++ l :: t) ↔ e = m ∧ c = l ∧ M q t
  | 0, 0 => by show M (some c :: q) (l :: t) ↔ _; rw [m_some]; simp
  | 0, m + 1 => by
    have : List.replicate (m + 1) 46 ++ l :: t = 46 :: (List.replicate m 46 ++ l :: t) := by simp [List.replicate_succ]
    rw [this]
    show M (some c :: q) (46 :: _) ↔ _
    rw [m_some]
    exact ⟨fun h => absurd h.1 hc, fun h => by omega⟩
  | e + 1, 0 => by
    have : List.replicate (e + 1) (some 46) ++ some c :: q = some 46 :: (List.replicate e (some 46) ++ some c :: q) := by simp [List.replicate_succ]
    rw [this]
    show M (some 46 :: _) (l :: t) ↔ _
    rw [m_some]
    exact ⟨fun h => absurd h.1.symm hl, fun h => by omega⟩
  | e + 1, m + 1 => by
    have h1 : List.replicate (m + 1) 46 ++ l :: t = 46 :: (List.replicate m 46 ++ l :: t) := by simp [List.replicate_succ]
    have h2 : List.replicate (e + 1) (some 46) ++ some c :: q = some 46 :: (List.replicate e (some 46) ++ some c :: q) := by simp [List.replicate_succ]
    rw [h1, h2, m_some, m_head hc hl]
    exact ⟨fun h => ⟨by omega, h.2.2⟩, fun h => ⟨rfl, by omega, h.2⟩⟩
theorem m_head_not {c z : Nat} {q : List (Option Nat)} {t : List Nat} (hz : z ≠ 46) (hc : c ≠ z) : ∀ {e : Nat}, ¬ M (List.replicate e (some 46) ++ some c :: q) (z :: t)
  | 0 => fun h => hc (m_some.mp h).1
  | e + 1 => fun h => by
    have h2 : List.replicate (e + 1) (some 46) ++ some c :: q = some 46 :: (List.replicate e (some 46) ++ some c :: q) := by simp [List.replicate_succ]
    rw [h2] at h
    exact hz (m_some.mp h).1.symm
theorem m_skip {c z : Nat} {q : List (Option Nat)} {t : List Nat} {e : Nat} (hz : z ≠ 46) (hc : c ≠ z) : M (none :: (List.replicate e (some 46) ++ some c :: q)) (z :: t) ↔ M (none :: (List.replicate e (some 46) ++ some c :: q)) t := by
  rw [m_none_cons]
  exact ⟨fun h => h.elim (fun h => absurd h (m_head_not hz hc)) id, .inr⟩
theorem m_gap_dots {c l : Nat} {q : List (Option Nat)} {t : List Nat} {e : Nat} (hc : c ≠ 46) (hl : l ≠ 46) : ∀ m, M (none :: (List.replicate e (some 46) ++ some c :: q)) (List.replicate m 46 ++ l :: t) ↔ (e ≤ m ∧ c = l ∧ M q t) ∨ M (none :: (List.replicate e (some 46) ++ some c :: q)) t
  | 0 => by
    show M (none :: _) (l :: t) ↔ _
    have := m_head (q := q) (t := t) hc hl (e := e) (m := 0)
    rw [m_none_cons, show (l :: t) = List.replicate 0 46 ++ l :: t from rfl, this]
    simp only [Nat.le_zero_eq]
  | m + 1 => by
    have h1 : List.replicate (m + 1) 46 ++ l :: t = 46 :: (List.replicate m 46 ++ l :: t) := by simp [List.replicate_succ]
    have := m_head (q := q) (t := t) hc hl (e := e) (m := m + 1)
    rw [h1] at this ⊢
    rw [m_none_cons, this, m_gap_dots hc hl m]
    constructor
    · rintro (⟨a, b⟩ | ⟨a, b⟩ | h)
      · exact .inl ⟨by omega, b⟩
      · exact .inl ⟨by omega, b⟩
      · exact .inr h
    · rintro (⟨a, b⟩ | h)
      · rcases Nat.lt_or_ge m e with q | q
        · exact .inl ⟨by omega, b⟩
        · exact .inr (.inl ⟨q, b⟩)
      · exact .inr (.inr h)
/-- a line that was heard: its value is one letter -/
def GotOK (b : Line) : Prop := LetOK b.2.1 ∧ (b.2.2 = "x" ∨ b.2.2 = "y")
theorem got_val {b : Line} (h : GotOK b) : ∃ z, b.2.2.cps.toList = [z] ∧ (z = 120 ∨ z = 121) := by
  rcases h.2 with e | e
  · exact ⟨120, by rw [e]; decide +kernel, .inl rfl⟩
  · exact ⟨121, by rw [e]; decide +kernel, .inr rfl⟩
theorem let_ne {c z : Nat} (h : LetOK c) (hz : z ∈ [46, 58, 32, 120, 121, 13, 10]) : c ≠ z := by
  simp only [List.mem_cons, List.not_mem_nil, or_false] at hz
  rcases h with rfl | rfl | rfl | rfl <;> rcases hz with rfl | rfl | rfl | rfl | rfl | rfl | rfl <;> decide
/-- behind a line's letter -/
def behindT (b : Line) (B : List Line) : List Nat := 58 :: 32 :: (b.2.2.cps.toList ++ 13 :: 10 :: textL B)
theorem m_gap_line {c e : Nat} {q : List (Option Nat)} (hc : LetOK c) : ∀ {B : List Line}, (∀ b ∈ B, GotOK b) → (M (none :: (List.replicate e (some 46) ++ some c :: q)) (textL B) ↔ ∃ j b, B[j]? = some b ∧ e ≤ b.1 ∧ c = b.2.1 ∧ M q (behindT b (B.drop (j + 1))))
  | [], _ => by
    rw [textL_nil, m_skip (by decide) (let_ne hc (by simp)), m_skip (by decide) (let_ne hc (by simp)), m_none_nil]
    constructor
    · intro h
      exact absurd h (m_nil (c := c) (by simp))
    · rintro ⟨j, b, e, _⟩; simp at e
  | b :: B, h => by
    have hb := h b (.head _)
    obtain ⟨z, hz, hzz⟩ := got_val hb
    have ih := m_gap_line (e := e) (q := q) hc (B := B) fun x m => h x (.tail _ m)
    rw [textL_cons, m_gap_dots (let_ne hc (by simp)) (let_ne hb.1 (by simp))]
    have e0 : (58 :: 32 :: (b.2.2.cps.toList ++ 13 :: 10 :: textL B)) = behindT b B := rfl
    have hs : M (none :: (List.replicate e (some 46) ++ some c :: q)) (behindT b B) ↔ M (none :: (List.replicate e (some 46) ++ some c :: q)) (textL B) := by
      unfold behindT
      rw [hz]
      rw [m_skip (by decide) (let_ne hc (by simp)), m_skip (by decide) (let_ne hc (by simp))]
      show M _ (z :: 13 :: 10 :: textL B) ↔ _
      rw [m_skip (by omega) (let_ne hc (by rcases hzz with e | e <;> simp [e])), m_skip (by decide) (let_ne hc (by simp)), m_skip (by decide) (let_ne hc (by simp))]
    rw [e0, hs, ih]
    constructor
    · rintro (⟨h1, h2, h3⟩ | ⟨j, b', h1, h2⟩)
      · exact ⟨0, b, rfl, h1, h2, h3⟩
      · exact ⟨j + 1, b', h1, h2⟩
    · rintro ⟨j, b', h1, h2⟩
      cases j with
      | zero => cases h1; exact .inl h2
      | succ j => exact .inr ⟨j, b', h1, h2⟩
/-- behind a gap a line's end -/
theorem m_gap_end {P : List (Option Nat)} (hP : ¬ M P []) : ∀ {B : List Line}, (∀ b ∈ B, GotOK b) → (M (none :: some 13 :: some 10 :: P) (textL B) ↔ ∃ i, i < B.length ∧ M P (textL (B.drop (i + 1))))
  | [], _ => by
    rw [textL_nil, m_none_cons, m_none_cons, m_none_nil]
    constructor
    · rintro (h | h | h)
      · exact absurd (m_some.mp (m_some.mp h).2).2 hP
      · have := (m_some.mp h).1; omega
      · exact absurd h m_some_nil
    · rintro ⟨i, h, _⟩; simp at h
  | b :: B, h => by
    have hb := h b (.head _)
    obtain ⟨z, hz, hzz⟩ := got_val hb
    have ih := m_gap_end hP (B := B) fun x m => h x (.tail _ m)
    have skip : ∀ {y : Nat} {t : List Nat}, y ≠ 13 → (M (none :: some 13 :: some 10 :: P) (y :: t) ↔ M (none :: some 13 :: some 10 :: P) t) := fun {y t} hy => by
      rw [m_none_cons]
      exact ⟨fun q => q.elim (fun q => absurd (m_some.mp q).1.symm hy) id, .inr⟩
    have dots : ∀ (m : Nat) (t : List Nat), M (none :: some 13 :: some 10 :: P) (List.replicate m 46 ++ t) ↔ M (none :: some 13 :: some 10 :: P) t := fun m t => by
      induction m with
      | zero => exact Iff.rfl
      | succ m ihm =>
        have h1 : List.replicate (m + 1) 46 ++ t = 46 :: (List.replicate m 46 ++ t) := by simp [List.replicate_succ]
        rw [h1, skip (by decide), ihm]
    rw [textL_cons, dots, skip (let_ne hb.1 (by simp)), skip (by decide), skip (by decide), hz]
    show M _ (z :: 13 :: 10 :: textL B) ↔ _
    rw [skip (by omega), m_none_cons, m_some, m_some, skip (by decide), ih]
    constructor
    · rintro (⟨_, _, h⟩ | ⟨i, h1, h2⟩)
      · exact ⟨0, by simp, h⟩
      · exact ⟨i + 1, by simp; omega, h2⟩
    · rintro ⟨i, h1, h2⟩
      cases i with
      | zero => exact .inl ⟨rfl, rfl, h2⟩
      | succ i => exact .inr ⟨i, by simpa using h1, h2⟩
/-- what stands behind a wanted line's letter -/
def valT (v : Str) (P : List (Option Nat)) : List (Option Nat) := some 58 :: some 32 :: (if v = "..." then none :: some 13 :: some 10 :: P else some (v.cps.toList.headD 0) :: some 13 :: some 10 :: P)
theorem m_val {v : Str} {P : List (Option Nat)} {b : Line} {B : List Line} (hv : v = "x" ∨ v = "y" ∨ v = "...") (hb : GotOK b) (hB : ∀ b ∈ B, GotOK b) (hP : ¬ M P []) :
    M (valT v P) (behindT b B) ↔ if v = "..." then ∃ i, i ≤ B.length ∧ M P (textL (B.drop i)) else v = b.2.2 ∧ M P (textL B) := by
  obtain ⟨z, hz, hzz⟩ := got_val hb
  unfold valT behindT
  rw [m_some, m_some, hz]
  by_cases hg : v = "..."
  · rw [if_pos hg, if_pos hg]
    show (58 = 58 ∧ 32 = 32 ∧ M _ (z :: 13 :: 10 :: textL B)) ↔ _
    rw [m_none_cons, m_some, m_none_cons, m_some, m_some, m_none_cons, m_some, m_gap_end hP hB]
    constructor
    · rintro ⟨_, _, h | h | h | ⟨i, h1, h2⟩⟩
      · have := h.1; omega
      · exact ⟨0, Nat.zero_le _, h.2.2⟩
      · have := (m_some.mp h).1; omega
      · exact ⟨i + 1, h1, h2⟩
    · rintro ⟨i, h1, h2⟩
      refine ⟨rfl, rfl, .inr ?_⟩
      cases i with
      | zero => exact .inl ⟨rfl, rfl, h2⟩
      | succ i => exact .inr (.inr ⟨i, h1, h2⟩)
  · rw [if_neg hg, if_neg hg]
    show (58 = 58 ∧ 32 = 32 ∧ M _ (z :: 13 :: 10 :: textL B)) ↔ _
    rw [m_some, m_some, m_some]
    have hvv : v.cps.toList.headD 0 = z ↔ v = b.2.2 := by
      have hx : ("x" : Str).cps.toList = [120] := by decide +kernel
      have hy : ("y" : Str).cps.toList = [121] := by decide +kernel
      have inj : ∀ {a c : Str}, a.cps.toList = c.cps.toList → a = c := fun {a c} h => by rw [str_mk a, str_mk c, h]
      constructor
      · intro h
        apply inj
        rw [hz]
        rcases hv with e | e | e
        · rw [e, hx] at h ⊢; simp at h; rw [h]
        · rw [e, hy] at h ⊢; simp at h; rw [h]
        · exact absurd e hg
      · intro h; rw [h, hz]; rfl
    rw [hvv]
    exact ⟨fun h => ⟨h.2.2.1, h.2.2.2.2.2⟩, fun h => ⟨rfl, rfl, h.1, rfl, rfl, h.2⟩⟩
/-- a wanted line -/
def WantOK (a : Line) : Prop := LetOK a.2.1 ∧ (a.2.2 = "x" ∨ a.2.2 = "y" ∨ a.2.2 = "...")
theorem toks_line {a : Line} (h : WantOK a) (A : List Line) : toks (textL (a :: A)) = List.replicate (a.1 / 3) none ++ (List.replicate (a.1 % 3) (some 46) ++ some a.2.1 :: valT a.2.2 (toks (textL A))) := by
  obtain ⟨d, c, v⟩ := a
  obtain ⟨h1, h2⟩ := h
  have h1 : LetOK c := h1
  have h2 : v = "x" ∨ v = "y" ∨ v = "..." := h2
  rw [textL_cons]
  show toks (List.replicate d 46 ++ c :: 58 :: 32 :: (v.cps.toList ++ 13 :: 10 :: textL A)) = _
  rw [toks_dots (let_ne h1 (by simp)), toks_ne (let_ne h1 (by simp)), toks_ne (by decide), toks_ne (by decide)]
  have hv : toks (v.cps.toList ++ 13 :: 10 :: textL A) = if v = "..." then none :: some 13 :: some 10 :: toks (textL A) else some (v.cps.toList.headD 0) :: some 13 :: some 10 :: toks (textL A) := by
    have hx : ("x" : Str).cps.toList = [120] := by decide +kernel
    have hy : ("y" : Str).cps.toList = [121] := by decide +kernel
    have hd : ("..." : Str).cps.toList = [46, 46, 46] := by decide +kernel
    rcases h2 with rfl | rfl | rfl
    · rw [if_neg (by decide +kernel), hx]
      show toks (120 :: 13 :: 10 :: textL A) = _
      rw [toks_ne (by decide), toks_ne (by decide), toks_ne (by decide)]; rfl
    · rw [if_neg (by decide +kernel), hy]
      show toks (121 :: 13 :: 10 :: textL A) = _
      rw [toks_ne (by decide), toks_ne (by decide), toks_ne (by decide)]; rfl
    · rw [if_pos rfl, hd]
      show toks (46 :: 46 :: 46 :: 13 :: 10 :: textL A) = _
      rw [toks, toks_ne (by decide), toks_ne (by decide)]
  rw [hv]
  unfold valT
  rfl
theorem toks_end : ∀ {A : List Line}, (∀ a ∈ A, WantOK a) → some 13 ∈ toks (textL A)
  | [], _ => by rw [textL_nil, toks_ne (by decide)]; exact .head _
  | a :: A, h => by
    rw [toks_line (h a (.head _))]
    refine List.mem_append_right _ (List.mem_append_right _ (.tail _ ?_))
    unfold valT
    refine .tail _ (.tail _ ?_)
    split <;> exact .tail _ (.head _)
/-- one wanted line takes the place from k to k' -/
def Step (a : Line) (B : List Line) (k k' : Nat) : Prop := ∃ j b, B[j]? = some b ∧ (if a.1 < 3 then j = k ∧ a.1 = b.1 else k ≤ j ∧ a.1 % 3 ≤ b.1) ∧ a.2.1 = b.2.1 ∧ (if a.2.2 = "..." then j < k' ∧ k' ≤ B.length else a.2.2 = b.2.2 ∧ k' = j + 1)
theorem m_val_at {v : Str} {P : List (Option Nat)} {b : Line} {B : List Line} {j : Nat} (hv : v = "x" ∨ v = "y" ∨ v = "...") (hj : B[j]? = some b) (hB : ∀ b ∈ B, GotOK b) (hP : ¬ M P []) :
    M (valT v P) (behindT b (B.drop (j + 1))) ↔ ∃ k', (if v = "..." then j < k' ∧ k' ≤ B.length else v = b.2.2 ∧ k' = j + 1) ∧ M P (textL (B.drop k')) := by
  have hjl : j < B.length := by
    by_cases q : j < B.length
    · exact q
    · rw [List.getElem?_eq_none (by omega)] at hj; cases hj
  rw [m_val hv (hB b (List.mem_of_getElem? hj)) (fun x m => hB x (List.mem_of_mem_drop m)) hP]
  by_cases hg : v = "..."
  · simp only [if_pos hg]
    constructor
    · rintro ⟨i, h1, h2⟩
      rw [List.drop_drop] at h2
      rw [List.length_drop] at h1
      exact ⟨j + 1 + i, ⟨by omega, by omega⟩, h2⟩
    · rintro ⟨k', ⟨h1, h2⟩, h3⟩
      refine ⟨k' - (j + 1), by rw [List.length_drop]; omega, ?_⟩
      rw [List.drop_drop, show j + 1 + (k' - (j + 1)) = k' by omega]; exact h3
  · simp only [if_neg hg]
    exact ⟨fun h => ⟨j + 1, ⟨h.1, rfl⟩, h.2⟩, fun ⟨k', h1, h2⟩ => ⟨h1.1, by rw [← h1.2]; exact h2⟩⟩
theorem m_step {a : Line} {A B : List Line} (ha : WantOK a) (hA : ∀ x ∈ A, WantOK x) (hB : ∀ b ∈ B, GotOK b) (k : Nat) : M (toks (textL (a :: A))) (textL (B.drop k)) ↔ ∃ k', Step a B k k' ∧ M (toks (textL A)) (textL (B.drop k')) := by
  have hP : ¬ M (toks (textL A)) [] := m_nil (toks_end hA)
  rw [toks_line ha]
  by_cases hd : a.1 < 3
  · rw [show a.1 / 3 = 0 by omega, show a.1 % 3 = a.1 by omega, List.replicate_zero, List.nil_append]
    cases hk : B[k]? with
    | none =>
      have hkl : B.length ≤ k := by
        rcases Nat.lt_or_ge k B.length with q | q
        · rw [List.getElem?_eq_getElem q] at hk; cases hk
        · exact q
      rw [List.drop_eq_nil_of_le hkl, textL_nil]
      constructor
      · intro h; exact absurd h (m_head_not (by decide) (let_ne ha.1 (by simp)))
      · rintro ⟨k', ⟨j, b, h1, h2, _⟩, _⟩
        rw [if_pos hd] at h2
        rw [h2.1, hk] at h1; cases h1
    | some b =>
      have hkl : k < B.length := by
        by_cases q : k < B.length
        · exact q
        · rw [List.getElem?_eq_none (by omega)] at hk; cases hk
      have hdr : B.drop k = b :: B.drop (k + 1) := by
        rw [List.drop_eq_getElem_cons hkl]
        rw [List.getElem?_eq_getElem hkl] at hk
        rw [Option.some.inj hk]
      have hb := hB b (List.mem_of_getElem? hk)
      rw [hdr, textL_cons, m_head (let_ne ha.1 (by simp)) (let_ne hb.1 (by simp))]
      show (_ ∧ _ ∧ M (valT a.2.2 (toks (textL A))) (behindT b (B.drop (k + 1)))) ↔ _
      rw [m_val_at ha.2 hk hB hP]
      constructor
      · rintro ⟨h1, h2, k', h3, h4⟩
        exact ⟨k', ⟨k, b, hk, by rw [if_pos hd]; exact ⟨rfl, h1⟩, h2, h3⟩, h4⟩
      · rintro ⟨k', ⟨j, b', h1, h2, h3, h4⟩, h5⟩
        rw [if_pos hd] at h2
        obtain ⟨rfl, h2⟩ := h2
        rw [hk] at h1
        cases h1
        exact ⟨h2, h3, k', h4, h5⟩
  · obtain ⟨n, hn⟩ : ∃ n, a.1 / 3 = n + 1 := ⟨a.1 / 3 - 1, by omega⟩
    rw [hn, m_many, m_gap_line ha.1 (fun x m => hB x (List.mem_of_mem_drop m))]
    constructor
    · rintro ⟨j, b, h1, h2, h3, h4⟩
      rw [List.getElem?_drop] at h1
      rw [List.drop_drop, show k + (j + 1) = k + j + 1 by omega, m_val_at ha.2 h1 hB hP] at h4
      obtain ⟨k', h5, h6⟩ := h4
      exact ⟨k', ⟨k + j, b, h1, by rw [if_neg hd]; exact ⟨Nat.le_add_right _ _, h2⟩, h3, h5⟩, h6⟩
    · rintro ⟨k', ⟨j, b, h1, h2, h3, h4⟩, h5⟩
      rw [if_neg hd] at h2
      refine ⟨j - k, b, by rw [List.getElem?_drop, show k + (j - k) = j by omega]; exact h1, h2.2, h3, ?_⟩
      rw [List.drop_drop, show k + (j - k + 1) = j + 1 by omega, m_val_at ha.2 h1 hB hP]
      exact ⟨k', h4, h5⟩
theorem step_mem {a : Line} {B : List Line} {reach : List Nat} {k' : Nat} (hB : ∀ b ∈ B, GotOK b) : k' ∈ behindK a B reach B.length ↔ ∃ r ∈ reach, Step a B r k' := by
  unfold behindK
  rw [List.mem_flatMap]
  have key : ∀ j b, B[j]? = some b → (k' ∈ stepK a B.length reach j b ↔ a.2.1 = b.2.1 ∧ fitK a.1 reach j b.1 = true ∧ (if a.2.2 = "..." then j < k' ∧ k' ≤ B.length else a.2.2 = b.2.2 ∧ k' = j + 1)) := by
    intro j b hj
    have hjl : j < B.length := by
      by_cases q : j < B.length
      · exact q
      · rw [List.getElem?_eq_none (by omega)] at hj; cases hj
    have hbne : ¬ b.2.2 = "..." := by
      rcases (hB b (List.mem_of_getElem? hj)).2 with e | e <;> (rw [e]; decide +kernel)
    unfold stepK addK
    by_cases h1 : b.2.1 = a.2.1
    · by_cases hg : a.2.2 = "..."
      · rw [if_pos (by simp [h1, hg])]
        simp only [if_pos hg]
        cases hf : fitK a.1 reach j b.1 with
        | false => simp
        | true =>
          rw [if_pos (by simp [hg])]
          simp only [List.mem_map, List.mem_range]
          constructor
          · rintro ⟨i, hi, rfl⟩; exact ⟨h1.symm, trivial, by omega, by omega⟩
          · rintro ⟨_, _, h2, h3⟩; exact ⟨k' - (j + 1), by omega, by omega⟩
      · by_cases hv : a.2.2 = b.2.2
        · rw [if_pos (by simp [h1, hv])]
          simp only [if_neg hg]
          cases hf : fitK a.1 reach j b.1 with
          | false => simp
          | true =>
            rw [if_neg (by simp [hg]), if_pos rfl]
            simp [h1, hv]
        · rw [if_neg (by simp [h1]; exact ⟨fun q => hg q.symm, fun q => hv q.symm⟩)]
          simp [hg, hv]
    · rw [if_neg (by simp [h1])]
      simp only [List.not_mem_nil, false_iff]
      rintro ⟨q, _⟩; exact h1 q.symm
  constructor
  · rintro ⟨j, mj, hm⟩
    have hj := List.mem_range.mp mj
    rw [List.getElem?_eq_getElem hj] at hm
    obtain ⟨h1, h2, h3⟩ := (key j _ (List.getElem?_eq_getElem hj)).mp hm
    unfold fitK at h2
    by_cases hd : a.1 < 3
    · rw [if_pos hd] at h2
      simp at h2
      exact ⟨j, h2.1, j, _, List.getElem?_eq_getElem hj, by rw [if_pos hd]; exact ⟨rfl, h2.2.symm⟩, h1, h3⟩
    · rw [if_neg hd] at h2
      simp at h2
      obtain ⟨⟨r, hr, hrj⟩, h5⟩ := h2
      exact ⟨r, hr, j, _, List.getElem?_eq_getElem hj, by rw [if_neg hd]; exact ⟨hrj, h5⟩, h1, h3⟩
  · rintro ⟨r, hr, j, b, hj, h2, h1, h3⟩
    have hjl : j < B.length := by
      by_cases q : j < B.length
      · exact q
      · rw [List.getElem?_eq_none (by omega)] at hj; cases hj
    refine ⟨j, List.mem_range.mpr hjl, ?_⟩
    rw [hj]
    refine (key j b hj).mpr ⟨h1, ?_, h3⟩
    unfold fitK
    by_cases hd : a.1 < 3
    · rw [if_pos hd] at h2 ⊢
      obtain ⟨rfl, h2⟩ := h2
      simp [hr, h2]
    · rw [if_neg hd] at h2 ⊢
      simp
      exact ⟨⟨r, hr, h2.1⟩, h2.2⟩
theorem text_last {B : List Line} (hB : ∀ b ∈ B, GotOK b) : textL B = [13, 10] ↔ B = [] := by
  refine ⟨fun h => ?_, fun h => by rw [h]; rfl⟩
  cases B with
  | nil => rfl
  | cons b B =>
    rw [textL_cons] at h
    have hb := (hB b (.head _)).1
    obtain ⟨m, l, v⟩ := b
    have hb : LetOK l := hb
    cases m with
    | zero => exact absurd (List.cons.inj h).1 (let_ne hb (by simp))
    | succ m =>
      have h1 : List.replicate (m + 1) 46 ++ l :: 58 :: 32 :: (v.cps.toList ++ 13 :: 10 :: textL B) = 46 :: (List.replicate m 46 ++ l :: 58 :: 32 :: (v.cps.toList ++ 13 :: 10 :: textL B)) := by simp [List.replicate_succ]
      have h : List.replicate (m + 1) 46 ++ l :: 58 :: 32 :: (v.cps.toList ++ 13 :: 10 :: textL B) = [13, 10] := h
      rw [h1] at h
      have := (List.cons.inj h).1
      omega
theorem match_takes {B : List Line} (hB : ∀ b ∈ B, GotOK b) : ∀ {A : List Line} {reach : List Nat}, (∀ a ∈ A, WantOK a) → (∀ r ∈ reach, r ≤ B.length) → ((∃ r ∈ reach, M (toks (textL A)) (textL (B.drop r))) ↔ B.length ∈ A.foldl (fun r l => behindK l B r B.length) reach)
  | [], reach, _, hr => by
    have e : toks (textL []) = [some 13, some 10] := by rw [textL_nil, toks_ne (by decide), toks_ne (by decide)]; rfl
    show _ ↔ B.length ∈ reach
    constructor
    · rintro ⟨r, mr, h⟩
      rw [e] at h
      have h2 : textL (B.drop r) = [13, 10] := by
        obtain ⟨x, e1, y, e2, e3⟩ := h
        have e3 : y = [] := e3
        rw [e1, e2, e3]
      rw [text_last (fun x m => hB x (List.mem_of_mem_drop m))] at h2
      have := List.drop_eq_nil_iff.mp h2
      have := hr r mr
      have : r = B.length := by omega
      rwa [← this]
    · intro h
      refine ⟨_, h, ?_⟩
      rw [e, List.drop_length, textL_nil]
      exact ⟨_, rfl, _, rfl, rfl⟩
  | a :: A, reach, hA, hr => by
    have ha := hA a (.head _)
    have hA' : ∀ x ∈ A, WantOK x := fun x m => hA x (.tail _ m)
    have hr' : ∀ r ∈ behindK a B reach B.length, r ≤ B.length := fun r m => by
      obtain ⟨q, _, j, b, hj, _, _, h4⟩ := (step_mem hB).mp m
      have hjl : j < B.length := by
        by_cases q : j < B.length
        · exact q
        · rw [List.getElem?_eq_none (by omega)] at hj; cases hj
      split at h4 <;> omega
    rw [List.foldl_cons, ← match_takes hB hA' hr']
    constructor
    · rintro ⟨r, mr, h⟩
      obtain ⟨k', h1, h2⟩ := (m_step ha hA' hB r).mp h
      exact ⟨k', (step_mem hB).mpr ⟨r, mr, h1⟩, h2⟩
    · rintro ⟨k', mk, h⟩
      obtain ⟨r, mr, h1⟩ := (step_mem hB).mp mk
      exact ⟨r, mr, (m_step ha hA' hB r).mpr ⟨k', h1, h⟩⟩
theorem ell_takes {A B : List Line} (hA : ∀ a ∈ A, WantOK a) (hB : ∀ b ∈ B, GotOK b) : ell (textOf A) (textOf B) = takes A B := by
  have h := match_takes hB (A := A) (reach := [0]) hA (fun r m => by rw [List.mem_singleton.mp m]; exact Nat.zero_le _)
  have h2 : (∃ r ∈ [0], M (toks (textL A)) (textL (B.drop r))) ↔ M (toks (textL A)) (textL B) := by simp
  rw [h2] at h
  rw [Bool.eq_iff_iff]
  unfold textOf
  rw [ell_toks, h]
  unfold takes reachL
  rw [List.contains_iff_mem]
end Mine
end
section
open PySem PySem.W PyProof.Rows PySem.Calls PySem.Spec PySem.Builtin PySem.Builtin.Str
set_option maxRecDepth 100000
set_option linter.unusedVariables false
set_option Elab.async false
namespace Mine
def shiftL (h : Nat) (l : Line) : Line := ((if 0 < l.1 then l.1 + h else 0), l.2.1, l.2.2)
def keyL (l : Line) : Nat × Nat := (l.1, lowC l.2.1)
theorem keys_has (ks : List Line) (l : Line) : (ks.map keyL).contains (keyL l) = hasN ks l := by
  unfold hasN
  rw [Bool.eq_iff_iff, List.contains_iff_mem, List.mem_map, List.any_eq_true]
  constructor
  · rintro ⟨k, mk, e⟩
    have e' : (k.1, lowC k.2.1) = (l.1, lowC l.2.1) := e
    have e1 := (Prod.mk.inj e').1
    have e2 := (Prod.mk.inj e').2
    exact ⟨k, mk, by rw [e1, e2]; simp⟩
  · rintro ⟨k, mk, e⟩
    simp only [Bool.and_eq_true, beq_iff_eq] at e
    exact ⟨k, mk, by unfold keyL; rw [e.1, e.2]⟩
theorem fold_shift (h : Nat) : ∀ (ls ks : List Line), ls.foldl (addL (h + 1)) (ks.map (shiftL (h + 1)), ks.map keyL) = ((ls.foldl addD ks).map (shiftL (h + 1)), (ls.foldl addD ks).map keyL)
  | [], ks => rfl
  | l :: ls, ks => by
    rw [List.foldl_cons, List.foldl_cons, ← fold_shift h ls (addD ks l)]
    congr 1
    unfold addL addD
    show (if ((h + 1 == 0) || !(ks.map keyL).contains (keyL l)) = true then _ else _) = _
    rw [keys_has]
    cases hasN ks l with
    | true => simp
    | false =>
      rw [if_pos (by simp)]
      show _ = (List.map (shiftL (h + 1)) (ks ++ [l]), List.map keyL (ks ++ [l]))
      rw [List.map_append, List.map_append]; rfl
theorem linesH_succ (h : Nat) (ls : List Line) : linesH (h + 1) ls = (dedup ls).map (shiftL (h + 1)) := by
  unfold linesH foldH
  have := fold_shift h ls []
  rw [show (([] : List Line).map (shiftL (h + 1)), ([] : List Line).map keyL) = (([] : List Line), ([] : List (Nat × Nat))) from rfl] at this
  rw [this]; rfl
theorem linesH_zero (ls : List Line) : linesH 0 ls = ls := by
  suffices ∀ st : List Line × List (Nat × Nat), (ls.foldl (addL 0) st).1 = st.1 ++ ls by
    have := this ([], []); simpa [linesH, foldH] using this
  induction ls with
  | nil => intro st; simp
  | cons l ls ih =>
    intro st
    rw [List.foldl_cons, ih]
    have e : ((if 0 < l.1 then l.1 + 0 else 0), l.2.1, l.2.2) = l := by
      obtain ⟨d, c, v⟩ := l
      by_cases q : 0 < d
      · simp [q]
      · have : d = 0 := by omega
        subst this; simp
    unfold addL
    rw [if_pos (by simp), e]
    simp
theorem up_has (ks : List Line) (l : Line) : hasN (ks.map upL) (upL l) = hasN ks l := by
  unfold hasN
  rw [List.any_map]
  congr 1
  funext k
  show ((upL k).1 == (upL l).1 && _) = _
  congr 1
  rw [Bool.eq_iff_iff]
  show ((if 0 < k.1 then k.1 + 1 else 0) == (if 0 < l.1 then l.1 + 1 else 0)) = true ↔ _
  simp only [beq_iff_eq]
  split <;> split <;> omega
theorem fold_up : ∀ (ls ks : List Line), (ls.map upL).foldl addD (ks.map upL) = (ls.foldl addD ks).map upL
  | [], ks => rfl
  | l :: ls, ks => by
    rw [List.map_cons, List.foldl_cons, List.foldl_cons, ← fold_up ls (addD ks l)]
    congr 1
    unfold addD
    rw [up_has]
    cases hasN ks l <;> simp
theorem dedup_up (ls : List Line) : dedup (ls.map upL) = (dedup ls).map upL := fold_up ls []
def Apart (ks : List Line) : Prop := ks.Pairwise fun a b => (a.1 == b.1 && lowC a.2.1 == lowC b.2.1) = false
theorem has_apart {ks : List Line} {l : Line} (h : Apart ks) (hn : hasN ks l = false) : Apart (ks ++ [l]) := by
  unfold Apart at *
  rw [List.pairwise_append]
  refine ⟨h, List.pairwise_singleton _ _, fun a ma b mb => ?_⟩
  rw [List.mem_singleton.mp mb]
  unfold hasN at hn
  rw [List.any_eq_false] at hn
  exact Bool.eq_false_iff.mpr (hn a ma)
theorem fold_apart : ∀ (ls ks : List Line), Apart ks → Apart (ls.foldl addD ks)
  | [], ks, h => h
  | l :: ls, ks, h => by
    rw [List.foldl_cons]
    refine fold_apart ls _ ?_
    unfold addD
    cases hn : hasN ks l with
    | true => rw [if_pos rfl]; exact h
    | false => rw [if_neg (by decide)]; exact has_apart h hn
theorem fold_same : ∀ (ls ks : List Line), Apart (ks ++ ls) → ls.foldl addD ks = ks ++ ls
  | [], ks, _ => by simp
  | l :: ls, ks, h => by
    have hn : hasN ks l = false := by
      unfold hasN
      rw [List.any_eq_false]
      intro a ma
      unfold Apart at h
      rw [List.pairwise_append] at h
      rw [h.2.2 a ma l (.head _)]; decide
    rw [List.foldl_cons]
    have : addD ks l = ks ++ [l] := by unfold addD; rw [hn]; rfl
    rw [this, fold_same ls (ks ++ [l]) (by rw [List.append_assoc]; exact h), List.append_assoc]; rfl
theorem dedup_dedup (ls : List Line) : dedup (dedup ls) = dedup ls := by
  have h : Apart (dedup ls) := fold_apart ls [] List.Pairwise.nil
  exact fold_same (dedup ls) [] h
theorem hands_lines (ls : List Line) : ∀ i < 3, hands i ls = linesH i ls := by
  intro i hi
  have : i = 0 ∨ i = 1 ∨ i = 2 := by omega
  rcases this with rfl | rfl | rfl
  · exact (linesH_zero ls).symm
  · show dedup (ls.map upL) = _
    rw [dedup_up, linesH_succ]; rfl
  · show dedup ((dedup (ls.map upL)).map upL) = _
    rw [dedup_up, dedup_dedup, dedup_up, linesH_succ, List.map_map]
    refine List.map_congr_left fun l _ => ?_
    obtain ⟨d, c, v⟩ := l
    show upL (upL (d, c, v)) = shiftL 2 (d, c, v)
    unfold upL shiftL
    by_cases q : 0 < d
    · simp [q]
    · have : d = 0 := by omega
      subst this; simp
theorem sent_lines (ls : List Line) : sentT 2 ls = (List.range 3).map fun h => textOf (linesH h ls) := by
  unfold sentT
  refine List.map_congr_left fun i m => ?_
  rw [hands_lines ls i (List.mem_range.mp m)]
theorem linesH_of {h : Nat} {ls : List Line} {Q : Nat × Str → Prop} (hl : ∀ l ∈ ls, Q l.2) : ∀ x ∈ linesH h ls, Q x.2 := by
  suffices ∀ st : List Line × List (Nat × Nat), (∀ x ∈ st.1, Q x.2) → ∀ x ∈ (ls.foldl (addL h) st).1, Q x.2 from this ([], []) (fun x m => by cases m)
  induction ls with
  | nil => intro st hs; exact hs
  | cons l ls ih =>
    intro st hs
    refine ih (fun x m => hl x (.tail _ m)) (addL h st l) fun x m => ?_
    rcases addL_mem m with m | rfl
    · exact hs x m
    · exact hl l (.head _)
theorem pure2 (l : List Int) : Law2 l where
  w1 := sent_lines _
  g1 := sent_lines _
  m := fun s hs t ht => by
    refine ell_takes (fun a m => ?_) (fun b m => ?_)
    · exact linesH_of (Q := fun p => LetOK p.1 ∧ (p.2 = "x" ∨ p.2 = "y" ∨ p.2 = "...")) (fun x mx => ((wantL_ok l).2 x mx).2) a m
    · refine linesH_of (Q := fun p => LetOK p.1 ∧ (p.2 = "x" ∨ p.2 = "y")) (fun x mx => ?_) b m
      obtain ⟨n, _, hn⟩ := List.mem_flatMap.mp mx
      exact ((lnG_ok n).2 x hn).2
theorem cw_two : PySem.Challenge.rw_pu0051_02.Holds := holds2 pure2
end Mine
end
theorem PySem.Challenge.cw_pu0051_02_holds : PySem.Challenge.rw_pu0051_02.Holds :=
  Mine.cw_two
