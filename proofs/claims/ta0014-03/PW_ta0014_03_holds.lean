import PyProof.Rows.All
import Wide.All
import OpenK.AllK
import Wide.FinOn
import KE.KxBytes
import KE.KBytesCut
import KE.KSortKey
import KE.KRevSl
import KE.KTabLook
import KE.KTops
import KE.KxDecode
import Lean
import PySem.Challenge.RW_ta0014_03
section
open PySem PySem.W PyProof.Rows
set_option Elab.async false
namespace Mine
set_option maxRecDepth 100000
set_option maxHeartbeats 8000000
theorem left_split {p q : Program} {loose : List Str} {Xt : Shared → Bool} {α : Type} {Yf : Shared → α} {Ya : World → α} {N : Nat} {g0 : Bool} (row : String)
    (hf : ∀ w : World, (openEnds treeTable p (w.withFollow row false) N).map (fun s => (openSeen q loose (importedModules p.main.body) Xt g0 s, Yf s)) = some (openGood q loose, Ya (w.withFollow row false)))
    (ht : ∀ w : World, (openEnds treeTable p (w.withFollow row true) N).map (fun s => (openSeen q loose (importedModules p.main.body) Xt g0 s, Yf s)) = some (openGood q loose, Ya (w.withFollow row true))) : LeftO p q loose Xt Yf Ya N g0 := fun w => by
  have e := World.withFollow_self w row
  cases hb : w.params.followText row <;> rw [hb] at e
  · have := hf w; rw [e] at this; exact this
  · have := ht w; rw [e] at this; exact this
theorem head {r : OpenRow} {q : Program} {loose : List Str} {Xt : Shared → Bool} {XP : (Str → Option Value) → Heap → Prop} {H : Hook} {d : DefRec} {kwd : List (Str × Expr)} {N : Nat}
    (hX : ∀ s, Xt s = true → XP (s.heap.nsMap mainGlobals) s.heap) (hXk : ∀ mg h h', XP mg h → (∀ b o, h.get? b = some o → h'.get? b = some o) → XP mg h')
    (hdef : defOf q r.name = some (d, kwd)) (hp : r.prog.theDef r.name = some (d.params, d.body, d.scope)) (hk : kwWritten? d.params.kwonlyargs d.params.kw_defaults = some kwd) (hRf : ∀ s, Xt s = true → RecFacts r.records s.heap) (hwr : (!r.writes || r.records.isEmpty) = true)
    (k1 : r.wellSaid = true) (ok : (chainsOk q && opensWell r.prog && (frees r.toRowW && r.within.isEmpty)) = true) (hb : r.prog.bare) (hw : r.toRowW.promised)
    (hc : LeftO r.prog q loose Xt (Hook.obs H) (Hook.val H) N ∧ WalkO q loose XP (Hook.says H) r.toRowW d kwd fun f vs => PySem.call f vs) : r.Holds :=
  holds_open (Yf := Hook.obs H) (Ya := Hook.val H) (YP := Hook.says H) (N := N) hc.1 (Hook.of H) (Hook.keeps H) hX hXk hdef hp hk hRf hwr k1 ok hb hw hc.2
noncomputable def Q : Program := view PySem.Challenge.pw_ta0014_03 [0, 77]
noncomputable def Lo : List Str := ((PySem.Challenge.pw_ta0014_03.main.body.drop 1).take 76).flatMap fun s => match s with
  | .FunctionDef n .. => [n]
  | .Assign [.Name n _] _ _ => [n]
  | _ => []
local macro_rules
  | `(tactic| o_head $H) => `(tactic| (
      refine head (H := $H) (q := Q) (loose := Lo) (Xt := fun s => xlAt Q [] s && recOk (RowW.records (OpenRow.toRowW (OpenLaw.row PySem.Challenge.rw_ta0014_03))) s) (XP := XL Q []) (N := 4478) (fun s e => xl_of s (Bool.and_eq_true_iff.mp e).1) XL.keeps (by rfl) (by rfl) (by rfl) (fun s e => recFacts_of (Bool.and_eq_true_iff.mp e).2) (by rfl) (by first | assumption | decide +kernel) (by decide +kernel) ⟨rfl, rfl, rfl, rfl, rfl, by decide +kernel⟩ ?hw ?hc))
open_top hd for PySem.Challenge.rw_ta0014_03
end Mine
end
section
open PySem PySem.W PyProof.Rows PySem.Spec
set_option Elab.async false
set_option linter.all false
set_option maxRecDepth 100000
namespace Mine

noncomputable def Ext (h h' : Heap) : Prop := ∀ b o, h.get? b = some o → h'.get? b = some o
theorem Ext.rfl' {h : Heap} : Ext h h := fun _ _ e => e
theorem Ext.trans {a b c : Heap} (h : Ext a b) (k : Ext b c) : Ext a c := fun x o e => k x o (h x o e)

theorem hid_iff {h : Heap} {l : List Addr} {b : Addr} {o : Obj} : (hideAll h l).get? b = some o ↔ h.get? b = some o ∧ b ∉ l := by
  constructor
  · intro e
    refine ⟨of_hideAll l e, fun m => ?_⟩
    rw [hideAll_none l m] at e; cases e
  · rintro ⟨e, m⟩; exact hideAll_get l e m
theorem hid_ext {h h' : Heap} {l : List Addr} (k : Ext h h') : Ext (hideAll h l) (hideAll h' l) := fun b o e =>
  hid_iff.mpr ⟨k b o (hid_iff.mp e).1, (hid_iff.mp e).2⟩
theorem hid_sub {h : Heap} {l : List Addr} : Ext (hideAll h l) h := fun _ _ e => (hid_iff.mp e).1
theorem hid_anti {h : Heap} {l l' : List Addr} (k : ∀ b ∈ l', b ∈ l) : Ext (hideAll h l) (hideAll h l') := fun b o e =>
  hid_iff.mpr ⟨(hid_iff.mp e).1, fun m => (hid_iff.mp e).2 (k b m)⟩
theorem hid_but {h h' : Heap} {l : List Addr} (k : ∀ b o, b ∉ l → h.get? b = some o → h'.get? b = some o) : Ext (hideAll h l) (hideAll h' l) := fun b o e =>
  hid_iff.mpr ⟨k b o (hid_iff.mp e).2 (hid_iff.mp e).1, (hid_iff.mp e).2⟩

noncomputable abbrev PL (h : Heap) (a : Addr) (vs : List Value) (n : Nat) : Prop := h.get? a = some { cls := .type "list", data := .seq vs.toArray n }
noncomputable abbrev PT (h : Heap) (a : Addr) (vs : List Value) (n : Nat) : Prop := h.get? a = some { cls := .type "tuple", data := .seq vs.toArray n }
theorem PL.isList {h : Heap} {a : Addr} {vs : List Value} {n : Nat} (x : PL h a vs n) : h.IsList a vs.toArray := ⟨_, x, rfl, n, rfl⟩
theorem PT.isTup {h : Heap} {a : Addr} {vs : List Value} {n : Nat} (x : PT h a vs n) : IsTup h a vs.toArray := ⟨_, x, rfl, n, rfl⟩
mutual
inductive Rd (h : Heap) : Value → PyData → Prop
  | none : Rd h .none .none
  | bool (b : Bool) : Rd h (.bool b) (.bool b)
  | int (i : Int) (t : Tok) : Rd h (.int i t) (.int i)
  | str (x : Str) (t : Tok) : Rd h (.str x t) (.str x)
  | list {a : Addr} {vs : List Value} {n : Nat} {ds : List PyData} : PL h a vs n → RdAll h vs ds → Rd h (.ref a) (.list ds)
  | tuple {a : Addr} {vs : List Value} {n : Nat} {ds : List PyData} : PT h a vs n → RdAll h vs ds → Rd h (.ref a) (.tuple ds)
inductive RdAll (h : Heap) : List Value → List PyData → Prop
  | nil : RdAll h [] []
  | cons {v : Value} {d : PyData} {vs : List Value} {ds : List PyData} : Rd h v d → RdAll h vs ds → RdAll h (v :: vs) (d :: ds)
end
mutual
theorem Rd.ext {h h' : Heap} : ∀ {v : Value} {d : PyData}, Rd h v d → Ext h h' → Rd h' v d
  | _, _, .none, _ => .none
  | _, _, .bool b, _ => .bool b
  | _, _, .int i t, _ => .int i t
  | _, _, .str x t, _ => .str x t
  | _, _, .list e r, k => .list (k _ _ e) (RdAll.ext r k)
  | _, _, .tuple e r, k => .tuple (k _ _ e) (RdAll.ext r k)
theorem RdAll.ext {h h' : Heap} : ∀ {vs : List Value} {ds : List PyData}, RdAll h vs ds → Ext h h' → RdAll h' vs ds
  | _, _, .nil, _ => .nil
  | _, _, .cons a b, k => .cons (Rd.ext a k) (RdAll.ext b k)
end
mutual
theorem Rd.reads {h : Heap} : ∀ {v : Value} {d : PyData}, Rd h v d → ∃ as, Reads h v d as
  | _, _, .none => ⟨_, .none⟩
  | _, _, .bool b => ⟨_, .bool b⟩
  | _, _, .int i t => ⟨_, .int i t⟩
  | _, _, .str x t => ⟨_, .str x t⟩
  | _, _, .list e r => let ⟨_, y⟩ := RdAll.reads r; ⟨_, .list e rfl rfl (by simpa using y)⟩
  | _, _, .tuple e r => let ⟨_, y⟩ := RdAll.reads r; ⟨_, .tuple e rfl rfl (by simpa using y)⟩
theorem RdAll.reads {h : Heap} : ∀ {vs : List Value} {ds : List PyData}, RdAll h vs ds → ∃ as, ReadsAll h vs ds as
  | _, _, .nil => ⟨_, .nil⟩
  | _, _, .cons a b => let ⟨_, x⟩ := Rd.reads a; let ⟨_, y⟩ := RdAll.reads b; ⟨_, .cons x y⟩
end
theorem RdAll.one {h : Heap} {v : Value} {d : PyData} (a : Rd h v d) : RdAll h [v] [d] := .cons a .nil
theorem RdAll.nil_inv {h : Heap} {vs : List Value} (a : RdAll h vs []) : vs = [] := by cases a; rfl
theorem RdAll.cons_inv {h : Heap} {d : PyData} {vs : List Value} {ds : List PyData} (a : RdAll h vs (d :: ds)) : ∃ v r, vs = v :: r ∧ Rd h v d ∧ RdAll h r ds := by
  cases a with | cons x y => exact ⟨_, _, rfl, x, y⟩
theorem RdAll.length {h : Heap} : ∀ {vs : List Value} {ds : List PyData}, RdAll h vs ds → vs.length = ds.length
  | vs, [], a => by rw [a.nil_inv]; rfl
  | vs, d :: ds, a => by obtain ⟨v, r, rfl, _, b⟩ := a.cons_inv; rw [List.length_cons, List.length_cons, RdAll.length b]
theorem RdAll.append {h : Heap} : ∀ {vs : List Value} {ds : List PyData} {ws : List Value} {es : List PyData}, RdAll h vs ds → RdAll h ws es → RdAll h (vs ++ ws) (ds ++ es)
  | vs, [], ws, es, a, b => by rw [a.nil_inv]; exact b
  | vs, d :: ds, ws, es, a, b => by obtain ⟨v, r, rfl, x, y⟩ := a.cons_inv; exact .cons x (RdAll.append y b)
theorem RdAll.get {h : Heap} : ∀ {vs : List Value} {ds : List PyData} {i : Nat} {d : PyData}, RdAll h vs ds → ds[i]? = some d → ∃ v, vs[i]? = some v ∧ Rd h v d
  | vs, [], i, d, _, e => by simp at e
  | vs, d' :: ds, 0, d, a, e => by obtain ⟨v, r, rfl, x, y⟩ := a.cons_inv; simp at e; subst e; exact ⟨v, rfl, x⟩
  | vs, d' :: ds, i + 1, d, a, e => by obtain ⟨v, r, rfl, x, y⟩ := a.cons_inv; simp at e; simpa using y.get e
theorem RdAll.get' {h : Heap} : ∀ {vs : List Value} {ds : List PyData} {i : Nat} {v : Value}, RdAll h vs ds → vs[i]? = some v → ∃ d, ds[i]? = some d ∧ Rd h v d
  | vs, [], i, v, a, e => by rw [a.nil_inv] at e; simp at e
  | vs, d' :: ds, 0, v, a, e => by obtain ⟨v, r, rfl, x, y⟩ := a.cons_inv; simp at e; subst e; exact ⟨d', rfl, x⟩
  | vs, d' :: ds, i + 1, v, a, e => by obtain ⟨v, r, rfl, x, y⟩ := a.cons_inv; simp at e; simpa using y.get' e
theorem RdAll.take {h : Heap} : ∀ {vs : List Value} {ds : List PyData} (n : Nat), RdAll h vs ds → RdAll h (vs.take n) (ds.take n)
  | vs, ds, 0, _ => by simpa using RdAll.nil
  | vs, [], n + 1, a => by rw [a.nil_inv]; simpa using RdAll.nil
  | vs, d :: ds, n + 1, a => by obtain ⟨v, r, rfl, x, y⟩ := a.cons_inv; simpa using RdAll.cons x (y.take n)
theorem RdAll.drop {h : Heap} : ∀ {vs : List Value} {ds : List PyData} (n : Nat), RdAll h vs ds → RdAll h (vs.drop n) (ds.drop n)
  | vs, ds, 0, a => by simpa using a
  | vs, [], n + 1, a => by rw [a.nil_inv]; simpa using RdAll.nil
  | vs, d :: ds, n + 1, a => by obtain ⟨v, r, rfl, x, y⟩ := a.cons_inv; simpa using y.drop n

theorem Rd.bool_inv {h : Heap} {v : Value} {b : Bool} (r : Rd h v (.bool b)) : v = .bool b := by cases r; rfl
theorem Rd.none_inv {h : Heap} {v : Value} (r : Rd h v .none) : v = .none := by cases r; rfl
theorem Rd.int_inv {h : Heap} {v : Value} {i : Int} (r : Rd h v (.int i)) : ∃ t, v = .int i t := by cases r; exact ⟨_, rfl⟩
theorem Rd.str_inv {h : Heap} {v : Value} {x : Str} (r : Rd h v (.str x)) : ∃ t, v = .str x t := by cases r; exact ⟨_, rfl⟩
theorem Rd.list_inv {h : Heap} {v : Value} {ds : List PyData} (r : Rd h v (.list ds)) : ∃ a vs n, v = .ref a ∧ PL h a vs n ∧ RdAll h vs ds := by
  cases r with | list e r => exact ⟨_, _, _, rfl, e, r⟩
theorem Rd.tuple_inv {h : Heap} {v : Value} {ds : List PyData} (r : Rd h v (.tuple ds)) : ∃ a vs n, v = .ref a ∧ PT h a vs n ∧ RdAll h vs ds := by
  cases r with | tuple e r => exact ⟨_, _, _, rfl, e, r⟩
theorem Rd.no_dict {h : Heap} {v : Value} {l : List (PyData × PyData)} (r : Rd h v (.dict l)) : False := by cases r

noncomputable def atom : PyData → Prop
  | .none | .bool _ | .int _ | .str _ => True
  | _ => False
theorem Rd.atom {h h' : Heap} {v : Value} {d : PyData} (r : Rd h v d) (k : atom d) : Rd h' v d := by
  cases r with
  | none => exact .none
  | bool b => exact .bool b
  | int i t => exact .int i t
  | str x t => exact .str x t
  | list => exact k.elim
  | tuple => exact k.elim

structure Wd where
  prog : Program
  w : World
  K : Frag
  mg : Str → Option Value
  mb : Str → Option Value
structure Wd.Ok (W : Wd) (h : Heap) : Prop where
  k : W.K.In h
  g : h.Ns mainGlobals W.mg
  b : h.Ns builtinsNs W.mb
  lim : h.NoLimit
theorem Wd.Ok.ext {W : Wd} {h h' : Heap} (x : W.Ok h) (k : Ext h h') : W.Ok h' := ⟨x.k.keeps k, x.g.keeps k, x.b.keeps k, x.lim.keeps k⟩

noncomputable abbrev Wd.M (W : Wd) : Model := model W.prog W.w
noncomputable abbrev No : Value → Shared → Prop := fun _ _ => False

structure Room (A : Around) (n : Nat) : Prop where
  hd : A.handled = none
  dep : A.depth + n < 900
  uni : A.units + 10 * n < 9000
theorem Room.le {A : Around} {n m : Nat} (r : Room A n) (h : m ≤ n) : Room A m := ⟨r.hd, by have := r.dep; omega, by have := r.uni; omega⟩
theorem Room.deeper {A : Around} {n : Nat} {env : Env} (r : Room A (n + 1)) : Room (A.deeper env) n := ⟨r.hd, by have := r.dep; show A.depth + 1 + n < _; omega, by have := r.uni; show A.units + 3 + _ < _; omega⟩
theorem Room.in1 {A : Around} {n : Nat} (r : Room A (n + 1)) : Room A.in1 n := ⟨r.hd, by have := r.dep; show A.depth + n < _; omega, by have := r.uni; show A.units + 1 + _ < _; omega⟩

noncomputable def Step (s s' : Shared) : Prop := ∃ h t, s' = { s with heap := h, toks := t } ∧ Ext s.heap h
theorem Step.rfl' {s : Shared} : Step s s := ⟨s.heap, s.toks, rfl, .rfl'⟩
theorem Step.tok {s : Shared} {t : Tok} : Step s { s with toks := t } := ⟨s.heap, t, rfl, .rfl'⟩
theorem Step.trans {a b c : Shared} (x : Step a b) (y : Step b c) : Step a c := by
  obtain ⟨h, t, rfl, e⟩ := x; obtain ⟨h', t', rfl, e'⟩ := y
  exact ⟨h', t', rfl, e.trans e'⟩
theorem Step.ext {s s' : Shared} (x : Step s s') : Ext s.heap s'.heap := by obtain ⟨h, t, rfl, e⟩ := x; exact e
theorem Step.mk' {s : Shared} {h : Heap} {t : Tok} (e : Ext s.heap h) : Step s { s with heap := h, toks := t } := ⟨h, t, rfl, e⟩
theorem Step.mkh {s : Shared} {h : Heap} (e : Ext s.heap h) : Step s { s with heap := h } := ⟨h, s.toks, rfl, e⟩

theorem ext_push {h : Heap} (o : Obj) : Ext h (h.push o) := fun _ _ e => Heap.get?_push_of_some _ e

inductive Slot where
  | no
  | val (d : PyData)
  | ptr (a : Addr)
  | is (P : Value → Prop)

inductive Res where
  | lst (a : Addr) (ds : List PyData)
  | prd (fp : List Addr) (P : Heap → Prop)
noncomputable def Res.fp : Res → List Addr
  | .lst a _ => [a]
  | .prd l _ => l
noncomputable def Res.Ok (bad : List Addr) (h : Heap) : Res → Prop
  | .lst a ds => ∃ (vs : List Value) (n : Nat), PL h a vs n ∧ RdAll (hideAll h bad) vs ds
  | .prd fp P => P h ∧ ∀ h h', P h → (∀ b ∈ fp, ∀ o, h.get? b = some o → h'.get? b = some o) → P h'

structure Fx where
  W : Wd
  A : Around
  rm : Nat
  env : Env
  base : Shared
  nm : List Str
  gl : List Str
  sto : List Str
  cb : List Addr

structure Sx where
  hz : Heap
  bad : List Addr
  led : List Res
  vs : List Slot

noncomputable def look (env : Env) (h : Heap) (m : Str → Option Value) (n : Str) (v : Value) : Prop :=
  (env.kindOf n = some .local ∧ m n = some v) ∨ (env.kindOf n = some .cell ∧ ∃ c, env.cells.lookup n = some c ∧ h.IsCell c (some v))

noncomputable def SlotOk (env : Env) (h : Heap) (bad : List Addr) (m : Str → Option Value) (n : Str) : Slot → Prop
  | .no => True
  | .val d => ∃ v, look env h m n v ∧ Rd (hideAll h bad) v d
  | .ptr a => look env h m n (.ref a)
  | .is P => ∃ v, look env h m n v ∧ P v

structure Ok (f : Fx) (x : Sx) (s : Shared) : Prop where
  kind : f.env.scope.kind = .function
  glo : f.env.globals = mainGlobals
  bui : f.env.builtins = builtinsNs
  room : Room f.A f.rm
  wok : f.W.Ok f.base.heap
  nd : f.nm.Nodup
  knd : ∀ n ∈ f.nm, (n == ("__debug__" : Str)) = false ∧ (f.env.kindOf n = some .local ∨ (f.env.kindOf n = some .cell ∧ (f.env.cells.lookup n).isSome))
  gk : ∀ n ∈ f.gl, (n == ("__debug__" : Str)) = false ∧ f.env.kindOf n = some .globalImplicit
  cellF : ∀ n ∈ f.sto, ∀ c, f.env.cells.lookup n = some c → f.base.heap.get? c = none
  cbB : ∀ b ∈ f.cb, b ∈ x.bad ∧ ∃ o, f.base.heap.get? b = some o
  same : Step f.base s
  hz : ∀ b o, x.hz.get? b = some o → s.heap.get? b = some o ∧ b ∉ x.bad
  live : ∀ b ∈ x.bad, ∃ o, s.heap.get? b = some o
  locF : f.base.heap.get? f.env.locals = none
  locB : f.env.locals ∈ x.bad
  cell : ∀ n c, f.env.cells.lookup n = some c → c ∈ x.bad ∧ c ≠ f.env.locals ∧ ∃ ov, s.heap.IsCell c ov
  inj : ∀ n n' c, f.env.cells.lookup n = some c → f.env.cells.lookup n' = some c → n = n'
  led : ∀ r ∈ x.led, Res.Ok x.bad s.heap r ∧ ∀ a ∈ r.fp, a ∈ x.bad ∧ f.base.heap.get? a = none ∧ a ≠ f.env.locals ∧ ∀ n, f.env.cells.lookup n ≠ some a
  ledNd : (x.led.flatMap Res.fp).Nodup
  vars : ∃ m, s.heap.Ns f.env.locals m ∧ ∀ (i : Nat) n sl, f.nm[i]? = some n → x.vs[i]? = some sl → SlotOk f.env s.heap x.bad m n sl

theorem look.ext {env : Env} {h h' : Heap} {m : Str → Option Value} {n : Str} {v : Value} (k : Ext h h') : look env h m n v → look env h' m n v
  | .inl e => .inl e
  | .inr ⟨e, c, hc, i⟩ => .inr ⟨e, c, hc, i.keeps k⟩
theorem SlotOk.ext {env : Env} {h h' : Heap} {bad : List Addr} {m : Str → Option Value} {n : Str} {sl : Slot} (k : Ext h h') (x : SlotOk env h bad m n sl) : SlotOk env h' bad m n sl := by
  cases sl with
  | no => trivial
  | val d => obtain ⟨v, a, b⟩ := x; exact ⟨v, a.ext k, b.ext (hid_ext k)⟩
  | is P => obtain ⟨v, a, b⟩ := x; exact ⟨v, a.ext k, b⟩
  | ptr a => exact look.ext k x
theorem Res.Ok.ext {bad : List Addr} {h h' : Heap} {r : Res} (k : Ext h h') (x : r.Ok bad h) : r.Ok bad h' := by
  cases r with
  | lst a ds => obtain ⟨vs, n, l, r⟩ := x; exact ⟨vs, n, k _ _ l, r.ext (hid_ext k)⟩
  | prd fp P => exact ⟨x.2 _ _ x.1 fun b _ o e => k b o e, x.2⟩
theorem Ok.step {f : Fx} {x : Sx} {s s' : Shared} (O : Ok f x s) (k : Step s s') : Ok f x s' where
  kind := O.kind
  glo := O.glo
  bui := O.bui
  room := O.room
  wok := O.wok
  nd := O.nd
  knd := O.knd
  gk := O.gk
  cellF := O.cellF
  cbB := O.cbB
  same := O.same.trans k
  hz := fun b o e => ⟨k.ext b o (O.hz b o e).1, (O.hz b o e).2⟩
  live := fun b hb => let ⟨o, e⟩ := O.live b hb; ⟨o, k.ext b o e⟩
  locF := O.locF
  locB := O.locB
  cell := fun n c e => let ⟨a, b, ov, i⟩ := O.cell n c e; ⟨a, b, ov, i.keeps k.ext⟩
  inj := O.inj
  led := fun r hr => ⟨(O.led r hr).1.ext k.ext, (O.led r hr).2⟩
  ledNd := O.ledNd
  vars := let ⟨m, a, b⟩ := O.vars; ⟨m, a.keeps k.ext, fun i n sl e1 e2 => (b i n sl e1 e2).ext k.ext⟩

end Mine
end
section
open PySem PySem.W PyProof.Rows PySem.Spec
set_option Elab.async false
set_option linter.all false
set_option maxRecDepth 100000
namespace Mine

inductive At : List Str → List Slot → Str → Slot → Prop
  | here {n nm sl vs} : At (n :: nm) (sl :: vs) n sl
  | there {m nm n o vs sl} : At nm vs n sl → At (m :: nm) (o :: vs) n sl
inductive Put : List Str → List Slot → Str → Slot → List Slot → Prop
  | here {n nm o sl vs} : Put (n :: nm) (o :: vs) n sl (sl :: vs)
  | there {m nm n o vs sl vs'} : Put nm vs n sl vs' → Put (m :: nm) (o :: vs) n sl (o :: vs')
theorem At.get {nm vs n sl} (a : At nm vs n sl) : ∃ i : Nat, nm[i]? = some n ∧ vs[i]? = some sl := by
  induction a with
  | here => exact ⟨0, rfl, rfl⟩
  | there _ ih => obtain ⟨i, a, b⟩ := ih; exact ⟨i + 1, by simpa using a, by simpa using b⟩
theorem Put.mem {nm vs n sl vs'} (a : Put nm vs n sl vs') : n ∈ nm := by
  induction a with
  | here => exact .head _
  | there _ ih => exact .tail _ ih
theorem Put.get {nm vs n sl vs'} (a : Put nm vs n sl vs') (nd : nm.Nodup) : ∀ (i : Nat) m sl', nm[i]? = some m → vs'[i]? = some sl' → (m = n ∧ sl' = sl) ∨ (m ≠ n ∧ vs[i]? = some sl') := by
  induction a with
  | here =>
    intro i m sl' e1 e2
    rename_i n nm o sl vs
    cases i with
    | zero => simp at e1 e2; exact .inl ⟨e1.symm, e2.symm⟩
    | succ i =>
      simp at e1 e2
      refine .inr ⟨fun q => ?_, by simpa using e2⟩
      subst q
      exact (List.nodup_cons.mp nd).1 (List.mem_of_getElem? e1)
  | there h ih =>
    intro i m sl' e1 e2
    rename_i k nm n o vs sl vs'
    cases i with
    | zero =>
      simp at e1 e2
      refine .inr ⟨fun q => ?_, by simpa using e2⟩
      subst e1; subst q
      exact (List.nodup_cons.mp nd).1 h.mem
    | succ i =>
      simp at e1 e2
      rcases ih (List.nodup_cons.mp nd).2 i m sl' e1 e2 with h | ⟨h1, h2⟩
      · exact .inl h
      · exact .inr ⟨h1, by simpa using h2⟩

theorem isCell_but {h h' : Heap} {a c : Addr} {ov : Option Value} (x : h.IsCell c ov) (hs : Heap.SameBut a h h') (n : c ≠ a) : h'.IsCell c ov := x.sameBut hs n
theorem hidBut {h h' : Heap} {a : Addr} {l : List Addr} (hs : Heap.SameBut a h h') (m : a ∈ l) : Ext (hideAll h l) (hideAll h' l) :=
  hid_but fun b o nb e => (hs.2 b fun q => nb (q ▸ m)).trans e
theorem res_but {h h' : Heap} {a : Addr} {l : List Addr} {r : Res} (hs : Heap.SameBut a h h') (m : a ∈ l) (x : r.Ok l h) (n : a ∉ r.fp) : r.Ok l h' := by
  cases r with
  | lst c ds =>
    obtain ⟨vs, k, x1, x2⟩ := x
    exact ⟨vs, k, (hs.2 c fun q => n (by rw [q]; exact .head _)).trans x1, x2.ext (hidBut hs m)⟩
  | prd fp P => exact ⟨x.2 _ _ x.1 fun b hb o e => (hs.2 b fun q => n (q ▸ hb)).trans e, x.2⟩

section
variable {f : Fx} {x : Sx} {s : Shared}

theorem Ok.turn (O : Ok f x s) {a : Addr} {h' : Heap} {t : Nat} (ha : a ∈ x.bad) (hb : f.base.heap.get? a = none) (hs : Heap.SameBut a s.heap h') :
    Step f.base { s with heap := h', toks := t } ∧ (∀ b o, x.hz.get? b = some o → h'.get? b = some o ∧ b ∉ x.bad) := by
  refine ⟨?_, fun b o e => ?_⟩
  · obtain ⟨h, t', e, k⟩ := O.same
    subst e
    exact ⟨h', t, rfl, fun b o e => (hs.2 b fun q => by rw [q, hb] at e; cases e).trans (k b o e)⟩
  · have := O.hz b o e
    exact ⟨(hs.2 b fun q => this.2 (q ▸ ha)).trans this.1, this.2⟩

theorem Ok.store (O : Ok f x s) {n : Str} {v : Value} {sl : Slot} {vs' : List Slot} (put : Put f.nm x.vs n sl vs')
    (hv : match sl with | .no => True | .val d => Rd (hideAll s.heap x.bad) v d | .ptr a => v = .ref a | .is P => P v) (hc : n ∈ f.sto) :
    wpAny f.W.M f.A (storeName f.env n v) (fun _ s' => Ok f { x with vs := vs' } s' ∧ Ext (hideAll s.heap x.bad) (hideAll s'.heap x.bad)) No s := by
  have hn := O.knd n put.mem
  obtain ⟨m, hns, hvars⟩ := O.vars
  rcases hn.2 with hl | ⟨hl, hcs⟩
  · refine wpAny_storeName_local hl hns (fun h' hn' hs' => ?_) (by rw [O.kind]; rfl)
    obtain ⟨t1, t2⟩ := O.turn (t := s.toks + 1) O.locB O.locF hs'
    have hx := hidBut hs' O.locB
    refine ⟨⟨O.kind, O.glo, O.bui, O.room, O.wok, O.nd, O.knd, O.gk, O.cellF, O.cbB, t1, t2, fun b hb => ?_, O.locF, O.locB, fun k c e => ?_, O.inj, fun r hr => ?_, O.ledNd, ⟨_, hn', fun i k sl' e1 e2 => ?_⟩⟩, hx⟩
    · obtain ⟨o, e⟩ := O.live b hb
      by_cases q : b = f.env.locals
      · obtain ⟨o', _, _, e', _⟩ := hn'; exact ⟨o', q ▸ e'⟩
      · exact ⟨o, (hs'.2 b q).trans e⟩
    · obtain ⟨a1, a2, ov, a3⟩ := O.cell k c e
      exact ⟨a1, a2, ov, isCell_but a3 hs' a2⟩
    · obtain ⟨r1, r2⟩ := O.led r hr
      exact ⟨res_but hs' O.locB r1 fun q => (r2 _ q).2.2.1 rfl, r2⟩
    · have lk : ∀ {u : Value}, k ≠ n → look f.env s.heap m k u → look f.env h' (fun y => if y = n then some v else m y) k u := by
        intro u hk e
        rcases e with ⟨e1, e2⟩ | ⟨e1, c, e2, e3⟩
        · exact .inl ⟨e1, by simp only [if_neg hk]; exact e2⟩
        · exact .inr ⟨e1, c, e2, isCell_but e3 hs' (O.cell k c e2).2.1⟩
      rcases put.get O.nd i k sl' e1 e2 with ⟨rfl, rfl⟩ | ⟨hk, e3⟩
      · cases sl' with
        | no => trivial
        | val d => exact ⟨v, .inl ⟨hl, by simp⟩, Rd.ext hv hx⟩
        | is P => exact ⟨v, .inl ⟨hl, by simp⟩, hv⟩
        | ptr a => subst hv; exact .inl ⟨hl, by simp⟩
      · have := hvars i k sl' e1 e3
        cases sl' with
        | no => trivial
        | val d => obtain ⟨u, a, b⟩ := this; exact ⟨u, lk hk a, b.ext hx⟩
        | is P => obtain ⟨u, a, b⟩ := this; exact ⟨u, lk hk a, b⟩
        | ptr a => exact lk hk this
  · obtain ⟨c, hcc⟩ := Option.isSome_iff_exists.mp hcs
    obtain ⟨c1, c2, ov, c3⟩ := O.cell n c hcc
    have cF := O.cellF n hc c hcc
    refine wpAny_storeName_cell O.kind hl hcc c3 fun h' hv' hs' => ?_
    obtain ⟨t1, t2⟩ := O.turn (t := s.toks) c1 cF hs'
    have hx := hidBut hs' c1
    refine ⟨⟨O.kind, O.glo, O.bui, O.room, O.wok, O.nd, O.knd, O.gk, O.cellF, O.cbB, t1, t2, fun b hb => ?_, O.locF, O.locB, fun k c' e => ?_, O.inj, fun r hr => ?_, O.ledNd, ⟨m, hns.sameBut hs' (Ne.symm c2), fun i k sl' e1 e2 => ?_⟩⟩, hx⟩
    · obtain ⟨o, e⟩ := O.live b hb
      by_cases q : b = c
      · obtain ⟨o', e', _⟩ := hv'; exact ⟨o', q ▸ e'⟩
      · exact ⟨o, (hs'.2 b q).trans e⟩
    · obtain ⟨a1, a2, ov, a3⟩ := O.cell k c' e
      by_cases q : c' = c
      · subst q; exact ⟨a1, a2, _, hv'⟩
      · exact ⟨a1, a2, ov, isCell_but a3 hs' q⟩
    · obtain ⟨r1, r2⟩ := O.led r hr
      exact ⟨res_but hs' c1 r1 fun q => (r2 _ q).2.2.2 n hcc, r2⟩
    · have lk : ∀ {u : Value}, k ≠ n → look f.env s.heap m k u → look f.env h' m k u := by
        intro u hk e
        rcases e with ⟨e1, e2⟩ | ⟨e1, c', e2, e3⟩
        · exact .inl ⟨e1, e2⟩
        · exact .inr ⟨e1, c', e2, isCell_but e3 hs' fun q => hk (O.inj k n c (q ▸ e2) hcc)⟩
      rcases put.get O.nd i k sl' e1 e2 with ⟨rfl, rfl⟩ | ⟨hk, e3⟩
      · cases sl' with
        | no => trivial
        | val d => exact ⟨v, .inr ⟨hl, c, hcc, hv'⟩, Rd.ext hv hx⟩
        | is P => exact ⟨v, .inr ⟨hl, c, hcc, hv'⟩, hv⟩
        | ptr a => subst hv; exact .inr ⟨hl, c, hcc, hv'⟩
      · have := hvars i k sl' e1 e3
        cases sl' with
        | no => trivial
        | val d => obtain ⟨u, a, b⟩ := this; exact ⟨u, lk hk a, b.ext hx⟩
        | is P => obtain ⟨u, a, b⟩ := this; exact ⟨u, lk hk a, b⟩
        | ptr a => exact lk hk this
end

structure Bx (p : Prop) : Prop where
  bx ::
  run : p
noncomputable def EvP (f : Fx) (x : Sx) (e : Expr) (P : Heap → Value → Prop) : Prop :=
  Bx (∀ s, Ok f x s → wpAny f.W.M f.A (eval e f.env) (fun v s' => Step s s' ∧ P s'.heap v) No s)
noncomputable def Ev (f : Fx) (x : Sx) (e : Expr) (d : PyData) : Prop := EvP f x e fun h v => Rd (hideAll h x.bad) v d
noncomputable def EvL (f : Fx) (x : Sx) (es : List Expr) (ds : List PyData) : Prop :=
  Bx (∀ s pos, Ok f x s → wpAny f.W.M f.A (spliced (backTo pos (starEach es f.env))) (fun vs s' => Step s s' ∧ RdAll (hideAll s'.heap x.bad) vs ds) No s)
noncomputable def Tst (f : Fx) (x : Sx) (e : Expr) (b : Bool) : Prop :=
  Bx (∀ s, Ok f x s → wpAny f.W.M f.A (isTrue e f.env (eval e f.env)) (fun c s' => Step s s' ∧ c = b) No s)

theorem wpN {α : Type} {M : Model} {A : Around} {t : Sem α} {Q Q' : α → Shared → Prop} {s : Shared} (h : wpAny M A t Q No s) (k : ∀ a s, Q a s → Q' a s) : wpAny M A t Q' No s :=
  wpAny_mono h k fun _ _ e => e
theorem wpE {α : Type} {M : Model} {A : Around} {t : Sem α} {Q Q' : α → Shared → Prop} {E : Value → Shared → Prop} {s : Shared} (h : wpAny M A t Q No s) (k : ∀ a s, Q a s → Q' a s) : wpAny M A t Q' E s :=
  wpAny_mono h k fun _ _ e => e.elim

section
variable {f : Fx} {x : Sx}

theorem EvP.mono {e : Expr} {P P' : Heap → Value → Prop} (h : EvP f x e P) (k : ∀ h v, P h v → P' h v) : EvP f x e P' :=
  .bx fun s O => wpN (h.run s O) fun v s' ⟨a, b⟩ => ⟨a, k _ _ b⟩

theorem Ev.int {i : Int} {k pos} : Ev f x (.Constant (.int i) k pos) (.int i) := .bx fun s O => wpAny_Constant_int ⟨.tok, .int _ _⟩
theorem Ev.str {y : Str} {k pos} : Ev f x (.Constant (.str y) k pos) (.str y) := .bx fun s O => wpAny_Constant_str ⟨.tok, .str _ _⟩
theorem Ev.bool {b : Bool} {k pos} : Ev f x (.Constant (.bool b) k pos) (.bool b) := .bx fun s O => wpAny_Constant_bool ⟨.rfl', .bool _⟩

theorem Ok.load {s : Shared} (O : Ok f x s) {n : Str} {v : Value} {m : Str → Option Value} (hm : s.heap.Ns f.env.locals m) (l : look f.env s.heap m n v) {Q : Value → Shared → Prop} {E : Value → Shared → Prop} (h : Q v s) :
    wpAny f.W.M f.A (loadName f.env n) Q E s := by
  rcases l with ⟨e1, e2⟩ | ⟨e1, c, e2, e3⟩
  · exact wpAny_loadName_local O.kind e1 hm e2 h
  · exact wpAny_loadName_cell O.kind e1 e2 e3 h

theorem Ok.read {s : Shared} (O : Ok f x s) {n : Str} {d : PyData} (a : At f.nm x.vs n (.val d)) {E : Value → Shared → Prop} :
    wpAny f.W.M f.A (loadName f.env n) (fun v s' => s' = s ∧ Rd (hideAll s.heap x.bad) v d) E s := by
  obtain ⟨m, hns, hv⟩ := O.vars
  obtain ⟨i, e1, e2⟩ := a.get
  obtain ⟨v, l, r⟩ := hv i n _ e1 e2
  exact O.load hns l ⟨rfl, r⟩

theorem Ev.name {n : Str} {pos} {d : PyData} (a : At f.nm x.vs n (.val d)) : Ev f x (.Name n pos) d := .bx fun s O => by
  have hn : n ∈ f.nm := by obtain ⟨i, e, _⟩ := a.get; exact List.mem_of_getElem? e
  exact wpAny_Name (wpAny_mono (O.read a (E := No)) (fun v s' ⟨e, r⟩ => by subst e; exact ⟨.rfl', r⟩) fun _ _ e => e) (O.knd n hn).1

theorem Ev.glob {n : Str} {pos} {v : Value} (hn : n ∈ f.gl) (h : f.W.mg n = some v) : EvP f x (.Name n pos) fun _ u => u = v := .bx fun s O => by
  have hg := (O.wok.ext O.same.ext).g
  exact PySem.Calls.Name_function_global O.kind (O.gk n hn).2 (PySem.Calls.loadGlobal_global (by rw [O.glo]; exact hg) h ⟨.rfl', rfl⟩) (O.gk n hn).1
theorem Ev.blt {n : Str} {pos} {v : Value} (hn : n ∈ f.gl) (h : f.W.mg n = none ∧ f.W.mb n = some v) : EvP f x (.Name n pos) fun _ u => u = v := .bx fun s O => by
  have W := O.wok.ext O.same.ext
  exact PySem.Calls.Name_function_global O.kind (O.gk n hn).2 (PySem.Calls.loadGlobal_builtin (by rw [O.glo]; exact W.g) h.1 (by rw [O.bui]; exact W.b) h.2 ⟨.rfl', rfl⟩) (O.gk n hn).1
theorem Ev.globI {n : Str} {pos} {i : Int} {t : Tok} (hn : n ∈ f.gl) (h : f.W.mg n = some (.int i t)) : Ev f x (.Name n pos) (.int i) :=
  (Ev.glob hn h).mono fun _ _ e => by subst e; exact .int _ _
theorem Ev.globS {n : Str} {pos} {y : Str} {t : Tok} (hn : n ∈ f.gl) (h : f.W.mg n = some (.str y t)) : Ev f x (.Name n pos) (.str y) :=
  (Ev.glob hn h).mono fun _ _ e => by subst e; exact .str _ _

theorem EvL.nil : EvL f x [] [] := .bx fun s pos O => PySem.Calls.spliced_nil ⟨.rfl', .nil⟩
theorem EvL.cons {e : Expr} {es : List Expr} {d : PyData} {ds : List PyData} (h1 : Ev f x e d) (h2 : EvL f x es ds)
    (he : starEach (e :: es) f.env = (false, eval e f.env) :: starEach es f.env := by exact rfl) : EvL f x (e :: es) (d :: ds) := .bx fun s pos O => by
  rw [he]
  show wpAny _ _ (spliced ((false, eval e f.env) :: backTo pos (starEach es f.env))) _ _ s
  refine PySem.Calls.spliced_cons (wpAny_mono (Q := fun v s' => Step s s' ∧ Rd (hideAll s'.heap x.bad) v d) ?_ (fun v s₁ ⟨k1, r1⟩ => ?_) fun _ _ e => e)
  · exact h1.run s O
  · exact wpN (h2.run s₁ pos (O.step k1)) fun vs s₂ ⟨k2, r2⟩ => ⟨k1.trans k2, .cons (r1.ext (hid_ext k2.ext)) r2⟩
end
end Mine
end
section
open PySem PySem.W PyProof.Rows PySem.Spec
set_option Elab.async false
set_option linter.all false
set_option maxRecDepth 100000
namespace Mine

noncomputable def S (l : List Nat) : Str := ⟨l.toArray⟩
theorem S_len (l : List Nat) : (S l).length = l.length := by simp [S, Str.length]
theorem S_toList (l : List Nat) : (S l).cps.toList = l := by simp [S]
theorem S_app (a b : List Nat) : S a ++ S b = S (a ++ b) := by
  show Str.append (S a) (S b) = _
  simp [Str.append, S]
theorem S_inj {a b : List Nat} (h : S a = S b) : a = b := by have := congrArg (fun x => x.cps.toList) h; simpa [S] using this
theorem S_of (x : Str) : S x.cps.toList = x := by cases x; simp [S]
noncomputable abbrev st (l : List Nat) : PyData := .str (S l)
noncomputable abbrev it (i : Int) : PyData := .int i

noncomputable def tr : PyData → Bool
  | .none => false
  | .bool b => b
  | .int i => i != 0
  | .str x => x.length != 0
  | .list l => !l.isEmpty
  | .tuple l => !l.isEmpty
  | .dict l => !l.isEmpty

noncomputable def slc {α : Type} (l : List α) (lo hi : Option Int) : List α := (l.drop (lo.elim 0 (clipAt l.length))).take (hi.elim l.length (clipAt l.length) - lo.elim 0 (clipAt l.length))

theorem slc_arr (items : Array Value) (lo hi : Option Int) : slicePick items lo hi none = (slc items.toList lo hi).toArray := by
  rw [slicePick_plain]; simp only [slc, Array.length_toList]
theorem slcIdx (n : Nat) (lo hi : Option Int) : Builtin.Str.strSliceIndices lo hi 1 n = (List.range (hi.elim n (clipAt n) - lo.elim 0 (clipAt n))).map (lo.elim 0 (clipAt n) + ·) := by
  have e : Builtin.Str.strSliceIndices lo hi 1 n = sliceRange ((lo.elim 0 (clipAt n) : Nat) : Int) ((hi.elim n (clipAt n) : Nat) : Int) 1 := by
    unfold Builtin.Str.strSliceIndices
    cases lo <;> cases hi <;> simp [clipAt_cast]
  rw [e, sliceRange_one]

theorem clipAt_le (n : Nat) (i : Int) : clipAt n i ≤ n := by have := clipAt_cast n i; omega
theorem txtSlice (l : List Nat) (lo hi : Option Int) : Txt.slice (S l) lo hi = S (slc l lo hi) := by
  have key : (Builtin.Str.strSliceIndices lo hi 1 (S l).length).filterMap ((S l).cps[·]?) = slc l lo hi := by
    rw [slcIdx, S_len]
    exact pick_run l.toArray _ _
  unfold Txt.slice
  rw [key]
  split
  · rename_i h
    simp only [slcIdx, List.length_map, List.length_range, S_len, beq_self_eq_true, Bool.true_and, beq_iff_eq] at h
    have h1 : hi.elim l.length (clipAt l.length) ≤ l.length := by cases hi <;> simp [clipAt_le]
    unfold slc
    have h2 : lo.elim 0 (clipAt l.length) = 0 ∨ l.length = 0 := by omega
    rcases h2 with h2 | h2
    · rw [h2] at h ⊢
      have : hi.elim l.length (clipAt l.length) = l.length := by omega
      rw [this]; simp
    · have : l = [] := List.length_eq_zero_iff.mp h2
      subst this; simp
  · rfl
theorem slc_le {α : Type} (l : List α) (lo hi : Option Int) : (slc l lo hi).length ≤ l.length := by
  unfold slc; rw [List.length_take, List.length_drop]; omega

section
variable {f : Fx} {x : Sx}

theorem Ok.nb {s : Shared} (O : Ok f x s) : s.heap.objs.size ∉ x.bad := fun m => by
  obtain ⟨o, e⟩ := O.live _ m
  exact Nat.lt_irrefl _ (Heap.lt_size e)

theorem Ev.bin2 {l r : Expr} {op : Operator} {pos} {da db dc : PyData} (h1 : Ev f x l da) (h2 : Ev f x r db)
    (H : ∀ s v w, Ok f x s → Rd (hideAll s.heap x.bad) v da → Rd (hideAll s.heap x.bad) w db →
      wpAny f.W.M f.A (binaryOp op v w) (fun u s' => Step s s' ∧ Rd (hideAll s'.heap x.bad) u dc) No s) : Ev f x (.BinOp l op r pos) dc := .bx fun s O =>
  wpAny_BinOp (wpN (h1.run s O) fun v s₁ ⟨k1, r1⟩ => wpN (h2.run s₁ (O.step k1)) fun w s₂ ⟨k2, r2⟩ =>
    wpN (H s₂ v w ((O.step k1).step k2) (r1.ext (hid_ext k2.ext)) r2) fun u s₃ ⟨k3, r3⟩ => ⟨(k1.trans k2).trans k3, r3⟩)

theorem Ev.add {l r : Expr} {pos} {a b : Int} (h1 : Ev f x l (.int a)) (h2 : Ev f x r (.int b)) : Ev f x (.BinOp l .Add r pos) (.int (a + b)) :=
  .bin2 h1 h2 fun s v w O r1 r2 => by
    obtain ⟨t, rfl⟩ := r1.int_inv; obtain ⟨u, rfl⟩ := r2.int_inv
    exact P.add_int ⟨.tok, .int _ _⟩
theorem Ev.sub {l r : Expr} {pos} {a b : Int} (h1 : Ev f x l (.int a)) (h2 : Ev f x r (.int b)) : Ev f x (.BinOp l .Sub r pos) (.int (a - b)) :=
  .bin2 h1 h2 fun s v w O r1 r2 => by
    obtain ⟨t, rfl⟩ := r1.int_inv; obtain ⟨u, rfl⟩ := r2.int_inv
    exact P.sub_int ⟨.tok, .int _ _⟩
theorem Ev.mul {l r : Expr} {pos} {a b : Int} (h1 : Ev f x l (.int a)) (h2 : Ev f x r (.int b)) (hm : IntMulOk a b) : Ev f x (.BinOp l .Mult r pos) (.int (a * b)) :=
  .bin2 h1 h2 fun s v w O r1 r2 => by
    obtain ⟨t, rfl⟩ := r1.int_inv; obtain ⟨u, rfl⟩ := r2.int_inv
    exact P.mul_int ⟨.tok, .int _ _⟩ hm
theorem Ev.fdiv {l r : Expr} {pos} {a b : Int} (h1 : Ev f x l (.int a)) (h2 : Ev f x r (.int b)) (hb : b ≠ 0) (hp : b.natAbs.log2 < 9000) : Ev f x (.BinOp l .FloorDiv r pos) (.int (a.fdiv b)) :=
  .bin2 h1 h2 fun s v w O r1 r2 => by
    obtain ⟨t, rfl⟩ := r1.int_inv; obtain ⟨u, rfl⟩ := r2.int_inv
    exact PyProof.Rows.floordiv_int hb ⟨.tok, .int _ _⟩ (.inl (PyProof.noPylong_of_log2 hp))
theorem Ev.fmod {l r : Expr} {pos} {a b : Int} (h1 : Ev f x l (.int a)) (h2 : Ev f x r (.int b)) (hb : b ≠ 0) : Ev f x (.BinOp l .Mod r pos) (.int (a.fmod b)) :=
  .bin2 h1 h2 fun s v w O r1 r2 => by
    obtain ⟨t, rfl⟩ := r1.int_inv; obtain ⟨u, rfl⟩ := r2.int_inv
    exact PyProof.Rows.mod_int' hb ⟨.tok, .int _ _⟩
theorem Ev.pow {l r : Expr} {pos} {a b : Int} (h1 : Ev f x l (.int a)) (h2 : Ev f x r (.int b)) (hn : 0 ≤ b) (hs : (Builtin.Int.intBits a : Int) * b ≤ 2 ^ 27) : Ev f x (.BinOp l .Pow r pos) (.int (a ^ b.toNat)) :=
  .bin2 h1 h2 fun s v w O r1 r2 => by
    obtain ⟨t, rfl⟩ := r1.int_inv; obtain ⟨u, rfl⟩ := r2.int_inv
    exact PyProof.Rows.pow_int hn hs ⟨.tok, .int _ _⟩
theorem Ev.cat {l r : Expr} {pos} {a b : List Nat} (h1 : Ev f x l (st a)) (h2 : Ev f x r (st b)) (hs : a.length + b.length ≤ sizeLine) : Ev f x (.BinOp l .Add r pos) (st (a ++ b)) :=
  .bin2 h1 h2 fun s v w O r1 r2 => by
    obtain ⟨t, rfl⟩ := r1.str_inv; obtain ⟨u, rfl⟩ := r2.str_inv
    refine PyProof.Rows.add_str (fun t' tk => ⟨.tok, ?_⟩) (by rw [S_len, S_len]; exact hs)
    rw [S_app]; exact .str _ _
theorem Ev.catL {l r : Expr} {pos} {a b : List PyData} (h1 : Ev f x l (.list a)) (h2 : Ev f x r (.list b)) (hs : a.length + b.length ≤ sizeLine) : Ev f x (.BinOp l .Add r pos) (.list (a ++ b)) :=
  .bin2 h1 h2 fun s v w O r1 r2 => by
    obtain ⟨la, vs, n, rfl, ho, r1⟩ := r1.list_inv; obtain ⟨lb, ws, n2, rfl, ho2, r2⟩ := r2.list_inv
    have e1 := r1.length; have e2 := r2.length
    refine concat_meets ⟨_, (hid_iff.mp ho).1, rfl⟩ ⟨_, (hid_iff.mp ho2).1, rfl⟩ noFill_list_add seq_list_add PySem.F.slot_list_add PySem.F.entry_list_add (PySem.F.args_list_add_2 _ _)
      (list_addW la lb vs.toArray ws.toArray n n2 none none #[] #[] (by simp only [List.size_toArray]; omega)) ⟨(hid_iff.mp ho).1, (hid_iff.mp ho2).1, .mkh (ext_push _), ?_⟩
    have k := ext_push (h := s.heap) { cls := .type "list", data := .seq (vs.toArray ++ ws.toArray) }
    refine Rd.list (vs := vs ++ ws) (n := 0) (hid_iff.mpr ⟨?_, O.nb⟩) ((r1.ext (hid_ext k)).append (r2.ext (hid_ext k)))
    rw [show (vs ++ ws).toArray = vs.toArray ++ ws.toArray by simp]
    exact Heap.get?_push_size _ rfl

theorem Ev.un2 {r : Expr} {op : UnaryOp} {pos} {da dc : PyData} (h1 : Ev f x r da)
    (H : ∀ s v, Ok f x s → Rd (hideAll s.heap x.bad) v da → wpAny f.W.M f.A (unaryOp op v) (fun u s' => Step s s' ∧ Rd (hideAll s'.heap x.bad) u dc) No s) : Ev f x (.UnaryOp op r pos) dc := .bx fun s O =>
  wpAny_UnaryOp (wpN (h1.run s O) fun v s₁ ⟨k1, r1⟩ => wpN (H s₁ v (O.step k1) r1) fun u s₃ ⟨k3, r3⟩ => ⟨k1.trans k3, r3⟩)
theorem Ev.neg {r : Expr} {pos} {a : Int} (h1 : Ev f x r (.int a)) : Ev f x (.UnaryOp .USub r pos) (.int (-a)) :=
  .un2 h1 fun s v O r1 => by
    obtain ⟨t, rfl⟩ := r1.int_inv
    exact P.neg_int ⟨.tok, .int _ _⟩

noncomputable def EvC (f : Fx) (x : Sx) (l : Expr) (op : CmpOp) (r : Expr) (c : Bool) : Prop := Bx (∀ s, Ok f x s →
  wpAny f.W.M f.A (eval l f.env) (fun a s₁ => wpAny f.W.M f.A (eval r f.env) (fun b s₂ => wpAny f.W.M f.A (compareOp op a b) (fun u s' => Step s s' ∧ u = .bool c) No s₂) No s₁) No s)
theorem Ev.cmp {l r : Expr} {op : CmpOp} {pos} {c : Bool} (h : EvC f x l op r c) (hm : behindInMarks op r = false := by with_unfolding_all rfl) : Ev f x (.Compare l [op] [r] pos) (.bool c) := .bx fun s O =>
  wpAny_Compare1 (wpN (h.run s O) fun a s₁ h => wpN h fun b s₂ h => wpN h fun u s' ⟨k, e⟩ => ⟨k, e ▸ .bool c⟩) hm
theorem Tst.cmp {l r : Expr} {op : CmpOp} {pos} {c : Bool} (h : EvC f x l op r c) (hm : behindInMarks op r = false := by with_unfolding_all rfl) : Tst f x (.Compare l [op] [r] pos) c := .bx fun s O =>
  wpAny_isTrue_Compare1 (wpN (h.run s O) fun a s₁ h => wpN h fun b s₂ h => wpN h fun u s' ⟨k, e⟩ => by subst e; exact wpAny_truthy_bool ⟨k, rfl⟩) hm

theorem EvC.of {l r : Expr} {op : CmpOp} {da db : PyData} {c : Bool} (h1 : Ev f x l da) (h2 : Ev f x r db)
    (H : ∀ s v w, Ok f x s → Rd (hideAll s.heap x.bad) v da → Rd (hideAll s.heap x.bad) w db →
      wpAny f.W.M f.A (compareOp op v w) (fun u s' => Step s s' ∧ u = .bool c) No s) : EvC f x l op r c := .bx fun s O =>
  wpN (h1.run s O) fun v s₁ ⟨k1, r1⟩ => wpN (h2.run s₁ (O.step k1)) fun w s₂ ⟨k2, r2⟩ =>
    wpN (H s₂ v w ((O.step k1).step k2) (r1.ext (hid_ext k2.ext)) r2) fun u s₃ ⟨k3, r3⟩ => ⟨(k1.trans k2).trans k3, r3⟩
theorem EvC.lt {l r : Expr} {a b : Int} (h1 : Ev f x l (.int a)) (h2 : Ev f x r (.int b)) : EvC f x l .Lt r (decide (a < b)) :=
  .of h1 h2 fun s v w O r1 r2 => by obtain ⟨t, rfl⟩ := r1.int_inv; obtain ⟨u, rfl⟩ := r2.int_inv; exact P.lt_int ⟨.rfl', rfl⟩
theorem EvC.le {l r : Expr} {a b : Int} (h1 : Ev f x l (.int a)) (h2 : Ev f x r (.int b)) : EvC f x l .LtE r (decide (a ≤ b)) :=
  .of h1 h2 fun s v w O r1 r2 => by obtain ⟨t, rfl⟩ := r1.int_inv; obtain ⟨u, rfl⟩ := r2.int_inv; exact P.le_int ⟨.rfl', rfl⟩
theorem EvC.ge {l r : Expr} {a b : Int} (h1 : Ev f x l (.int a)) (h2 : Ev f x r (.int b)) : EvC f x l .GtE r (decide (b ≤ a)) :=
  .of h1 h2 fun s v w O r1 r2 => by obtain ⟨t, rfl⟩ := r1.int_inv; obtain ⟨u, rfl⟩ := r2.int_inv; exact P.ge_int ⟨.rfl', rfl⟩
theorem EvC.eq {l r : Expr} {a b : Int} (h1 : Ev f x l (.int a)) (h2 : Ev f x r (.int b)) : EvC f x l .Eq r (decide (a = b)) :=
  .of h1 h2 fun s v w O r1 r2 => by obtain ⟨t, rfl⟩ := r1.int_inv; obtain ⟨u, rfl⟩ := r2.int_inv; exact P.eq_int ⟨.rfl', by by_cases h : a = b <;> simp [h]⟩
theorem EvC.eqS {l r : Expr} {a b : List Nat} (h1 : Ev f x l (st a)) (h2 : Ev f x r (st b)) : EvC f x l .Eq r (decide (a = b)) :=
  .of h1 h2 fun s v w O r1 r2 => by
    obtain ⟨t, rfl⟩ := r1.str_inv; obtain ⟨u, rfl⟩ := r2.str_inv
    refine P.eq_str ⟨.rfl', ?_⟩
    rw [S_toList, S_toList]; congr 1; by_cases h : a = b <;> simp [h]
theorem EvC.eqD {l r : Expr} {a b : PyData} (h1 : Ev f x l a) (h2 : Ev f x r b) (ha : SeqAt.shaped a = true) (hb : SeqAt.shaped b = true) : EvC f x l .Eq r (PyData.eqv a b) :=
  .of h1 h2 fun s v w O r1 r2 => by
    obtain ⟨as, r1⟩ := r1.reads; obtain ⟨bs, r2⟩ := r2.reads
    exact eq_dataH (Reads.keeps hid_sub r1) (Reads.keeps hid_sub r2) ha hb (by have := O.room.uni; rw [show cLine = 9900 from rfl]; omega) ⟨.rfl', rfl⟩
end
end Mine
end
section
open PySem PySem.W PyProof.Rows PySem.Spec
set_option Elab.async false
set_option linter.all false
set_option maxRecDepth 100000
namespace Mine

noncomputable def sm : PyData → Prop
  | .str x => x.length ≤ sizeLine
  | .list l => l.length ≤ sizeLine
  | .tuple l => l.length ≤ sizeLine
  | .dict _ => False
  | _ => True

section
variable {f : Fx} {x : Sx}

theorem truthyOk {M : Wd} {A : Around} {s : Shared} {v : Value} {d : PyData} (r : Rd s.heap v d) (h : sm d) : wpAny M.M A (truthy v) (fun b s' => Step s s' ∧ b = tr d) No s := by
  cases d with
  | none => rw [r.none_inv]; exact fun _ _ _ => ⟨.rfl', rfl⟩
  | bool b => rw [r.bool_inv]; exact wpAny_truthy_bool ⟨.rfl', rfl⟩
  | int i => obtain ⟨t, rfl⟩ := r.int_inv; exact P.truthy_int ⟨.rfl', rfl⟩
  | str y =>
    obtain ⟨t, rfl⟩ := r.str_inv
    have h' : y.length ≤ sizeLine := h
    refine P.truthy_str (by rw [sizeLine_eq] at h'; omega) ⟨.tok, ?_⟩
    show ((y.length : Int) != 0) = (y.length != 0)
    rw [Bool.eq_iff_iff]; simp only [bne_iff_ne, ne_eq]; omega
  | list l =>
    obtain ⟨a, vs, n, rfl, l1, l2⟩ := r.list_inv
    have h' : l.length ≤ sizeLine := h
    have e := l2.length
    refine wpAny_truthy_list l1.isList (by rw [List.size_toArray, e]; rw [sizeLine_eq] at h'; omega) ⟨.tok, ?_⟩
    show (!vs.toArray.isEmpty) = !l.isEmpty
    cases vs <;> cases l <;> simp_all
  | tuple l =>
    obtain ⟨a, vs, n, rfl, l1, l2⟩ := r.tuple_inv
    have h' : l.length ≤ sizeLine := h
    have e := l2.length
    refine truthy_tuple l1.isTup (by rw [List.size_toArray, e]; rw [sizeLine_eq] at h'; omega) ⟨.tok, ?_⟩
    show (!vs.toArray.isEmpty) = !l.isEmpty
    cases vs <;> cases l <;> simp_all
  | dict _ => exact r.no_dict.elim

theorem Tst.val {e : Expr} {d : PyData} {b : Bool} (h : Ev f x e d) (hs : sm d) (hb : tr d = b)
    (he : ∀ whole, isTrue e f.env whole = (do let v ← whole; standAt e.pos; holding [v] (truthy v)) := by intro _; rfl) : Tst f x e b := .bx fun s O =>
  wpAny_isTrue_value (wpN (h.run s O) fun v s₁ ⟨k, r⟩ => wpN (truthyOk (r.ext hid_sub) hs) fun c s₂ ⟨k2, e⟩ => ⟨k.trans k2, e.trans hb⟩) (he _)
theorem Tst.not {e : Expr} {pos} {b : Bool} (h : Tst f x e b) : Tst f x (.UnaryOp .Not e pos) (!b) := .bx fun s O =>
  wpAny_isTrue_Not (wpN (h.run s O) fun c s₁ ⟨k, r⟩ => ⟨k, by rw [r]⟩)
theorem Tst.and {e : Expr} {es : List Expr} {pos} {a b : Bool} (h : Tst f x e a) (h2 : a = true → Tst f x (.BoolOp .And es pos) b) : Tst f x (.BoolOp .And (e :: es) pos) (a && b) := .bx fun s O =>
  isTrue_and (wpN (h.run s O) fun c s₁ ⟨k, r⟩ => by
    subst r
    cases c with
    | false => exact ⟨k, rfl⟩
    | true => exact wpN ((h2 rfl).run s₁ (O.step k)) fun c s₂ ⟨k2, r⟩ => ⟨k.trans k2, by simpa using r⟩)
theorem Tst.or {e : Expr} {es : List Expr} {pos} {a b : Bool} (h : Tst f x e a) (h2 : a = false → Tst f x (.BoolOp .Or es pos) b) : Tst f x (.BoolOp .Or (e :: es) pos) (a || b) := .bx fun s O =>
  isTrue_or (wpN (h.run s O) fun c s₁ ⟨k, r⟩ => by
    subst r
    cases c with
    | true => exact ⟨k, rfl⟩
    | false => exact wpN ((h2 rfl).run s₁ (O.step k)) fun c s₂ ⟨k2, r⟩ => ⟨k.trans k2, by simpa using r⟩)
theorem Tst.andN {pos} : Tst f x (.BoolOp .And [] pos) true := .bx fun s O => isTrue_and_nil ⟨.rfl', rfl⟩
theorem Tst.orN {pos} : Tst f x (.BoolOp .Or [] pos) false := .bx fun s O => isTrue_or_nil ⟨.rfl', rfl⟩
theorem Tst.eq {e : Expr} {a b : Bool} (h : Tst f x e a) (k : a = b) : Tst f x e b := k ▸ h
theorem Ev.eq {e : Expr} {a b : PyData} (h : Ev f x e a) (k : a = b) : Ev f x e b := k ▸ h

theorem Ev.and2 {a b : Expr} {pos} {da db dc : PyData} (h1 : Ev f x a da) (hs : sm da) (h2 : tr da = true → Ev f x b db) (hc : dc = if tr da then db else da) : Ev f x (.BoolOp .And [a, b] pos) dc := .bx fun s O =>
  wpAny_And2 (wpN (h1.run s O) fun v s₁ ⟨k, r⟩ => wpN (truthyOk (r.ext hid_sub) hs) fun c s₂ ⟨k2, e⟩ => by
    subst e; subst hc
    cases hd : tr da with
    | true => simp only [if_true]; exact wpN ((h2 hd).run s₂ ((O.step k).step k2)) fun w s₃ ⟨k3, r3⟩ => ⟨(k.trans k2).trans k3, r3⟩
    | false => exact ⟨k.trans k2, by simpa using r.ext (hid_ext k2.ext)⟩)
theorem Ev.or2 {a b : Expr} {pos} {da db dc : PyData} (h1 : Ev f x a da) (hs : sm da) (h2 : tr da = false → Ev f x b db) (hc : dc = if tr da then da else db) : Ev f x (.BoolOp .Or [a, b] pos) dc := .bx fun s O =>
  wpAny_Or2 (wpN (h1.run s O) fun v s₁ ⟨k, r⟩ => wpN (truthyOk (r.ext hid_sub) hs) fun c s₂ ⟨k2, e⟩ => by
    subst e; subst hc
    cases hd : tr da with
    | false => simp only [Bool.false_eq_true, if_false]; exact wpN ((h2 hd).run s₂ ((O.step k).step k2)) fun w s₃ ⟨k3, r3⟩ => ⟨(k.trans k2).trans k3, r3⟩
    | true => exact ⟨k.trans k2, by simpa using r.ext (hid_ext k2.ext)⟩)
theorem Ev.ite {t a b : Expr} {pos} {c : Bool} {d : PyData} (h : Tst f x t c) (ha : c = true → Ev f x a d) (hb : c = false → Ev f x b d) : Ev f x (.IfExp t a b pos) d := .bx fun s O =>
  wpAny_IfExp (wpN (h.run s O) fun u s₁ ⟨k, r⟩ => by
    subst r
    cases u with
    | true => exact wpN ((ha rfl).run s₁ (O.step k)) fun w s₃ ⟨k3, r3⟩ => ⟨k.trans k3, r3⟩
    | false => exact wpN ((hb rfl).run s₁ (O.step k)) fun w s₃ ⟨k3, r3⟩ => ⟨k.trans k3, r3⟩)

theorem EvC.isNot {l r : Expr} {a b : Bool} (h1 : Ev f x l (.bool a)) (h2 : Ev f x r (.bool b)) : EvC f x l .IsNot r (a != b) :=
  .of h1 h2 fun s v w O r1 r2 => by
    rw [r1.bool_inv, r2.bool_inv]
    refine wpAny_isNot_plain rfl ⟨.rfl', ?_⟩
    cases a <;> cases b <;> rfl

theorem Rd.newList {s : Shared} {bad : List Addr} {vs : List Value} {ds : List PyData} (nb : s.heap.objs.size ∉ bad) (r : RdAll (hideAll s.heap bad) vs ds) :
    Rd (hideAll (s.heap.push { cls := .type "list", data := .seq vs.toArray }) bad) (.ref s.heap.objs.size) (.list ds) :=
  Rd.list (vs := vs) (n := 0) (hid_iff.mpr ⟨Heap.get?_push_size _ rfl, nb⟩) (r.ext (hid_ext (ext_push _)))
theorem Rd.newTuple {s : Shared} {bad : List Addr} {vs : List Value} {ds : List PyData} (nb : s.heap.objs.size ∉ bad) (r : RdAll (hideAll s.heap bad) vs ds) :
    Rd (hideAll (s.heap.push { cls := .type "tuple", data := .seq vs.toArray }) bad) (.ref s.heap.objs.size) (.tuple ds) :=
  Rd.tuple (vs := vs) (n := 0) (hid_iff.mpr ⟨Heap.get?_push_size _ rfl, nb⟩) (r.ext (hid_ext (ext_push _)))
theorem Ev.list {es : List Expr} {pos} {ds : List PyData} (h : EvL f x es ds) (hn : ds.length ≤ sizeLine) : Ev f x (.List es pos) (.list ds) := .bx fun s O =>
  List_ (wpN (h.run s pos O) fun vs s₁ ⟨k, r⟩ => wpAny_newList ⟨k.trans (.mkh (ext_push _)), Rd.newList (O.step k).nb r⟩ (by rw [r.length]; exact hn))
theorem Ev.tuple {es : List Expr} {c pos} {ds : List PyData} (h : EvL f x es ds) (hn : ds.length ≤ sizeLine) : Ev f x (.Tuple es c pos) (.tuple ds) := .bx fun s O =>
  Tuple_ (wpN (h.run s pos O) fun vs s₁ ⟨k, r⟩ => wpAny_newTuple ⟨k.trans (.mkh (ext_push _)), Rd.newTuple (O.step k).nb r⟩ (by rw [r.length]; exact hn))

noncomputable def idx (n : Nat) (i : Int) : Nat := if 0 ≤ i then i.toNat else (i + n).toNat

theorem Ev.itemL {v sl : Expr} {pos} {ds : List PyData} {i : Int} {d : PyData} (h1 : Ev f x v (.list ds)) (h2 : Ev f x sl (.int i)) (hd : ds[idx ds.length i]? = some d) (h0 : -(ds.length : Int) ≤ i) (hn : ds.length ≤ sizeLine)
    (hs : ∀ o j, subscripted sl false o j = operate [o, j] (getItem o j) := by intro _ _; with_unfolding_all rfl) : Ev f x (.Subscript v sl pos) d := .bx fun s O =>
  Subscript_ (wpN (h1.run s O) fun o s₁ ⟨k1, r1⟩ => wpN (h2.run s₁ (O.step k1)) fun j s₂ ⟨k2, r2⟩ => by
    obtain ⟨t, rfl⟩ := r2.int_inv
    obtain ⟨a, vs, n, rfl, l1, l2⟩ := (r1.ext (hid_ext k2.ext)).list_inv
    obtain ⟨u, hu, ru⟩ := l2.get hd
    have e := l2.length
    have l1' : s₂.heap.IsList a vs.toArray := PL.isList (n := n) (hid_iff.mp l1).1
    refine tail_any l1'.typeIs slot_list_getitem.lookup ?_ (hs _ _)
    have hlt : idx ds.length i < ds.length := (List.getElem?_eq_some_iff.mp hd).1
    rw [sizeLine_eq] at hn
    unfold idx at hu hlt
    by_cases h0' : 0 ≤ i
    · rw [if_pos h0'] at hu hlt
      exact wpAny_getItem_list l1' h0' (by omega) (by simpa using hu) ⟨k1.trans k2, ru⟩
    · rw [if_neg h0'] at hu hlt
      exact wpAny_getItem_list_neg l1' (by omega) (by rw [List.size_toArray, e]; exact h0) (by omega) (by rw [List.size_toArray, e]; simpa using hu) ⟨k1.trans k2, ru⟩)
theorem Ev.itemT {v sl : Expr} {pos} {ds : List PyData} {i : Int} {d : PyData} (h1 : Ev f x v (.tuple ds)) (h2 : Ev f x sl (.int i)) (h0 : 0 ≤ i) (hd : ds[i.toNat]? = some d) (hn : ds.length ≤ sizeLine)
    (hs : ∀ o j, subscripted sl false o j = operate [o, j] (getItem o j) := by intro _ _; with_unfolding_all rfl) : Ev f x (.Subscript v sl pos) d := .bx fun s O =>
  Subscript_ (wpN (h1.run s O) fun o s₁ ⟨k1, r1⟩ => wpN (h2.run s₁ (O.step k1)) fun j s₂ ⟨k2, r2⟩ => by
    obtain ⟨t, rfl⟩ := r2.int_inv
    obtain ⟨a, vs, n, rfl, l1, l2⟩ := (r1.ext (hid_ext k2.ext)).tuple_inv
    obtain ⟨u, hu, ru⟩ := l2.get hd
    have e := l2.length
    have l1' : IsTup s₂.heap a vs.toArray := PT.isTup (n := n) (hid_iff.mp l1).1
    have hlt : i.toNat < ds.length := (List.getElem?_eq_some_iff.mp hd).1
    rw [sizeLine_eq] at hn
    refine item_tupleT l1' (by omega) (by omega) (j := i.toNat) ?_ hu ⟨k1.trans k2, ru⟩ (hs _ _)
    have : seqIndex? i vs.length = some i.toNat := by
      unfold seqIndex?
      rw [e]
      simp only [show ¬ i < 0 by omega, if_false]
      simp; omega
    exact this)
theorem Ev.itemS {v sl : Expr} {pos} {ds : List Nat} {i : Int} {c : Nat} (h1 : Ev f x v (st ds)) (h2 : Ev f x sl (.int i)) (h0 : 0 ≤ i) (hd : ds[i.toNat]? = some c) (hn : ds.length ≤ sizeLine)
    (hs : ∀ o j, subscripted sl false o j = operate [o, j] (getItem o j) := by intro _ _; with_unfolding_all rfl) : Ev f x (.Subscript v sl pos) (st [c]) := .bx fun s O =>
  Subscript_ (wpN (h1.run s O) fun o s₁ ⟨k1, r1⟩ => wpN (h2.run s₁ (O.step k1)) fun j s₂ ⟨k2, r2⟩ => by
    obtain ⟨t, rfl⟩ := r2.int_inv
    obtain ⟨u, rfl⟩ := r1.str_inv
    have hlt : i.toNat < ds.length := (List.getElem?_eq_some_iff.mp hd).1
    rw [sizeLine_eq] at hn
    refine tail_any (typeIs_str s₂ _ u) F.slot_str_getitem.lookup (PyProof.Rows.getItem_str (c := c) ?_ ?_ ⟨(k1.trans k2).trans .tok, .str _ _⟩) (hs _ _)
    · simp; omega
    · have : seqIndex? i (S ds).length = some i.toNat := by
        unfold seqIndex?
        rw [S_len]
        simp only [show ¬ i < 0 by omega, if_false]
        simp; omega
      rw [this]; simpa [S] using hd)

noncomputable def EvO (f : Fx) (x : Sx) (e : Option Expr) (i : Option Int) : Prop := Bx (∀ s, Ok f x s →
  wpAny f.W.M f.A (evalPart e f.env) (fun v s' => Step s s' ∧ ∃ p : Option (Int × Tok), v = partValue p ∧ p.map (·.1) = i) No s)
theorem EvO.none : EvO f x .none .none := .bx fun s O => wpAny_evalPart_none ⟨.rfl', .none, rfl, rfl⟩
theorem EvO.some {e : Expr} {i : Int} (h : Ev f x e (.int i)) : EvO f x (.some e) (.some i) := .bx fun s O =>
  wpAny_evalPart_some (wpN (h.run s O) fun v s' ⟨k, r⟩ => by obtain ⟨t, rfl⟩ := r.int_inv; exact ⟨k, .some (i, t), rfl, rfl⟩)
theorem isPart_of (p : Option (Int × Tok)) : IsPart (partValue p) (p.map (·.1)) := by cases p with | none => exact .none | some q => exact .int _ _

theorem Ev.sliceL {v : Expr} {lo hi : Option Expr} {p pos} {ds : List PyData} {a b : Option Int} (h1 : Ev f x v (.list ds)) (h2 : EvO f x lo a) (h3 : EvO f x hi b) (hn : ds.length ≤ sizeLine) :
    Ev f x (.Subscript v (.Slice lo hi .none p) pos) (.list (slc ds a b)) := .bx fun s O =>
  Subscript_ (wpN (h1.run s O) fun o s₁ ⟨k1, r1⟩ => wpAny_Slice (wpN (h2.run s₁ (O.step k1)) fun l s₂ ⟨k2, pa, e1, e2⟩ => wpN (h3.run s₂ ((O.step k1).step k2)) fun u s₃ ⟨k3, pb, e3, e4⟩ => wpAny_evalPart_none (by
    subst e1 e2 e3 e4
    have k := (k1.trans k2).trans k3
    have O₃ := O.step k
    obtain ⟨c, vs, n, rfl, l1, l2⟩ := (r1.ext (hid_ext (k2.trans k3).ext)).list_inv
    have e := l2.length
    have l1' : s₃.heap.IsList c vs.toArray := PL.isList (n := n) (hid_iff.mp l1).1
    refine tail_any (l1'.push _).typeIs slot_list_getitem.lookup (wpAny_getItem_list_slice (l1'.push _) (Heap.IsSliceOf.new ..) (isPart_of pa) (isPart_of pb) .none (by simp) ⟨?_, ?_⟩ (by rw [List.size_toArray, e]; exact hn)) rfl
    · exact k.trans ((Step.mkh (ext_push _)).trans (.mkh (ext_push _)))
    · rw [slc_arr]
      have e2 : slc vs (pa.map (·.1)) (pb.map (·.1)) = (vs.drop ((pa.map (·.1)).elim 0 (clipAt ds.length))).take ((pb.map (·.1)).elim ds.length (clipAt ds.length) - (pa.map (·.1)).elim 0 (clipAt ds.length)) := by unfold slc; rw [e]
      have O₄ := O₃.step (.mkh (ext_push { cls := .type "slice", data := .fields #[partValue pa, partValue pb, .none] }))
      refine Rd.newList (s := { s₃ with heap := s₃.heap.push { cls := .type "slice", data := .fields #[partValue pa, partValue pb, .none] } }) O₄.nb ?_
      show RdAll _ (slc vs _ _) _
      rw [e2]
      exact ((l2.drop _).take _).ext (hid_ext (ext_push _)))))

theorem Ev.sliceS {v : Expr} {lo hi : Option Expr} {p pos} {ds : List Nat} {a b : Option Int} (h1 : Ev f x v (st ds)) (h2 : EvO f x lo a) (h3 : EvO f x hi b) (hn : ds.length ≤ sizeLine) :
    Ev f x (.Subscript v (.Slice lo hi .none p) pos) (st (slc ds a b)) := .bx fun s O =>
  Subscript_ (wpN (h1.run s O) fun o s₁ ⟨k1, r1⟩ => wpAny_Slice (wpN (h2.run s₁ (O.step k1)) fun l s₂ ⟨k2, pa, e1, e2⟩ => wpN (h3.run s₂ ((O.step k1).step k2)) fun u s₃ ⟨k3, pb, e3, e4⟩ => wpAny_evalPart_none (by
    subst e1 e2 e3 e4
    have k := (k1.trans k2).trans k3
    obtain ⟨t, rfl⟩ := r1.str_inv
    refine tail_any (typeIs_str _ _ t) F.slot_str_getitem.lookup (wpAny_getItem_str_slice (l := pa) (u := pb) (st := .none) ⟨_, Heap.get?_push_size _ rfl, rfl, rfl⟩ rfl ?_) rfl
    have key := txtSlice ds (pa.map (·.1)) (pb.map (·.1))
    refine post_val_or_str ?_
    show (Txt.slice (S ds) (pa.map (·.1)) (pb.map (·.1))).length ≤ sizeLine ∧ ∀ t' k', Step s { s₃ with heap := _, toks := k' } ∧ Rd (hideAll _ x.bad) (.str (Txt.slice (S ds) (pa.map (·.1)) (pb.map (·.1))) t') _
    rw [key]
    refine ⟨by rw [S_len]; exact Nat.le_trans (slc_le _ _ _) hn, fun t' k' => ⟨k.trans (.mk' (ext_push _)), .str _ _⟩⟩)))
end
end Mine
end
section
open PySem PySem.W PyProof.Rows PySem.Spec
set_option Elab.async false
set_option linter.all false
set_option maxRecDepth 100000
namespace Mine

noncomputable def FnP (W : Wd) (cv : Value) (n : Nat) (ds : List PyData) (P : List Addr → Heap → Value → Prop) : Prop :=
  ∀ A s bad vs, Room A n → W.Ok s.heap → (∀ b ∈ bad, ∃ o, s.heap.get? b = some o) → RdAll (hideAll s.heap bad) vs ds →
    wpAny W.M A (PySem.call cv vs) (fun v s' => Step s s' ∧ P bad s'.heap v) No s
noncomputable def Fn (W : Wd) (cv : Value) (n : Nat) (ds : List PyData) (d : PyData) : Prop := FnP W cv n ds fun bad h v => Rd (hideAll h bad) v d

section
variable {f : Fx} {x : Sx}


inductive Callee (W : Wd) : Value → Prop
  | builtin (id : String) : Callee W (.builtin id)
  | type (T : String) : Callee W (.type T)
  | fn {a : Addr} {o : Obj} {fd : FuncData} : W.K.lookup a = some o → o.data = .func fd → Callee W (.ref a)

theorem callWith_any {W : Wd} {A : Around} {s : Shared} {pos : Pos} {cv : Value} {e : Expr} {es : List Expr} {env : Env} {Q : Value → Shared → Prop} (c : Callee W cv)
    (h : wpAny W.M A (spliced (backTo pos (starEach (e :: es) env))) (fun vs s₁ => W.Ok s₁.heap ∧ wpAny W.M A (PySem.call cv vs) Q No s₁) No s)
    (he : starEach (e :: es) env = (false, eval e env) :: starEach es env) (hp : (backTo pos (starEach es env)).any (·.1) = false) :
    wpAny W.M A (callWith pos cv [] (backTo pos (starEach (e :: es) env)) []) Q No s := by
  cases c with
  | builtin id => exact callWith_builtin1 (wpN h fun vs s₁ ⟨_, k⟩ => k) he hp
  | type T => exact PyProof.Rows.callWith_type1 (wpN h fun vs s₁ ⟨_, k⟩ => k) he hp
  | fn hk hd => exact callWith_def hd (wpN h fun vs s₁ ⟨k1, k⟩ => ⟨k1.k _ _ hk, k⟩) he

theorem EvP.call {n : Str} {p pos} {e : Expr} {es : List Expr} {cv : Value} {ds : List PyData} {m : Nat} {P : List Addr → Heap → Value → Prop}
    (hc : EvP f x (.Name n p) fun _ u => u = cv) (c : Callee f.W cv) (ha : EvL f x (e :: es) ds) (F : FnP f.W cv m ds P) (hm : m ≤ f.rm)
    (he : starEach (e :: es) f.env = (false, eval e f.env) :: starEach es f.env := by exact rfl) (hp : (backTo pos (starEach es f.env)).any (·.1) = false := by exact rfl) :
    EvP f x (.Call (.Name n p) (e :: es) [] pos) (P x.bad) := .bx fun s O =>
  PyProof.Rows.Call_Name rfl (wpN (hc.run s O) fun u s₁ ⟨k1, e1⟩ => by
    subst e1
    refine callWith_any c (wpN (ha.run s₁ pos (O.step k1)) fun vs s₂ ⟨k2, r⟩ => ?_) he hp
    have O₂ := O.step (k1.trans k2)
    have W₂ := O.wok.ext O₂.same.ext
    exact ⟨W₂, wpN (F f.A s₂ x.bad vs (O.room.le hm) W₂ O₂.live r) fun v s₃ ⟨k3, r3⟩ => ⟨(k1.trans k2).trans k3, r3⟩⟩)
theorem Ev.call {n : Str} {p pos} {e : Expr} {es : List Expr} {cv : Value} {ds : List PyData} {d : PyData} {m : Nat}
    (hc : EvP f x (.Name n p) fun _ u => u = cv) (c : Callee f.W cv) (ha : EvL f x (e :: es) ds) (F : Fn f.W cv m ds d) (hm : m ≤ f.rm)
    (he : starEach (e :: es) f.env = (false, eval e f.env) :: starEach es f.env := by exact rfl) (hp : (backTo pos (starEach es f.env)).any (·.1) = false := by exact rfl) :
    Ev f x (.Call (.Name n p) (e :: es) [] pos) d := EvP.call hc c ha F hm he hp
noncomputable def Recv (T : String) (h : Heap) (v : Value) : Prop := (∀ s : Shared, s.heap = h → s.TypeIs v T) ∧ ∀ a, v = .ref a → ∃ ob, h.get? a = some ob ∧ ob.dict = none

theorem EvP.meth {o : Expr} {name : Str} {apos pos} {e : Expr} {es : List Expr} {T id : String} {P0 : Heap → Value → Prop} {ds : List PyData} {P : Heap → Value → Prop}
    (h0 : EvP f x o P0) (pa : PlainAttrs T) (slot : PySem.Slot T name id) (hty : typeOf (Value.builtin id) = pure (Value.type "method_descriptor"))
    (hr : ∀ h v, P0 h v → Recv T h v) (hk : ∀ h h' v, P0 h v → Ext h h' → P0 h' v) (ha : EvL f x (e :: es) ds)
    (F : ∀ s v vs, Ok f x s → P0 s.heap v → RdAll (hideAll s.heap x.bad) vs ds → wpAny f.W.M f.A (PySem.call (Value.builtin id) (v :: vs)) (fun u s' => Step s s' ∧ P s'.heap u) No s)
    (hbase : attributeBase o name f.env (eval o f.env) = eval o f.env := by exact rfl)
    (hfew : ((backTo pos (starEach (e :: es) f.env)).all (fun x => !x.1) && (backToKw pos (keywordEach [] f.env)).all (fun x => x.1.isSome)
      && decide ((e :: es).length + ([] : List Keyword).length + (if ([] : List Keyword).isEmpty then 0 else 1) < 30)) = true := by exact rfl)
    (hline : (apos.endLine == pos.line) = true := by exact rfl)
    (he : starEach (e :: es) f.env = (false, eval e f.env) :: starEach es f.env := by exact rfl) (hp : (backTo pos (starEach es f.env)).any (·.1) = false := by exact rfl) :
    EvP f x (.Call (.Attribute o name apos) (e :: es) [] pos) P := .bx fun s O =>
  wpAny_Call_method hbase hfew hline pa slot hty (wpN (h0.run s O) fun v s₁ ⟨k1, r1⟩ => by
    refine ⟨(hr _ _ r1).1 _ rfl, (hr _ _ r1).2, ?_⟩
    have O₁ := O.step k1
    refine callWith_method1 (wpN (ha.run s₁ pos O₁) fun vs s₂ ⟨k2, r2⟩ => ?_) he hp
    exact wpN (F s₂ v vs (O₁.step k2) (hk _ _ _ r1 k2.ext) r2) fun u s₃ ⟨k3, r3⟩ => ⟨(k1.trans k2).trans k3, r3⟩)
end
end Mine
end
section
open PySem PySem.W PyProof.Rows PySem.Spec
set_option Elab.async false
set_option linter.all false
set_option maxRecDepth 100000
namespace Mine

section
variable {f : Fx} {x : Sx}

noncomputable def Ex (f : Fx) (x : Sx) (ss : List Stmt) (Q : Flow → Shared → Prop) : Prop := Bx (∀ s, Ok f x s → wpAny f.W.M f.A (execs ss f.env) Q No s)
noncomputable def Then (f : Fx) (rest : List Stmt) (Q : Flow → Shared → Prop) : Flow → Shared → Prop
  | .next, s => wpAny f.W.M f.A (execs rest f.env) Q No s
  | fl, s => Q fl s

theorem Ex.nil {Q : Flow → Shared → Prop} (h : ∀ s, Ok f x s → Q .next s) : Ex f x [] Q := .bx fun s O => wpAny_execs_nil (h s O)
theorem Ex.cons {st : Stmt} {rest : List Stmt} {Q : Flow → Shared → Prop} (h : ∀ s, Ok f x s → wpAny f.W.M f.A (exec st f.env) (Then f rest Q) No s) : Ex f x (st :: rest) Q := .bx fun s O =>
  wpAny_execs_cons (wpN (h s O) fun fl s' h' => by cases fl <;> exact h')

inductive Puts : List Str → List Slot → List Str → List PyData → List Slot → Prop
  | nil {nm vs} : Puts nm vs [] [] vs
  | cons {nm vs n d vs' ns ds vs''} : Put nm vs n (.val d) vs' → Puts nm vs' ns ds vs'' → Puts nm vs (n :: ns) (d :: ds) vs''

theorem Ex.assign {n : Str} {p : Pos} {e : Expr} {pos : Pos} {rest : List Stmt} {d : PyData} {vs' : List Slot} {Q : Flow → Shared → Prop} (h : Ev f x e d) (put : Put f.nm x.vs n (.val d) vs')
    (hr : Ex f { x with vs := vs' } rest Q) (hc : f.sto = f.nm := by exact rfl)
    (hs : swapsWith e (some (.Name n p)) pos.line f.env = pure false := by exact rfl) : Ex f x (.Assign [.Name n p] e pos :: rest) Q := .cons fun s O =>
  wpAny_Assign_Name (wpN (h.run s O) fun v s₁ ⟨k, r⟩ => wpN ((O.step k).store put r (hc ▸ put.mem)) fun _ s₂ O₂ => hr.run s₂ O₂.1) hs

theorem Ex.ret {e : Expr} {pos : Pos} {rest : List Stmt} {d : PyData} {Q : Flow → Shared → Prop} (h : Ev f x e d) (hq : ∀ s v, Ok f x s → Rd (hideAll s.heap x.bad) v d → Q (.ret v) s) :
    Ex f x (.Return (some e) pos :: rest) Q := .cons fun s O =>
  wpAny_Return_some (wpN (h.run s O) fun v s₁ ⟨k, r⟩ => hq s₁ v (O.step k) r)
theorem Ex.retP {e : Expr} {pos : Pos} {rest : List Stmt} {P : Heap → Value → Prop} {Q : Flow → Shared → Prop} (h : EvP f x e P) (hq : ∀ s v, Ok f x s → P s.heap v → Q (.ret v) s) :
    Ex f x (.Return (some e) pos :: rest) Q := .cons fun s O =>
  wpAny_Return_some (wpN (h.run s O) fun v s₁ ⟨k, r⟩ => hq s₁ v (O.step k) r)

theorem Ex.ite {t : Expr} {b o : List Stmt} {pos : Pos} {rest : List Stmt} {c : Bool} {Q : Flow → Shared → Prop} (ht : Tst f x t c) (h1 : c = true → Ex f x b (Then f rest Q)) (h2 : c = false → Ex f x o (Then f rest Q)) :
    Ex f x (.If t b o pos :: rest) Q := .cons fun s O =>
  wpAny_If (wpN (ht.run s O) fun u s₁ ⟨k, e⟩ => by
    subst e
    cases u with
    | true => exact (h1 rfl).run s₁ (O.step k)
    | false => exact (h2 rfl).run s₁ (O.step k))
theorem Ex.next {rest : List Stmt} {Q : Flow → Shared → Prop} (h : Ex f x rest Q) : Ex f x [] (Then f rest Q) := .nil fun s O => h.run s O
theorem unpackOk {W : Wd} {A : Around} {s : Shared} {bad : List Addr} {v : Value} {ds : List PyData} {d : PyData} (hh : A.handled = none) (hd : d = .list ds ∨ d = .tuple ds) (r : Rd (hideAll s.heap bad) v d) (nb : ∀ b ∈ bad, ∃ o, s.heap.get? b = some o) :
    wpAny W.M A (unpackItems v ds.length none) (fun vs s' => Step s s' ∧ RdAll (hideAll s'.heap bad) vs ds) No s := by
  have ex : ∀ h', Heap.ExtBut s.heap.objs.size s.heap h' → Ext s.heap h' := fun h' he b o e => he b o (Nat.ne_of_lt (Heap.lt_size e)) e
  rcases hd with rfl | rfl
  · obtain ⟨a, vs, n, rfl, l1, l2⟩ := r.list_inv
    have := kun_itemsOf (prog := W.prog) (w := W.w) (E := No) (Q := fun vs s' => Step s s' ∧ RdAll (hideAll s'.heap bad) vs ds) hh (PL.isList (n := n) (hid_iff.mp l1).1)
      (fun h' he => ⟨.mkh (ex h' he), by simpa using l2.ext (hid_ext (ex h' he))⟩)
    rw [List.size_toArray, l2.length] at this
    exact this
  · obtain ⟨a, vs, n, rfl, l1, l2⟩ := r.tuple_inv
    have := unpackItems_tuple (prog := W.prog) (w := W.w) (E := No) (Q := fun vs s' => Step s s' ∧ RdAll (hideAll s'.heap bad) vs ds) hh (PT.isTup (n := n) (hid_iff.mp l1).1)
      (fun h' he => ⟨.mkh (ex h' he), by simpa using l2.ext (hid_ext (ex h' he))⟩)
    rw [List.size_toArray, l2.length] at this
    exact this

inductive Names : List Expr → List Str → Prop
  | nil : Names [] []
  | cons {n p es ns} : Names es ns → Names (.Name n p :: es) (n :: ns)

theorem storesOk {ns : List Str} : ∀ {es : List Expr} {x : Sx} {s : Shared} {vals : List Value} {ds : List PyData} {vs' : List Slot}, Names es ns → Ok f x s → RdAll (hideAll s.heap x.bad) vals ds → Puts f.nm x.vs ns ds vs' →
    (∀ n ∈ ns, n ∈ f.sto) →
    wpAny f.W.M f.A (assignInOrder ((assignEach es f.env).map (·.2)) vals) (fun _ s' => Ok f { x with vs := vs' } s') No s := by
  induction ns with
  | nil =>
    intro es x s vals ds vs' hn O r hp hc
    cases hn; cases hp
    rw [r.nil_inv]
    exact wpAny_pure O
  | cons n ns ih =>
    intro es x s vals ds vs' hn O r hp hc
    cases hn with
    | cons hn =>
    cases hp with
    | cons put hp =>
    obtain ⟨v, vals, rfl, r1, r2⟩ := r.cons_inv
    show wpAny _ _ (do holding vals (assign (.Name n _) f.env v); assignInOrder ((assignEach _ f.env).map (·.2)) vals) _ _ s
    refine wpAny_bind (wpAny_holding (wpAny_assign_Name (wpN (O.store put r1 (hc n (.head _))) fun _ s₁ ⟨O₁, k⟩ => ?_)))
    have q := ih hn O₁ (r2.ext k) hp fun m hm => hc m (.tail _ hm)
    exact q

theorem Names.each {es : List Expr} {ns : List Str} (h : Names es ns) (env : Env) : (assignEach es env).length = ns.length ∧ (assignEach es env).findIdx? (·.1) = none := by
  induction h with
  | nil => exact ⟨rfl, rfl⟩
  | cons h ih =>
    rename_i n p es ns
    show (((false, assign (.Name n p) env) :: assignEach es env).length = _) ∧ _
    refine ⟨by rw [List.length_cons, ih.1, List.length_cons], ?_⟩
    show List.findIdx? _ ((false, assign (.Name n p) env) :: assignEach es env) = none
    rw [List.findIdx?_cons, ih.2]; rfl
theorem Puts.mem {nm vs ns ds vs'} (h : Puts nm vs ns ds vs') : ∀ n ∈ ns, n ∈ nm := by
  induction h with
  | nil => intro n hn; cases hn
  | cons p _ ih =>
    intro n hn
    rcases List.mem_cons.mp hn with rfl | hn
    · exact p.mem
    · exact ih n hn
theorem Puts.len {nm vs ns ds vs'} (h : Puts nm vs ns ds vs') : ns.length = ds.length := by
  induction h with
  | nil => rfl
  | cons _ _ ih => simp [ih]

theorem unpackNames {es : List Expr} {k : Nat} {p : Pos} {ns : List Str} {s : Shared} {v : Value} {d : PyData} {ds : List PyData} {vs' : List Slot} (hn : Names es ns) (O : Ok f x s) (hd : d = .list ds ∨ d = .tuple ds) (r : Rd (hideAll s.heap x.bad) v d)
    (put : Puts f.nm x.vs ns ds vs') (hc : ∀ n ∈ ns, n ∈ f.sto) :
    wpAny f.W.M f.A (assign (.Tuple es k p) f.env v) (fun _ s' => Ok f { x with vs := vs' } s') No s := by
  rw [arm_assign_Tuple]
  refine wpAny_bind (wpAny_standAt ?_)
  unfold unpack
  rw [(hn.each f.env).1, (hn.each f.env).2, put.len]
  exact wpAny_bind (wpAny_holding (wpN (unpackOk O.room.hd hd r O.live) fun vals s₁ ⟨k, r⟩ => storesOk hn (O.step k) r put hc))

theorem Ex.unpack {es : List Expr} {k : Nat} {p : Pos} {e : Expr} {pos : Pos} {rest : List Stmt} {d : PyData} {ds : List PyData} {ns : List Str} {vs' : List Slot} {Q : Flow → Shared → Prop} (h : Ev f x e d) (hn : Names es ns) (hd : d = .list ds ∨ d = .tuple ds)
    (put : Puts f.nm x.vs ns ds vs') (hr : Ex f { x with vs := vs' } rest Q) (hc : f.sto = f.nm := by exact rfl)
    (hs : swapsWithSole [.Tuple es k p] e pos.line f.env = pure false := by exact rfl) (hw : swappedStores [.Tuple es k p] e f.env = pure none := by exact rfl) : Ex f x (.Assign [.Tuple es k p] e pos :: rest) Q := .cons fun s O =>
  PyProof.Rows.Assign_Tuple (wpN (h.run s O) fun v s₁ ⟨k, r⟩ => wpN (unpackNames hn (O.step k) hd r put (hc ▸ put.mem)) fun _ s₂ O₂ => hr.run s₂ O₂) hs hw

theorem Ex.aug {n : Str} {p : Pos} {op : Operator} {e : Expr} {pos : Pos} {rest : List Stmt} {d0 d d' : PyData} {vs' : List Slot} {Q : Flow → Shared → Prop} (h0 : At f.nm x.vs n (.val d0)) (h : Ev f x e d)
    (H : ∀ s v w, Ok f x s → Rd (hideAll s.heap x.bad) v d0 → Rd (hideAll s.heap x.bad) w d → wpAny f.W.M f.A (inplaceOp op v w) (fun u s' => Step s s' ∧ Rd (hideAll s'.heap x.bad) u d') No s)
    (put : Put f.nm x.vs n (.val d') vs') (hr : Ex f { x with vs := vs' } rest Q) (hc : f.sto = f.nm := by exact rfl) : Ex f x (.AugAssign (.Name n p) op e pos :: rest) Q := .cons fun s O =>
  wpAny_AugAssign_Name (wpN (O.read h0) fun v s₁ ⟨e1, r1⟩ => by
    subst e1
    exact wpN (h.run _ O) fun w s₂ ⟨k2, r2⟩ => wpN (H s₂ v w (O.step k2) (r1.ext (hid_ext k2.ext)) r2) fun u s₃ ⟨k3, r3⟩ =>
      wpN (((O.step k2).step k3).store put r3 (hc ▸ put.mem)) fun _ s₄ O₄ => hr.run s₄ O₄.1)
end
end Mine
end
section
open PySem PySem.W PyProof.Rows PySem.Spec
set_option Elab.async false
set_option linter.all false
set_option maxRecDepth 100000
namespace Mine

inductive LPut (a : Addr) (ds ds' : List PyData) : List Res → List Res → Prop
  | here {l} : LPut a ds ds' (.lst a ds :: l) (.lst a ds' :: l)
  | there {r l l'} : LPut a ds ds' l l' → LPut a ds ds' (r :: l) (r :: l')
inductive LDel (a : Addr) (ds : List PyData) : List Res → List Res → Prop
  | here {l} : LDel a ds (.lst a ds :: l) l
  | there {r l l'} : LDel a ds l l' → LDel a ds (r :: l) (r :: l')

theorem LPut.mem {a ds ds' l l'} (h : LPut a ds ds' l l') : Res.lst a ds ∈ l := by
  induction h with
  | here => exact .head _
  | there _ ih => exact .tail _ ih
theorem LPut.fps {a ds ds' l l'} (h : LPut a ds ds' l l') : l'.flatMap Res.fp = l.flatMap Res.fp := by
  induction h with
  | here => rfl
  | there _ ih => simp only [List.flatMap_cons, ih]
theorem LPut.get {a ds ds' l l'} (h : LPut a ds ds' l l') (nd : (l.flatMap Res.fp).Nodup) : ∀ r ∈ l', r = .lst a ds' ∨ (r ∈ l ∧ a ∉ r.fp) := by
  induction h with
  | here =>
    intro r hr
    rcases List.mem_cons.mp hr with rfl | hr
    · exact .inl rfl
    · refine .inr ⟨.tail _ hr, fun m => ?_⟩
      rw [List.flatMap_cons] at nd
      exact (List.nodup_append.mp nd).2.2 a (.head _) a (List.mem_flatMap.mpr ⟨r, hr, m⟩) rfl
  | there h ih =>
    rename_i r0 l l'
    intro r hr
    rw [List.flatMap_cons] at nd
    rcases List.mem_cons.mp hr with rfl | hr
    · refine .inr ⟨.head _, fun m => ?_⟩
      exact (List.nodup_append.mp nd).2.2 a m a (List.mem_flatMap.mpr ⟨_, h.mem, .head _⟩) rfl
    · rcases ih (List.nodup_append.mp nd).2.1 r hr with e | ⟨e, n⟩
      · exact .inl e
      · exact .inr ⟨.tail _ e, n⟩
theorem LDel.mem {a ds l l'} (h : LDel a ds l l') : Res.lst a ds ∈ l := by
  induction h with
  | here => exact .head _
  | there _ ih => exact .tail _ ih
theorem LDel.sub {a ds l l'} (h : LDel a ds l l') : (l'.flatMap Res.fp).Sublist (l.flatMap Res.fp) := by
  induction h with
  | here => simp only [List.flatMap_cons]; exact List.sublist_append_right _ _
  | there _ ih => simp only [List.flatMap_cons]; exact List.Sublist.append_left ih _
theorem LDel.get {a ds l l'} (h : LDel a ds l l') (nd : (l.flatMap Res.fp).Nodup) : ∀ r ∈ l', r ∈ l ∧ a ∉ r.fp := by
  induction h with
  | here =>
    intro r hr
    refine ⟨.tail _ hr, fun m => ?_⟩
    rw [List.flatMap_cons] at nd
    exact (List.nodup_append.mp nd).2.2 a (.head _) a (List.mem_flatMap.mpr ⟨r, hr, m⟩) rfl
  | there h ih =>
    rename_i r0 l l'
    intro r hr
    rw [List.flatMap_cons] at nd
    rcases List.mem_cons.mp hr with rfl | hr
    · exact ⟨.head _, fun m => (List.nodup_append.mp nd).2.2 a m a (List.mem_flatMap.mpr ⟨_, h.mem, .head _⟩) rfl⟩
    · obtain ⟨e, n⟩ := ih (List.nodup_append.mp nd).2.1 r hr; exact ⟨.tail _ e, n⟩

section
variable {f : Fx} {x : Sx} {s : Shared}

theorem Ok.mut (O : Ok f x s) {a : Addr} {ds ds' : List PyData} {l' : List Res} {h' : Heap} {vs : List Value} {k : Nat} (hl : LPut a ds ds' x.led l') (hs : Heap.SameBut a s.heap h') (hp : PL h' a vs k)
    (hr : RdAll (hideAll s.heap x.bad) vs ds') : Ok f { x with led := l' } { s with heap := h' } := by
  obtain ⟨_, r2⟩ := O.led _ hl.mem
  obtain ⟨a1, a2, a3, a4⟩ := r2 a (.head _)
  obtain ⟨t1, t2⟩ := O.turn (t := s.toks) a1 a2 hs
  have hx := hidBut hs a1
  obtain ⟨m, hns, hv⟩ := O.vars
  refine ⟨O.kind, O.glo, O.bui, O.room, O.wok, O.nd, O.knd, O.gk, O.cellF, O.cbB, t1, t2, fun b hb => ?_, O.locF, O.locB, fun n c e => ?_, O.inj, fun r hr' => ?_, by rw [hl.fps]; exact O.ledNd, m, hns.sameBut hs (Ne.symm a3), fun i n sl e1 e2 => ?_⟩
  · obtain ⟨o, e⟩ := O.live b hb
    by_cases q : b = a
    · exact ⟨_, q ▸ hp⟩
    · exact ⟨o, (hs.2 b q).trans e⟩
  · obtain ⟨b1, b2, ov, b3⟩ := O.cell n c e
    exact ⟨b1, b2, ov, isCell_but b3 hs fun q => a4 n (q ▸ e)⟩
  · rcases hl.get O.ledNd r hr' with rfl | ⟨e, n⟩
    · exact ⟨⟨vs, k, hp, hr.ext hx⟩, r2⟩
    · obtain ⟨r1, r3⟩ := O.led r e
      exact ⟨res_but hs a1 r1 n, r3⟩
  · have lk : ∀ {u : Value}, look f.env s.heap m n u → look f.env h' m n u := by
      intro u e
      rcases e with ⟨e1, e2⟩ | ⟨e1, c, e2, e3⟩
      · exact .inl ⟨e1, e2⟩
      · exact .inr ⟨e1, c, e2, isCell_but e3 hs fun q => a4 n (q ▸ e2)⟩
    have := hv i n sl e1 e2
    cases sl with
    | no => trivial
    | val d => obtain ⟨u, b1, b2⟩ := this; exact ⟨u, lk b1, b2.ext hx⟩
    | is P => obtain ⟨u, b1, b2⟩ := this; exact ⟨u, lk b1, b2⟩
    | ptr b => exact lk this

theorem Ok.own (O : Ok f x s) {s' : Shared} {a : Addr} {vs : List Value} {k : Nat} {ds : List PyData} (st : Step s s') (hn : s.heap.get? a = none) (hp : PL s'.heap a vs k) (hr : RdAll (hideAll s'.heap (a :: x.bad)) vs ds) :
    Ok f { x with bad := a :: x.bad, led := .lst a ds :: x.led } s' := by
  have hnb : f.base.heap.get? a = none := by
    cases q : f.base.heap.get? a with
    | none => rfl
    | some o => have := O.same.ext a o q; rw [hn] at this; cases this
  have hnloc : a ≠ f.env.locals := fun q => by obtain ⟨o, e⟩ := O.live _ O.locB; rw [← q, hn] at e; cases e
  have hncell : ∀ n, f.env.cells.lookup n ≠ some a := fun n e => by obtain ⟨_, _, ov, o, e', _⟩ := O.cell n a e; rw [hn] at e'; cases e'
  have hnled : ∀ r ∈ x.led, a ∉ r.fp := fun r hr m => by obtain ⟨o, e⟩ := O.live a ((O.led r hr).2 a m).1; rw [hn] at e; cases e
  have hx : Ext (hideAll s.heap x.bad) (hideAll s'.heap (a :: x.bad)) := fun b o e => by
    obtain ⟨e1, e2⟩ := hid_iff.mp e
    refine hid_iff.mpr ⟨st.ext b o e1, fun m => ?_⟩
    rcases List.mem_cons.mp m with q | q
    · rw [q, hn] at e1; cases e1
    · exact e2 q
  obtain ⟨m, hns, hv⟩ := O.vars
  refine ⟨O.kind, O.glo, O.bui, O.room, O.wok, O.nd, O.knd, O.gk, O.cellF, fun b hb => ⟨.tail _ (O.cbB b hb).1, (O.cbB b hb).2⟩, O.same.trans st, fun b o e => ?_, fun b hb => ?_, O.locF, .tail _ O.locB, fun n c e => ?_, O.inj, fun r hr' => ?_, ?_, m, hns.keeps st.ext, fun i n sl e1 e2 => ?_⟩
  · obtain ⟨e1, e2⟩ := O.hz b o e
    refine ⟨st.ext b o e1, fun m => ?_⟩
    rcases List.mem_cons.mp m with q | q
    · rw [q, hn] at e1; cases e1
    · exact e2 q
  · rcases List.mem_cons.mp hb with rfl | hb
    · exact ⟨_, hp⟩
    · obtain ⟨o, e⟩ := O.live b hb; exact ⟨o, st.ext b o e⟩
  · obtain ⟨b1, b2, ov, b3⟩ := O.cell n c e; exact ⟨.tail _ b1, b2, ov, b3.keeps st.ext⟩
  · rcases List.mem_cons.mp hr' with rfl | hr'
    · refine ⟨⟨vs, k, hp, hr⟩, fun b hb => ?_⟩
      rcases List.mem_cons.mp hb with rfl | hb
      · exact ⟨.head _, hnb, hnloc, hncell⟩
      · cases hb
    · obtain ⟨r1, r2⟩ := O.led r hr'
      refine ⟨?_, fun b hb => ⟨.tail _ (r2 b hb).1, (r2 b hb).2⟩⟩
      cases r with
      | lst c es => obtain ⟨vs', k', q1, q2⟩ := r1; exact ⟨vs', k', st.ext _ _ q1, q2.ext hx⟩
      | prd fp P => exact ⟨r1.2 _ _ r1.1 fun b _ o e => st.ext b o e, r1.2⟩
  · show ([a] ++ x.led.flatMap Res.fp).Nodup
    rw [List.singleton_append, List.nodup_cons]
    exact ⟨fun hc => by obtain ⟨r, hr, hm⟩ := List.mem_flatMap.mp hc; exact hnled r hr hm, O.ledNd⟩
  · have := hv i n sl e1 e2
    cases sl with
    | no => trivial
    | val d => obtain ⟨u, b1, b2⟩ := this; exact ⟨u, b1.ext st.ext, b2.ext hx⟩
    | is P => obtain ⟨u, b1, b2⟩ := this; exact ⟨u, b1.ext st.ext, b2⟩
    | ptr b => exact look.ext st.ext this

theorem Ok.freeze (O : Ok f x s) {n : Str} {a : Addr} {ds : List PyData} {l' : List Res} {vs' : List Slot} (hat : At f.nm x.vs n (.ptr a)) (hd : LDel a ds x.led l') (put : Put f.nm x.vs n (.val (.list ds)) vs') :
    Ok f ⟨x.hz, x.bad.filter (· != a), l', vs'⟩ s := by
  obtain ⟨⟨vs, k, hp, hr⟩, r2⟩ := O.led _ hd.mem
  obtain ⟨a1, a2, a3, a4⟩ := r2 a (.head _)
  have hb : ∀ b, b ∈ x.bad.filter (· != a) ↔ b ∈ x.bad ∧ b ≠ a := fun b => by simp [List.mem_filter]
  have hx : Ext (hideAll s.heap x.bad) (hideAll s.heap (x.bad.filter (· != a))) := hid_anti fun b m => ((hb b).mp m).1
  obtain ⟨m, hns, hv⟩ := O.vars
  refine ⟨O.kind, O.glo, O.bui, O.room, O.wok, O.nd, O.knd, O.gk, O.cellF, fun b hm => ⟨(hb b).mpr ⟨(O.cbB b hm).1, fun q => by obtain ⟨o, e⟩ := (O.cbB b hm).2; rw [q, a2] at e; cases e⟩, (O.cbB b hm).2⟩, O.same, fun b o e => ?_, fun b m => O.live b ((hb b).mp m).1, O.locF, (hb _).mpr ⟨O.locB, Ne.symm a3⟩, fun n' c e => ?_, O.inj, fun r hr' => ?_, O.ledNd.sublist hd.sub, m, hns, fun i n' sl e1 e2 => ?_⟩
  · exact ⟨(O.hz b o e).1, fun m => (O.hz b o e).2 ((hb b).mp m).1⟩
  · obtain ⟨b1, b2, ov, b3⟩ := O.cell n' c e; exact ⟨(hb _).mpr ⟨b1, fun q => a4 n' (q ▸ e)⟩, b2, ov, b3⟩
  · obtain ⟨e, ne⟩ := hd.get O.ledNd r hr'
    obtain ⟨r1, r3⟩ := O.led r e
    refine ⟨?_, fun b hm => ⟨(hb _).mpr ⟨(r3 b hm).1, fun q => ne (q ▸ hm)⟩, (r3 b hm).2⟩⟩
    cases r with
    | lst c es => obtain ⟨vs', k', q1, q2⟩ := r1; exact ⟨vs', k', q1, q2.ext hx⟩
    | prd fp P => exact r1
  · obtain ⟨j, g1, g2⟩ := hat.get
    rcases put.get O.nd i n' sl e1 e2 with ⟨rfl, rfl⟩ | ⟨hk, e3⟩
    · have := hv j n' _ g1 g2
      exact ⟨.ref a, this, .list (hid_iff.mpr ⟨hp, fun m => ((hb a).mp m).2 rfl⟩) (hr.ext hx)⟩
    · have := hv i n' sl e1 e3
      cases sl with
      | no => trivial
      | val d => obtain ⟨u, b1, b2⟩ := this; exact ⟨u, b1, b2.ext hx⟩
      | is P => obtain ⟨u, b1, b2⟩ := this; exact ⟨u, b1, b2⟩
      | ptr b => exact this
end

section
variable {f : Fx} {x : Sx}
theorem Ex.freeze {ss : List Stmt} {Q : Flow → Shared → Prop} {n : Str} {a : Addr} {ds : List PyData} {l' : List Res} {vs' : List Slot} (hat : At f.nm x.vs n (.ptr a)) (hd : LDel a ds x.led l') (put : Put f.nm x.vs n (.val (.list ds)) vs')
    (h : Ex f ⟨x.hz, x.bad.filter (· != a), l', vs'⟩ ss Q) : Ex f x ss Q := .bx fun s O => h.run s (O.freeze hat hd put)
theorem Ev.thaw {e : Expr} {d : PyData} {n : Str} {a : Addr} {ds : List PyData} {l' : List Res} {vs' : List Slot} (hat : At f.nm x.vs n (.ptr a)) (hd : LDel a ds x.led l') (put : Put f.nm x.vs n (.val (.list ds)) vs')
    (h : Ev f ⟨x.hz, x.bad.filter (· != a), l', vs'⟩ e d) (ha : atom d) : Ev f x e d := .bx fun s O => wpN (h.run s (O.freeze hat hd put)) fun v s' ⟨k, r⟩ => ⟨k, r.atom ha⟩
noncomputable def EvN (f : Fx) (x : Sx) (e : Expr) (ds : List PyData) : Prop := Bx (∀ s, Ok f x s →
  wpAny f.W.M f.A (eval e f.env) (fun v s' => Step s s' ∧ ∃ a vs k, v = .ref a ∧ s.heap.get? a = none ∧ PL s'.heap a vs k ∧ RdAll (hideAll s'.heap (a :: x.bad)) vs ds) No s)
theorem EvN.list {es : List Expr} {pos} {ds : List PyData} (h : EvL f x es ds) (hn : ds.length ≤ sizeLine) : EvN f x (.List es pos) ds := .bx fun s O =>
  List_ (wpN (h.run s pos O) fun vs s₁ ⟨k, r⟩ => wpAny_newList ⟨k.trans (.mkh (ext_push _)), s₁.heap.objs.size, vs, 0, rfl, by
    cases q : s.heap.get? s₁.heap.objs.size with
    | none => rfl
    | some o => exact absurd (Heap.lt_size (k.ext _ o q)) (Nat.lt_irrefl _), Heap.get?_push_size _ rfl, r.ext fun b o e => by
      obtain ⟨e1, e2⟩ := hid_iff.mp e
      refine hid_iff.mpr ⟨ext_push _ _ _ e1, fun m => ?_⟩
      rcases List.mem_cons.mp m with q | q
      · exact absurd (Heap.lt_size e1) (by rw [q]; exact Nat.lt_irrefl _)
      · exact e2 q⟩ (by rw [r.length]; exact hn))
theorem EvN.ev {e : Expr} {ds : List PyData} (h : EvN f x e ds) : Ev f x e (.list ds) := .bx fun s O => wpN (h.run s O) fun v s' ⟨k, a, vs, n, e, hn, hp, hr⟩ => by
  subst e
  refine ⟨k, .list (hid_iff.mpr ⟨hp, fun m => ?_⟩) (hr.ext (hid_anti fun b m => .tail _ m))⟩
  obtain ⟨o, e⟩ := O.live a m; rw [hn] at e; cases e

theorem Ex.own {n : Str} {p : Pos} {e : Expr} {pos : Pos} {rest : List Stmt} {ds : List PyData} {vs' : Addr → List Slot} {Q : Flow → Shared → Prop} (h : EvN f x e ds) (put : ∀ a, Put f.nm x.vs n (.ptr a) (vs' a))
    (hr : ∀ a, Ex f ⟨x.hz, a :: x.bad, .lst a ds :: x.led, vs' a⟩ rest Q) (hc : f.sto = f.nm := by exact rfl)
    (hs : swapsWith e (some (.Name n p)) pos.line f.env = pure false := by exact rfl) : Ex f x (.Assign [.Name n p] e pos :: rest) Q := .cons fun s O =>
  wpAny_Assign_Name (wpN (h.run s O) fun v s₁ ⟨k, a, vs, j, e, hn, hp, hd⟩ => by
    subst e
    have O₁ := O.own k hn hp hd
    exact wpN (O₁.store (put a) rfl (hc ▸ (put a).mem)) fun _ s₂ O₂ => (hr a).run s₂ O₂.1) hs

theorem Ok.readP {s : Shared} (O : Ok f x s) {n : Str} {a : Addr} (h : At f.nm x.vs n (.ptr a)) {pos} : wpAny f.W.M f.A (eval (.Name n pos) f.env) (fun v s' => s' = s ∧ v = .ref a) No s := by
  obtain ⟨m, hns, hv⟩ := O.vars
  obtain ⟨i, e1, e2⟩ := h.get
  have l := hv i n _ e1 e2
  exact wpAny_Name (O.load hns l ⟨rfl, rfl⟩) (O.knd n (List.mem_of_getElem? e1)).1

theorem upd_PL {s : Shared} {a : Addr} {vs ws : List Value} {k : Nat} {g : Array Value → Array Value} (hp : PL s.heap a vs k) (hg : g vs.toArray = ws.toArray) : ∃ k', PL (s.heap.update a (Obj.mapSeq g)) a ws k' := by
  have := Heap.get?_update_self (Obj.mapSeq g) hp (by rfl)
  refine ⟨if (g vs.toArray).size == vs.toArray.size then k else k + 1, ?_⟩
  rw [PL, this, ← hg]
  rfl

theorem Ex.extend {n : Str} {p apos pos spos : Pos} {e : Expr} {rest : List Stmt} {a : Addr} {ds es : List PyData} {l' : List Res} {Q : Flow → Shared → Prop} (hat : At f.nm x.vs n (.ptr a)) (hl : LPut a ds (ds ++ es) x.led l')
    (h : Ev f x e (.list es)) (hn : ds.length + es.length ≤ sizeLine) (hr : Ex f { x with led := l' } rest Q)
    (hi : interactive f.env = false := by exact rfl) (hs : swapsWith (.Call (.Attribute (.Name n p) (Str.ofString "extend") apos) [e] [] pos) none spos.line f.env = pure false := by exact rfl)
    (hbase : attributeBase (.Name n p) (Str.ofString "extend") f.env (eval (.Name n p) f.env) = eval (.Name n p) f.env := by exact rfl)
    (hline : (apos.endLine == pos.line) = true := by exact rfl) (he : starEach [e] f.env = [(false, eval e f.env)] := by exact rfl) :
    Ex f x (.Expr (.Call (.Attribute (.Name n p) (Str.ofString "extend") apos) [e] [] pos) spos :: rest) Q := .cons fun s O =>
  wpAny_Expr_any (wpAny_Call_method hbase (by rw [he]; rfl) hline PySem.F.plainAttrs_list PySem.F.slot_list_extend PySem.F.type_list_extend (wpN (O.readP hat) fun v s₁ ⟨e1, e2⟩ => by
    subst e1 e2
    obtain ⟨⟨vs, k, hp, hd⟩, _⟩ := O.led _ hl.mem
    refine ⟨⟨_, hp, rfl⟩, fun b e => by cases e; exact ⟨_, hp, rfl⟩, ?_⟩
    rw [he]
    refine PySem.P.extend_list (wpN (h.run _ O) fun w s₂ ⟨k2, r2⟩ => ?_)
    have O₂ := O.step k2
    obtain ⟨⟨vs, k, hp, hd⟩, _⟩ := O₂.led _ hl.mem
    obtain ⟨b, ws, j, rfl, l1, l2⟩ := r2.list_inv
    have e1 := hd.length
    have e2 := l2.length
    refine ⟨b, vs.toArray, ws.toArray, k, j, by rw [List.size_toArray, e1]; omega, by rw [List.size_toArray, List.size_toArray, e1, e2]; omega, ?_, rfl, hp, (hid_iff.mp l1).1, ?_⟩
    · have : Builtin.List.listTooLong (vs.toArray.size + ws.toArray.size) = false := by
        unfold Builtin.List.listTooLong
        rw [List.size_toArray, List.size_toArray, e1, e2]
        simp; omega
      rw [this]; simp
    · obtain ⟨k', hp'⟩ := upd_PL (ws := vs ++ ws) (g := fun xs => xs ++ ws.toArray) hp (by simp)
      exact hr.run _ (O₂.mut hl (Heap.SameBut.update ..) hp' (hd.append l2)))) hi hs

theorem RdAll.dropLast {h : Heap} {vs : List Value} {ds : List PyData} (r : RdAll h vs ds) : RdAll h vs.dropLast ds.dropLast := by
  rw [List.dropLast_eq_take, List.dropLast_eq_take, r.length]; exact r.take _

theorem set_last {α : Type} : ∀ (vs : List α) (v : α), vs ≠ [] → vs.set (vs.length - 1) v = vs.dropLast ++ [v]
  | [], _, h => absurd rfl h
  | [a], v, _ => rfl
  | a :: b :: r, v, _ => by
    have := set_last (b :: r) v (by simp)
    simp only [List.length_cons, Nat.add_sub_cancel, List.dropLast_cons₂, List.cons_append] at this ⊢
    rw [List.set_cons_succ, this]
theorem setItem_last {W : Wd} {A : Around} {s : Shared} {l : Addr} {vs : List Value} {k : Nat} {t : Tok} {v : Value} {Q : Unit → Shared → Prop} (hp : PL s.heap l vs k) (hne : vs ≠ []) (hn : vs.length ≤ sizeLine)
    (hQ : Q () { s with heap := s.heap.update l (Obj.mapSeq (·.setIfInBounds (vs.length - 1) v)) }) : wpAny W.M A (setItem (.ref l) (.int (-1) t) v) Q No s := by
  have hl := hp.isList
  have hpos : 0 < vs.length := List.length_pos_iff.mpr hne
  rw [sizeLine_eq] at hn
  unfold setItem
  try with_reducible refine wpAny_holding ?_
  first | refine wpAny_bind (wpAny_pure ?_) | skip
  refine wpAny_bind (wpAny_sequenceKey hl.typeIs (by decide) ?_)
  refine wpAny_bind (wpAny_callSpecial?_slot (name := Str.ofString "__setitem__") hl.typeIs slot_list_setitem
    (wpAny_call_entry slot_list_setitem hl.typeIs entry_list_setitem ?_ (args_list_setitem _ _ _)))
  show wpAny _ _ (Builtin.List.listSubscript? (.int (-1) t) >>= _) _ _ s
  refine wpAny_bind (wpAny_listSubscript_int (fitsIndex_neg (by decide) (by decide)) ?_)
  have hidx := seqIndex_neg (k := -1) (n := vs.toArray.size) (by decide) (by rw [List.size_toArray]; omega)
  show wpAny _ _ ((Builtin.List.listItems (.ref l) >>= fun xs => pure ((seqIndex? (Int.negSucc 0) xs.size).bind fun i => xs[i]?.map (i, ·))) >>= _) _ _ s
  refine wpAny_bind (wpAny_bind ?_)
  show wpAny _ _ (seqItems? (.ref l) >>= _) _ _ s
  refine wpAny_bind (wpAny_seqItems hp rfl (wpAny_pure (wpAny_pure ?_)))
  rw [show (Int.negSucc 0) = -1 from rfl, hidx]
  have e : ((-1 : Int) + vs.toArray.size).toNat = vs.length - 1 := by rw [List.size_toArray]; omega
  have hx : vs.toArray[vs.length - 1]? = some vs[vs.length - 1] := by simp
  simp only [Option.bind_some, e, hx, Option.map_some]
  show wpAny _ _ (setSeqItemAt l (vs.length - 1) v >>= _) _ _ s
  refine wpAny_bind (wpAny_setSeqItemAt hp rfl ?_)
  first
    | exact wpAny_bind (wpAny_pure (wpAny_pure ⟨.none, rfl, wpAny_pure hQ⟩))
    | exact wpAny_pure ⟨.none, rfl, wpAny_pure hQ⟩

theorem Ex.setLast {n : Str} {p p1 p2 ps pos : Pos} {c : Nat} {e : Expr} {rest : List Stmt} {a : Addr} {ds : List PyData} {d : PyData} {l' : List Res} {Q : Flow → Shared → Prop} (hat : At f.nm x.vs n (.ptr a)) (hl : LPut a ds (ds.dropLast ++ [d]) x.led l')
    (h : Ev f x e d) (hne : ds ≠ []) (hn : ds.length ≤ sizeLine) (hr : Ex f { x with led := l' } rest Q)
    (hs : swapsWith e (some (.Subscript (.Name n p) (.UnaryOp .USub (.Constant (.int 1) c p1) p2) ps)) pos.line f.env = pure false := by exact rfl) :
    Ex f x (.Assign [.Subscript (.Name n p) (.UnaryOp .USub (.Constant (.int 1) c p1) p2) ps] e pos :: rest) Q := .cons fun s O =>
  wpAny_Assign_Subscript (wpN (h.run s O) fun v s₁ ⟨k1, r1⟩ => wpN ((O.step k1).readP hat) fun o s₂ ⟨e1, e2⟩ => by
    subst e1 e2
    have O₁ := O.step k1
    refine wpN ((Ev.neg (Ev.int (i := 1))).run _ O₁) fun i s₂ ⟨k2, r2⟩ => ?_
    obtain ⟨t, rfl⟩ := r2.int_inv
    have O₂ := O₁.step k2
    obtain ⟨⟨vs, k, hp, hd⟩, _⟩ := O₂.led _ hl.mem
    have e1 := hd.length
    have hv : vs ≠ [] := fun q => hne (by rw [q] at e1; exact List.length_eq_zero_iff.mp e1.symm)
    refine setItem_last hp hv (by rw [e1]; exact hn) ?_
    obtain ⟨k', hp'⟩ := upd_PL (ws := vs.dropLast ++ [v]) (g := fun xs => xs.setIfInBounds (vs.length - 1) v) hp (by
      apply Array.ext'
      have : 0 < vs.length := List.length_pos_iff.mpr hv
      rw [Array.toList_setIfInBounds]
      simp only []
      exact set_last vs v hv)
    exact hr.run _ (O₂.mut hl (Heap.SameBut.update ..) hp' (hd.dropLast.append (.one (r1.ext (hid_ext k2.ext)))))) hs
end
end Mine
end
section
open PySem PySem.W PyProof.Rows PySem.Spec
set_option Elab.async false
set_option linter.all false
set_option maxRecDepth 100000
namespace Mine

structure Itr (W : Wd) (tgt : Expr) (hz : Heap) (I : Addr) (fp : List Addr) (ds : List PyData) (St : Nat → Heap → Prop) : Prop where
  frame : ∀ k h h', St k h → (∀ b ∈ fp, ∀ o, h.get? b = some o → h'.get? b = some o) → St k h'
  live : ∀ k h, St k h → ∀ b ∈ fp, ∃ o, h.get? b = some o
  next : ∀ A k s bad d, A.handled = none → ds[k]? = some d → St k s.heap → (∀ b o, hz.get? b = some o → s.heap.get? b = some o ∧ b ∉ bad) → (∀ b ∈ fp, b ∈ bad) → (∀ b ∈ bad, ∃ o, s.heap.get? b = some o) →
    wpAny W.M A (pyNext (.ref I)) (fun r s₁ => ∃ v, r = some v ∧ wpAny W.M A (letOwnedTupleGo tgt (.ref I) v) (fun _ s' => ∃ h t, s' = { s with heap := h, toks := t } ∧
      (∀ b o, b ∉ fp → s.heap.get? b = some o → h.get? b = some o) ∧ St (k + 1) h ∧ Rd (hideAll h bad) v d) No s₁) No s
  stop : ∀ A s, A.handled = none → St ds.length s.heap → (∀ b o, hz.get? b = some o → s.heap.get? b = some o) →
    wpAny W.M A (pyNext (.ref I)) (fun r s' => ∃ h t, r = none ∧ s' = { s with heap := h, toks := t } ∧ (∀ b o, b ∉ fp → s.heap.get? b = some o → h.get? b = some o)) No s
  self : ∀ A k s, St k s.heap → wpAny W.M A (pyIter (.ref I)) (fun v s' => v = .ref I ∧ s' = s) No s

noncomputable def Iter (f : Fx) (x : Sx) (tgt e : Expr) (ds : List PyData) : Prop := Bx (∀ s, Ok f x s →
  wpAny f.W.M f.A (eval e f.env) (fun v s₁ => wpAny f.W.M f.A (pyIter v) (fun it s₂ => ∃ I fp St, it = .ref I ∧ Step s s₂ ∧ (∀ b ∈ fp, s.heap.get? b = none) ∧ fp.Nodup ∧
    Itr f.W tgt (hideAll s₂.heap (fp ++ x.bad)) I fp ds St ∧ St 0 s₂.heap) No s₁) No s)

section
variable {f : Fx} {x : Sx} {s : Shared}

theorem Ok.weakHz (O : Ok f x s) {hz : Heap} (k : Ext hz x.hz) : Ok f { x with hz := hz } s :=
  ⟨O.kind, O.glo, O.bui, O.room, O.wok, O.nd, O.knd, O.gk, O.cellF, O.cbB, O.same, fun b o e => O.hz b o (k b o e), O.live, O.locF, O.locB, O.cell, O.inj, O.led, O.ledNd, O.vars⟩
inductive Forget : List Slot → List Slot → Prop
  | nil {vs} : Forget vs []
  | keep {sl vs ws} : Forget vs ws → Forget (sl :: vs) (sl :: ws)
  | drop {sl vs ws} : Forget vs ws → Forget (sl :: vs) (.no :: ws)
theorem Forget.get {vs ws : List Slot} (h : Forget vs ws) : ∀ (i : Nat) sl, ws[i]? = some sl → sl = .no ∨ vs[i]? = some sl := by
  induction h with
  | nil => intro i sl e; simp at e
  | keep _ ih =>
    intro i sl e
    cases i with
    | zero => exact .inr e
    | succ i => exact ih i sl (by simpa using e)
  | drop _ ih =>
    intro i sl e
    cases i with
    | zero => simp at e; exact .inl e.symm
    | succ i => exact ih i sl (by simpa using e)
theorem Ok.forget (O : Ok f x s) {vs : List Slot} (h : Forget x.vs vs) : Ok f { x with vs := vs } s := by
  obtain ⟨m, a, b⟩ := O.vars
  refine ⟨O.kind, O.glo, O.bui, O.room, O.wok, O.nd, O.knd, O.gk, O.cellF, O.cbB, O.same, O.hz, O.live, O.locF, O.locB, O.cell, O.inj, O.led, O.ledNd, m, a, fun i n sl e1 e2 => ?_⟩
  rcases h.get i sl e2 with rfl | e
  · trivial
  · exact b i n sl e1 e
theorem fresh_base (O : Ok f x s) {b : Addr} (h : s.heap.get? b = none) : f.base.heap.get? b = none := by
  cases q : f.base.heap.get? b with
  | none => rfl
  | some o => have := O.same.ext b o q; rw [h] at this; cases this

theorem Ok.enter (O : Ok f x s) {s' : Shared} {fp : List Addr} {P : Heap → Prop} (k : Step s s') (hf : ∀ b ∈ fp, s.heap.get? b = none) (nd : fp.Nodup) (hp : P s'.heap)
    (hc : ∀ h h', P h → (∀ b ∈ fp, ∀ o, h.get? b = some o → h'.get? b = some o) → P h') (hl : ∀ b ∈ fp, ∃ o, s'.heap.get? b = some o) :
    Ok f ⟨hideAll s'.heap (fp ++ x.bad), fp ++ x.bad, .prd fp P :: x.led, x.vs⟩ s' := by
  have nl : ∀ {b : Addr}, (∃ o, s.heap.get? b = some o) → b ∉ fp := fun ⟨o, e⟩ m => by rw [hf _ m] at e; cases e
  have hx : Ext (hideAll s.heap x.bad) (hideAll s'.heap (fp ++ x.bad)) := fun b o e => by
    obtain ⟨e1, e2⟩ := hid_iff.mp e
    exact hid_iff.mpr ⟨k.ext b o e1, fun m => (List.mem_append.mp m).elim (nl ⟨o, e1⟩) e2⟩
  obtain ⟨m, hns, hv⟩ := O.vars
  refine ⟨O.kind, O.glo, O.bui, O.room, O.wok, O.nd, O.knd, O.gk, O.cellF, fun b hb => ⟨List.mem_append_right _ (O.cbB b hb).1, (O.cbB b hb).2⟩, O.same.trans k, fun b o e => hid_iff.mp e, fun b hb => ?_, O.locF,
    List.mem_append_right _ O.locB, fun n c e => ?_, O.inj, fun r hr => ?_, ?_, m, hns.keeps k.ext, fun i n sl e1 e2 => ?_⟩
  · rcases List.mem_append.mp hb with h | h
    · exact hl b h
    · obtain ⟨o, e⟩ := O.live b h; exact ⟨o, k.ext b o e⟩
  · obtain ⟨b1, b2, ov, b3⟩ := O.cell n c e; exact ⟨List.mem_append_right _ b1, b2, ov, b3.keeps k.ext⟩
  · rcases List.mem_cons.mp hr with rfl | hr
    · refine ⟨⟨hp, hc⟩, fun b hb => ⟨List.mem_append_left _ hb, fresh_base O (hf b hb), fun q => ?_, fun n e => ?_⟩⟩
      · exact nl (O.live _ O.locB) (q ▸ hb)
      · obtain ⟨_, _, ov, o, e', _⟩ := O.cell n b e; exact nl ⟨o, e'⟩ hb
    · obtain ⟨r1, r2⟩ := O.led r hr
      refine ⟨?_, fun b hb => ⟨List.mem_append_right _ (r2 b hb).1, (r2 b hb).2⟩⟩
      cases r with
      | lst c es => obtain ⟨vs', k', q1, q2⟩ := r1; exact ⟨vs', k', k.ext _ _ q1, q2.ext hx⟩
      | prd fp' P' => exact ⟨r1.2 _ _ r1.1 fun b _ o e => k.ext b o e, r1.2⟩
  · rw [List.flatMap_cons]
    refine List.nodup_append.mpr ⟨nd, O.ledNd, fun a ha b hb e => ?_⟩
    subst e
    obtain ⟨r, hr, hm⟩ := List.mem_flatMap.mp hb
    exact nl (O.live a ((O.led r hr).2 a hm).1) ha
  · have := hv i n sl e1 e2
    cases sl with
    | no => trivial
    | val d => obtain ⟨u, b1, b2⟩ := this; exact ⟨u, b1.ext k.ext, b2.ext hx⟩
    | is P => obtain ⟨u, b1, b2⟩ := this; exact ⟨u, b1.ext k.ext, b2⟩
    | ptr b => exact look.ext k.ext this

theorem Ok.prd {hz : Heap} {bad fp : List Addr} {led : List Res} {vs : List Slot} {P P' : Heap → Prop} (O : Ok f ⟨hz, bad, .prd fp P :: led, vs⟩ s) {h : Heap} {t : Nat} (hx : ∀ b o, b ∉ fp → s.heap.get? b = some o → h.get? b = some o)
    (hl : ∀ b ∈ fp, ∃ o, h.get? b = some o) (hp : P' h) (hc : ∀ h h', P' h → (∀ b ∈ fp, ∀ o, h.get? b = some o → h'.get? b = some o) → P' h') : Ok f ⟨hz, bad, .prd fp P' :: led, vs⟩ { s with heap := h, toks := t } := by
  obtain ⟨_, r2⟩ := O.led _ (.head _)
  have r2' : ∀ a ∈ fp, a ∈ bad ∧ f.base.heap.get? a = none ∧ a ≠ f.env.locals ∧ ∀ n, f.env.cells.lookup n ≠ some a := r2
  have hxb : Ext (hideAll s.heap bad) (hideAll h bad) := hid_but fun b o nb e => hx b o (fun m => nb (r2' b m).1) e
  obtain ⟨m, hns, hv⟩ := O.vars
  have nd := O.ledNd
  simp only [List.flatMap_cons] at nd
  refine ⟨O.kind, O.glo, O.bui, O.room, O.wok, O.nd, O.knd, O.gk, O.cellF, O.cbB, ?_, fun b o e => ?_, fun b hb => ?_, O.locF, O.locB, fun n c e => ?_, O.inj, fun r hr => ?_, ?_, m, ?_, fun i n sl e1 e2 => ?_⟩
  · obtain ⟨h0, t0, e, k⟩ := O.same
    subst e
    exact ⟨h, t, rfl, fun b o e => hx b o (fun q => by rw [(r2' b q).2.1] at e; cases e) (k b o e)⟩
  · obtain ⟨e1, e2⟩ := O.hz b o e; exact ⟨hx b o (fun q => e2 (r2' b q).1) e1, e2⟩
  · by_cases q : b ∈ fp
    · exact hl b q
    · obtain ⟨o, e⟩ := O.live b hb; exact ⟨o, hx b o q e⟩
  · obtain ⟨b1, b2, ov, o, b3, b4⟩ := O.cell n c e; exact ⟨b1, b2, ov, o, hx c o (fun q => (r2' c q).2.2.2 n e) b3, b4⟩
  · rcases List.mem_cons.mp hr with rfl | hr
    · exact ⟨⟨hp, hc⟩, r2⟩
    · obtain ⟨r1, r3⟩ := O.led r (.tail _ hr)
      have dis : ∀ b ∈ r.fp, b ∉ fp := fun b hb q => (List.nodup_append.mp nd).2.2 b q b (List.mem_flatMap.mpr ⟨r, hr, hb⟩) rfl
      refine ⟨?_, r3⟩
      cases r with
      | lst c es => obtain ⟨vs', k', q1, q2⟩ := r1; exact ⟨vs', k', hx _ _ (dis c (.head _)) q1, q2.ext hxb⟩
      | prd fp' P'' => exact ⟨r1.2 _ _ r1.1 fun b hb o e => hx b o (dis b hb) e, r1.2⟩
  · simp only [List.flatMap_cons]; exact nd
  · obtain ⟨o, es, ep, e, r⟩ := hns
    exact ⟨o, es, ep, hx _ _ (fun q => (r2' _ q).2.2.1 rfl) e, r⟩
  · have lk : ∀ {u : Value}, look f.env s.heap m n u → look f.env h m n u := by
      intro u e
      rcases e with ⟨e1, e2⟩ | ⟨e1, c, e2, o, e3, e4⟩
      · exact .inl ⟨e1, e2⟩
      · exact .inr ⟨e1, c, e2, o, hx c o (fun q => (r2' c q).2.2.2 n e2) e3, e4⟩
    have := hv i n sl e1 e2
    cases sl with
    | no => trivial
    | val d => obtain ⟨u, b1, b2⟩ := this; exact ⟨u, lk b1, b2.ext hxb⟩
    | is P => obtain ⟨u, b1, b2⟩ := this; exact ⟨u, lk b1, b2⟩
    | ptr b => exact lk this

theorem Ok.leave {hz : Heap} {bad fp : List Addr} {led : List Res} {vs : List Slot} {P : Heap → Prop} (O : Ok f ⟨hz, bad, .prd fp P :: led, vs⟩ s) {h : Heap} {t : Nat} (hx : ∀ b o, b ∉ fp → s.heap.get? b = some o → h.get? b = some o) :
    Ok f ⟨hz, bad.filter (fun b => !fp.contains b), led, vs⟩ { s with heap := h, toks := t } := by
  obtain ⟨_, r2⟩ := O.led _ (.head _)
  have r2' : ∀ a ∈ fp, a ∈ bad ∧ f.base.heap.get? a = none ∧ a ≠ f.env.locals ∧ ∀ n, f.env.cells.lookup n ≠ some a := r2
  have hb : ∀ b, b ∈ bad.filter (fun b => !fp.contains b) ↔ b ∈ bad ∧ b ∉ fp := fun b => by simp [List.mem_filter]
  have hxb : Ext (hideAll s.heap bad) (hideAll h (bad.filter fun b => !fp.contains b)) := fun b o e => by
    obtain ⟨e1, e2⟩ := hid_iff.mp e
    exact hid_iff.mpr ⟨hx b o (fun m => e2 (r2' b m).1) e1, fun m => e2 ((hb b).mp m).1⟩
  obtain ⟨m, hns, hv⟩ := O.vars
  have nd := O.ledNd
  simp only [List.flatMap_cons] at nd
  refine ⟨O.kind, O.glo, O.bui, O.room, O.wok, O.nd, O.knd, O.gk, O.cellF, fun b hm => ⟨(hb b).mpr ⟨(O.cbB b hm).1, fun q => ?_⟩, (O.cbB b hm).2⟩, ?_, fun b o e => ?_, fun b hm => ?_, O.locF, (hb _).mpr ⟨O.locB, fun q => (r2' _ q).2.2.1 rfl⟩, fun n c e => ?_, O.inj, fun r hr => ?_, (List.nodup_append.mp nd).2.1, m, ?_, fun i n sl e1 e2 => ?_⟩
  · obtain ⟨o, e⟩ := (O.cbB b hm).2; rw [(r2' b q).2.1] at e; cases e
  · obtain ⟨h0, t0, e, k⟩ := O.same
    subst e
    exact ⟨h, t, rfl, fun b o e => hx b o (fun q => by rw [(r2' b q).2.1] at e; cases e) (k b o e)⟩
  · obtain ⟨e1, e2⟩ := O.hz b o e; exact ⟨hx b o (fun q => e2 (r2' b q).1) e1, fun m => e2 ((hb b).mp m).1⟩
  · obtain ⟨q1, q2⟩ := (hb b).mp hm
    obtain ⟨o, e⟩ := O.live b q1; exact ⟨o, hx b o q2 e⟩
  · obtain ⟨b1, b2, ov, o, b3, b4⟩ := O.cell n c e
    have nq : c ∉ fp := fun q => (r2' c q).2.2.2 n e
    exact ⟨(hb c).mpr ⟨b1, nq⟩, b2, ov, o, hx c o nq b3, b4⟩
  · obtain ⟨r1, r3⟩ := O.led r (.tail _ hr)
    have dis : ∀ b ∈ r.fp, b ∉ fp := fun b hb q => (List.nodup_append.mp nd).2.2 b q b (List.mem_flatMap.mpr ⟨r, hr, hb⟩) rfl
    refine ⟨?_, fun b hm => ⟨(hb b).mpr ⟨(r3 b hm).1, dis b hm⟩, (r3 b hm).2⟩⟩
    cases r with
    | lst c es => obtain ⟨vs', k', q1, q2⟩ := r1; exact ⟨vs', k', hx _ _ (dis c (.head _)) q1, q2.ext hxb⟩
    | prd fp' P'' => exact ⟨r1.2 _ _ r1.1 fun b hb o e => hx b o (dis b hb) e, r1.2⟩
  · obtain ⟨o, es, ep, e, r⟩ := hns
    exact ⟨o, es, ep, hx _ _ (fun q => (r2' _ q).2.2.1 rfl) e, r⟩
  · have lk : ∀ {u : Value}, look f.env s.heap m n u → look f.env h m n u := by
      intro u e
      rcases e with ⟨e1, e2⟩ | ⟨e1, c, e2, o, e3, e4⟩
      · exact .inl ⟨e1, e2⟩
      · exact .inr ⟨e1, c, e2, o, hx c o (fun q => (r2' c q).2.2.2 n e2) e3, e4⟩
    have := hv i n sl e1 e2
    cases sl with
    | no => trivial
    | val d => obtain ⟨u, b1, b2⟩ := this; exact ⟨u, lk b1, b2.ext hxb⟩
    | is P => obtain ⟨u, b1, b2⟩ := this; exact ⟨u, lk b1, b2⟩
    | ptr b => exact lk this

inductive Tgt (nm : List Str) (vs : List Slot) : Expr → PyData → List Str → List Slot → Prop
  | name {n p d vs'} : Put nm vs n (.val d) vs' → Tgt nm vs (.Name n p) d [n] vs'
  | names {es ns d ds k p vs'} : Names es ns → (d = .list ds ∨ d = .tuple ds) → Puts nm vs ns ds vs' → Tgt nm vs (.Tuple es k p) d ns vs'
theorem Tgt.ok {tgt : Expr} {d : PyData} {ns : List Str} {vs' : List Slot} {v : Value} (h : Tgt f.nm x.vs tgt d ns vs') (O : Ok f x s) (r : Rd (hideAll s.heap x.bad) v d) (hc : ∀ n ∈ ns, n ∈ f.sto) :
    wpAny f.W.M f.A (assign tgt f.env v) (fun _ s' => Ok f { x with vs := vs' } s') No s := by
  cases h with
  | name put => exact wpAny_assign_Name (wpN (O.store put r (hc _ (.head _))) fun _ s' h => h.1)
  | names hn hd put => exact unpackNames hn O hd r put hc
end
end Mine
end
section
open PySem PySem.W PyProof.Rows PySem.Spec
set_option Elab.async false
set_option linter.all false
set_option maxRecDepth 100000
namespace Mine

section
variable {f : Fx} {x : Sx}

theorem Ex.for {tgt e : Expr} {body rest : List Stmt} {pos : Pos} {ds : List PyData} {ns : List Str} {Q : Flow → Shared → Prop} (h : Iter f x tgt e ds) (J : Nat → List Slot → List Res → Prop) (D : List Slot → List Res → Prop)
    (h0 : J 0 x.vs x.led)
    (turn : ∀ k d vs led hz bad fp P, ds[k]? = some d → J k vs led → ∃ vs', Tgt f.nm vs tgt d ns vs' ∧ Ex f ⟨hz, bad, .prd fp P :: led, vs'⟩ body (fun fl s' => match fl with
      | .next | .cont => ∃ bad' vs'' led', J (k + 1) vs'' led' ∧ Ok f ⟨hz, bad', .prd fp P :: led', vs''⟩ s'
      | .brk => ∃ bad' vs'' led', D vs'' led' ∧ Ok f ⟨hz, bad', .prd fp P :: led', vs''⟩ s'
      | .ret v => Q (.ret v) s'))
    (stop : ∀ vs led, J ds.length vs led → D vs led)
    (after : ∀ vs led bad, D vs led → Ex f ⟨x.hz, bad, led, vs⟩ rest Q)
    (hns : ∀ n ∈ ns, n ∈ f.sto)
    (hs : ∀ v, foldedSetIterable e f.env v = pure v := by intro _; rfl) : Ex f x (.For tgt e body [] pos :: rest) Q := .cons fun s O =>
  wpAny_For (wpN (h.run s O) fun v s₁ h => wpN h fun it s₂ ⟨I, fp, St, e1, k, hf, nd, T, st0⟩ => by
    subst e1
    have O₂ := O.enter (P := St 0) k hf nd st0 (fun h h' a b => T.frame 0 h h' a b) (T.live 0 _ st0)
    have zsub : Ext x.hz (hideAll s₂.heap (fp ++ x.bad)) := fun b o e => by
      obtain ⟨e1, e2⟩ := O.hz b o e
      exact hid_iff.mpr ⟨k.ext b o e1, fun m => (List.mem_append.mp m).elim (fun m => by rw [hf b m] at e1; cases e1) e2⟩
    -- the loop
    refine codeAny_loop' rfl (fun n s' => ∃ i bad vs led, i ≤ ds.length ∧ n = ds.length - i ∧ J i vs led ∧ Ok f ⟨hideAll s₂.heap (fp ++ x.bad), bad, .prd fp (St i) :: led, vs⟩ s') ?_ ds.length
      ⟨0, fp ++ x.bad, x.vs, x.led, Nat.zero_le _, rfl, h0, O₂⟩
    rintro n s' ⟨i, bad, vs, led, hi, rfl, hJ, O'⟩
    show wpAny _ _ ((forTurn tgt (.ref I) body [] f.env).onRaise (fun x => do noteFrame x f.env; theTreesLotGoes x)) _ _ s'
    refine wpAny_noted ?_
    simp only [forTurn]
    have fpb : ∀ b ∈ fp, b ∈ bad := fun b hb => ((O'.led _ (.head _)).2 b hb).1
    refine wpAny_bind (wpAny_standAt (wpAny_bind (wpAny_onRaise ?_)))
    cases hd : ds[i]? with
    | none =>
      have hlen : i = ds.length := by have := List.getElem?_eq_none_iff.mp hd; omega
      subst hlen
      refine wpE (T.stop f.A s' O'.room.hd (O'.led _ (.head _)).1.1 fun b o e => (O'.hz b o e).1) fun r s₃ ⟨h', t', e1, e2, hx⟩ => ?_
      subst e1 e2
      refine wpAny_pure (.inr ⟨rfl, codeAny_block ?_⟩)
      exact wpAny_execs_nil ((after vs led _ (stop vs led hJ)).run _ ((O'.leave hx).weakHz zsub))
    | some d =>
      have hlt : i < ds.length := (List.getElem?_eq_some_iff.mp hd).1
      refine wpE (T.next f.A i s' bad d O'.room.hd hd (O'.led _ (.head _)).1.1 (fun b o e => O'.hz b o e) fpb O'.live) fun r s₃ ⟨v, e1, hg⟩ => ?_
      subst e1
      refine wpAny_bind (wpE hg fun _ s₄ ⟨h', t', e2, hx, hst, hr⟩ => ?_)
      subst e2
      obtain ⟨vs', tg, hb⟩ := turn i d vs led (hideAll s₂.heap (fp ++ x.bad)) bad fp (St (i + 1)) hd hJ
      have O₄ := O'.prd (h := h') (t := t') hx (T.live _ _ hst) hst (T.frame (i + 1))
      refine wpAny_bind (wpE (tg.ok (x := ⟨_, bad, _, vs⟩) O₄ hr hns) fun _ s₅ O₅ => ?_)
      refine wpAny_bind (wpE (hb.run s₅ O₅) fun fl s₆ hfl => ?_)
      cases fl with
      | next => obtain ⟨bad', vs'', led', j1, j2⟩ := hfl; exact wpAny_pure (.inl ⟨rfl, _, by omega, i + 1, bad', vs'', led', by omega, rfl, j1, j2⟩)
      | cont => obtain ⟨bad', vs'', led', j1, j2⟩ := hfl; exact wpAny_pure (.inl ⟨rfl, _, by omega, i + 1, bad', vs'', led', by omega, rfl, j1, j2⟩)
      | brk =>
        obtain ⟨bad', vs'', led', j1, j2⟩ := hfl
        exact wpAny_pure ((after vs'' led' _ j1).run _ ((j2.leave (h := s₆.heap) (t := s₆.toks) fun _ _ _ e => e).weakHz zsub))
      | ret u => exact wpAny_pure hfl) hs

theorem Ex.while {t : Expr} {body rest : List Stmt} {pos : Pos} {Q : Flow → Shared → Prop} (J : Nat → Sx → Prop) (D : Sx → Prop) (n : Nat) (h0 : J n x)
    (turn : ∀ n y, J n y → ∃ c, Tst f y t c ∧ (c = false → D y) ∧ (c = true → Ex f y body (fun fl s' => match fl with
      | .next | .cont => ∃ m y', m < n ∧ J m y' ∧ Ok f y' s'
      | .brk => ∃ y', D y' ∧ Ok f y' s'
      | .ret v => Q (.ret v) s')))
    (after : ∀ y, D y → Ex f y rest Q) : Ex f x (.While t body [] pos :: rest) Q := .cons fun s O =>
  wpAny_While (codeAny_whileLoop (fun n s' => ∃ y, J n y ∧ Ok f y s') (by
    rintro n s' ⟨y, hJ, O'⟩
    obtain ⟨c, ht, hf, hb⟩ := turn n y hJ
    refine wpE (ht.run s' O') fun u s₁ ⟨k, e⟩ => ?_
    subst e
    have O₁ := O'.step k
    cases u with
    | false => 
      simp only [Bool.false_eq_true, if_false]
      exact wpAny_execs_nil ((after y (hf rfl)).run s₁ O₁)
    | true =>
      simp only [if_true]
      refine wpE ((hb rfl).run s₁ O₁) fun fl s₂ h => ?_
      cases fl with
      | next => obtain ⟨m, y', a, b, c⟩ := h; exact ⟨m, a, y', b, c⟩
      | cont => obtain ⟨m, y', a, b, c⟩ := h; exact ⟨m, a, y', b, c⟩
      | brk => obtain ⟨y', a, b⟩ := h; exact (after y' a).run s₂ b
      | ret v => exact h) n ⟨x, h0, O⟩)
end
end Mine
end
section
open PySem PySem.W PyProof.Rows PySem.Spec
set_option Elab.async false
set_option linter.all false
set_option maxRecDepth 100000
namespace Mine

theorem szN {h : Heap} {a : Nat} {o : Obj} (e : h.get? a = some o) : @LT.lt Nat _ a h.objs.size := Heap.lt_size e
theorem letGo_plain {W : Wd} {A : Around} {s : Shared} {tgt : Expr} {I : Addr} {o : Obj} {T : String} {v : Value} {Q : Unit → Shared → Prop} (ho : s.heap.get? I = some o) (hc : o.cls = .type T)
    (hT : (["enumerate", "zip", "dict_itemiterator", "dict_reverseitemiterator", "odict_iterator", "itertools.zip_longest", "itertools.pairwise"].contains T) = false) (h : Q () s) : wpAny W.M A (letOwnedTupleGo tgt (.ref I) v) Q No s := by
  have key : ∀ a, wpAny W.M A (do
      let o ← load I
      match o.cls, o.data with
      | .type n, .fields vs =>
        if ["enumerate", "zip", "dict_itemiterator", "dict_reverseitemiterator", "odict_iterator", "itertools.zip_longest", "itertools.pairwise"].contains n && vs[0]? == some (rawInt a) then do
          rule "for.unpacks-the-owned-tuple"
          updateField I 0 .none
        else pure ()
      | _, _ => pure ()) Q No s := by
    intro a
    refine wpAny_bind (wpAny_load ho ?_)
    rw [hc]
    cases o.data with
    | fields vs =>
      show wpAny _ _ (if (_ && _) = true then _ else _) _ _ _
      rw [hT]
      exact wpAny_pure h
    | _ => exact wpAny_pure h
  cases tgt with
  | Tuple => cases v with
    | ref a => exact key a
    | _ => exact wpAny_pure h
  | List => cases v with
    | ref a => exact key a
    | _ => exact wpAny_pure h
  | _ => exact wpAny_pure h

section
variable {f : Fx} {x : Sx}

theorem Iter.list {tgt e : Expr} {ds : List PyData} (h : Ev f x e (.list ds)) : Iter f x tgt e ds := .bx fun s O =>
  wpN (h.run s O) fun v s₁ ⟨k, r⟩ => by
    obtain ⟨l, vs, n, rfl, hl, hr⟩ := r.list_inv
    have hl' : PL s₁.heap l vs n := (hid_iff.mp hl).1
    have O₁ := O.step k
    refine wpAny_pyIter_list hl'.isList ?_
    have kk := k.trans (.mkh (ext_push { cls := .type "list_iterator", data := .fields #[.ref l, .int 0 0] }))
    have lI : l ≠ s₁.heap.objs.size := Nat.ne_of_lt (Heap.lt_size hl')
    refine ⟨s₁.heap.objs.size, [s₁.heap.objs.size], fun i h => h.IsListIter s₁.heap.objs.size l i, rfl, kk, ?_, by simp, ?_, ⟨_, Heap.get?_push_size _ rfl, rfl, rfl⟩⟩
    · intro b hb
      rw [List.mem_singleton.mp hb]
      cases q : s.heap.get? s₁.heap.objs.size with
      | none => rfl
      | some o => exact absurd (Heap.lt_size (k.ext _ o q)) (Nat.lt_irrefl _)
    · have hz : ∀ b o, (hideAll s₁.heap x.bad).get? b = some o → (hideAll (s₁.heap.push { cls := .type "list_iterator", data := .fields #[.ref l, .int 0 0] }) ([s₁.heap.objs.size] ++ x.bad)).get? b = some o := fun b o e => by
        obtain ⟨e1, e2⟩ := hid_iff.mp e
        refine hid_iff.mpr ⟨ext_push _ b o e1, fun m => ?_⟩
        rcases List.mem_append.mp m with q | q
        · rw [List.mem_singleton.mp q] at e1; exact Nat.lt_irrefl _ (Heap.lt_size e1)
        · exact e2 q
      refine ⟨fun k h h' a b => a.at fun o e => b _ (.head _) o e, fun k h a b hb => ?_, ?_, ?_, ?_⟩
      · rw [List.mem_singleton.mp hb]; obtain ⟨o, e, _⟩ := a; exact ⟨o, e⟩
      · intro A k s' bad d hA hd hst hzb hfp hlv
        obtain ⟨u, hu, ru⟩ := hr.get hd
        have hl₂ : PL s'.heap l vs n := (hzb _ _ (hz _ _ hl)).1
        refine wpAny_pyNext_list_item hst hl₂.isList (x := u) (by simpa using hu) fun h' hit' hs' => ⟨u, rfl, ?_⟩
        obtain ⟨o, eo, ec, _⟩ := id hit'
        refine letGo_plain eo ec (by decide +kernel) ⟨h', s'.toks, rfl, fun b o nb e => (hs'.2 b fun q => nb (by simp [q])).trans e, hit', ?_⟩
        refine (ru.ext hz).ext fun b o e => ?_
        obtain ⟨e1, e2⟩ := hzb b o e
        exact hid_iff.mpr ⟨(hs'.2 b fun q => e2 (q ▸ hfp _ (.head _))).trans e1, e2⟩
      · intro A s' hA hst hzb
        have hl₂ : PL s'.heap l vs n := hzb _ _ (hz _ _ hl)
        refine wpAny_pyNext_list_end hA hst hl₂.isList (by simp [hr.length]) fun h' he' => ⟨h', s'.toks, rfl, rfl, fun b o nb e => he' b o (fun q => nb (by simp [q])) e⟩
      · intro A k s' hst
        exact wpAny_pyIter_listiter hst ⟨rfl, rfl⟩

theorem Iter.tuple {tgt e : Expr} {ds : List PyData} (h : Ev f x e (.tuple ds)) : Iter f x tgt e ds := .bx fun s O =>
  wpN (h.run s O) fun v s₁ ⟨k, r⟩ => by
    obtain ⟨l, vs, n, rfl, hl, hr⟩ := r.tuple_inv
    have hl' : PT s₁.heap l vs n := (hid_iff.mp hl).1
    have O₁ := O.step k
    refine iter_tuple hl'.isTup ?_
    have kk := k.trans (.mkh (ext_push { cls := .type "tuple_iterator", data := .fields #[.ref l, .int 0 0] }))
    have lI : l ≠ s₁.heap.objs.size := Nat.ne_of_lt (Heap.lt_size hl')
    refine ⟨s₁.heap.objs.size, [s₁.heap.objs.size], fun i h => IsTupIter h s₁.heap.objs.size l i, rfl, kk, ?_, by simp, ?_, ⟨_, Heap.get?_push_size _ rfl, rfl, rfl⟩⟩
    · intro b hb
      rw [List.mem_singleton.mp hb]
      cases q : s.heap.get? s₁.heap.objs.size with
      | none => rfl
      | some o => exact absurd (Heap.lt_size (k.ext _ o q)) (Nat.lt_irrefl _)
    · have hz : ∀ b o, (hideAll s₁.heap x.bad).get? b = some o → (hideAll (s₁.heap.push { cls := .type "tuple_iterator", data := .fields #[.ref l, .int 0 0] }) ([s₁.heap.objs.size] ++ x.bad)).get? b = some o := fun b o e => by
        obtain ⟨e1, e2⟩ := hid_iff.mp e
        refine hid_iff.mpr ⟨ext_push _ b o e1, fun m => ?_⟩
        rcases List.mem_append.mp m with q | q
        · rw [List.mem_singleton.mp q] at e1; exact Nat.lt_irrefl _ (Heap.lt_size e1)
        · exact e2 q
      refine ⟨fun k h h' a b => ?_, fun k h a b hb => ?_, ?_, ?_, ?_⟩
      · obtain ⟨o, e, r⟩ := a; exact ⟨o, b _ (.head _) o e, r⟩
      · rw [List.mem_singleton.mp hb]; obtain ⟨o, e, _⟩ := a; exact ⟨o, e⟩
      · intro A k s' bad d hA hd hst hzb hfp hlv
        obtain ⟨u, hu, ru⟩ := hr.get hd
        have hl₂ : PT s'.heap l vs n := (hzb _ _ (hz _ _ hl)).1
        refine next_tuple_item hst hl₂.isTup (x := u) (by simpa using hu) fun h' hit' hs' => ⟨u, rfl, ?_⟩
        obtain ⟨o, eo, ec, _⟩ := id hit'
        refine letGo_plain eo ec (by decide +kernel) ⟨h', s'.toks, rfl, fun b o nb e => (hs'.2 b fun q => nb (by simp [q])).trans e, hit', ?_⟩
        refine (ru.ext hz).ext fun b o e => ?_
        obtain ⟨e1, e2⟩ := hzb b o e
        exact hid_iff.mpr ⟨(hs'.2 b fun q => e2 (q ▸ hfp _ (.head _))).trans e1, e2⟩
      · intro A s' hA hst hzb
        have hl₂ : PT s'.heap l vs n := hzb _ _ (hz _ _ hl)
        refine next_tuple_end hA hst hl₂.isTup (by simp [hr.length]) fun h' he' => ⟨h', s'.toks, rfl, rfl, fun b o nb e => he' b o (fun q => nb (by simp [q])) e⟩
      · intro A k s' hst
        exact wpAny_pyIter_tupleiter hst ⟨rfl, rfl⟩

noncomputable def EvR (f : Fx) (x : Sx) (e : Expr) (a b c : Int) : Prop := Bx (∀ s, Ok f x s →
  wpAny f.W.M f.A (eval e f.env) (fun v s' => Step s s' ∧ ∃ r t u w, v = .ref r ∧ IsRange s'.heap r a b c t u w) No s)
noncomputable def rng (a c : Int) (n : Nat) : List PyData := (List.range n).map fun i : Nat => .int (a + (i : Int) * c)
theorem rng_get {a c : Int} {n i : Nat} {d : PyData} (h : (rng a c n)[i]? = some d) : i < n ∧ d = .int (a + i * c) := by
  unfold rng at h
  rw [List.getElem?_map] at h
  cases q : (List.range n)[i]? with
  | none => rw [q] at h; cases h
  | some j =>
    rw [q] at h
    obtain ⟨h1, h2⟩ := List.getElem?_eq_some_iff.mp q
    simp at h1 h2 h
    subst h2; exact ⟨h1, h.symm⟩
theorem rng_len {a c : Int} {n : Nat} : (rng a c n).length = n := by simp [rng]

theorem EvR.one {n : Str} {p pos} {e : Expr} {b : Int} (hc : EvP f x (.Name n p) fun _ u => u = .type "range") (h : Ev f x e (.int b))
    (he : starEach [e] f.env = [(false, eval e f.env)] := by exact rfl) : EvR f x (.Call (.Name n p) [e] [] pos) 0 b 1 := .bx fun s O =>
  PyProof.Rows.Call_Name rfl (wpN (hc.run s O) fun u s₁ ⟨k1, e1⟩ => by
    subst e1
    refine PyProof.Rows.callWith_type1 (wpN ((EvL.cons h .nil he).run s₁ pos (O.step k1)) fun vs s₂ ⟨k2, r⟩ => ?_) he rfl
    obtain ⟨v, vs, rfl, r1, r2⟩ := r.cons_inv
    rw [r2.nil_inv]
    obtain ⟨t, rfl⟩ := r1.int_inv
    exact call_range_1 ⟨(k1.trans k2).trans (.mk' (ext_push _)), _, _, _, _, rfl, IsRange.new ..⟩)
theorem EvR.three {n : Str} {p pos} {e1 e2 e3 : Expr} {a b c : Int} (hc : EvP f x (.Name n p) fun _ u => u = .type "range") (h1 : Ev f x e1 (.int a)) (h2 : Ev f x e2 (.int b)) (h3 : Ev f x e3 (.int c)) (h0 : c ≠ 0) (hl : c.natAbs.log2 < 9000)
    (he : starEach [e1, e2, e3] f.env = [(false, eval e1 f.env), (false, eval e2 f.env), (false, eval e3 f.env)] := by exact rfl) (he2 : starEach [e2, e3] f.env = [(false, eval e2 f.env), (false, eval e3 f.env)] := by exact rfl) (he3 : starEach [e3] f.env = [(false, eval e3 f.env)] := by exact rfl) : EvR f x (.Call (.Name n p) [e1, e2, e3] [] pos) a b c := .bx fun s O =>
  PyProof.Rows.Call_Name rfl (wpN (hc.run s O) fun u s₁ ⟨k1, e1⟩ => by
    subst e1
    refine PyProof.Rows.callWith_type1 (wpN ((EvL.cons h1 (.cons h2 (.cons h3 .nil he3) (by rw [he2, he3])) (by rw [he, he2])).run s₁ pos (O.step k1)) fun vs s₂ ⟨k2, r⟩ => ?_) (by rw [he, he2]) (by rw [he2]; rfl)
    obtain ⟨v, vs, rfl, r1, r2⟩ := r.cons_inv
    obtain ⟨v2, vs, rfl, r3, r4⟩ := r2.cons_inv
    obtain ⟨v3, vs, rfl, r5, r6⟩ := r4.cons_inv
    rw [r6.nil_inv]
    obtain ⟨t, rfl⟩ := r1.int_inv
    obtain ⟨t2, rfl⟩ := r3.int_inv
    obtain ⟨t3, rfl⟩ := r5.int_inv
    exact call_range_3 h0 ⟨(k1.trans k2).trans (.mk' (ext_push _)), _, _, _, _, rfl, IsRange.new ..⟩ (.inl (PyProof.noPylong_of_log2 hl)))

theorem Iter.range {tgt e : Expr} {a b c : Int} {n : Nat} (h : EvR f x e a b c) (hsm : Builtin.Range.small a b c = true) (hn : Builtin.Range.rangeSize a b c = n) : Iter f x tgt e (rng a c n) := .bx fun s O =>
  wpN (h.run s O) fun v s₁ ⟨k, r, t, u, w, e, hr⟩ => by
    subst e
    refine wpAny_pyIter_range hr hsm ?_
    have kk := k.trans (.mkh (ext_push { cls := .type "range_iterator", data := .fields #[rawInt a, rawInt (Builtin.Range.rangeSize a b c), rawInt c] }))
    refine ⟨s₁.heap.objs.size, [s₁.heap.objs.size], fun i h => IsRangeIter h s₁.heap.objs.size (a + i * c) (n - i) c, rfl, kk, ?_, by simp, ?_, ?_⟩
    · intro b' hb
      rw [List.mem_singleton.mp hb]
      cases q : s.heap.get? s₁.heap.objs.size with
      | none => rfl
      | some o => exact absurd (Heap.lt_size (k.ext _ o q)) (Nat.lt_irrefl _)
    · refine ⟨fun k h h' a b => b _ (.head _) _ a, fun k h a b hb => ?_, ?_, ?_, ?_⟩
      · rw [List.mem_singleton.mp hb]; exact ⟨_, a⟩
      · intro A k s' bad d hA hd hst hzb hfp hlv
        obtain ⟨hk, rfl⟩ := rng_get hd
        refine wpAny_pyNext_range_item hst (by omega) fun h' hit' hs' => ⟨_, rfl, ?_⟩
        refine letGo_plain hit' rfl (by decide +kernel) ⟨h', s'.toks + 1, rfl, fun b o nb e => (hs'.2 b fun q => nb (by simp [q])).trans e, ?_, .int _ _⟩
        have e1 : a + (k : Int) * c + c = a + ((k + 1 : Nat) : Int) * c := by rw [Int.natCast_add, Int.add_mul]; omega
        have e2 : ((n : Int) - k) - 1 = n - ((k + 1 : Nat) : Int) := by omega
        rw [e1, e2] at hit'
        exact hit'
      · intro A s' hA hst hzb
        rw [rng_len] at hst
        refine wpAny_pyNext_range_end hA hst (by omega) fun h' he' => ⟨h', s'.toks, rfl, rfl, fun b o nb e => he' b o (fun q => nb (by simp [q])) e⟩
      · intro A k s' hst
        exact wpAny_pyIter_rangeiter hst ⟨rfl, rfl⟩
    · have : IsRangeIter (s₁.heap.push { cls := .type "range_iterator", data := .fields #[rawInt a, rawInt (Builtin.Range.rangeSize a b c), rawInt c] }) s₁.heap.objs.size a (Builtin.Range.rangeSize a b c) c := Heap.get?_push_size _ rfl
      show IsRangeIter _ _ (a + (0 : Nat) * c) ((n : Int) - (0 : Nat)) c
      rw [show a + ((0 : Nat) : Int) * c = a by simp, show (n : Int) - ((0 : Nat) : Int) = Builtin.Range.rangeSize a b c by rw [hn]; simp]
      exact this

noncomputable def enum (ds : List PyData) : List PyData := ds.zipIdx.map fun p => .tuple [.int p.2, p.1]
theorem enum_get {ds : List PyData} {i : Nat} {d : PyData} (h : (enum ds)[i]? = some d) : ∃ e, ds[i]? = some e ∧ d = .tuple [.int i, e] := by
  unfold enum at h
  rw [List.getElem?_map, List.getElem?_zipIdx] at h
  cases q : ds[i]? with
  | none => rw [q] at h; cases h
  | some e => rw [q] at h; simp at h; exact ⟨e, rfl, h.symm⟩
theorem Iter.enum {es : List Expr} {k0 : Nat} {tp : Pos} {n : Str} {p pos} {e : Expr} {ds : List PyData} (hc : EvP f x (.Name n p) fun _ u => u = .type "enumerate") (h : Ev f x e (.list ds))
    (he : starEach [e] f.env = [(false, eval e f.env)] := by exact rfl) : Iter f x (.Tuple es k0 tp) (.Call (.Name n p) [e] [] pos) (enum ds) := .bx fun s O =>
  PyProof.Rows.Call_Name rfl (wpN (hc.run s O) fun u s₁ ⟨k1, e1⟩ => by
    subst e1
    refine PyProof.Rows.callWith_type1 (wpN ((EvL.cons h .nil he).run s₁ pos (O.step k1)) fun vs s₂ ⟨k2, r⟩ => ?_) he rfl
    obtain ⟨v, vs, rfl, r1, r2⟩ := r.cons_inv
    rw [r2.nil_inv]
    obtain ⟨l, vs, n, rfl, hl, hr⟩ := r1.list_inv
    have hl' : PL s₂.heap l vs n := (hid_iff.mp hl).1
    refine call_enumerate_list hl'.isList fun h₁ hen hit hsz hk => ?_
    refine wpAny_pyIter_enum hen ?_
    have k3 := k1.trans k2
    have kk : Step s { s₂ with heap := h₁ } := k3.trans (.mkh hk)
    have fr : ∀ j, s.heap.get? (s₂.heap.objs.size + j) = none := fun j => by
      cases q : s.heap.get? (s₂.heap.objs.size + j) with
      | none => rfl
      | some o => have := szN (k3.ext _ o q); omega
    generalize hE : s₂.heap.objs.size + 1 = en at *
    generalize hI : s₂.heap.objs.size = ti at *
    have ne : en ≠ ti := neN (by omega)
    refine ⟨en, [en, ti], fun i h => (∃ old, IsEnum h en ti i old) ∧ h.IsListIter ti l i, rfl, kk, ?_, by simp [ne], ?_, ⟨_, hen⟩, hit⟩
    · intro b hb
      rcases List.mem_cons.mp hb with rfl | hb
      · rw [← hE]; exact fr 1
      · rw [List.mem_singleton.mp hb]; exact fr 0
    · have hz : ∀ b o, (hideAll s₂.heap x.bad).get? b = some o → (hideAll h₁ ([en, ti] ++ x.bad)).get? b = some o := fun b o e => by
        obtain ⟨e1, e2⟩ := hid_iff.mp e
        have := szN e1
        refine hid_iff.mpr ⟨hk b o e1, fun m => ?_⟩
        rcases List.mem_append.mp m with q | q
        · simp only [List.mem_cons, List.not_mem_nil, or_false] at q
          have q' : ∀ j, b = s₂.heap.objs.size + j → False := fun j q => by rw [q] at this; omega
          first
            | (rcases q with q | q
               · exact q' 1 (q.trans (hE.symm.trans (by rw [hI])))
               · exact q' 0 (q.trans hI.symm))
            | (rcases q with q | q | q | q | q
               · exact q' 4 q
               · exact q' 2 q
               · exact q' 3 q
               · exact q' 0 q
               · exact q' 1 q)
        · exact e2 q
      refine ⟨fun k h h' a b => ?_, fun k h a b hb => ?_, ?_, ?_, ?_⟩
      · obtain ⟨⟨old, a⟩, c⟩ := a; exact ⟨⟨old, b _ (by simp) _ a⟩, c.at fun o e => b _ (by simp) o e⟩
      · obtain ⟨⟨old, a⟩, o, e, _⟩ := a
        rcases List.mem_cons.mp hb with rfl | hb
        · exact ⟨_, a⟩
        · rw [List.mem_singleton.mp hb]; exact ⟨o, e⟩
      · intro A k s' bad d hA hd hst hzb hfp hlv
        obtain ⟨d', hd', rfl⟩ := enum_get hd
        obtain ⟨u, hu, ru⟩ := hr.get hd'
        obtain ⟨⟨old, st1⟩, st2⟩ := hst
        have hl₂ : PL s'.heap l vs n := (hzb _ _ (hz _ _ hl)).1
        refine wpAny_pyNext_enum_item st1 st2 hl₂.isList (x := u) (by simpa using hu) ne fun h' ho hit' ht hsz' hx => ⟨_, rfl, ?_⟩
        refine wpAny_letOwnedTupleGo_enum ho fun h'' ho' hs' => ⟨h'', s'.toks + 1, rfl, fun b o nb e => ?_, ⟨⟨u, ?_⟩, ?_⟩, ?_⟩
        · exact (hs'.2 b fun q => nb (by simp [q])).trans (hx b o (fun q => nb (by simp [q])) (fun q => nb (by simp [q])) e)
        · rw [show ((k : Int) + 1) = ((k + 1 : Nat) : Int) by omega] at ho'; exact ho'
        · exact hit'.at fun o e => (hs'.2 ti (Ne.symm ne)).trans e
        · have nb : s'.heap.objs.size ∉ bad := fun m => by obtain ⟨o, e⟩ := hlv _ m; exact Nat.lt_irrefl _ (Heap.lt_size e)
          have e1 : en < s'.heap.objs.size := Heap.lt_size st1
          refine .tuple (vs := [.int k s'.toks, u]) (n := 0) (hid_iff.mpr ⟨(hs'.2 _ (Nat.ne_of_gt e1)).trans ht, nb⟩) (.cons (.int _ _) (.one ?_))
          refine (ru.ext hz).ext fun b o e => ?_
          obtain ⟨e2, e3⟩ := hzb b o e
          exact hid_iff.mpr ⟨(hs'.2 b fun q => e3 (q ▸ hfp _ (by simp))).trans (hx b o (fun q => e3 (q ▸ hfp _ (by simp))) (fun q => e3 (q ▸ hfp _ (by simp))) e2), e3⟩
      · intro A s' hA hst hzb
        obtain ⟨⟨old, st1⟩, st2⟩ := hst
        have hl₂ : PL s'.heap l vs n := hzb _ _ (hz _ _ hl)
        refine wpAny_pyNext_enum_end hA st1 st2 hl₂.isList (by simp [hr.length, Mine.enum]) fun h' he' => ⟨h', s'.toks, rfl, rfl, fun b o nb e => he' b o (fun q => nb (by simp [q])) e⟩
      · intro A k s' hst
        exact wpAny_pyIter_enum hst.1.choose_spec ⟨rfl, rfl⟩)

noncomputable def zips (as bs : List PyData) : List PyData := (as.zip bs).map fun p => .tuple [p.1, p.2]
theorem zips_get {as bs : List PyData} {i : Nat} {d : PyData} (h : (zips as bs)[i]? = some d) : ∃ a b, as[i]? = some a ∧ bs[i]? = some b ∧ d = .tuple [a, b] := by
  unfold zips at h
  rw [List.getElem?_map] at h
  cases q : (as.zip bs)[i]? with
  | none => rw [q] at h; cases h
  | some p =>
    rw [q] at h
    obtain ⟨a, b⟩ := p
    have := List.getElem?_zip_eq_some.mp q
    simp at h
    exact ⟨a, b, this.1, this.2, h.symm⟩
theorem Iter.zip {es : List Expr} {k0 : Nat} {tp : Pos} {n : Str} {p pos} {e1 e2 : Expr} {as bs : List PyData} (hc : EvP f x (.Name n p) fun _ u => u = .type "zip") (h1 : Ev f x e1 (.list as)) (h2 : Ev f x e2 (.list bs))
    (he : starEach [e1, e2] f.env = [(false, eval e1 f.env), (false, eval e2 f.env)] := by exact rfl) (he2 : starEach [e2] f.env = [(false, eval e2 f.env)] := by exact rfl) : Iter f x (.Tuple es k0 tp) (.Call (.Name n p) [e1, e2] [] pos) (zips as bs) := .bx fun s O =>
  PyProof.Rows.Call_Name rfl (wpN (hc.run s O) fun u s₁ ⟨k1, e1⟩ => by
    subst e1
    refine PyProof.Rows.callWith_type1 (wpN ((EvL.cons h1 (.cons h2 .nil he2) (by rw [he, he2])).run s₁ pos (O.step k1)) fun vs s₂ ⟨k2, r⟩ => ?_) (by rw [he, he2]) (by rw [he2]; rfl)
    obtain ⟨v, vs, rfl, r1, r2⟩ := r.cons_inv
    obtain ⟨v2, vs, rfl, r3, r4⟩ := r2.cons_inv
    rw [r4.nil_inv]
    obtain ⟨l1, us, n1, rfl, hl1, hr1⟩ := r1.list_inv
    obtain ⟨l2, ws, n2, rfl, hl2, hr2⟩ := r3.list_inv
    have hl1' : PL s₂.heap l1 us n1 := (hid_iff.mp hl1).1
    have hl2' : PL s₂.heap l2 ws n2 := (hid_iff.mp hl2).1
    refine call_zip_2 hl1'.isList hl2'.isList fun h₁ hzp hTI hTO hi1 hi2 hsz hk => ?_
    refine wpAny_pyIter_zip hzp ?_
    have k3 := k1.trans k2
    have kk : Step s { s₂ with heap := h₁ } := k3.trans (.mkh hk)
    have fr : ∀ j, s.heap.get? (s₂.heap.objs.size + j) = none := fun j => by
      cases q : s.heap.get? (s₂.heap.objs.size + j) with
      | none => rfl
      | some o => have := szN (k3.ext _ o q); omega
    have b1 := szN hl1'
    have b2 := szN hl2'
    have D : ZipApart (s₂.heap.objs.size + 4) (s₂.heap.objs.size + 2) (s₂.heap.objs.size + 3) s₂.heap.objs.size (s₂.heap.objs.size + 1) l1 l2 := by constructor <;> (refine neN ?_; omega)
    refine ⟨s₂.heap.objs.size + 4, [s₂.heap.objs.size + 4, s₂.heap.objs.size + 2, s₂.heap.objs.size + 3, s₂.heap.objs.size, s₂.heap.objs.size + 1],
      fun i h => IsZip h (s₂.heap.objs.size + 4) (s₂.heap.objs.size + 2) (s₂.heap.objs.size + 3) .none ∧ IsPair h (s₂.heap.objs.size + 2) (.ref s₂.heap.objs.size) (.ref (s₂.heap.objs.size + 1)) ∧
        (∃ a b, IsPair h (s₂.heap.objs.size + 3) a b) ∧ h.IsListIter s₂.heap.objs.size l1 i ∧ h.IsListIter (s₂.heap.objs.size + 1) l2 i, rfl, kk, ?_, by simp, ?_, hzp, hTI, ⟨_, _, hTO⟩, hi1, hi2⟩
    · intro b hb
      simp only [List.mem_cons, List.not_mem_nil, or_false] at hb
      rcases hb with rfl | rfl | rfl | rfl | rfl
      · exact fr 4
      · exact fr 2
      · exact fr 3
      · exact fr 0
      · exact fr 1
    · have hz : ∀ b o, (hideAll s₂.heap x.bad).get? b = some o → (hideAll h₁ ([s₂.heap.objs.size + 4, s₂.heap.objs.size + 2, s₂.heap.objs.size + 3, s₂.heap.objs.size, s₂.heap.objs.size + 1] ++ x.bad)).get? b = some o := fun b o e => by
        obtain ⟨e1, e2⟩ := hid_iff.mp e
        have := szN e1
        refine hid_iff.mpr ⟨hk b o e1, fun m => ?_⟩
        rcases List.mem_append.mp m with q | q
        · simp only [List.mem_cons, List.not_mem_nil, or_false] at q
          have q' : ∀ j, b = s₂.heap.objs.size + j → False := fun j q => by rw [q] at this; omega
          first
            | (rcases q with q | q
               · exact q' 1 (q.trans (hE.symm.trans (by rw [hI])))
               · exact q' 0 (q.trans hI.symm))
            | (rcases q with q | q | q | q | q
               · exact q' 4 q
               · exact q' 2 q
               · exact q' 3 q
               · exact q' 0 q
               · exact q' 1 q)
        · exact e2 q
      refine ⟨fun k h h' a b => ?_, fun k h a b hb => ?_, ?_, ?_, ?_⟩
      · obtain ⟨q1, q2, ⟨c, d, q3⟩, q4, q5⟩ := a
        exact ⟨b _ (by simp) _ q1, b _ (by simp) _ q2, ⟨c, d, b _ (by simp) _ q3⟩, q4.at fun o e => b _ (by simp) o e, q5.at fun o e => b _ (by simp) o e⟩
      · obtain ⟨q1, q2, ⟨c, d, q3⟩, ⟨o4, q4, _⟩, ⟨o5, q5, _⟩⟩ := a
        simp only [List.mem_cons, List.not_mem_nil, or_false] at hb
        rcases hb with rfl | rfl | rfl | rfl | rfl
        · exact ⟨_, q1⟩
        · exact ⟨_, q2⟩
        · exact ⟨_, q3⟩
        · exact ⟨_, q4⟩
        · exact ⟨_, q5⟩
      · intro A k s' bad d hA hd hst hzb hfp hlv
        obtain ⟨a, b, ha, hb, rfl⟩ := zips_get hd
        obtain ⟨u, hu, ru⟩ := hr1.get ha
        obtain ⟨v, hv, rv⟩ := hr2.get hb
        obtain ⟨q1, q2, ⟨c, d, q3⟩, q4, q5⟩ := hst
        have hl₁ : PL s'.heap l1 us n1 := (hzb _ _ (hz _ _ hl1)).1
        have hl₂ : PL s'.heap l2 ws n2 := (hzb _ _ (hz _ _ hl2)).1
        refine wpAny_pyNext_zip_item D q1 q2 q3 q4 q5 hl₁.isList hl₂.isList (x := u) (y := v) (by simpa using hu) (by simpa using hv) fun h' w1 w2 w3 w4 w5 w6 hx => ⟨_, rfl, ?_⟩
        have lt : ∀ {c o}, s'.heap.get? c = some o → s'.heap.objs.size ≠ c := fun e => Nat.ne_of_gt (Heap.lt_size e)
        refine wpAny_letOwnedTupleGo_zip w1 fun h'' ho' hs' => ⟨h'', s'.toks, rfl, fun b o nb e => ?_, ⟨ho', hs'.extBut _ _ D.TIz (hx _ _ D.TIz D.TITO D.TIi1 D.TIi2 q2), ⟨_, _, hs'.extBut _ _ D.TOz w2⟩, w3.extBut hs'.extBut D.i1z, w4.extBut hs'.extBut D.i2z⟩, ?_⟩
        · exact (hs'.2 b fun q => nb (by simp [q])).trans (hx b o (fun q => nb (by simp [q])) (fun q => nb (by simp [q])) (fun q => nb (by simp [q])) (fun q => nb (by simp [q])) e)
        · have nb : s'.heap.objs.size ∉ bad := fun m => by obtain ⟨o, e⟩ := hlv _ m; exact Nat.lt_irrefl _ (Heap.lt_size e)
          have up : Ext (hideAll s'.heap bad) (hideAll h'' bad) := fun b o e => by
            obtain ⟨e2, e3⟩ := hid_iff.mp e
            exact hid_iff.mpr ⟨(hs'.2 b fun q => e3 (q ▸ hfp _ (by simp))).trans (hx b o (fun q => e3 (q ▸ hfp _ (by simp))) (fun q => e3 (q ▸ hfp _ (by simp))) (fun q => e3 (q ▸ hfp _ (by simp))) (fun q => e3 (q ▸ hfp _ (by simp))) e2), e3⟩
          have up2 : Ext (hideAll s₂.heap x.bad) (hideAll s'.heap bad) := fun b o e => hid_iff.mpr (hzb b o (hz b o e))
          exact .tuple (vs := [u, v]) (n := 0) (hid_iff.mpr ⟨(hs'.2 _ (lt q1)).trans w5, nb⟩) (.cons ((ru.ext up2).ext up) (.one ((rv.ext up2).ext up)))
      · intro A s' hA hst hzb
        obtain ⟨q1, q2, ⟨c, d, q3⟩, q4, q5⟩ := hst
        have hl₁ : PL s'.heap l1 us n1 := hzb _ _ (hz _ _ hl1)
        have hl₂ : PL s'.heap l2 ws n2 := hzb _ _ (hz _ _ hl2)
        have e1 := hr1.length
        have e2 := hr2.length
        have hlen : (zips as bs).length = min as.length bs.length := by simp [zips]
        rw [hlen] at q4 q5
        refine wpAny_pyNext_zip_end hA D q1 q2 q3 q4 q5 hl₁.isList hl₂.isList ?_ fun h' he' => ⟨h', s'.toks, rfl, rfl, fun b o nb e => he' b o (fun q => nb (by simp [q])) (fun q => nb (by simp [q])) (fun q => nb (by simp [q])) (fun q => nb (by simp [q])) e⟩
        rcases Nat.le_total as.length bs.length with h | h
        · exact .inl (by simp [Nat.min_eq_left h, e1])
        · exact .inr (by simp [Nat.min_eq_right h, e2])
      · intro A k s' hst
        exact wpAny_pyIter_zip hst.1 ⟨rfl, rfl⟩)
end
end Mine
end
section
open PySem PySem.W PyProof.Rows PySem.Spec
set_option Elab.async false
set_option linter.all false
set_option maxRecDepth 100000
namespace Mine

inductive Ifs (f : Fx) (x : Sx) : List Expr → Bool → Prop
  | nil : Ifs f x [] true
  | one {c b} : Tst f x c b → Ifs f x [c] b

noncomputable def compEmit (elt : Expr) (gens : List Comprehension) (scope : Scope) (pos : Pos) (dep : Nat) (acc : Value) (env : Env) : Sem Unit :=
  match gens[dep + 1]? with
  | some g' => do
    let x ← eval g'.iter env
    standAt g'.iter.pos
    let x ← if g'.is_async != 0 then foldedIterable g'.iter x else foldedSetIterable g'.iter env x
    let _ ← runOwn (.compStart (.ListComp elt gens scope pos) (dep + 1) (← holding [x] (if g'.is_async != 0 then asyncIter x else pyIter x)) acc env) env
  | none => do let _ ← PySem.call (.builtin "list.append") [acc, ← eval elt env]

noncomputable def compTurnL (elt : Expr) (gens : List Comprehension) (scope : Scope) (pos : Pos) (dep : Nat) (tgt iter : Expr) (ifs : List Expr) (it acc : Value) (env : Env) : Sem Fin := do
  standAt iter.pos
  match ← pyNext it with
  | none => pure (.done .next)
  | some v =>
    letOwnedTupleGo tgt it v
    assign tgt env v
    let mut ok := true
    for c in ifs do
      if ok then ok ← isTrue c env (eval c env)
    if ok then compEmit elt gens scope pos dep acc env
    again (.compLoop (.ListComp elt gens scope pos) dep it acc env)

example (elt tgt iter : Expr) (ifs : List Expr) (scope pos it acc env) : compTurn (.ListComp elt [⟨tgt, iter, ifs, 0⟩] scope pos) 0 it acc env = compTurnL elt [⟨tgt, iter, ifs, 0⟩] scope pos 0 tgt iter ifs it acc env := by rfl
example (elt tgt iter tgt2 iter2 : Expr) (ifs ifs2 : List Expr) (scope pos it acc env) : compTurn (.ListComp elt [⟨tgt, iter, ifs, 0⟩, ⟨tgt2, iter2, ifs2, 0⟩] scope pos) 1 it acc env = compTurnL elt [⟨tgt, iter, ifs, 0⟩, ⟨tgt2, iter2, ifs2, 0⟩] scope pos 1 tgt2 iter2 ifs2 it acc env := by rfl

section
variable {f : Fx}
theorem ifs_ok {x : Sx} {s : Shared} {ifs : List Expr} {b : Bool} (h : Ifs f x ifs b) (O : Ok f x s) :
    wpAny f.W.M f.A (forIn ifs true fun c r => if r = true then do let ok ← isTrue c f.env (eval c f.env); pure (ForInStep.yield ok) else pure (ForInStep.yield r)) (fun c s' => Step s s' ∧ c = b) No s := by
  cases h with
  | nil => exact wpAny_tests_nil ⟨.rfl', rfl⟩
  | one h => exact wpAny_tests_one (h.run s O)

theorem compLoop_ok {elt : Expr} {gens : List Comprehension} {scope : Scope} {pos : Pos} {dep : Nat} {tgt iter : Expr} {ifs : List Expr} {D I : Addr} {fp : List Addr} {St : Nat → Heap → Prop} {hz : Heap} {rest : List Res}
    {ds : List PyData} {ns : List Str} {vs₀ : List Slot} {o : Nat → List PyData} {acc₀ : List PyData} {R : Result → Shared → Prop}
    (hturn : ∀ it acc env, compTurn (.ListComp elt gens scope pos) dep it acc env = compTurnL elt gens scope pos dep tgt iter ifs it acc env)
    (T : Itr f.W tgt hz I fp ds St) (hns : ∀ n ∈ ns, n ∈ f.sto)
    (turn : ∀ k d bad, ds[k]? = some d → ∃ vs' b, Tgt f.nm vs₀ tgt d ns vs' ∧ Forget vs' vs₀ ∧ Ifs f ⟨hz, bad, .prd fp (St (k + 1)) :: .lst D (acc₀ ++ (List.range k).flatMap o) :: rest, vs'⟩ ifs b ∧ (b = false → o k = []) ∧
      (b = true → ∀ s, Ok f ⟨hz, bad, .prd fp (St (k + 1)) :: .lst D (acc₀ ++ (List.range k).flatMap o) :: rest, vs'⟩ s →
        wpAny f.W.M f.A (compEmit elt gens scope pos dep (.ref D) f.env) (fun _ s' => ∃ bad', Ok f ⟨hz, bad', .prd fp (St (k + 1)) :: .lst D (acc₀ ++ (List.range k).flatMap o ++ o k) :: rest, vs'⟩ s') No s))
    {s : Shared} {bad : List Addr} (O : Ok f ⟨hz, bad, .prd fp (St 0) :: .lst D acc₀ :: rest, vs₀⟩ s)
    (hR : ∀ s' bad', Ok f ⟨hz, bad', .lst D (acc₀ ++ (List.range ds.length).flatMap o) :: rest, vs₀⟩ s' → R (.ok .next) s') :
    codeAny f.W.M f.A (.compLoop (.ListComp elt gens scope pos) dep (.ref I) (.ref D) f.env) R s := by
  refine codeAny_loop rfl (fun n s' => ∃ i bad, i ≤ ds.length ∧ n = ds.length - i ∧ Ok f ⟨hz, bad, .prd fp (St i) :: .lst D (acc₀ ++ (List.range i).flatMap o) :: rest, vs₀⟩ s') ?_ ds.length
    ⟨0, bad, Nat.zero_le _, rfl, by simpa using O⟩
  rintro n s' ⟨i, bad, hi, rfl, O'⟩
  show wpAny _ _ ((compTurn (.ListComp elt gens scope pos) dep (.ref I) (.ref D) f.env).onRaise (fun x => do noteFrame x f.env; theTreesLotGoes x)) _ _ s'
  refine wpAny_noted ?_
  rw [hturn]
  unfold compTurnL
  have fpb : ∀ b ∈ fp, b ∈ bad := fun b hb => ((O'.led _ (.head _)).2 b hb).1
  refine wpAny_bind (wpAny_standAt (wpAny_bind ?_))
  cases hd : ds[i]? with
  | none =>
    have hlen : i = ds.length := by have := List.getElem?_eq_none_iff.mp hd; omega
    subst hlen
    refine wpE (T.stop f.A s' O'.room.hd (O'.led _ (.head _)).1.1 fun b o e => (O'.hz b o e).1) fun r s₃ ⟨h', t', e1, e2, hx⟩ => ?_
    subst e1 e2
    exact wpAny_pure (hR _ _ (O'.leave hx))
  | some d =>
    have hlt : i < ds.length := (List.getElem?_eq_some_iff.mp hd).1
    refine wpE (T.next f.A i s' bad d O'.room.hd hd (O'.led _ (.head _)).1.1 (fun b o e => O'.hz b o e) fpb O'.live) fun r s₃ ⟨v, e1, hg⟩ => ?_
    subst e1
    refine wpAny_bind (wpE hg fun _ s₄ ⟨h', t', e2, hx, hst, hr⟩ => ?_)
    subst e2
    obtain ⟨vs', b, tg, fg, hi', hb0, hb⟩ := turn i d bad hd
    have O₄ := O'.prd (h := h') (t := t') hx (T.live _ _ hst) hst (T.frame (i + 1))
    refine wpAny_bind (wpE (tg.ok (x := ⟨_, bad, _, vs₀⟩) O₄ hr hns) fun _ s₅ O₅ => ?_)
    refine wpAny_bind (wpE (ifs_ok hi' O₅) fun c s₆ ⟨k6, e6⟩ => ?_)
    have O₆ := O₅.step k6
    subst e6
    have nx : (List.range (i + 1)).flatMap o = (List.range i).flatMap o ++ o i := by rw [List.range_succ, List.flatMap_append]; simp
    cases c with
    | false =>
      simp only [Bool.false_eq_true, if_false]
      refine wpAny_pure ⟨rfl, _, by omega, i + 1, bad, by omega, rfl, ?_⟩
      rw [nx, hb0 rfl, List.append_nil]
      exact O₆.forget fg
    | true =>
      simp only [if_true]
      refine wpAny_bind (wpE (hb rfl s₆ O₆) fun _ s₇ ⟨bad', O₇⟩ => ?_)
      refine wpAny_pure ⟨rfl, _, by omega, i + 1, bad', by omega, rfl, ?_⟩
      rw [nx, ← List.append_assoc]
      exact O₇.forget fg
end

theorem closure_aux {env : Env} (f : Str × NameKind → List (Str × Addr) → Sem (ForInStep (List (Str × Addr))))
    (hf : ∀ name kind cs, f (name, kind) cs = if kind == .free then (do let a ← cellOf env name; pure (.yield ((name, a) :: cs))) else pure (.yield cs)) :
    ∀ (names : List (Str × NameKind)) (acc : List (Str × Addr)), (∀ n, (n, NameKind.free) ∈ names → (env.cells.lookup n).isSome) →
      ∃ cl, forIn names acc f = pure cl ∧ (∀ n c, cl.lookup n = some c → acc.lookup n = some c ∨ ((n, NameKind.free) ∈ names ∧ env.cells.lookup n = some c)) ∧
        (∀ n, (n, NameKind.free) ∈ names → cl.lookup n = env.cells.lookup n) ∧ (∀ n, (n, NameKind.free) ∉ names → cl.lookup n = acc.lookup n)
  | [], acc, _ => ⟨acc, List.forIn_nil .., fun _ _ h => .inl h, fun _ h => (nomatch h), fun _ _ => rfl⟩
  | (name, kind) :: r, acc, h => by
    rw [List.forIn_cons, hf]
    by_cases hk : kind = .free
    · subst hk
      obtain ⟨c, hc⟩ := Option.isSome_iff_exists.mp (h name (.head _))
      obtain ⟨cl, e, p1, p2, p3⟩ := closure_aux f hf r ((name, c) :: acc) fun n hn => h n (.tail _ hn)
      have e0 : cellOf env name = pure c := by unfold cellOf; rw [hc]
      refine ⟨cl, ?_, fun n c' hl => ?_, fun n hn => ?_, fun n hn => ?_⟩
      · rw [e0]; exact e
      · rcases p1 n c' hl with q | ⟨q1, q2⟩
        · rw [List.lookup_cons] at q
          cases hb : n == name with
          | true => rw [hb] at q; cases q; have := beq_iff_eq.mp hb; subst this; exact .inr ⟨.head _, hc⟩
          | false => rw [hb] at q; exact .inl q
        · exact .inr ⟨.tail _ q1, q2⟩
      · by_cases hm : (n, NameKind.free) ∈ r
        · exact p2 n hm
        · rcases List.mem_cons.mp hn with q | q
          · cases q
            rw [p3 name hm, List.lookup_cons]; simp [hc]
          · exact absurd q hm
      · have hm : (n, NameKind.free) ∉ r := fun m => hn (.tail _ m)
        have hnn : n ≠ name := fun q => hn (by rw [q]; exact .head _)
        rw [p3 n hm, List.lookup_cons]
        have : (n == name) = false := by simpa using hnn
        rw [this]
    · have hb : (kind == NameKind.free) = false := by cases kind <;> first | rfl | exact absurd rfl hk
      obtain ⟨cl, e, p1, p2, p3⟩ := closure_aux f hf r acc fun n hn => h n (.tail _ hn)
      refine ⟨cl, ?_, fun n c' hl => ?_, fun n hn => ?_, fun n hn => ?_⟩
      · rw [hb]; exact e
      · rcases p1 n c' hl with q | ⟨q1, q2⟩
        · exact .inl q
        · exact .inr ⟨.tail _ q1, q2⟩
      · rcases List.mem_cons.mp hn with q | q
        · cases q; exact absurd rfl hk
        · exact p2 n q
      · exact p3 n fun m => hn (.tail _ m)

theorem closure_ok {scope : Scope} {env : Env} (h : ∀ n, (n, NameKind.free) ∈ scope.names → (env.cells.lookup n).isSome) :
    ∃ cl, closureFor scope env = pure cl ∧ (∀ n, (n, NameKind.free) ∈ scope.names → cl.lookup n = env.cells.lookup n) ∧ (∀ n, (n, NameKind.free) ∉ scope.names → cl.lookup n = none) := by
  obtain ⟨cl, e, _, p2, p3⟩ := closure_aux (env := env) (fun x cs => if x.2 == .free then (do let a ← cellOf env x.1; pure (.yield ((x.1, a) :: cs))) else pure (.yield cs)) (fun _ _ _ => rfl) scope.names [] h
  refine ⟨cl, ?_, p2, p3⟩
  rw [← e]
  simp only [closureFor, bind_pure]

end Mine
end
section
open PySem PySem.W PyProof.Rows PySem.Spec
set_option Elab.async false
set_option linter.all false
set_option maxRecDepth 100000
namespace Mine

noncomputable def nodupS : List (Str × NameKind) → Bool
  | [] => true
  | p :: r => r.all (fun q => q.1 != p.1) && nodupS r
theorem lookup_nodup : ∀ {l : List (Str × NameKind)}, nodupS l = true → ∀ {n k}, (n, k) ∈ l → l.lookup n = some k
  | p :: r, h, n, k, hm => by
    simp only [nodupS, Bool.and_eq_true] at h
    rcases List.mem_cons.mp hm with rfl | hm
    · simp [List.lookup_cons]
    · have : (n == p.1) = false := by
        have := List.all_eq_true.mp h.1 _ hm
        simpa using this
      rw [List.lookup_cons, this]
      exact lookup_nodup h.2 hm
theorem mem_lookup {l : List (Str × NameKind)} {n k} (h : l.lookup n = some k) : (n, k) ∈ l := by
  induction l with
  | nil => simp at h
  | cons p r ih =>
    rw [List.lookup_cons] at h
    cases hb : n == p.1 with
    | true => rw [hb] at h; cases h; have := beq_iff_eq.mp hb; subst this; exact .head _
    | false => rw [hb] at h; exact .tail _ (ih h)

noncomputable def dbg (n : Str) : Bool := n != ("__debug__" : Str)
noncomputable def compChk (scope sc : Scope) (own fr gl : List Str) : Bool :=
  (scope.kind == .function) && (sc.kind == .function) && nodupS scope.names && scope.names.all (fun p => p.2 != .free || (sc.names.lookup p.1 == some .cell && fr.contains p.1))
  && own.all (fun n => dbg n && (scope.names.lookup n == some .local || scope.names.lookup n == some .cell)) && fr.all (fun n => dbg n && scope.names.lookup n == some .free) && decide (own ++ fr).Nodup
  && gl.all (fun n => dbg n && scope.names.lookup n == some .globalImplicit)
structure CompChk (scope sc : Scope) (own fr gl : List Str) : Prop where
  k1 : scope.kind = .function
  k2 : sc.kind = .function
  nd : nodupS scope.names = true
  free : ∀ n, (n, NameKind.free) ∈ scope.names → sc.names.lookup n = some .cell
  cov : ∀ n, (n, NameKind.free) ∈ scope.names → n ∈ fr
  ownk : ∀ n ∈ own, (n == ("__debug__" : Str)) = false ∧ (scope.names.lookup n = some .local ∨ scope.names.lookup n = some .cell)
  frk : ∀ n ∈ fr, (n == ("__debug__" : Str)) = false ∧ scope.names.lookup n = some .free
  ndn : (own ++ fr).Nodup
  glk : ∀ n ∈ gl, (n == ("__debug__" : Str)) = false ∧ scope.names.lookup n = some .globalImplicit
theorem compChk_iff {scope sc : Scope} {own fr gl : List Str} (h : compChk scope sc own fr gl = true) : CompChk scope sc own fr gl := by
  simp only [compChk, dbg, Bool.and_eq_true, List.all_eq_true, Bool.or_eq_true, beq_iff_eq, bne_iff_ne, decide_eq_true_eq] at h
  obtain ⟨⟨⟨⟨⟨⟨⟨h1, h2⟩, h3⟩, h4⟩, h5⟩, h6⟩, h7⟩, h8⟩ := h
  exact ⟨h1, h2, h3, fun n hn => ((h4 _ hn).resolve_left fun q => q rfl).1, fun n hn => by simpa using ((h4 _ hn).resolve_left fun q => q rfl).2, fun n hn => ⟨by simpa using (h5 n hn).1, (h5 n hn).2⟩, fun n hn => ⟨by simpa using (h6 n hn).1, (h6 n hn).2⟩, h7, fun n hn => ⟨by simpa using (h8 n hn).1, (h8 n hn).2⟩⟩

theorem relabel_lookup {scope : Scope} {env : Env} {n : Str} {k : NameKind} (nd : nodupS scope.names = true) (h : scope.names.lookup n = some k) :
    (relabel scope env).names.lookup n = some (if (k == .free && env.scope.kind == .function && env.kindOf n == some .cell) then .cell else k) := by
  have key : ∀ (l : List (Str × NameKind)), l.lookup n = some k → (l.map fun (n, k) => if (k == NameKind.free && env.scope.kind == .function && env.kindOf n == some .cell) then (n, NameKind.cell) else (n, k)).lookup n =
      some (if (k == .free && env.scope.kind == .function && env.kindOf n == some .cell) then .cell else k) := by
    intro l
    induction l with
    | nil => intro h; simp at h
    | cons p r ih =>
      intro h
      obtain ⟨m, k'⟩ := p
      rw [List.map_cons]
      rw [List.lookup_cons] at h
      cases hb : n == m with
      | true =>
        rw [hb] at h; cases h
        have := beq_iff_eq.mp hb; subst this
        dsimp only
        split <;> simp [List.lookup_cons]
      | false =>
        rw [hb] at h
        dsimp only
        split
        · rw [List.lookup_cons, hb]; exact ih h
        · rw [List.lookup_cons, hb]; exact ih h
  exact key _ h

theorem cellsFrom_app : ∀ (names : List (Str × NameKind)) (n : Nat) (acc : List (Str × Addr)), cellsFrom n names acc = cellsFrom n names [] ++ acc
  | [], _, _ => rfl
  | (m, k) :: r, n, acc => by
    unfold cellsFrom
    split
    · rw [cellsFrom_app r _ ((m, n) :: acc), cellsFrom_app r _ [(m, n)]]; simp
    · exact cellsFrom_app r n acc
theorem cellsFrom_mem : ∀ (names : List (Str × NameKind)) (n : Nat) {m : Str} {c : Addr}, (m, c) ∈ cellsFrom n names [] → (m, NameKind.cell) ∈ names
  | [], _, _, _, h => nomatch h
  | (m', k) :: r, n, m, c, h => by
    unfold cellsFrom at h
    by_cases hk : k = .cell
    · subst hk
      rw [if_pos (by rfl), cellsFrom_app] at h
      rcases List.mem_append.mp h with h | h
      · exact .tail _ (cellsFrom_mem r _ h)
      · cases h with
        | head => exact .head _
        | tail _ h => cases h
    · have hb : ¬ (k == NameKind.cell) = true := by simpa using hk
      rw [if_neg hb] at h
      exact .tail _ (cellsFrom_mem r _ h)
theorem cellsFrom_has : ∀ (names : List (Str × NameKind)) (n : Nat) {m : Str}, (m, NameKind.cell) ∈ names → ∃ c, (m, c) ∈ cellsFrom n names []
  | (m', k) :: r, n, m, h => by
    unfold cellsFrom
    rcases List.mem_cons.mp h with e | h
    · cases e
      rw [if_pos (by rfl), cellsFrom_app]
      exact ⟨n, List.mem_append_right _ (.head _)⟩
    · split
      · rw [cellsFrom_app]
        obtain ⟨c, hc⟩ := cellsFrom_has r (n + 1) h
        exact ⟨c, List.mem_append_left _ hc⟩
      · exact cellsFrom_has r n h
theorem lookup_app {l r : List (Str × Addr)} {n : Str} : (l ++ r).lookup n = (l.lookup n).or (r.lookup n) := by
  induction l with
  | nil => simp
  | cons p l ih =>
    rw [List.cons_append, List.lookup_cons, List.lookup_cons]
    cases n == p.1 <;> simp [ih]
theorem lookup_isSome {l : List (Str × Addr)} {n : Str} {c : Addr} (h : (n, c) ∈ l) : (l.lookup n).isSome = true := by
  induction l with
  | nil => cases h
  | cons p l ih =>
    rw [List.lookup_cons]
    cases hb : n == p.1 with
    | true => rfl
    | false =>
      rcases List.mem_cons.mp h with e | h
      · rw [← e] at hb; simp at hb
      · exact ih h
theorem lookup_none {l : List (Str × Addr)} {n : Str} (h : ∀ c, (n, c) ∉ l) : l.lookup n = none := by
  cases q : l.lookup n with
  | none => rfl
  | some c => exact absurd (mem_of_lookup q) (h c)

theorem newEnv_comp {M : Model} {A : Around} {s : Shared} {scope : Scope} {env : Env} {cl : List (Str × Addr)} {Q : Env → Shared → Prop} {E : Value → Shared → Prop}
    (h : Q { scope, locals := s.heap.objs.size, globals := env.globals, cells := cellsFrom (s.heap.objs.size + 1) scope.names cl, qual := env.qual, func := none, code := env.code, frame := env.frame, builtins := env.builtins }
      { s with heap := pushCells (s.heap.push { cls := .type "dict", data := .dict #[] }) scope.names }) :
    wpAny M A (newFunctionEnv scope env.globals cl [] env.qual none .none (some env)) Q E s := by
  simp only [newFunctionEnv, Option.isSome_some, if_true]
  refine wpAny_bind (wpAny_alloc ?_)
  refine wpAny_bind (wpAny_layCells _ (fun name kind cells => by cases hkc : kind == NameKind.cell <;> simp [hkc]) _ _ _ _ ?_)
  rw [show ({ s with heap := s.heap.push { cls := .type "dict", data := .dict #[] } } : Shared).heap.objs.size = s.heap.objs.size + 1 from Heap.size_push ..]
  exact wpAny_bind (wpAny_pure (wpAny_pure h))

inductive Ats (nm : List Str) (vs : List Slot) : List Str → List Slot → Prop
  | nil : Ats nm vs [] []
  | cons {n sl ns sls} : At nm vs n sl → Ats nm vs ns sls → Ats nm vs (n :: ns) (sl :: sls)
theorem Ats.get {nm vs ns sls} (h : Ats nm vs ns sls) : ∀ (i : Nat) n sl, ns[i]? = some n → sls[i]? = some sl → At nm vs n sl := by
  induction h with
  | nil => intro i n sl e; simp at e
  | cons a _ ih =>
    intro i n sl e1 e2
    cases i with
    | zero => simp at e1 e2; subst e1 e2; exact a
    | succ i => exact ih i n sl (by simpa using e1) (by simpa using e2)
theorem Ats.len {nm vs ns sls} (h : Ats nm vs ns sls) : ns.length = sls.length := by
  induction h with
  | nil => rfl
  | cons _ _ ih => simp [ih]

@[reducible] noncomputable def compF (f : Fx) (scope : Scope) (C : Addr) (cs : List (Str × Addr)) (base : Shared) (nm gl sto : List Str) (cb : List Addr) : Fx :=
  { W := f.W, A := f.A, rm := f.rm, env := compEnvC scope cs C f.env, base := base, nm := nm, gl := gl, sto := sto, cb := cb }

section
variable {f : Fx} {x : Sx} {s s₂ : Shared}

theorem Ok.free (O : Ok f x s) {scope sc : Scope} {own fr gl : List Str} {slots : List Slot} (hsc : f.env.scope = sc) (hchk : CompChk scope sc own fr gl) (ats : Ats f.nm x.vs fr slots) {n : Str} (hn : n ∈ fr) :
    ∃ c, f.env.cells.lookup n = some c ∧ f.env.kindOf n = some .cell := by
  have hc := hchk.free n (mem_lookup (hchk.frk n hn).2)
  have hk : f.env.kindOf n = some .cell := by simp only [Env.kindOf, hsc, hc]
  obtain ⟨i, hi⟩ := List.getElem?_of_mem hn
  have hlen : i < slots.length := by rw [← ats.len]; exact (List.getElem?_eq_some_iff.mp hi).1
  obtain ⟨j, e1, _⟩ := (ats.get i n _ hi (List.getElem?_eq_getElem hlen)).get
  rcases (O.knd n (List.mem_of_getElem? e1)).2 with q | ⟨_, q⟩
  · rw [hk] at q; cases q
  · obtain ⟨c, hc⟩ := Option.isSome_iff_exists.mp q; exact ⟨c, hc, hk⟩
theorem Ok.inner (O : Ok f x s) (k : Step s s₂) {fp : List Addr} {P : Heap → Prop} (hf : ∀ b ∈ fp, s.heap.get? b = none) (nd : fp.Nodup) (hl : ∀ b ∈ fp, ∃ o, s₂.heap.get? b = some o)
    (hP : P s₂.heap) (hPc : ∀ h h', P h → (∀ b ∈ fp, ∀ o, h.get? b = some o → h'.get? b = some o) → P h')
    {scope sc : Scope} {own fr gl : List Str} {slots : List Slot} {cl : List (Str × Addr)} (hsc : f.env.scope = sc) (hchk : CompChk scope sc own fr gl) (ats : Ats f.nm x.vs fr slots)
    (hc1 : ∀ n, (n, NameKind.free) ∈ scope.names → cl.lookup n = f.env.cells.lookup n) (hc2 : ∀ n, (n, NameKind.free) ∉ scope.names → cl.lookup n = none)
    {D : Addr} (hD : D = s₂.heap.objs.size) {H : Heap} (hH : H = s₂.heap.push { cls := .type "list", data := .seq #[] }) :
    ∃ bad', Ok (compF f scope H.objs.size (cellsFrom (H.objs.size + 1) scope.names cl) s (own ++ fr) gl own x.bad)
      ⟨hideAll s₂.heap (fp ++ x.bad), bad', [.prd fp P, .lst D []], own.map (fun _ => .no) ++ slots⟩ { s₂ with heap := pushCells (H.push { cls := .type "dict", data := .dict #[] }) scope.names } := by
  have hDH : ∀ b o, s₂.heap.get? b = some o → H.get? b = some o := fun b o e => by rw [hH]; exact Heap.get?_push_of_some _ e
  have hDN : @Eq Nat D s₂.heap.objs.size := hD
  have hsz : H.objs.size = s₂.heap.objs.size + 1 := by rw [hH, Heap.size_push]
  generalize hH4 : pushCells (H.push { cls := .type "dict", data := .dict #[] }) scope.names = H4
  have hH2 : ∀ b o, H.get? b = some o → H4.get? b = some o := fun b o e => by rw [← hH4]; exact pushCells_keeps _ _ b o (Heap.get?_push_of_some _ e)
  have k4 : Ext s₂.heap H4 := fun b o e => hH2 b o (hDH b o e)
  have hDl : PL H4 D [] 0 := hH2 _ _ (by rw [hH, hD]; exact Heap.get?_push_size _ rfl)
  have hns : H4.Ns H.objs.size (fun _ => none) := by rw [← hH4]; exact (Heap.Ns.new H (.type "dict")).keeps (pushCells_keeps _ _)
  have ok := cellsFrom_ok scope.names (H.push { cls := .type "dict", data := .dict #[] }) (H.objs.size + 1) [] ⟨fun _ _ hm => (nomatch hm), List.Pairwise.nil⟩ (by rw [Heap.size_push]; exact Nat.le_refl _)
  rw [Heap.size_push, hH4] at ok
  generalize hoc : cellsFrom (H.objs.size + 1) scope.names [] = oc at ok
  have hcs : cellsFrom (H.objs.size + 1) scope.names cl = oc ++ cl := by rw [cellsFrom_app, hoc]
  rw [hcs]
  have ocm : ∀ {n c}, (n, c) ∈ oc → (n, NameKind.cell) ∈ scope.names := fun h => cellsFrom_mem _ _ (hoc ▸ h)
  have oca : ∀ {n : Str} {c : Nat}, (n, c) ∈ oc → s₂.heap.objs.size + 2 ≤ c := fun h => by have := (ok.empty _ _ h).2; omega
  have lt2 : ∀ {b : Nat} {o : Obj}, s₂.heap.get? b = some o → @LT.lt Nat _ b s₂.heap.objs.size := fun e => szN e
  have clE : ∀ {n c}, cl.lookup n = some c → (n, NameKind.free) ∈ scope.names ∧ f.env.cells.lookup n = some c := fun {n c} h => by
    by_cases hm : (n, NameKind.free) ∈ scope.names
    · exact ⟨hm, hc1 n hm ▸ h⟩
    · rw [hc2 n hm] at h; cases h
  have clL : ∀ {n : Str} {c : Nat}, cl.lookup n = some c → c ∈ x.bad ∧ @LT.lt Nat _ c s₂.heap.objs.size ∧ ∃ ov, H4.IsCell c ov := fun {n c} h => by
    obtain ⟨b1, b2, ov, b3⟩ := O.cell n c (clE h).2
    obtain ⟨o, ho⟩ := O.live c b1
    exact ⟨b1, lt2 (k.ext _ _ ho), ov, b3.keeps fun b o e => k4 b o (k.ext b o e)⟩
  have csE : ∀ {n c}, (oc ++ cl).lookup n = some c → (n, c) ∈ oc ∨ cl.lookup n = some c := fun {n c} h => by
    rw [lookup_app] at h
    cases q : oc.lookup n with
    | none => rw [q] at h; exact .inr h
    | some c' => rw [q] at h; cases h; exact .inl (mem_of_lookup q)
  have fpl : ∀ {b : Nat}, b ∈ fp → @LT.lt Nat _ b s₂.heap.objs.size := fun hb => by obtain ⟨o, e⟩ := hl _ hb; exact lt2 e
  have bdl : ∀ {b : Nat}, b ∈ x.bad → @LT.lt Nat _ b s₂.heap.objs.size := fun hb => by obtain ⟨o, e⟩ := O.live _ hb; exact lt2 (k.ext _ _ e)
  have nlive : ∀ {b : Nat}, s₂.heap.objs.size ≤ b → s.heap.get? b = none := fun {b} hb => by
    cases q : s.heap.get? b with
    | none => rfl
    | some o => have := lt2 (k.ext _ _ q); omega
  have bmem : ∀ {b : Nat}, b ∈ H.objs.size :: (oc.map (·.2) ++ (D :: (fp ++ x.bad))) → @LT.lt Nat _ b s₂.heap.objs.size → b ∈ fp ++ x.bad := fun {b} hb hlt => by
    rcases List.mem_cons.mp hb with e | hb
    · rw [e, hsz] at hlt; omega
    · rcases List.mem_append.mp hb with hb | hb
      · obtain ⟨p, hp, rfl⟩ := List.mem_map.mp hb
        have := oca (n := p.1) (c := p.2) hp; omega
      · rcases List.mem_cons.mp hb with e | hb
        · rw [e, hD] at hlt; omega
        · exact hb
  have hx : Ext (hideAll s.heap x.bad) (hideAll H4 (H.objs.size :: (oc.map (·.2) ++ (D :: (fp ++ x.bad))))) := fun b o e => by
    obtain ⟨e1, e2⟩ := hid_iff.mp e
    refine hid_iff.mpr ⟨k4 b o (k.ext b o e1), fun m => ?_⟩
    rcases List.mem_append.mp (bmem m (lt2 (k.ext _ _ e1))) with m | m
    · rw [hf b m] at e1; cases e1
    · exact e2 m
  obtain ⟨m, hns0, hv⟩ := O.vars
  have fkind : ∀ {n}, scope.names.lookup n = some .free → (compEnvC scope (oc ++ cl) H.objs.size f.env).kindOf n = some .cell := fun {n} h => by
    have hc := hchk.free n (mem_lookup h)
    have := relabel_lookup (env := f.env) hchk.nd h
    rw [if_pos (by rw [hsc, hchk.k2]; simp only [Env.kindOf, hsc, hc]; rfl)] at this
    exact this
  have fat : ∀ {n}, n ∈ fr → ∃ c, f.env.cells.lookup n = some c ∧ f.env.kindOf n = some .cell := fun {n} hn => O.free hsc hchk ats hn
  have nocell : ∀ {n}, scope.names.lookup n = some .free → oc.lookup n = none := fun {n} h => lookup_none fun c hc => by
    have := lookup_nodup hchk.nd (ocm hc); rw [h] at this; cases this
  refine ⟨H.objs.size :: (oc.map (·.2) ++ (D :: (fp ++ x.bad))), hchk.k1, O.glo, O.bui, O.room, O.wok.ext O.same.ext, hchk.ndn, ?_, ?_, ?_, ?_, ?_, ?_, ?_, ?_, .head _, ?_, ?_, ?_, ?_, _, hns, ?_⟩
  · intro n hn
    rcases List.mem_append.mp hn with hn | hn
    · refine ⟨(hchk.ownk n hn).1, ?_⟩
      rcases (hchk.ownk n hn).2 with h | h
      · left
        have := relabel_lookup (env := f.env) hchk.nd h
        rw [if_neg (by simp)] at this
        exact this
      · right
        have := relabel_lookup (env := f.env) hchk.nd h
        rw [if_neg (by simp)] at this
        obtain ⟨c, hc⟩ := cellsFrom_has scope.names (H.objs.size + 1) (mem_lookup h)
        rw [hoc] at hc
        refine ⟨this, ?_⟩
        show ((oc ++ cl).lookup n).isSome = true
        exact lookup_isSome (List.mem_append_left _ hc)
    · have hfr := (hchk.frk n hn).2
      refine ⟨(hchk.frk n hn).1, .inr ⟨fkind hfr, ?_⟩⟩
      show ((oc ++ cl).lookup n).isSome = true
      obtain ⟨c, hc, _⟩ := fat hn
      rw [lookup_app, nocell hfr, hc1 n (mem_lookup hfr), hc]; rfl
  · intro n hn
    refine ⟨(hchk.glk n hn).1, ?_⟩
    have := relabel_lookup (env := f.env) hchk.nd (hchk.glk n hn).2
    rw [if_neg (by simp)] at this
    exact this
  · intro n hn c hc
    rcases csE hc with h | h
    · exact nlive (Nat.le_trans (Nat.le_add_right _ 2) (oca h))
    · have h1 := lookup_nodup hchk.nd (clE h).1
      rcases (hchk.ownk n hn).2 with h2 | h2 <;> (rw [h1] at h2; cases h2)
  · intro b hb
    exact ⟨List.mem_cons_of_mem _ (List.mem_append_right _ (List.mem_cons_of_mem _ (List.mem_append_right _ hb))), O.live b hb⟩
  · exact k.trans (.mkh k4)
  · intro b o e
    obtain ⟨e1, e2⟩ := hid_iff.mp e
    exact ⟨k4 b o e1, fun m => e2 (bmem m (lt2 e1))⟩
  · intro b hb
    rcases List.mem_cons.mp hb with e | hb
    · obtain ⟨o, _, _, e', _⟩ := hns; exact ⟨o, e ▸ e'⟩
    · rcases List.mem_append.mp hb with hb | hb
      · obtain ⟨p, hp, rfl⟩ := List.mem_map.mp hb
        obtain ⟨o, e, _⟩ := (ok.empty p.1 p.2 hp).1; exact ⟨o, e⟩
      · rcases List.mem_cons.mp hb with e | hb
        · exact ⟨_, e ▸ hDl⟩
        · rcases List.mem_append.mp hb with hb | hb
          · obtain ⟨o, e⟩ := hl b hb; exact ⟨o, k4 b o e⟩
          · obtain ⟨o, e⟩ := O.live b hb; exact ⟨o, k4 b o (k.ext b o e)⟩
  · exact nlive (b := H.objs.size) (by omega)
  · intro n c hc
    rcases csE hc with h | h
    · exact ⟨List.mem_cons_of_mem _ (List.mem_append_left _ (List.mem_map.mpr ⟨_, h, rfl⟩)), by have := oca h; intro q; have q' : @Eq Nat c H.objs.size := q; omega, none, (ok.empty _ _ h).1⟩
    · obtain ⟨a1, a2, a3⟩ := clL h
      exact ⟨List.mem_cons_of_mem _ (List.mem_append_right _ (List.mem_cons_of_mem _ (List.mem_append_right _ a1))), by intro q; have q' : @Eq Nat c H.objs.size := q; omega, a3⟩
  · intro n n' c h h'
    rcases csE h with h | h <;> rcases csE h' with h' | h'
    · exact name_of_addr ok.apart h h'
    · have := oca h; have := (clL h').2.1; omega
    · have := oca h'; have := (clL h).2.1; omega
    · exact O.inj n n' c (clE h).2 (clE h').2
  · intro r hr
    have ncell : ∀ {b : Nat}, b ∉ x.bad → @LT.lt Nat _ b (s₂.heap.objs.size + 2) → ∀ n, (oc ++ cl).lookup n ≠ some b := fun {b} hb hlt n hn => by
      rcases csE hn with h | h
      · have := oca h; omega
      · exact hb (clL h).1
    rcases List.mem_cons.mp hr with rfl | hr
    · refine ⟨⟨hPc _ _ hP fun b _ o e => k4 b o e, hPc⟩, fun b hb => ?_⟩
      have hlt := fpl hb
      exact ⟨List.mem_cons_of_mem _ (List.mem_append_right _ (List.mem_cons_of_mem _ (List.mem_append_left _ hb))), hf b hb, by intro q; have q' : @Eq Nat b H.objs.size := q; omega,
        ncell (fun q => by obtain ⟨o, e⟩ := O.live b q; rw [hf b hb] at e; cases e) (show @LT.lt Nat _ b _ by omega)⟩
    · cases hr with
      | tail _ hr => cases hr
      | head =>
        refine ⟨⟨[], 0, hDl, .nil⟩, fun b hb => ?_⟩
        cases hb with
        | tail _ hb => cases hb
        | head =>
          exact ⟨List.mem_cons_of_mem _ (List.mem_append_right _ (.head _)), nlive (b := D) (Nat.le_of_eq hDN.symm), by intro q; have q' : @Eq Nat D H.objs.size := q; omega,
            ncell (fun q => by have : @LT.lt Nat _ D s₂.heap.objs.size := bdl q; omega) (show @LT.lt Nat _ D _ by omega)⟩
  · simp only [List.flatMap_cons, List.flatMap_nil, List.append_nil]
    refine List.nodup_append.mpr ⟨nd, by simp [Res.fp], fun a ha b hb e => ?_⟩
    cases hb with
    | tail _ hb => cases hb
    | head => have : @LT.lt Nat _ a s₂.heap.objs.size := fpl ha; have e' : @Eq Nat a D := e; omega
  · intro i n sl e1 e2
    by_cases hi : i < own.length
    · have : sl = .no := by
        rw [List.getElem?_append_left (by simpa using hi)] at e2
        simp at e2; exact e2.2.symm
      subst this; trivial
    · rw [List.getElem?_append_right (by omega)] at e1
      rw [List.getElem?_append_right (by simp; omega)] at e2
      have at' := ats.get (i - own.length) n sl e1 (by simpa using e2)
      have hn : n ∈ fr := List.mem_of_getElem? e1
      obtain ⟨j, g1, g2⟩ := at'.get
      have ho := hv j n sl g1 g2
      obtain ⟨c, hc, hk⟩ := fat hn
      have hfr := (hchk.frk n hn).2
      have lk : ∀ {u : Value}, look f.env s.heap m n u → look (compEnvC scope (oc ++ cl) H.objs.size f.env) H4 (fun _ => none) n u := by
        intro u e
        rcases e with ⟨e1, _⟩ | ⟨e1, c', e2, e3⟩
        · rw [hk] at e1; cases e1
        · refine .inr ⟨fkind hfr, c', ?_, e3.keeps fun b o e => k4 b o (k.ext b o e)⟩
          show (oc ++ cl).lookup n = some c'
          rw [lookup_app, nocell hfr, hc1 n (mem_lookup hfr), e2]; rfl
      cases sl with
      | no => trivial
      | val d => obtain ⟨u, b1, b2⟩ := ho; exact ⟨u, lk b1, b2.ext hx⟩
      | is P => obtain ⟨u, b1, b2⟩ := ho; exact ⟨u, lk b1, b2⟩
      | ptr b => exact lk ho
end
end Mine
end
section
open PySem PySem.W PyProof.Rows PySem.Spec
set_option Elab.async false
set_option linter.all false
set_option maxRecDepth 100000
namespace Mine

structure CompP (x : Sx) (s : Shared) (ds : List PyData) (D C : Addr) (s' : Shared) : Prop where
  st : Step s s'
  d : s.heap.get? D = none
  c : s.heap.get? C = none
  n : D ≠ C
  ns : ∃ m, s'.heap.Ns C m
  l : ∃ vs k bad, PL s'.heap D vs k ∧ RdAll (hideAll s'.heap bad) vs ds ∧ C ∈ bad ∧ D ∈ bad ∧ ∀ b ∈ x.bad, b ∈ bad

noncomputable def CompR (f : Fx) (x : Sx) (e : Expr) (scope : Scope) (first : Sem Value) (ds : List PyData) : Prop := ∀ s, Ok f x s → ∃ cl, closureFor scope f.env = pure cl ∧
  wpAny f.W.M f.A first (fun xv s₁ => wpAny f.W.M f.A (pyIter xv) (fun it s₂ => wpAny f.W.M f.A (newList []) (fun acc s₃ =>
    wpAny f.W.M f.A (newFunctionEnv scope f.env.globals cl [] f.env.qual none .none (some f.env)) (fun cenv s₄ =>
      codeAny f.W.M f.A (.compStart e 0 it acc { cenv with scope := relabel scope f.env }) (fun r s' => r = .ok .next ∧ ∃ D, acc = .ref D ∧ CompP x s ds D cenv.locals s') s₄) No s₃) No s₂) No s₁) No s

section
variable {f : Fx} {x : Sx}

theorem CompR.imp {e : Expr} {scope : Scope} {first : Sem Value} {ds : List PyData} (h : CompR f x e scope first ds) {s : Shared} (O : Ok f x s) {R : Value → Addr → Result → Shared → Prop}
    (hR : ∀ D C s', CompP x s ds D C s' → R (.ref D) C (.ok .next) s') : ∃ cl, closureFor scope f.env = pure cl ∧
  wpAny f.W.M f.A first (fun xv s₁ => wpAny f.W.M f.A (pyIter xv) (fun it s₂ => wpAny f.W.M f.A (newList []) (fun acc s₃ =>
    wpAny f.W.M f.A (newFunctionEnv scope f.env.globals cl [] f.env.qual none .none (some f.env)) (fun cenv s₄ =>
      codeAny f.W.M f.A (.compStart e 0 it acc { cenv with scope := relabel scope f.env }) (R acc cenv.locals) s₄) No s₃) No s₂) No s₁) No s := by
  obtain ⟨cl, hcl, hw⟩ := h s O
  refine ⟨cl, hcl, wpN hw fun xv s₁ h1 => wpN h1 fun it s₂ h2 => wpN h2 fun acc s₃ h3 => wpN h3 fun cenv s₄ h4 => codeAny_mono h4 fun r s' h5 => ?_⟩
  obtain ⟨e1, D, e2, h6⟩ := h5
  subst e1 e2
  exact hR D _ s' h6

theorem names_local {scope : Scope} (h : nodupS scope.names = true) : ∀ x ∈ scope.names, x.2 = .local → scope.names.lookup x.1 = some .local := fun x hx hl => by
  have := lookup_nodup h (n := x.1) (k := x.2) hx; rw [hl] at this; exact this

theorem EvN.comp {elt : Expr} {g : Comprehension} {gs : List Comprehension} {scope : Scope} {pos : Pos} {ds : List PyData} (h : CompR f x (.ListComp elt (g :: gs) scope pos) scope (firstIter (g :: gs) f.env) ds)
    (hkind : scope.kind = .function) (hnd : nodupS scope.names = true) (hs : ∀ v, foldedSetIterable g.iter f.env v = pure v) (ha : firstAsync (g :: gs) = false) : EvN f x (.ListComp elt (g :: gs) scope pos) ds := .bx fun s O => by
  obtain ⟨cl, hcl, hw⟩ := h.imp O (R := fun acc C => compPost f.W.M f.A No none (fun v s' => Step s s' ∧ ∃ a vs k, v = .ref a ∧ s.heap.get? a = none ∧ PL s'.heap a vs k ∧ RdAll (hideAll s'.heap (a :: x.bad)) vs ds) acc C) (by
    intro D C s' P
    obtain ⟨m, hm⟩ := P.ns
    refine ⟨m, hm, fun h' hs' => ?_⟩
    obtain ⟨vs, k, bad, p1, p2, p3, p4, p5⟩ := P.l
    have hx := hidBut hs' p3
    refine ⟨?_, D, vs, k, rfl, P.d, (hs'.2 D P.n).trans p1, p2.ext (hx.trans (hid_anti fun b hb => ?_))⟩
    · obtain ⟨h0, t0, e, ke⟩ := P.st
      subst e
      exact ⟨h', t0, rfl, fun b o e => (hs'.2 b fun q => by rw [q, P.c] at e; cases e).trans (ke b o e)⟩
    · rcases List.mem_cons.mp hb with rfl | hb
      · exact p4
      · exact p5 b hb)
  rw [eval_ListComp, ha]
  exact wpAny_comprehension_free rfl hs hcl hkind (names_local hnd) hw

theorem Ex.assignC {n : Str} {p : Pos} {elt : Expr} {g : Comprehension} {gs : List Comprehension} {scope : Scope} {cpos pos : Pos} {rest : List Stmt} {ds : List PyData} {vs' : List Slot} {Q : Flow → Shared → Prop}
    (h : CompR f x (.ListComp elt (g :: gs) scope cpos) scope (firstIter (g :: gs) f.env) ds) (put : Put f.nm x.vs n (.val (.list ds)) vs') (hr : Ex f { x with vs := vs' } rest Q) (hc : f.sto = f.nm := by exact rfl)
    (hkind : scope.kind = .function) (hnd : nodupS scope.names = true) (hs : ∀ v, foldedSetIterable g.iter f.env v = pure v) (ha : firstAsync (g :: gs) = false)
    (hsw : swapsWith (.ListComp elt (g :: gs) scope cpos) (some (.Name n p)) pos.line f.env = pure true) : Ex f x (.Assign [.Name n p] (.ListComp elt (g :: gs) scope cpos) pos :: rest) Q := .cons fun s O => by
  obtain ⟨cl, hcl, hw⟩ := h.imp O (R := fun acc C => compPost f.W.M f.A No (some (PySem.assign (.Name n p) f.env)) (fun _ s' => Then f rest Q .next s') acc C) (by
    intro D C s' P
    obtain ⟨m, hm⟩ := P.ns
    obtain ⟨vs, k, bad, p1, p2, p3, p4, p5⟩ := P.l
    have cb : C ∉ x.bad := fun q => by obtain ⟨o, e⟩ := O.live C q; rw [P.c] at e; cases e
    have O1 := O.enter (fp := [C]) (P := fun h => ∃ m, h.Ns C m) P.st (fun b hb => by cases hb with | head => exact P.c | tail _ h => cases h) (by simp) ⟨m, hm⟩
      (fun h h' ⟨m, o, es, ep, e, r⟩ k => ⟨m, o, es, ep, k C (.head _) o e, r⟩) (fun b hb => by
        cases hb with
        | head => obtain ⟨o, es, ep, e, r⟩ := hm; exact ⟨o, e⟩
        | tail _ h => cases h)
    have rd : Rd (hideAll s'.heap ([C] ++ x.bad)) (.ref D) (.list ds) := by
      refine .list (hid_iff.mpr ⟨p1, fun q => ?_⟩) (p2.ext (hid_anti fun b hb => ?_))
      · rcases List.mem_append.mp q with q | q
        · cases q with
          | head => exact P.n rfl
          | tail _ h => cases h
        · obtain ⟨o, e⟩ := O.live D q; rw [P.d] at e; cases e
      · rcases List.mem_append.mp hb with q | q
        · cases q with
          | head => exact p3
          | tail _ h => cases h
        · exact p5 b q
    show wpAny _ _ (PySem.assign (.Name n p) f.env (.ref D)) _ _ s'
    refine wpAny_assign_Name (wpN (O1.store put rd (hc ▸ put.mem)) fun _ s'' ⟨O2, _⟩ => ?_)
    obtain ⟨⟨m2, hm2⟩, _⟩ := (O2.led _ (.head _)).1
    refine ⟨m2, hm2, fun h' hs' => ?_⟩
    have O3 := O2.leave (h := h') (t := s''.toks) fun b o nb e => (hs'.2 b fun q => nb (by rw [q]; exact .head _)).trans e
    have ef : ([C] ++ x.bad).filter (fun b => !([C] : List Addr).contains b) = x.bad := by
      have e1 : ([C] : List Addr).filter (fun b => !([C] : List Addr).contains b) = [] := by simp
      have e2 : x.bad.filter (fun b => !([C] : List Addr).contains b) = x.bad := List.filter_eq_self.mpr fun b hb => by
        have : b ≠ C := fun q => cb (q ▸ hb)
        simp [this]
      rw [List.filter_append, e1, e2, List.nil_append]
    rw [ef] at O3
    have zsub : Ext x.hz (hideAll s'.heap ([C] ++ x.bad)) := fun b o e => by
      obtain ⟨e1, e2⟩ := O.hz b o e
      exact hid_iff.mpr ⟨P.st.ext b o e1, fun q => by
        rcases List.mem_append.mp q with q | q
        · cases q with
          | head => rw [P.c] at e1; cases e1
          | tail _ h => cases h
        · exact e2 q⟩
    exact hr.run _ (O3.weakHz zsub))
  rw [exec_Assign_Name_used _ _ _ _ hsw]
  refine wpAny_bind (wpAny_standAt (wpAny_bind ?_))
  show wpAny _ _ (do let _ ← comprehension (.ListComp elt (g :: gs) scope cpos) scope f.env _ (newList []) (firstAsync (g :: gs)) (firstIter (g :: gs) f.env) (some (PySem.assign (.Name n p) f.env))) _ _ s
  rw [ha]
  exact wpAny_bind (wpN (wpAny_comprehension_free (use := some (PySem.assign (.Name n p) f.env)) (Q := fun _ s' => Then f rest Q .next s') rfl hs hcl hkind (names_local hnd) hw) fun _ s' hq => wpAny_pure (wpAny_pure hq))

theorem CompP.of {scope : Scope} {C D : Addr} {cs : List (Str × Addr)} {s s' : Shared} {nm gl sto : List Str} {hz : Heap} {bad : List Addr} {ds : List PyData} {vs : List Slot}
    (O : Ok (compF f scope C cs s nm gl sto x.bad) ⟨hz, bad, [.lst D ds], vs⟩ s') : CompP x s ds D C s' := by
  obtain ⟨⟨ws, k, p1, p2⟩, r2⟩ := O.led _ (.head _)
  obtain ⟨a1, a2, a3, a4⟩ := r2 D (.head _)
  obtain ⟨m, hm, _⟩ := O.vars
  exact ⟨O.same, a2, O.locF, a3, ⟨m, hm⟩, ws, k, bad, p1, p2, O.locB, a1, fun b hb => (O.cbB b hb).1⟩

theorem range_flat {α : Type} {xs : List α} {p : α → Bool} {g : α → PyData} : ∀ k ≤ xs.length, (List.range k).flatMap (fun i => match xs[i]? with | some a => if p a then [g a] else [] | none => []) = ((xs.take k).filter p).map g := by
  intro k
  induction k with
  | zero => intro _; simp
  | succ k ih =>
    intro h
    rw [List.range_succ, List.flatMap_append, ih (by omega), List.take_add_one, List.filter_append, List.map_append]
    have : xs[k]? = some xs[k] := List.getElem?_eq_getElem (by omega)
    simp only [List.flatMap_cons, List.flatMap_nil, List.append_nil, this, Option.toList_some]
    cases hp : p xs[k] <;> simp [hp]

theorem CompR.one {elt tgt iter : Expr} {ifs : List Expr} {scope sc : Scope} {pos : Pos} {α : Type} {xs : List α} {di g : α → PyData} {p : α → Bool} {own fr gl ns nm : List Str} {slots vs₀ : List Slot}
    (hI : Iter f x tgt iter (xs.map di)) (hsc : f.env.scope = sc) (hchk : CompChk scope sc own fr gl) (ats : Ats f.nm x.vs fr slots) (hnm : nm = own ++ fr) (hvs : vs₀ = own.map (fun _ => Slot.no) ++ slots)
    (hns : ∀ n ∈ ns, n ∈ own) (hsz : xs.length ≤ sizeLine)
    (turn : ∀ a ∈ xs, ∀ C cs base hz bad led, ∃ vs', Tgt nm vs₀ tgt (di a) ns vs' ∧ Forget vs' vs₀ ∧ Ifs (compF f scope C cs base nm gl own x.bad) ⟨hz, bad, led, vs'⟩ ifs (p a) ∧
      (p a = true → Ev (compF f scope C cs base nm gl own x.bad) ⟨hz, bad, led, vs'⟩ elt (g a))) :
    CompR f x (.ListComp elt [⟨tgt, iter, ifs, 0⟩] scope pos) scope (firstIter [⟨tgt, iter, ifs, 0⟩] f.env) ((xs.filter p).map g) := fun s O => by
  subst hnm hvs
  have hfree : ∀ n, (n, NameKind.free) ∈ scope.names → f.env.kindOf n = some .cell := fun n hn => by have := hchk.free n hn; simp only [Env.kindOf, hsc, this]
  obtain ⟨cl, hcl, hc1, hc2⟩ : ∃ cl, closureFor scope f.env = pure cl ∧ (∀ n, (n, NameKind.free) ∈ scope.names → cl.lookup n = f.env.cells.lookup n) ∧ (∀ n, (n, NameKind.free) ∉ scope.names → cl.lookup n = none) := by
    refine closure_ok fun n hn => ?_
    obtain ⟨c, hc, _⟩ := O.free hsc hchk ats (hchk.cov n hn)
    rw [hc]; rfl
  refine ⟨cl, hcl, wpN (hI.run s O) fun xv s₁ h1 => wpN h1 fun it s₂ h2 => ?_⟩
  obtain ⟨I, fp, St, e1, k, hf, nd, T, st0⟩ := h2
  subst e1
  refine wpAny_newList (newEnv_comp ?_)
  generalize hH : s₂.heap.push { cls := .type "list", data := .seq ([] : List Value).toArray } = H
  obtain ⟨bad', O4⟩ := O.inner k hf nd (T.live 0 _ st0) st0 (fun h h' a b => T.frame 0 h h' a b) hsc hchk ats hc1 hc2 rfl hH.symm
  have lens : (xs.map di).length = xs.length := List.length_map ..
  have loop : ∀ s', s' = { s₂ with heap := pushCells (H.push { cls := .type "dict", data := .dict #[] }) scope.names } →
      codeAny f.W.M f.A (.compLoop (.ListComp elt [⟨tgt, iter, ifs, 0⟩] scope pos) 0 (.ref I) (.ref s₂.heap.objs.size) (compEnvC scope (cellsFrom (H.objs.size + 1) scope.names cl) H.objs.size f.env))
        (fun r s' => r = .ok .next ∧ ∃ D, Value.ref s₂.heap.objs.size = .ref D ∧ CompP x s ((xs.filter p).map g) D H.objs.size s') s' := by
    rintro s' rfl
    refine compLoop_ok (f := compF f scope H.objs.size (cellsFrom (H.objs.size + 1) scope.names cl) s (own ++ fr) gl own x.bad) (acc₀ := []) (rest := [])
      (o := fun i => match xs[i]? with | some a => if p a then [g a] else [] | none => []) (fun _ _ _ => rfl) T hns (fun i d bad hd => ?_) O4 fun s' bad' O5 => ⟨rfl, _, rfl, ?_⟩
    · rw [List.getElem?_map] at hd
      cases ha : xs[i]? with
      | none => rw [ha] at hd; cases hd
      | some a =>
        rw [ha] at hd; cases hd
        have hi : i < xs.length := (List.getElem?_eq_some_iff.mp ha).1
        obtain ⟨vs', t1, t2, t3, t4⟩ := turn a (List.mem_of_getElem? ha) H.objs.size (cellsFrom (H.objs.size + 1) scope.names cl) s (hideAll s₂.heap (fp ++ x.bad)) bad
          (.prd fp (St (i + 1)) :: .lst s₂.heap.objs.size ([] ++ (List.range i).flatMap (fun i => match xs[i]? with | some a => if p a then [g a] else [] | none => [])) :: [])
        refine ⟨vs', p a, t1, t2, t3, fun e => ?_, fun e s₅ O5 => ?_⟩
        · simp only [ha, e]; rfl
        · show wpAny _ _ (do let _ ← PySem.call (.builtin "list.append") [.ref s₂.heap.objs.size, ← eval elt _]) _ _ s₅
          refine wpAny_bind (wpN ((t4 e).run s₅ O5) fun v s₆ ⟨k6, r6⟩ => ?_)
          have O6 := O5.step k6
          obtain ⟨⟨vs, k, hp, hr⟩, _⟩ := O6.led _ (.tail _ (.head _))
          have hsmall : vs.toArray.size ≤ sizeLine := by
            rw [List.size_toArray, hr.length, List.nil_append, range_flat i (by omega), List.length_map]
            have := List.length_filter_le p (xs.take i)
            have := List.length_take_le' i xs
            omega
          refine wpAny_bind (wpAny_list_append_plain ⟨k, hp⟩ (fun h' hp' hs' => wpAny_pure ⟨bad, ?_⟩) hsmall)
          obtain ⟨k', hp'⟩ := hp'
          have := O6.mut (ds' := [] ++ (List.range i).flatMap (fun i => match xs[i]? with | some a => if p a then [g a] else [] | none => []) ++ [g a]) (.there .here) hs' (vs := vs ++ [v]) (k := k') (by rw [PL, hp']; simp) (hr.append (.one r6))
          simp only [ha, e, if_true]
          exact this
    · rw [lens, range_flat _ (Nat.le_refl _), List.take_length, List.nil_append] at O5
      exact CompP.of O5
  exact codeAny_compStart_list (loop _ rfl) (wpE (T.self f.A 0 { s₂ with heap := pushCells (H.push { cls := .type "dict", data := .dict #[] }) scope.names } (O4.led _ (.head _)).1.1) fun v s' ⟨e1, e2⟩ => by subst e1 e2; exact loop _ rfl)
end
end Mine
end
section
open PySem PySem.W PyProof.Rows PySem.Spec
set_option Elab.async false
set_option linter.all false
set_option maxRecDepth 100000
namespace Mine

noncomputable def fnChk (scope : Scope) (nm gl ps : List Str) : Bool :=
  (scope.kind == .function) && !scope.isCoroutine && !scope.isGenerator && nodupS scope.names
  && nm.all (fun n => dbg n && (scope.names.lookup n == some .local || scope.names.lookup n == some .cell)) && decide nm.Nodup
  && gl.all (fun n => dbg n && scope.names.lookup n == some .globalImplicit) && ps.all (fun n => nm.contains n)
structure FnChk (scope : Scope) (nm gl ps : List Str) : Prop where
  kind : scope.kind = .function
  co : scope.isCoroutine = false
  gen : scope.isGenerator = false
  nd : nodupS scope.names = true
  nmk : ∀ n ∈ nm, (n == ("__debug__" : Str)) = false ∧ (scope.names.lookup n = some .local ∨ scope.names.lookup n = some .cell)
  ndn : nm.Nodup
  glk : ∀ n ∈ gl, (n == ("__debug__" : Str)) = false ∧ scope.names.lookup n = some .globalImplicit
  psk : ∀ n ∈ ps, n ∈ nm
theorem fnChk_iff {scope : Scope} {nm gl ps : List Str} (h : fnChk scope nm gl ps = true) : FnChk scope nm gl ps := by
  simp only [fnChk, dbg, Bool.and_eq_true, List.all_eq_true, Bool.or_eq_true, beq_iff_eq, bne_iff_ne, decide_eq_true_eq, Bool.not_eq_true'] at h
  obtain ⟨⟨⟨⟨⟨⟨⟨h1, h2⟩, h3⟩, h4⟩, h5⟩, h6⟩, h7⟩, h8⟩ := h
  exact ⟨h1, h2, h3, h4, fun n hn => ⟨by simpa using (h5 n hn).1, (h5 n hn).2⟩, h6, fun n hn => ⟨by simpa using (h7 n hn).1, (h7 n hn).2⟩, fun n hn => by simpa using h8 n hn⟩

@[reducible] noncomputable def fnF (W : Wd) (A : Around) (rm : Nat) (fd : FuncData) (a L : Addr) (base : Shared) (nm gl : List Str) (cb : List Addr) : Fx :=
  { W := W, A := A.deeper (callEnvC fd L a), rm := rm, env := callEnvC fd L a, base := base, nm := nm, gl := gl, sto := nm, cb := cb }

theorem Ok.entry {W : Wd} {A : Around} {rm : Nat} {s : Shared} {bad : List Addr} (hA : Room A (rm + 1)) (w : W.Ok s.heap) (hb : ∀ b ∈ bad, ∃ o, s.heap.get? b = some o) {fd : FuncData} {a : Addr} {nm gl ps : List Str} (hchk : FnChk fd.scope nm gl ps)
    (hg : fd.globals = mainGlobals) (hbi : fd.builtins = builtinsNs) :
    ∃ bad', Ok (fnF W A rm fd a s.heap.objs.size s nm gl bad) ⟨hideAll s.heap bad, bad', [], nm.map fun _ => .no⟩ { s with heap := pushCells (s.heap.push { cls := .type "frame", data := .dict #[] }) fd.scope.names } ∧
      Ext (hideAll s.heap bad) (hideAll (pushCells (s.heap.push { cls := .type "frame", data := .dict #[] }) fd.scope.names) bad') := by
  have lt2 : ∀ {b : Nat} {o : Obj}, s.heap.get? b = some o → @LT.lt Nat _ b s.heap.objs.size := fun e => szN e
  generalize hH4 : pushCells (s.heap.push { cls := .type "frame", data := .dict #[] }) fd.scope.names = H4
  have k4 : Ext s.heap H4 := fun b o e => by rw [← hH4]; exact pushCells_keeps _ _ b o (Heap.get?_push_of_some _ e)
  have hns : H4.Ns s.heap.objs.size (fun _ => none) := by rw [← hH4]; exact (Heap.Ns.new s.heap (.type "frame")).keeps (pushCells_keeps _ _)
  have ok := cellsFrom_ok fd.scope.names (s.heap.push { cls := .type "frame", data := .dict #[] }) (s.heap.objs.size + 1) [] ⟨fun _ _ hm => (nomatch hm), List.Pairwise.nil⟩ (by rw [Heap.size_push]; exact Nat.le_refl _)
  rw [Heap.size_push, hH4] at ok
  generalize hoc : cellsFrom (s.heap.objs.size + 1) fd.scope.names [] = oc at ok
  have hcs : (callEnvC fd s.heap.objs.size a).cells = oc := hoc
  have hkd : ∀ n, (callEnvC fd s.heap.objs.size a).kindOf n = fd.scope.names.lookup n := fun _ => rfl
  have oca : ∀ {n : Str} {c : Nat}, (n, c) ∈ oc → s.heap.objs.size + 1 ≤ c := fun h => (ok.empty _ _ h).2
  have nlive : ∀ {b : Nat}, s.heap.objs.size ≤ b → s.heap.get? b = none := fun {b} hb => by
    cases q : s.heap.get? b with
    | none => rfl
    | some o => have := lt2 q; omega
  have bmem : ∀ {b : Nat}, b ∈ s.heap.objs.size :: (oc.map (·.2) ++ bad) → @LT.lt Nat _ b s.heap.objs.size → b ∈ bad := fun {b} hb hlt => by
    rcases List.mem_cons.mp hb with e | hb
    · rw [e] at hlt; omega
    · rcases List.mem_append.mp hb with hb | hb
      · obtain ⟨p, hp, rfl⟩ := List.mem_map.mp hb
        have := oca (n := p.1) (c := p.2) hp; omega
      · exact hb
  have hx : Ext (hideAll s.heap bad) (hideAll H4 (s.heap.objs.size :: (oc.map (·.2) ++ bad))) := fun b o e => by
    obtain ⟨e1, e2⟩ := hid_iff.mp e
    exact hid_iff.mpr ⟨k4 b o e1, fun m => e2 (bmem m (lt2 e1))⟩
  refine ⟨s.heap.objs.size :: (oc.map (·.2) ++ bad), ⟨hchk.kind, hg, hbi, hA.deeper, w, hchk.ndn, ?_, ?_, ?_, ?_, .mkh k4, ?_, ?_, nlive (Nat.le_refl _), .head _, ?_, ?_, fun r hr => (nomatch hr), List.nodup_nil, _, hns, ?_⟩, hx⟩
  · intro n hn
    refine ⟨(hchk.nmk n hn).1, ?_⟩
    rcases (hchk.nmk n hn).2 with h | h
    · exact .inl h
    · refine .inr ⟨h, ?_⟩
      obtain ⟨c, hc⟩ := cellsFrom_has fd.scope.names (s.heap.objs.size + 1) (mem_lookup h)
      exact lookup_isSome hc
  · intro n hn; exact hchk.glk n hn
  · intro n hn c hc
    have hc' : oc.lookup n = some c := hcs ▸ hc
    exact nlive (Nat.le_trans (Nat.le_add_right _ 1) (oca (mem_of_lookup hc')))
  · intro b h; exact ⟨List.mem_cons_of_mem _ (List.mem_append_right _ h), hb b h⟩
  · intro b o e
    obtain ⟨e1, e2⟩ := hid_iff.mp e
    exact ⟨k4 b o e1, fun m => e2 (bmem m (lt2 e1))⟩
  · intro b h
    rcases List.mem_cons.mp h with e | h
    · obtain ⟨o, _, _, e', _⟩ := hns; exact ⟨o, e ▸ e'⟩
    · rcases List.mem_append.mp h with h | h
      · obtain ⟨p, hp, rfl⟩ := List.mem_map.mp h
        obtain ⟨o, e, _⟩ := (ok.empty p.1 p.2 hp).1; exact ⟨o, e⟩
      · obtain ⟨o, e⟩ := hb b h; exact ⟨o, k4 b o e⟩
  · intro n c hc
    have hm : (n, c) ∈ oc := mem_of_lookup (hcs ▸ hc : oc.lookup n = some c)
    exact ⟨List.mem_cons_of_mem _ (List.mem_append_left _ (List.mem_map.mpr ⟨_, hm, rfl⟩)), by have := oca hm; intro q; have q' : @Eq Nat c s.heap.objs.size := q; omega, none, (ok.empty _ _ hm).1⟩
  · intro n n' c h h'
    exact name_of_addr ok.apart (mem_of_lookup (hcs ▸ h : oc.lookup n = some c)) (mem_of_lookup (hcs ▸ h' : oc.lookup n' = some c))
  · intro i n sl e1 e2
    have : sl = .no := by simp at e2; exact e2.2.symm
    subst this; trivial

theorem bindOk {f : Fx} (fn : Str × Value → PUnit → Sem (ForInStep PUnit)) (hf : ∀ n v u, fn (n, v) u = (do storeName f.env n v; pure (.yield ⟨⟩))) :
    ∀ (ps : List Str) (vals : List Value) (ds : List PyData) (x : Sx) (s : Shared) (vs' : List Slot) (Q : PUnit → Shared → Prop), Ok f x s → RdAll (hideAll s.heap x.bad) vals ds → Puts f.nm x.vs ps ds vs' → (∀ n ∈ ps, n ∈ f.sto) →
      (∀ s', Ok f { x with vs := vs' } s' → Q ⟨⟩ s') → wpAny f.W.M f.A (forIn (ps.zip vals) PUnit.unit fn) Q No s := by
  intro ps
  induction ps with
  | nil =>
    intro vals ds x s vs' Q O r hp hc h
    cases hp
    exact wpAny_pure (h s O)
  | cons n ps ih =>
    intro vals ds x s vs' Q O r hp hc h
    cases hp with
    | cons put hp =>
    obtain ⟨v, vals, rfl, r1, r2⟩ := r.cons_inv
    rw [List.zip_cons_cons, List.forIn_cons, hf]
    refine wpAny_bind (wpAny_bind (wpN (O.store put r1 (hc n (.head _))) fun _ s' ⟨O', k⟩ => wpAny_pure ?_))
    have q := ih vals _ _ s' vs' Q O' (r2.ext k) hp (fun m hm => hc m (.tail _ hm)) h
    exact q

noncomputable def RetP (f : Fx) (P : List Addr → Heap → Value → Prop) : Flow → Shared → Prop
  | .ret v, s' => Step f.base s' ∧ P f.cb s'.heap v
  | _, _ => False
noncomputable def RetD (f : Fx) (d : PyData) : Flow → Shared → Prop := RetP f fun bad h v => Rd (hideAll h bad) v d
theorem Ok.retD {f : Fx} {x : Sx} {s : Shared} {v : Value} {d : PyData} (O : Ok f x s) (r : Rd (hideAll s.heap x.bad) v d) : RetD f d (.ret v) s :=
  ⟨O.same, r.ext (hid_anti fun b hb => (O.cbB b hb).1)⟩

theorem Ok.around {f : Fx} {x : Sx} {s : Shared} (O : Ok f x s) {A : Around} (h : Room A f.rm) : Ok { f with A := A } x s :=
  ⟨O.kind, O.glo, O.bui, h, O.wok, O.nd, O.knd, O.gk, O.cellF, O.cbB, O.same, O.hz, O.live, O.locF, O.locB, O.cell, O.inj, O.led, O.ledNd, O.vars⟩

theorem FnP.of_body {W : Wd} {a : Addr} {o : Obj} {fd : FuncData} {body : List Stmt} {nm gl ps : List Str} {ds : List PyData} {vs₀ : List Slot} {n : Nat} {P : List Addr → Heap → Value → Prop}
    (hk : W.K.lookup a = some o) (hd : o.data = .func fd) (hcd : codeIn W.K fd.code fd.qualname = true) (hbody : fd.body = .stmts body) (hclo : fd.closure = []) (hg : fd.globals = mainGlobals) (hbi : fd.builtins = builtinsNs)
    (hchk : FnChk fd.scope nm gl ps) (hbind : ∀ vs : List Value, vs.length = ds.length → bindArgs fd ⟨vs, []⟩ = pure (ps.zip vs)) (puts : Puts nm (nm.map fun _ => Slot.no) ps ds vs₀)
    (h : ∀ A s L hz bad bad', Ex (fnF W A n fd a L s nm gl bad) ⟨hz, bad', [], vs₀⟩ body (RetP (fnF W A n fd a L s nm gl bad) P)) : FnP W (.ref a) (n + 1) ds P := fun A s bad vs hA w hb r => by
  refine wpAny_call ?_
  refine codeAny_call_function (Nat.lt_trans (Nat.lt_of_le_of_lt (Nat.le_add_right _ _) hA.dep) (by decide)) (w.k _ _ hk) hd hchk.co hchk.gen hbody (codeRec_of w.k hcd) ?_
  rw [hbind vs r.length, hclo]
  refine wpAny_pure ?_
  simp only [newFunctionEnv, Option.isSome_none, Bool.false_eq_true, if_false]
  refine wpAny_bind (wpAny_alloc ?_)
  refine wpAny_bind (wpAny_layCells _ (fun name kind cells => by cases hkc : kind == NameKind.cell <;> simp [hkc]) _ _ _ _ ?_)
  rw [show ({ s with heap := s.heap.push { cls := .type "frame", data := .dict #[] } } : Shared).heap.objs.size = s.heap.objs.size + 1 from Heap.size_push ..]
  obtain ⟨bad', O, kx⟩ := Ok.entry hA w hb (a := a) hchk hg hbi
  have O' : Ok { fnF W A n fd a s.heap.objs.size s nm gl bad with A := A.in1 } _ _ := O.around hA.in1
  have q := bindOk (f := { fnF W A n fd a s.heap.objs.size s nm gl bad with A := A.in1 }) (fun x _ => do storeName (callEnvC fd s.heap.objs.size a) x.1 x.2; pure (.yield ⟨⟩)) (fun _ _ _ => rfl) ps vs ds _ _ vs₀
    (fun _ s₂ => wpAny (model W.prog W.w) A.in1 (pure (callEnvC fd s.heap.objs.size a)) (fun env s₂ => s₂.heap.NoLimit ∧ codeAny (model W.prog W.w) A (.func body env) (fun r s' => match r with | .ok (.ret v) => Step s s' ∧ P bad s'.heap v | .ok _ => False | .error e => No e s') s₂) No s₂)
    O' (r.ext kx) puts hchk.psk (fun s₂ O₂ => wpAny_pure ⟨(w.ext O₂.same.ext).lim, codeAny_func (wpE ((h A s s.heap.objs.size (hideAll s.heap bad) bad bad').run s₂ (O₂.around hA.deeper)) fun fl s₃ hfl => ?_)⟩)
  · exact wpAny_bind (wpE q fun _ _ h => h)
  · cases fl with
    | ret v => exact hfl
    | _ => exact hfl.elim

end Mine
end
section
open PySem PySem.W PyProof.Rows PySem.Spec
set_option Elab.async false
set_option linter.all false
set_option maxRecDepth 100000
namespace Mine
structure Wd.Glob (W : Wd) : Prop where
  g : ∀ n v, nsIn W.K mainGlobals n = some (some v) → W.mg n = some v
  gn : ∀ n, nsIn W.K mainGlobals n = some none → W.mg n = none
  b : ∀ n : Str, n ≠ ("__name__" : Str) → W.mb n = bootBuiltins n
theorem Wd.Glob.of {W : Wd} {h : Heap} (x : W.Ok h) (b : ∀ n : Str, n ≠ ("__name__" : Str) → W.mb n = bootBuiltins n) : W.Glob :=
  ⟨fun n v e => mg_of x.k x.g e, fun n e => mg_none_of x.k x.g e, b⟩

theorem RdAll.ints {h : Heap} : ∀ {ns : List Int} {vs : List Value}, RdAll h vs (ns.map .int) → IntsAre vs ns
  | [], vs, r => by rw [r.nil_inv]; exact .nil
  | n :: ns, vs, r => by
    obtain ⟨v, r', rfl, a, b⟩ := r.cons_inv
    obtain ⟨t, rfl⟩ := a.int_inv
    exact .cons _ _ (RdAll.ints b)
theorem RdAll.of_ints {h : Heap} : ∀ {ns : List Int} {vs : List Value}, IntsAre vs ns → RdAll h vs (ns.map .int)
  | _, _, .nil => .nil
  | _, _, .cons _ _ r => .cons (.int _ _) (RdAll.of_ints r)

section
variable {W : Wd} {n : Nat}
theorem Fn.len_list {ds : List PyData} (h : (ds.length : Int) < 2 ^ 63) : Fn W (.builtin "len") n [.list ds] (.int ds.length) := fun A s bad vs hA w hb r => by
  obtain ⟨v, _, rfl, r, r'⟩ := r.cons_inv; rw [r'.nil_inv]
  obtain ⟨a, vs, k, rfl, p, q⟩ := r.list_inv
  refine PySem.Calls.call_len_list (PL.isList (hid_iff.mp p).1) (by rw [List.size_toArray, q.length]; exact h) ⟨.tok, ?_⟩
  rw [List.size_toArray, q.length]; exact .int _ _
theorem Fn.len_str {l : List Nat} (h : (l.length : Int) < 2 ^ 63) : Fn W (.builtin "len") n [st l] (.int l.length) := fun A s bad vs hA w hb r => by
  obtain ⟨v, _, rfl, r, r'⟩ := r.cons_inv; rw [r'.nil_inv]
  obtain ⟨t, rfl⟩ := r.str_inv
  refine PySem.P.len_str (by rw [S_len]; omega) ⟨.tok, ?_⟩
  rw [S_len]; exact .int _ _
theorem Fn.abs {i : Int} : Fn W (.builtin "abs") n [.int i] (.int (i.natAbs : Int)) := fun A s bad vs hA w hb r => by
  obtain ⟨v, _, rfl, r, r'⟩ := r.cons_inv; rw [r'.nil_inv]
  obtain ⟨t, rfl⟩ := r.int_inv
  refine call_abs_int fun u tk => ⟨.tok, ?_⟩
  have : (if i < 0 then -i else i) = (i.natAbs : Int) := by split <;> omega
  rw [this]; exact .int _ _
theorem Fn.int {i : Int} : Fn W (.type "int") n [.int i] (.int i) := fun A s bad vs hA w hb r => by
  obtain ⟨v, _, rfl, r, r'⟩ := r.cons_inv; rw [r'.nil_inv]
  obtain ⟨t, rfl⟩ := r.int_inv
  exact call_int_int ⟨.rfl', .int _ _⟩
theorem Fn.divmod {a b : Int} (hb0 : b ≠ 0) (hp : b.natAbs.log2 < 9000) : Fn W (.builtin "divmod") n [.int a, .int b] (.tuple [.int (a.fdiv b), .int (a.fmod b)]) := fun A s bad vs hA w hb r => by
  obtain ⟨v, _, rfl, q1, r'⟩ := r.cons_inv
  obtain ⟨v', _, rfl, q2, r''⟩ := r'.cons_inv; rw [r''.nil_inv]
  obtain ⟨t, rfl⟩ := q1.int_inv; obtain ⟨u, rfl⟩ := q2.int_inv
  refine divmod_int hb0 ⟨.mk' (ext_push _), .tuple (vs := [_, _]) (n := 0) (hid_iff.mpr ⟨Heap.get?_push_size _ rfl, fun m => ?_⟩) (.cons (.int _ _) (.cons (.int _ _) .nil))⟩ (.inl (PyProof.noPylong_of_log2 hp))
  obtain ⟨o, e⟩ := hb _ m; exact Nat.lt_irrefl _ (Heap.lt_size e)
theorem Fn.ord {c : Nat} : Fn W (.builtin "ord") n [st [c]] (.int c) := fun A s bad vs hA w hb r => by
  obtain ⟨v, _, rfl, r, r'⟩ := r.cons_inv; rw [r'.nil_inv]
  obtain ⟨t, rfl⟩ := r.str_inv
  exact PySem.P.ord_of_char ⟨.tok, .int _ _⟩
noncomputable def srt (ns : List Int) : List Int := ns.mergeSort (fun a b => decide (a ≤ b))
theorem srt_perm (ns : List Int) : (srt ns).Perm ns := List.mergeSort_perm _ _
theorem srt_le (ns : List Int) : (srt ns).Pairwise (· ≤ ·) := by
  have := List.pairwise_mergeSort (le := fun a b : Int => decide (a ≤ b)) (by simp; omega) (by simp; omega) ns
  simpa [srt] using this
theorem srt_of {ns ns' : List Int} (p : ns'.Perm ns) (h : ns'.Pairwise (· ≤ ·)) : ns' = srt ns :=
  List.Perm.eq_of_pairwise (fun _ _ _ _ a b => Int.le_antisymm a b) h (srt_le ns) (p.trans (srt_perm ns).symm)
theorem Fn.sorted {ns : List Int} (h64 : ns.length < 64) : Fn W (.builtin "sorted") n [.list (ns.map .int)] (.list ((srt ns).map .int)) := fun A s bad vs hA w hb r => by
  obtain ⟨v, _, rfl, r, r'⟩ := r.cons_inv; rw [r'.nil_inv]
  obtain ⟨a, vs, k, rfl, p, q⟩ := r.list_inv
  refine sorted_ints (PL.isList (hid_iff.mp p).1) q.ints (by rw [q.length, List.length_map]; exact h64) fun out ns' hi hp ho => ?_
  obtain ⟨e, he⟩ := sortedAll_at s.heap vs out
  have := srt_of hp ho; subst this
  refine ⟨.mkh fun b o hb => PyProof.Rows.sortedAll_old hb, .list (vs := out.toList) (n := e) (hid_iff.mpr ⟨he, fun m => ?_⟩) (.of_ints hi)⟩
  obtain ⟨o, e⟩ := hb _ m; exact absurd (Heap.lt_size e) (by show ¬ @LT.lt Nat _ (s.heap.objs.size + 1) s.heap.objs.size; omega)
end
end Mine
end
section
open PySem PySem.W PyProof.Rows PySem.Spec
set_option Elab.async false
set_option linter.all false
set_option maxRecDepth 100000
namespace Mine
open Builtin

noncomputable def B (l : List UInt8) : Value → Prop := fun v => ∃ t, v = .bytes l.toArray t
theorem ascii_loop {F : Type} (l : List UInt8) (h : ∀ c ∈ l, c.toNat < 128) (hs : l.length ≤ sizeLine) (g : Nat → Nat × Array Nat × F → Sem (ForInStep (Nat × Array Nat × F)))
    (hg : ∀ x p (out : Array Nat) st (c : UInt8), l[p]? = some c → out.size ≤ sizeLine → g x (p, out, st) = pure (.yield (p + 1, out ++ #[c.toNat], st))) :
    ∀ (xs : List Nat) (p : Nat) (out : Array Nat) (st : F), xs.length + p = l.length → out.size = p → forIn xs (p, out, st) g = pure (l.length, out ++ ((l.drop p).map UInt8.toNat).toArray, st)
  | [], p, out, st, e, _ => by
    have : p = l.length := by simpa using e
    subst this
    simp
  | x :: xs, p, out, st, e, e2 => by
    have hp : p < l.length := by simp at e; omega
    rw [List.forIn_cons, hg x p out st l[p] (List.getElem?_eq_getElem hp) (by omega)]
    have := ascii_loop l h hs g hg xs (p + 1) (out ++ #[l[p].toNat]) st (by simp at e; omega) (by simp [e2])
    rw [pure_bind]
    dsimp only
    have e3 : l.drop p = l[p] :: l.drop (p + 1) := List.drop_eq_getElem_cons hp
    rw [this, e3]
    generalize l.drop (p + 1) = q
    simp
theorem ascii_run (id : String) (l : List UInt8) (h : ∀ c ∈ l, c.toNat < 128) (hs : l.length ≤ sizeLine) : _codecs.runDecoder id _codecs.asciiDecoder none true l.toArray 0 [] = pure ((l.map UInt8.toNat).toArray, l.length) := by
  unfold _codecs.runDecoder
  simp only [List.size_toArray, Std.Legacy.Range.forIn_eq_forIn_range', Std.Legacy.Range.size, Nat.sub_zero, Nat.add_sub_cancel, Nat.div_one]
  rw [ascii_loop (F := _codecs.Faults) l h hs _ ?_ (List.range' 0 l.length) 0 #[] {} (by simp) (by simp)]
  · simp
  · intro x p out st c hc ho
    have hp : p < l.length := (List.getElem?_eq_some_iff.mp hc).1
    have hc' : (l.toArray.getD p 0) = c := by
      have := (List.getElem?_eq_some_iff.mp hc).2
      simp [Array.getD, hp, this]
    have h128 := h c (List.mem_of_getElem? hc)
    rw [if_neg (by dsimp only; omega), if_neg (by dsimp only; omega)]
    have : _codecs.asciiDecoder.find true l.toArray p = .char c.toNat (p + 1) := by
      show (let c := (l.toArray.getD p 0).toNat; if c < 128 then _codecs.Found.char c (p + 1) else _) = _
      rw [hc']
      exact if_pos h128
    dsimp only
    rw [this]
    rfl

theorem ascii_road {id : String} {b : Array UInt8} : _codecs.decodeRoad id b (Str.ofString "ascii") none [] = (_codecs.runDecoder id _codecs.asciiDecoder none true b 0 [] >>= fun r => mkStr ⟨r.1⟩) := by kernel_rfl
theorem ascii_tree (c : UInt8) (cs : List UInt8) (t u : Tok) : Builtin.«bytes.decode» ⟨[.bytes (c :: cs).toArray t, .str (Str.ofString "ascii") u], []⟩ = (mkStr (Str.ofString "utf-8") >>= fun _ => mkStr (Str.ofString "ascii") >>= fun e => mkStr (Str.ofString "bytes.decode") >>= fun d =>
    PySem.call (.builtin "_codecs.decode.text") [.bytes (c :: cs).toArray t, e, .none, d] >>= fun v => ret v) := by kernel_rfl
theorem ascii_tree0 (t u : Tok) : Builtin.«bytes.decode» ⟨[.bytes (([] : List UInt8)).toArray t, .str (Str.ofString "ascii") u], []⟩ = (rule "bytes.decode.empty" >>= fun _ => retStr Str.empty) := by kernel_rfl
theorem ascii_args (a b : Value) : argsOk "bytes.decode" ⟨[a, b], []⟩ := by unfold argsOk; kernel_rfl

theorem meets_ascii (l : List UInt8) (t u : Tok) (h : ∀ c ∈ l, c.toNat < 128) : Meets (Builtin.«bytes.decode» ⟨[.bytes l.toArray t, .str (Str.ofString "ascii") u], []⟩) (fun _ R s => l.length ≤ sizeLine ∧ ∀ t' k, R (.ok (.ret (.str (S (l.map UInt8.toNat)) t'))) { s with toks := k }) := by
  refine .of_wp fun prog w A R s hS => ?_
  obtain ⟨hsz, hR⟩ := hS
  cases l with
  | nil =>
    rw [ascii_tree0]
    exact wpAny_bind (wpAny_rule (wpAny_bind (wpAny_mkStr (wpAny_pure ⟨_, rfl, hR _ _⟩) (by decide))))
  | cons c cs =>
    rw [ascii_tree]
    refine wpAny_bind (wpAny_mkStr ?_ (by decide))
    refine wpAny_bind (wpAny_mkStr ?_ (by decide))
    refine wpAny_bind (wpAny_mkStr ?_ (by decide))
    refine wpAny_bind (PySem.Calls.call_function_entry KBd.kind_text KBd.plain_text KBd.entry_text (KBd.args_text _ _ _ _) ?_)
    show wpAny _ _ (Bytes.bytesLike _ (.bytes (c :: cs).toArray t) >>= fun r => _) _ _ _
    refine wpAny_bind (wpAny_of_eq KBd.like_eq ?_)
    refine wpAny_bind (wpAny_of_eq KBd.held_eq ?_)
    show wpAny _ _ (_codecs.decodeRoad _ (c :: cs).toArray (PySem.Str.ofString "ascii") none [] >>= fun v => _) _ _ _
    rw [ascii_road, ascii_run _ _ h hsz]
    refine wpAny_bind (wpAny_bind (wpAny_pure ?_))
    exact wpAny_mkStr (wpAny_pure ⟨_, rfl, wpAny_pure ⟨_, rfl, hR _ _⟩⟩) (by show ((c :: cs).map UInt8.toNat).toArray.size ≤ sizeLine; simpa using hsz)
end Mine
end
section
open PySem PySem.W PyProof.Rows PySem.Spec
set_option Elab.async false
set_option linter.all false
set_option maxRecDepth 100000
namespace Mine
section
variable {f : Fx} {x : Sx}
noncomputable abbrev EvB (f : Fx) (x : Sx) (e : Expr) (l : List UInt8) : Prop := EvP f x e fun _ v => B l v
theorem EvB.const {l : List UInt8} {k pos} : EvB f x (.Constant (.bytes l) k pos) l := .bx fun s O => fun _ _ _ => ⟨.tok, ⟨_, rfl⟩⟩
theorem EvP.nameIs {n : Str} {pos} {P : Value → Prop} (a : At f.nm x.vs n (.is P)) : EvP f x (.Name n pos) fun _ v => P v := .bx fun s O => by
  obtain ⟨m, hns, hv⟩ := O.vars
  obtain ⟨i, e1, e2⟩ := a.get
  obtain ⟨v, l, r⟩ := hv i n _ e1 e2
  exact wpAny_Name (O.load hns l ⟨.rfl', r⟩) (O.knd n (List.mem_of_getElem? e1)).1
theorem EvB.add {l r : Expr} {pos} {a b : List UInt8} (h1 : EvB f x l a) (h2 : EvB f x r b) (hn : a.length + b.length ≤ 16777216) : EvB f x (.BinOp l .Add r pos) (a ++ b) := .bx fun s O =>
  wpAny_BinOp (wpN (h1.run s O) fun v s₁ ⟨k1, r1⟩ => wpN (h2.run s₁ (O.step k1)) fun w s₂ ⟨k2, r2⟩ => by
    obtain ⟨t, rfl⟩ := r1; obtain ⟨u, rfl⟩ := r2
    exact KBy.add_bytes (by simpa using hn) fun t' k => ⟨(k1.trans k2).trans .tok, ⟨t', by simp⟩⟩)
theorem EvB.slice {v : Expr} {lo hi : Option Expr} {p pos} {ds : List UInt8} {a b : Option Int} (h1 : EvB f x v ds) (h2 : EvO f x lo a) (h3 : EvO f x hi b) (hn : ds.length ≤ sizeLine) :
    EvB f x (.Subscript v (.Slice lo hi .none p) pos) (slc ds a b) := .bx fun s O =>
  Subscript_ (wpN (h1.run s O) fun o s₁ ⟨k1, r1⟩ => wpAny_Slice (wpN (h2.run s₁ (O.step k1)) fun l s₂ ⟨k2, pa, e1, e2⟩ => wpN (h3.run s₂ ((O.step k1).step k2)) fun u s₃ ⟨k3, pb, e3, e4⟩ => wpAny_evalPart_none (by
    subst e1 e2 e3 e4
    have k := (k1.trans k2).trans k3
    obtain ⟨t, rfl⟩ := r1
    refine tail_any (typeIs_bytes _ _ t) FB.slot_bytes_getitem.lookup (getItem_meets (typeIs_bytes _ _ _) (by decide) FB.slot_bytes_getitem FB.entry_bytes_getitem (FB.args_bytes_getitem_2 _ _) (KBc.meets_slice2 ds.toArray t _ (isPart_of pa) (isPart_of pb))
      ⟨Heap.IsSliceOf.new _ _ _ _, Nat.le_trans (KBc.size_picked_le _ _ _) (by simpa using hn), fun t' k' => ?_⟩) rfl
    refine ⟨k.trans (.mk' (ext_push _)), t', ?_⟩
    rw [KBc.picked_eq]
    show Value.bytes _ _ = .bytes (slc ds _ _).toArray t'
    simp [slc])))
theorem Ex.assignIs {n : Str} {p : Pos} {e : Expr} {pos : Pos} {rest : List Stmt} {P : Value → Prop} {vs' : List Slot} {Q : Flow → Shared → Prop} (h : EvP f x e fun _ v => P v) (put : Put f.nm x.vs n (.is P) vs')
    (hr : Ex f { x with vs := vs' } rest Q) (hc : f.sto = f.nm := by exact rfl)
    (hs : swapsWith e (some (.Name n p)) pos.line f.env = pure false := by exact rfl) : Ex f x (.Assign [.Name n p] e pos :: rest) Q := .cons fun s O =>
  wpAny_Assign_Name (wpN (h.run s O) fun v s₁ ⟨k, r⟩ => wpN ((O.step k).store put r (hc ▸ put.mem)) fun _ s₂ O₂ => hr.run s₂ O₂.1) hs

theorem Ev.decode {o : Expr} {apos pos k p2} {l : List UInt8} (h0 : EvB f x o l) (h : ∀ c ∈ l, c.toNat < 128) (hn : l.length ≤ sizeLine)
    (hbase : attributeBase o (Str.ofString "decode") f.env (eval o f.env) = eval o f.env := by exact rfl)
    (hline : (apos.endLine == pos.line) = true := by exact rfl) :
    Ev f x (.Call (.Attribute o (Str.ofString "decode") apos) [.Constant (.str (Str.ofString "ascii")) k p2] [] pos) (st (l.map UInt8.toNat)) :=
  EvP.meth (P0 := fun _ v => B l v) (ds := [.str (Str.ofString "ascii")]) h0 FB.plainAttrs_bytes FB.slot_bytes_decode FB.type_bytes_decode
    (fun h v ⟨t, e⟩ => by subst e; exact ⟨fun s _ => typeIs_bytes _ _ _, fun _ e => nomatch e⟩) (fun _ _ _ b _ => b) (.cons .str .nil)
    (fun s v vs O ⟨t, e⟩ r => by
      subst e
      obtain ⟨v', _, rfl, r1, r2⟩ := r.cons_inv; rw [r2.nil_inv]
      obtain ⟨u, rfl⟩ := r1.str_inv
      exact call_meets FB.slot_bytes_decode (typeIs_bytes _ _ _) FB.entry_bytes_decode (ascii_args _ _) (meets_ascii l t u h) ⟨hn, fun t' k => ⟨.tok, .str _ _⟩⟩)
    hbase rfl hline rfl rfl
end
end Mine
end
section
open PySem PySem.W PyProof.Rows PySem.Spec
set_option Elab.async false
set_option linter.all false
set_option maxRecDepth 100000
namespace Mine
theorem At.i0 {n0 : Str} {nm : List Str} {s0 : Slot} {vs : List Slot} : At (n0 :: nm) (s0 :: vs) n0 s0 := .here
theorem Put.i0 {n0 : Str} {nm : List Str} {s0 s : Slot} {vs : List Slot} : Put (n0 :: nm) (s0 :: vs) n0 s (s :: vs) := .here
theorem Mem.i0 {n0 : Str} {nm : List Str} : n0 ∈ n0 :: nm := .head _
theorem At.i1 {n0 n1 : Str} {nm : List Str} {s0 s1 : Slot} {vs : List Slot} : At (n0 :: n1 :: nm) (s0 :: s1 :: vs) n1 s1 := .there At.i0
theorem Put.i1 {n0 n1 : Str} {nm : List Str} {s0 s1 s : Slot} {vs : List Slot} : Put (n0 :: n1 :: nm) (s0 :: s1 :: vs) n1 s (s0 :: s :: vs) := .there Put.i0
theorem Mem.i1 {n0 n1 : Str} {nm : List Str} : n1 ∈ n0 :: n1 :: nm := .tail _ Mem.i0
theorem At.i2 {n0 n1 n2 : Str} {nm : List Str} {s0 s1 s2 : Slot} {vs : List Slot} : At (n0 :: n1 :: n2 :: nm) (s0 :: s1 :: s2 :: vs) n2 s2 := .there At.i1
theorem Put.i2 {n0 n1 n2 : Str} {nm : List Str} {s0 s1 s2 s : Slot} {vs : List Slot} : Put (n0 :: n1 :: n2 :: nm) (s0 :: s1 :: s2 :: vs) n2 s (s0 :: s1 :: s :: vs) := .there Put.i1
theorem Mem.i2 {n0 n1 n2 : Str} {nm : List Str} : n2 ∈ n0 :: n1 :: n2 :: nm := .tail _ Mem.i1
theorem At.i3 {n0 n1 n2 n3 : Str} {nm : List Str} {s0 s1 s2 s3 : Slot} {vs : List Slot} : At (n0 :: n1 :: n2 :: n3 :: nm) (s0 :: s1 :: s2 :: s3 :: vs) n3 s3 := .there At.i2
theorem Put.i3 {n0 n1 n2 n3 : Str} {nm : List Str} {s0 s1 s2 s3 s : Slot} {vs : List Slot} : Put (n0 :: n1 :: n2 :: n3 :: nm) (s0 :: s1 :: s2 :: s3 :: vs) n3 s (s0 :: s1 :: s2 :: s :: vs) := .there Put.i2
theorem Mem.i3 {n0 n1 n2 n3 : Str} {nm : List Str} : n3 ∈ n0 :: n1 :: n2 :: n3 :: nm := .tail _ Mem.i2
theorem At.i4 {n0 n1 n2 n3 n4 : Str} {nm : List Str} {s0 s1 s2 s3 s4 : Slot} {vs : List Slot} : At (n0 :: n1 :: n2 :: n3 :: n4 :: nm) (s0 :: s1 :: s2 :: s3 :: s4 :: vs) n4 s4 := .there At.i3
theorem Put.i4 {n0 n1 n2 n3 n4 : Str} {nm : List Str} {s0 s1 s2 s3 s4 s : Slot} {vs : List Slot} : Put (n0 :: n1 :: n2 :: n3 :: n4 :: nm) (s0 :: s1 :: s2 :: s3 :: s4 :: vs) n4 s (s0 :: s1 :: s2 :: s3 :: s :: vs) := .there Put.i3
theorem Mem.i4 {n0 n1 n2 n3 n4 : Str} {nm : List Str} : n4 ∈ n0 :: n1 :: n2 :: n3 :: n4 :: nm := .tail _ Mem.i3
theorem At.i5 {n0 n1 n2 n3 n4 n5 : Str} {nm : List Str} {s0 s1 s2 s3 s4 s5 : Slot} {vs : List Slot} : At (n0 :: n1 :: n2 :: n3 :: n4 :: n5 :: nm) (s0 :: s1 :: s2 :: s3 :: s4 :: s5 :: vs) n5 s5 := .there At.i4
theorem Put.i5 {n0 n1 n2 n3 n4 n5 : Str} {nm : List Str} {s0 s1 s2 s3 s4 s5 s : Slot} {vs : List Slot} : Put (n0 :: n1 :: n2 :: n3 :: n4 :: n5 :: nm) (s0 :: s1 :: s2 :: s3 :: s4 :: s5 :: vs) n5 s (s0 :: s1 :: s2 :: s3 :: s4 :: s :: vs) := .there Put.i4
theorem Mem.i5 {n0 n1 n2 n3 n4 n5 : Str} {nm : List Str} : n5 ∈ n0 :: n1 :: n2 :: n3 :: n4 :: n5 :: nm := .tail _ Mem.i4
theorem At.i6 {n0 n1 n2 n3 n4 n5 n6 : Str} {nm : List Str} {s0 s1 s2 s3 s4 s5 s6 : Slot} {vs : List Slot} : At (n0 :: n1 :: n2 :: n3 :: n4 :: n5 :: n6 :: nm) (s0 :: s1 :: s2 :: s3 :: s4 :: s5 :: s6 :: vs) n6 s6 := .there At.i5
theorem Put.i6 {n0 n1 n2 n3 n4 n5 n6 : Str} {nm : List Str} {s0 s1 s2 s3 s4 s5 s6 s : Slot} {vs : List Slot} : Put (n0 :: n1 :: n2 :: n3 :: n4 :: n5 :: n6 :: nm) (s0 :: s1 :: s2 :: s3 :: s4 :: s5 :: s6 :: vs) n6 s (s0 :: s1 :: s2 :: s3 :: s4 :: s5 :: s :: vs) := .there Put.i5
theorem Mem.i6 {n0 n1 n2 n3 n4 n5 n6 : Str} {nm : List Str} : n6 ∈ n0 :: n1 :: n2 :: n3 :: n4 :: n5 :: n6 :: nm := .tail _ Mem.i5
theorem At.i7 {n0 n1 n2 n3 n4 n5 n6 n7 : Str} {nm : List Str} {s0 s1 s2 s3 s4 s5 s6 s7 : Slot} {vs : List Slot} : At (n0 :: n1 :: n2 :: n3 :: n4 :: n5 :: n6 :: n7 :: nm) (s0 :: s1 :: s2 :: s3 :: s4 :: s5 :: s6 :: s7 :: vs) n7 s7 := .there At.i6
theorem Put.i7 {n0 n1 n2 n3 n4 n5 n6 n7 : Str} {nm : List Str} {s0 s1 s2 s3 s4 s5 s6 s7 s : Slot} {vs : List Slot} : Put (n0 :: n1 :: n2 :: n3 :: n4 :: n5 :: n6 :: n7 :: nm) (s0 :: s1 :: s2 :: s3 :: s4 :: s5 :: s6 :: s7 :: vs) n7 s (s0 :: s1 :: s2 :: s3 :: s4 :: s5 :: s6 :: s :: vs) := .there Put.i6
theorem Mem.i7 {n0 n1 n2 n3 n4 n5 n6 n7 : Str} {nm : List Str} : n7 ∈ n0 :: n1 :: n2 :: n3 :: n4 :: n5 :: n6 :: n7 :: nm := .tail _ Mem.i6
theorem At.i8 {n0 n1 n2 n3 n4 n5 n6 n7 n8 : Str} {nm : List Str} {s0 s1 s2 s3 s4 s5 s6 s7 s8 : Slot} {vs : List Slot} : At (n0 :: n1 :: n2 :: n3 :: n4 :: n5 :: n6 :: n7 :: n8 :: nm) (s0 :: s1 :: s2 :: s3 :: s4 :: s5 :: s6 :: s7 :: s8 :: vs) n8 s8 := .there At.i7
theorem Put.i8 {n0 n1 n2 n3 n4 n5 n6 n7 n8 : Str} {nm : List Str} {s0 s1 s2 s3 s4 s5 s6 s7 s8 s : Slot} {vs : List Slot} : Put (n0 :: n1 :: n2 :: n3 :: n4 :: n5 :: n6 :: n7 :: n8 :: nm) (s0 :: s1 :: s2 :: s3 :: s4 :: s5 :: s6 :: s7 :: s8 :: vs) n8 s (s0 :: s1 :: s2 :: s3 :: s4 :: s5 :: s6 :: s7 :: s :: vs) := .there Put.i7
theorem Mem.i8 {n0 n1 n2 n3 n4 n5 n6 n7 n8 : Str} {nm : List Str} : n8 ∈ n0 :: n1 :: n2 :: n3 :: n4 :: n5 :: n6 :: n7 :: n8 :: nm := .tail _ Mem.i7
theorem At.i9 {n0 n1 n2 n3 n4 n5 n6 n7 n8 n9 : Str} {nm : List Str} {s0 s1 s2 s3 s4 s5 s6 s7 s8 s9 : Slot} {vs : List Slot} : At (n0 :: n1 :: n2 :: n3 :: n4 :: n5 :: n6 :: n7 :: n8 :: n9 :: nm) (s0 :: s1 :: s2 :: s3 :: s4 :: s5 :: s6 :: s7 :: s8 :: s9 :: vs) n9 s9 := .there At.i8
theorem Put.i9 {n0 n1 n2 n3 n4 n5 n6 n7 n8 n9 : Str} {nm : List Str} {s0 s1 s2 s3 s4 s5 s6 s7 s8 s9 s : Slot} {vs : List Slot} : Put (n0 :: n1 :: n2 :: n3 :: n4 :: n5 :: n6 :: n7 :: n8 :: n9 :: nm) (s0 :: s1 :: s2 :: s3 :: s4 :: s5 :: s6 :: s7 :: s8 :: s9 :: vs) n9 s (s0 :: s1 :: s2 :: s3 :: s4 :: s5 :: s6 :: s7 :: s8 :: s :: vs) := .there Put.i8
theorem Mem.i9 {n0 n1 n2 n3 n4 n5 n6 n7 n8 n9 : Str} {nm : List Str} : n9 ∈ n0 :: n1 :: n2 :: n3 :: n4 :: n5 :: n6 :: n7 :: n8 :: n9 :: nm := .tail _ Mem.i8
theorem At.i10 {n0 n1 n2 n3 n4 n5 n6 n7 n8 n9 n10 : Str} {nm : List Str} {s0 s1 s2 s3 s4 s5 s6 s7 s8 s9 s10 : Slot} {vs : List Slot} : At (n0 :: n1 :: n2 :: n3 :: n4 :: n5 :: n6 :: n7 :: n8 :: n9 :: n10 :: nm) (s0 :: s1 :: s2 :: s3 :: s4 :: s5 :: s6 :: s7 :: s8 :: s9 :: s10 :: vs) n10 s10 := .there At.i9
theorem Put.i10 {n0 n1 n2 n3 n4 n5 n6 n7 n8 n9 n10 : Str} {nm : List Str} {s0 s1 s2 s3 s4 s5 s6 s7 s8 s9 s10 s : Slot} {vs : List Slot} : Put (n0 :: n1 :: n2 :: n3 :: n4 :: n5 :: n6 :: n7 :: n8 :: n9 :: n10 :: nm) (s0 :: s1 :: s2 :: s3 :: s4 :: s5 :: s6 :: s7 :: s8 :: s9 :: s10 :: vs) n10 s (s0 :: s1 :: s2 :: s3 :: s4 :: s5 :: s6 :: s7 :: s8 :: s9 :: s :: vs) := .there Put.i9
theorem Mem.i10 {n0 n1 n2 n3 n4 n5 n6 n7 n8 n9 n10 : Str} {nm : List Str} : n10 ∈ n0 :: n1 :: n2 :: n3 :: n4 :: n5 :: n6 :: n7 :: n8 :: n9 :: n10 :: nm := .tail _ Mem.i9
theorem At.i11 {n0 n1 n2 n3 n4 n5 n6 n7 n8 n9 n10 n11 : Str} {nm : List Str} {s0 s1 s2 s3 s4 s5 s6 s7 s8 s9 s10 s11 : Slot} {vs : List Slot} : At (n0 :: n1 :: n2 :: n3 :: n4 :: n5 :: n6 :: n7 :: n8 :: n9 :: n10 :: n11 :: nm) (s0 :: s1 :: s2 :: s3 :: s4 :: s5 :: s6 :: s7 :: s8 :: s9 :: s10 :: s11 :: vs) n11 s11 := .there At.i10
theorem Put.i11 {n0 n1 n2 n3 n4 n5 n6 n7 n8 n9 n10 n11 : Str} {nm : List Str} {s0 s1 s2 s3 s4 s5 s6 s7 s8 s9 s10 s11 s : Slot} {vs : List Slot} : Put (n0 :: n1 :: n2 :: n3 :: n4 :: n5 :: n6 :: n7 :: n8 :: n9 :: n10 :: n11 :: nm) (s0 :: s1 :: s2 :: s3 :: s4 :: s5 :: s6 :: s7 :: s8 :: s9 :: s10 :: s11 :: vs) n11 s (s0 :: s1 :: s2 :: s3 :: s4 :: s5 :: s6 :: s7 :: s8 :: s9 :: s10 :: s :: vs) := .there Put.i10
theorem At.i12 {n0 n1 n2 n3 n4 n5 n6 n7 n8 n9 n10 n11 n12 : Str} {nm : List Str} {s0 s1 s2 s3 s4 s5 s6 s7 s8 s9 s10 s11 s12 : Slot} {vs : List Slot} : At (n0 :: n1 :: n2 :: n3 :: n4 :: n5 :: n6 :: n7 :: n8 :: n9 :: n10 :: n11 :: n12 :: nm) (s0 :: s1 :: s2 :: s3 :: s4 :: s5 :: s6 :: s7 :: s8 :: s9 :: s10 :: s11 :: s12 :: vs) n12 s12 := .there At.i11
theorem Put.i12 {n0 n1 n2 n3 n4 n5 n6 n7 n8 n9 n10 n11 n12 : Str} {nm : List Str} {s0 s1 s2 s3 s4 s5 s6 s7 s8 s9 s10 s11 s12 s : Slot} {vs : List Slot} : Put (n0 :: n1 :: n2 :: n3 :: n4 :: n5 :: n6 :: n7 :: n8 :: n9 :: n10 :: n11 :: n12 :: nm) (s0 :: s1 :: s2 :: s3 :: s4 :: s5 :: s6 :: s7 :: s8 :: s9 :: s10 :: s11 :: s12 :: vs) n12 s (s0 :: s1 :: s2 :: s3 :: s4 :: s5 :: s6 :: s7 :: s8 :: s9 :: s10 :: s11 :: s :: vs) := .there Put.i11
theorem At.i13 {n0 n1 n2 n3 n4 n5 n6 n7 n8 n9 n10 n11 n12 n13 : Str} {nm : List Str} {s0 s1 s2 s3 s4 s5 s6 s7 s8 s9 s10 s11 s12 s13 : Slot} {vs : List Slot} : At (n0 :: n1 :: n2 :: n3 :: n4 :: n5 :: n6 :: n7 :: n8 :: n9 :: n10 :: n11 :: n12 :: n13 :: nm) (s0 :: s1 :: s2 :: s3 :: s4 :: s5 :: s6 :: s7 :: s8 :: s9 :: s10 :: s11 :: s12 :: s13 :: vs) n13 s13 := .there At.i12
theorem Put.i13 {n0 n1 n2 n3 n4 n5 n6 n7 n8 n9 n10 n11 n12 n13 : Str} {nm : List Str} {s0 s1 s2 s3 s4 s5 s6 s7 s8 s9 s10 s11 s12 s13 s : Slot} {vs : List Slot} : Put (n0 :: n1 :: n2 :: n3 :: n4 :: n5 :: n6 :: n7 :: n8 :: n9 :: n10 :: n11 :: n12 :: n13 :: nm) (s0 :: s1 :: s2 :: s3 :: s4 :: s5 :: s6 :: s7 :: s8 :: s9 :: s10 :: s11 :: s12 :: s13 :: vs) n13 s (s0 :: s1 :: s2 :: s3 :: s4 :: s5 :: s6 :: s7 :: s8 :: s9 :: s10 :: s11 :: s12 :: s :: vs) := .there Put.i12
theorem At.i14 {n0 n1 n2 n3 n4 n5 n6 n7 n8 n9 n10 n11 n12 n13 n14 : Str} {nm : List Str} {s0 s1 s2 s3 s4 s5 s6 s7 s8 s9 s10 s11 s12 s13 s14 : Slot} {vs : List Slot} : At (n0 :: n1 :: n2 :: n3 :: n4 :: n5 :: n6 :: n7 :: n8 :: n9 :: n10 :: n11 :: n12 :: n13 :: n14 :: nm) (s0 :: s1 :: s2 :: s3 :: s4 :: s5 :: s6 :: s7 :: s8 :: s9 :: s10 :: s11 :: s12 :: s13 :: s14 :: vs) n14 s14 := .there At.i13
theorem Put.i14 {n0 n1 n2 n3 n4 n5 n6 n7 n8 n9 n10 n11 n12 n13 n14 : Str} {nm : List Str} {s0 s1 s2 s3 s4 s5 s6 s7 s8 s9 s10 s11 s12 s13 s14 s : Slot} {vs : List Slot} : Put (n0 :: n1 :: n2 :: n3 :: n4 :: n5 :: n6 :: n7 :: n8 :: n9 :: n10 :: n11 :: n12 :: n13 :: n14 :: nm) (s0 :: s1 :: s2 :: s3 :: s4 :: s5 :: s6 :: s7 :: s8 :: s9 :: s10 :: s11 :: s12 :: s13 :: s14 :: vs) n14 s (s0 :: s1 :: s2 :: s3 :: s4 :: s5 :: s6 :: s7 :: s8 :: s9 :: s10 :: s11 :: s12 :: s13 :: s :: vs) := .there Put.i13
noncomputable def fdAt (K : Frag) (a : Addr) : FuncData := match K.lookup a with
  | some ⟨_, _, .func fd, _⟩ => fd
  | _ => default
@[reducible] noncomputable def fnG (W : Wd) (A : Around) (rm : Nat) (sc : Scope) (fd : FuncData) (a L : Addr) (base : Shared) (nm gl : List Str) (cb : List Addr) : Fx :=
  { W := W, A := A.deeper (callEnvC fd L a), rm := rm, env := { callEnvC fd L a with scope := sc }, base := base, nm := nm, gl := gl, sto := nm, cb := cb }
theorem FnP.of_at {W : Wd} {a : Addr} {oc : Value} {od : Option Addr} {osl : Array (Option Value)} {fd : FuncData} {sc : Scope} {body : List Stmt} {nm gl ps : List Str} {ds : List PyData} {vs₀ : List Slot} {n : Nat} {P : List Addr → Heap → Value → Prop}
    (hk : W.K.lookup a = some ⟨oc, od, .func fd, osl⟩) (hcd : codeIn W.K fd.code fd.qualname = true) (hbody : fd.body = .stmts body) (hclo : fd.closure = []) (hg : fd.globals = mainGlobals) (hbi : fd.builtins = builtinsNs) (hsc : fd.scope = sc)
    (hchk : fnChk sc nm gl ps = true) (hbind : ∀ vs : List Value, vs.length = ds.length → bindArgs fd ⟨vs, []⟩ = pure (ps.zip vs)) (puts : Puts nm (nm.map fun _ => Slot.no) ps ds vs₀)
    (h : ∀ A s L hz bad bad', Ex (fnG W A n sc (fdAt W.K a) a L s nm gl bad) ⟨hz, bad', [], vs₀⟩ body (RetP (fnG W A n sc (fdAt W.K a) a L s nm gl bad) P)) : FnP W (.ref a) (n + 1) ds P := by
  have e : fdAt W.K a = fd := by unfold fdAt; rw [hk]
  rw [e] at h
  subst hsc
  exact FnP.of_body hk rfl hcd hbody hclo hg hbi (fnChk_iff hchk) hbind puts h
theorem Fn.of_at {W : Wd} {a : Addr} {oc : Value} {od : Option Addr} {osl : Array (Option Value)} {fd : FuncData} {sc : Scope} {body : List Stmt} {nm gl ps : List Str} {ds : List PyData} {vs₀ : List Slot} {n : Nat} {d : PyData}
    (hk : W.K.lookup a = some ⟨oc, od, .func fd, osl⟩) (hcd : codeIn W.K fd.code fd.qualname = true) (hbody : fd.body = .stmts body) (hclo : fd.closure = []) (hg : fd.globals = mainGlobals) (hbi : fd.builtins = builtinsNs) (hsc : fd.scope = sc)
    (hchk : fnChk sc nm gl ps = true) (hbind : ∀ vs : List Value, vs.length = ds.length → bindArgs fd ⟨vs, []⟩ = pure (ps.zip vs)) (puts : Puts nm (nm.map fun _ => Slot.no) ps ds vs₀)
    (h : ∀ A s L hz bad bad', Ex (fnG W A n sc (fdAt W.K a) a L s nm gl bad) ⟨hz, bad', [], vs₀⟩ body (RetD (fnG W A n sc (fdAt W.K a) a L s nm gl bad) d)) : Fn W (.ref a) (n + 1) ds d :=
  FnP.of_at hk hcd hbody hclo hg hbi hsc hchk hbind puts h
theorem bind1 {fd : FuncData} {p : Str} (h : ∀ a, bindArgs fd ⟨[a], []⟩ = pure [(p, a)]) : ∀ vs : List Value, vs.length = 1 → bindArgs fd ⟨vs, []⟩ = pure ([p].zip vs)
  | [a], _ => h a
theorem bind2 {fd : FuncData} {p q : Str} (h : ∀ a b, bindArgs fd ⟨[a, b], []⟩ = pure [(p, a), (q, b)]) : ∀ vs : List Value, vs.length = 2 → bindArgs fd ⟨vs, []⟩ = pure ([p, q].zip vs)
  | [a, b], _ => h a b
theorem bind3 {fd : FuncData} {p q r : Str} (h : ∀ a b c, bindArgs fd ⟨[a, b, c], []⟩ = pure [(p, a), (q, b), (r, c)]) : ∀ vs : List Value, vs.length = 3 → bindArgs fd ⟨vs, []⟩ = pure ([p, q, r].zip vs)
  | [a, b, c], _ => h a b c
theorem Wd.Glob.blt {W : Wd} (G : W.Glob) {n : Str} {v : Value} (e : nsIn W.K mainGlobals n = some none) (hb : bootBuiltins n = some v) (hn : (n == ("__name__" : Str)) = false) : W.mg n = none ∧ W.mb n = some v :=
  ⟨G.gn n e, (G.b n (by simpa using hn)).trans hb⟩

noncomputable def ap (n : Nat) : List Nat := if n = 0 then [] else ap (n / 16) ++ [65 + n % 16]
termination_by n
decreasing_by omega
theorem ap_zero : ap 0 = [] := by rw [ap]; simp
theorem ap_pos {n : Nat} (h : n ≠ 0) : ap n = ap (n / 16) ++ [65 + n % 16] := by rw [ap]; simp [h]
noncomputable def apB (n : Nat) : List UInt8 := (ap n).map fun c => UInt8.ofNat c
theorem ap_lt : ∀ (n : Nat), ∀ c ∈ ap n, 65 ≤ c ∧ c < 81 := by
  intro n
  induction n using Nat.strongRecOn with
  | ind n ih =>
    intro c hc
    by_cases h : n = 0
    · subst h; rw [ap_zero] at hc; cases hc
    · rw [ap_pos h] at hc
      rcases List.mem_append.mp hc with hc | hc
      · exact ih _ (by omega) c hc
      · cases hc with
        | head => omega
        | tail _ h => cases h
theorem apB_nat (n : Nat) : (apB n).map UInt8.toNat = ap n := by
  unfold apB
  rw [List.map_map]
  conv => rhs; rw [← List.map_id (ap n)]
  refine List.map_congr_left fun c hc => ?_
  have := ap_lt n c hc
  simp [UInt8.toNat_ofNat']; omega
theorem apB_lt (n : Nat) : ∀ c ∈ apB n, c.toNat < 128 := by
  intro c hc
  have : c.toNat ∈ ap n := by rw [← apB_nat]; exact List.mem_map.mpr ⟨c, hc, rfl⟩
  have := ap_lt n _ this; omega
noncomputable def apAll : List UInt8 := [65, 66, 67, 68, 69, 70, 71, 72, 73, 74, 75, 76, 77, 78, 79, 80]
theorem ap_slice {n : Nat} : slc apAll (some ((n : Int).fmod 16)) (some ((n : Int).fmod 16 + 1)) = [UInt8.ofNat (65 + n % 16)] := by
  have e : (n : Int).fmod 16 = ((n % 16 : Nat) : Int) := by rw [Int.fmod_eq_emod_of_nonneg _ (by omega)]; omega
  rw [e]
  have h : n % 16 < 16 := by omega
  generalize n % 16 = k at h
  have : ∀ k : Nat, k < 16 → slc apAll (some (k : Int)) (some ((k : Int) + 1)) = [UInt8.ofNat (65 + k)] := by decide +kernel
  exact this k h
end Mine
end
section
open PySem PySem.W PyProof.Rows PySem.Spec
set_option Elab.async false
set_option linter.all false
set_option maxRecDepth 100000
namespace Mine
open Builtin Builtin.Str

section
variable {W : Wd} {n : Nat}
theorem Fn.max {ns : List Int} {M : Int} (hm : M ∈ ns) (hM : ∀ a ∈ ns, a ≤ M) : Fn W (.builtin "max") n [.list (ns.map .int)] (.int M) := fun A s bad vs hA w hb r => by
  obtain ⟨v, _, rfl, r, r'⟩ := r.cons_inv; rw [r'.nil_inv]
  obtain ⟨a, vs, k, rfl, p, q⟩ := r.list_inv
  have hi := q.ints
  obtain ⟨xs, hx⟩ := hi.allInts.items
  have e1 : ns = xs.toList.map (·.1) := by
    rw [← nums_intItems, ← hx]
    exact (show numsOf vs.toArray.toList = ns from hi.numsOf).symm
  have hsz : 0 < xs.size := by
    have : 0 < ns.length := List.length_pos_of_mem hm
    rw [e1, List.length_map, Array.length_toList] at this; exact this
  refine max_intList hA.hd (hx ▸ PL.isList (hid_iff.mp p).1) hsz fun v h' tk hv hk => ⟨.mk' hk, ?_⟩
  obtain ⟨t, rfl⟩ := intItems_at hv
  obtain ⟨h1, h2⟩ := argBest_gt (numAt xs) (xs.size - 1)
  have e : numAt xs (argBest (fun i j => decide (numAt xs i > numAt xs j)) (xs.size - 1)) = M := by
    refine Int.le_antisymm (hM _ ?_) ?_
    · rw [e1, numAt_eq]; exact getD_mem (by rw [List.length_map, Array.length_toList]; omega)
    · rw [e1] at hm
      obtain ⟨j, hj, rfl⟩ := mem_getD hm
      rw [List.length_map, Array.length_toList] at hj
      rw [← numAt_eq]; exact h2 j (by omega)
  rw [e]; exact .int _ _
end

theorem RdAll.strs {h : Heap} : ∀ {xs : List Str} {vs : List Value}, RdAll h vs (xs.map .str) → ∃ l : List (Str × Tok), vs = strValues l ∧ l.map (·.1) = xs
  | [], vs, r => ⟨[], by rw [r.nil_inv]; rfl, rfl⟩
  | x :: xs, vs, r => by
    obtain ⟨v, r', rfl, a, b⟩ := r.cons_inv
    obtain ⟨t, rfl⟩ := a.str_inv
    obtain ⟨l, rfl, e⟩ := RdAll.strs b
    exact ⟨(x, t) :: l, rfl, by simp [e]⟩
theorem RdAll.of_strs {h : Heap} : ∀ (l : List (Str × Tok)), RdAll h (strValues l) ((l.map (·.1)).map .str)
  | [] => .nil
  | (x, t) :: l => .cons (.str _ _) (RdAll.of_strs l)

theorem split_call {prog : Program} {w : World} {A : Around} {E : Value → Shared → Prop} {s : Shared} {x : Str} {t : Tok} {Q : Value → Shared → Prop} {y : Str} {u : Tok} (hy : (y.length == 0) = false)
    (hq : ∀ l k, l.map (·.1) = Txt.split x y → Q (.ref s.heap.objs.size) { s with toks := k, heap := s.heap.push { cls := .type "list", data := .seq (strValues l).toArray } })
    (hsz : x.length ≤ sizeLine) (hsz2 : (partsBetween x (occurrences x y 0 x.length (x.length + 1)) y.length).length ≤ sizeLine) :
    wpAny (model prog w) A (PySem.call (.builtin "str.split") [.str x t, .str y u]) Q E s := by
  cases h1 : (decide (x.length < y.length) || decide (strKind x < strKind y))
  · cases hf : (occurrences x y 0 x.length (x.length + 1)).isEmpty
    · refine call_meets F.slot_str_split (typeIs_str _ _ _) F.entry_str_split (F.args_str_split_2 _ _) (meets_str_split_sep x y t u h1 hy hf hsz hsz2) ?_
      show wants Q E _ { s with toks := _, heap := s.heap.push { cls := .type "list", data := .seq (strsFrom s.toks (partsBetween x (occurrences x y 0 x.length (x.length + 1)) y.length)).toArray } }
      rw [strsFrom_eq]
      exact hq (numbered s.toks _) _ ((numbered_texts _ _).trans ((if_neg (ne_true_of_eq_false h1)).trans (if_neg (ne_true_of_eq_false hf))).symm)
    · exact call_meets F.slot_str_split (typeIs_str _ _ _) F.entry_str_split (F.args_str_split_2 _ _) (meets_str_split_not_found x y t u h1 hy hf)
        (hq [(x, t)] _ ((if_neg (ne_true_of_eq_false h1)).trans (if_pos hf)).symm)
  · exact call_meets F.slot_str_split (typeIs_str _ _ _) F.entry_str_split (F.args_str_split_2 _ _) (meets_str_split_cannot_occur x y t u h1)
      (hq [(x, t)] _ (if_pos h1).symm)

noncomputable def spl (x y : List Nat) : List (List Nat) := (Txt.split (S x) (S y)).map fun z => z.cps.toList
theorem spl_eq (x y : List Nat) : (Txt.split (S x) (S y)).map PyData.str = (spl x y).map st := by
  unfold spl
  rw [List.map_map]
  refine List.map_congr_left fun z _ => ?_
  show PyData.str z = .str (S z.cps.toList)
  rw [S_of]
noncomputable def jn (x : List Nat) : List (List Nat) → List Nat
  | [] => []
  | [y] => y
  | y :: z :: r => y ++ x ++ jn x (z :: r)
theorem glued_go (g : Array Nat) : ∀ (ps : List Str) (acc : Array Nat), ps.foldl (fun acc p => acc ++ g ++ p.cps) acc = acc ++ (ps.flatMap fun p => g.toList ++ p.cps.toList).toArray
  | [], acc => by simp
  | p :: ps, acc => by
    rw [List.foldl_cons, glued_go g ps]
    apply Array.ext'
    simp
theorem jn_cons (x y : List Nat) (r : List (List Nat)) : jn x (y :: r) = y ++ r.flatMap fun p => x ++ p := by
  induction r generalizing y with
  | nil => simp [jn]
  | cons z r ih => rw [jn, ih]; simp
theorem jn_eq (x : List Nat) (ys : List (List Nat)) : Txt.join (S x) (ys.map S) = S (jn x ys) := by
  show glued (S x) (ys.map S) = _
  unfold glued
  cases ys with
  | nil => rfl
  | cons y r =>
    rw [List.map_cons, List.drop_one, List.tail_cons, List.headD_cons, glued_go, jn_cons]
    simp only [S]
    congr 1
    simp [List.flatMap_map, S_toList]
theorem fold_len (c : Nat) : ∀ (ys : List (List Nat)) (k : Nat), (ys.map S).foldl (fun a p => a + p.length + c) k = k + (ys.map (·.length)).sum + ys.length * c
  | [], k => by simp
  | y :: ys, k => by
    rw [List.map_cons, List.foldl_cons, fold_len c ys, S_len]
    simp only [List.map_cons, List.sum_cons, List.length_cons, Nat.add_mul]; omega

section
variable {f : Fx} {x : Sx}
theorem strRecv {h : Heap} {y : Str} {v : Value} (e : ∃ t, v = .str y t) : Recv "str" h v := by
  obtain ⟨t, rfl⟩ := e; exact ⟨fun s _ => typeIs_str _ _ _, fun _ e => nomatch e⟩
theorem Ev.toStr {e : Expr} {l : List Nat} (h : Ev f x e (st l)) : EvP f x e fun _ v => ∃ t, v = .str (S l) t := h.mono fun _ _ r => r.str_inv

theorem Ev.join {o e : Expr} {apos pos} {g : List Nat} {ys : List (List Nat)} (h0 : Ev f x o (st g)) (h1 : Ev f x e (.list (ys.map st))) (hn : (ys.map (·.length)).sum + ys.length * g.length ≤ sizeLine)
    (hbase : attributeBase o (Str.ofString "join") f.env (eval o f.env) = eval o f.env := by exact rfl) (hline : (apos.endLine == pos.line) = true := by exact rfl)
    (hfew : ((backTo pos (starEach [e] f.env)).all (fun x => !x.1) && (backToKw pos (keywordEach [] f.env)).all (fun x => x.1.isSome)
      && decide (([e] : List Expr).length + ([] : List Keyword).length + (if ([] : List Keyword).isEmpty then 0 else 1) < 30)) = true := by exact rfl)
    (he : starEach [e] f.env = (false, eval e f.env) :: starEach [] f.env := by exact rfl) :
    Ev f x (.Call (.Attribute o (Str.ofString "join") apos) [e] [] pos) (st (jn g ys)) :=
  EvP.meth (ds := [.list (ys.map st)]) h0.toStr F.plainAttrs_str F.slot_str_join F.type_str_join (fun h v e => strRecv e) (fun _ _ _ b _ => b) (.cons h1 .nil he)
    (fun s v vs O ⟨t, ev⟩ r => by
      subst ev
      obtain ⟨v', _, rfl, r1, r2⟩ := r.cons_inv; rw [r2.nil_inv]
      obtain ⟨a, us, k, rfl, p, q⟩ := r1.list_inv
      have q' : RdAll (hideAll s.heap x.bad) us ((ys.map S).map PyData.str) := by rw [List.map_map]; exact q
      obtain ⟨l, rfl, el⟩ := q'.strs
      refine SC.join (PL.isList (hid_iff.mp p).1) el ?_ fun t' k => ⟨.tok, ?_⟩
      · unfold JoinOk tooLong
        have := fold_len g.length ys 0
        simp only [List.foldl_toArray', S_len] at this ⊢
        rw [this]
        simpa using hn
      · rw [jn_eq]; exact .str _ _)
    hbase hfew hline he rfl

theorem Ev.split {o e : Expr} {apos pos} {g l : List Nat} (h0 : Ev f x o (st l)) (h1 : Ev f x e (st g)) (hg : g ≠ []) (hn : l.length + 2 ≤ sizeLine)
    (hbase : attributeBase o (Str.ofString "split") f.env (eval o f.env) = eval o f.env := by exact rfl) (hline : (apos.endLine == pos.line) = true := by exact rfl)
    (hfew : ((backTo pos (starEach [e] f.env)).all (fun x => !x.1) && (backToKw pos (keywordEach [] f.env)).all (fun x => x.1.isSome)
      && decide (([e] : List Expr).length + ([] : List Keyword).length + (if ([] : List Keyword).isEmpty then 0 else 1) < 30)) = true := by exact rfl)
    (he : starEach [e] f.env = (false, eval e f.env) :: starEach [] f.env := by exact rfl) :
    Ev f x (.Call (.Attribute o (Str.ofString "split") apos) [e] [] pos) (.list ((spl l g).map st)) :=
  EvP.meth (ds := [st g]) h0.toStr F.plainAttrs_str F.slot_str_split F.type_str_split (fun h v e => strRecv e) (fun _ _ _ b _ => b) (.cons h1 .nil he)
    (fun s v vs O ⟨t, ev⟩ r => by
      subst ev
      obtain ⟨v', _, rfl, r1, r2⟩ := r.cons_inv; rw [r2.nil_inv]
      obtain ⟨u, rfl⟩ := r1.str_inv
      refine split_call ?_ (fun q k hq => ?_) (by rw [S_len]; omega) ?_
      · rw [S_len]; cases g with | nil => exact absurd rfl hg | cons => rfl
      · refine ⟨.mk' (ext_push _), Rd.newList O.nb ?_⟩
        rw [← spl_eq, ← hq]
        exact .of_strs _
      · rw [len_partsBetween]
        have := StrLaws.occ_length_le (S l) (S g) 0 (S l).length ((S l).length + 1)
        rw [S_len] at this ⊢; omega)
    hbase hfew hline he rfl

noncomputable def inS (y l : List Nat) : Bool := !(occurrences (S l) (S y) 0 l.length 1).isEmpty
theorem EvC.inStr {l r : Expr} {a b : List Nat} (h1 : Ev f x l (st a)) (h2 : Ev f x r (st b)) : EvC f x l .In r (inS a b) :=
  .of h1 h2 fun s v w O r1 r2 => by
    obtain ⟨t, rfl⟩ := r1.str_inv; obtain ⟨u, rfl⟩ := r2.str_inv
    refine PySem.P.in_str ⟨.rfl', ?_⟩
    rw [S_len]; rfl
noncomputable def Tab (W : Wd) (d : Addr) (D : List (PyData × PyData)) : Prop := ∀ h, W.Ok h → StrTab W.prog W.w h d D
theorem EvC.inTab {l r : Expr} {a : List Nat} {d : Addr} {D : List (PyData × PyData)} (h1 : Ev f x l (st a)) (h2 : EvP f x r fun _ v => v = .ref d) (T : Tab f.W d D) : EvC f x l .In r (PySem.Spec.lookup (st a) D).isSome := .bx fun s O =>
  wpN (h1.run s O) fun v s₁ ⟨k1, r1⟩ => wpN (h2.run s₁ (O.step k1)) fun w s₂ ⟨k2, e2⟩ => by
    subst e2
    obtain ⟨t, rfl⟩ := r1.str_inv
    have O₂ := O.step (k1.trans k2)
    exact in_strTab (T _ (O.wok.ext O₂.same.ext)) ⟨(k1.trans k2).trans .tok, rfl⟩
theorem Ev.itemTab {v sl : Expr} {pos} {a : List Nat} {d : Addr} {D : List (PyData × PyData)} {i : Int} (h1 : EvP f x v fun _ u => u = .ref d) (h2 : Ev f x sl (st a)) (T : Tab f.W d D) (hl : PySem.Spec.lookup (st a) D = some (.int i))
    (hs : ∀ o j, subscripted sl false o j = operate [o, j] (getItem o j) := by intro _ _; with_unfolding_all rfl)
    (hg : ∀ o r, letTemporaryGo v o r = pure () := by intro _ _; with_unfolding_all rfl) : Ev f x (.Subscript v sl pos) (.int i) := .bx fun s O =>
  Subscript_ (wpN (h1.run s O) fun o s₁ ⟨k1, e1⟩ => wpN (h2.run s₁ (O.step k1)) fun j s₂ ⟨k2, r2⟩ => by
    subst e1
    obtain ⟨t, rfl⟩ := r2.str_inv
    have O₂ := O.step (k1.trans k2)
    refine item_strTab (T _ (O.wok.ext O₂.same.ext)) hl (fun u hu => ⟨(k1.trans k2).trans .tok, ?_⟩) (hs _ _) (hg _)
    obtain ⟨t', rfl⟩ := hu.int_inv; exact .int _ _)

noncomputable def reps (l : List Nat) (n : Nat) : List Nat := (List.replicate n l).flatten
theorem mul_eq (l : List Nat) (n : Int) : Txt.mul (S l) n = S (reps l n.toNat) := by
  have key : ∀ (k : Nat) (acc : Array Nat), (List.replicate k (S l).cps).foldl (· ++ ·) acc = acc ++ (reps l k).toArray := by
    intro k
    induction k with
    | zero => intro acc; simp [reps]
    | succ k ih =>
      intro acc
      rw [List.replicate_succ, List.foldl_cons, ih]
      simp [reps, List.replicate_succ, S]
  unfold Txt.mul
  by_cases h1 : n < 1
  · rw [if_pos h1]
    have : n.toNat = 0 := by omega
    rw [this]; rfl
  · rw [if_neg h1]
    split
    · rename_i h2
      simp only [Bool.or_eq_true, beq_iff_eq, S_len] at h2
      rcases h2 with h2 | h2
      · subst h2; simp [reps]
      · have : l = [] := List.length_eq_zero_iff.mp h2
        subst this; simp [reps]
    · rw [key]; simp [S]
theorem Ev.mulS {l r : Expr} {pos} {a : List Nat} {n : Int} (h1 : Ev f x l (st a)) (h2 : Ev f x r (.int n)) (hn : a.length * n.toNat ≤ sizeLine) (hb : n.natAbs < 2 ^ 60) : Ev f x (.BinOp l .Mult r pos) (st (reps a n.toNat)) :=
  .bin2 h1 h2 fun s v w O r1 r2 => by
    obtain ⟨t, rfl⟩ := r1.str_inv; obtain ⟨u, rfl⟩ := r2.int_inv
    refine SB.mul ⟨by simp; omega, fun h0 _ => ?_, fun _ _ => ?_⟩ fun t' k => ⟨.tok, by rw [mul_eq]; exact .str _ _⟩
    · rw [S_len]
      intro h
      have h3 : ((2 ^ 63 - 1 : Int) / n + 1) ≤ a.length := by omega
      have h4 : ((2 ^ 63 - 1 : Int) / n + 1) * n > 2 ^ 63 - 1 := Int.lt_ediv_add_one_mul_self _ (by omega)
      have h5 : ((2 ^ 63 - 1 : Int) / n + 1) * n ≤ a.length * n := Int.mul_le_mul_of_nonneg_right h3 (by omega)
      have h6 : ((a.length * n.toNat : Nat) : Int) = a.length * n := by rw [Int.natCast_mul]; congr 1; omega
      have h7 : (sizeLine : Int) < 2 ^ 63 - 1 := by decide
      omega
    · rw [S_len]; unfold tooLong; simpa using hn
end
end Mine
end
section
open PySem PySem.W PyProof.Rows PySem.Spec
set_option Elab.async false
set_option linter.all false
set_option maxRecDepth 100000
namespace Mine
section
variable {f : Fx} {x : Sx}
theorem EvN.comp1 {elt tgt iter : Expr} {ifs : List Expr} {scope : Scope} {k : ScopeKind} {names : List (Str × NameKind)} {g1 g2 : Bool} {more : List (Str × Const)} {pos : Pos} {α : Type} {xs : List α} {di g : α → PyData} {p : α → Bool} {own fr gl ns nm : List Str} {slots vs₀ : List Slot}
    (hI : Iter f x tgt iter (xs.map di)) (hsc : f.env.scope = ⟨k, names, g1, g2, more⟩) (hc : compChk scope ⟨k, names, g1, g2, more⟩ own fr gl = true) (ats : Ats f.nm x.vs fr slots) (hnm : nm = own ++ fr) (hvs : vs₀ = own.map (fun _ => Slot.no) ++ slots)
    (hns : ∀ n ∈ ns, n ∈ own) (hsz : xs.length ≤ sizeLine)
    (turn : ∀ a ∈ xs, ∀ C cs base hz bad led, ∃ vs', Tgt nm vs₀ tgt (di a) ns vs' ∧ Forget vs' vs₀ ∧ Ifs (compF f scope C cs base nm gl own x.bad) ⟨hz, bad, led, vs'⟩ ifs (p a) ∧
      (p a = true → Ev (compF f scope C cs base nm gl own x.bad) ⟨hz, bad, led, vs'⟩ elt (g a)))
    (hs : ∀ v, foldedSetIterable iter f.env v = pure v := by intro _; rfl) : EvN f x (.ListComp elt [⟨tgt, iter, ifs, 0⟩] scope pos) ((xs.filter p).map g) :=
  have H := compChk_iff hc
  EvN.comp (CompR.one hI hsc H ats hnm hvs hns hsz turn) H.k1 H.nd hs rfl
theorem Ev.comp1 {elt tgt iter : Expr} {ifs : List Expr} {scope : Scope} {k : ScopeKind} {names : List (Str × NameKind)} {g1 g2 : Bool} {more : List (Str × Const)} {pos : Pos} {α : Type} {xs : List α} {di g : α → PyData} {p : α → Bool} {own fr gl ns nm : List Str} {slots vs₀ : List Slot}
    (hI : Iter f x tgt iter (xs.map di)) (hsc : f.env.scope = ⟨k, names, g1, g2, more⟩) (hc : compChk scope ⟨k, names, g1, g2, more⟩ own fr gl = true) (ats : Ats f.nm x.vs fr slots) (hnm : nm = own ++ fr) (hvs : vs₀ = own.map (fun _ => Slot.no) ++ slots)
    (hns : ∀ n ∈ ns, n ∈ own) (hsz : xs.length ≤ sizeLine)
    (turn : ∀ a ∈ xs, ∀ C cs base hz bad led, ∃ vs', Tgt nm vs₀ tgt (di a) ns vs' ∧ Forget vs' vs₀ ∧ Ifs (compF f scope C cs base nm gl own x.bad) ⟨hz, bad, led, vs'⟩ ifs (p a) ∧
      (p a = true → Ev (compF f scope C cs base nm gl own x.bad) ⟨hz, bad, led, vs'⟩ elt (g a)))
    (hs : ∀ v, foldedSetIterable iter f.env v = pure v := by intro _; rfl) : Ev f x (.ListComp elt [⟨tgt, iter, ifs, 0⟩] scope pos) (.list ((xs.filter p).map g)) :=
  (EvN.comp1 hI hsc hc ats hnm hvs hns hsz turn hs).ev
theorem Ex.comp1 {n : Str} {pn : Pos} {elt tgt iter : Expr} {ifs : List Expr} {scope : Scope} {k : ScopeKind} {names : List (Str × NameKind)} {g1 g2 : Bool} {more : List (Str × Const)} {cpos pos : Pos} {rest : List Stmt} {α : Type} {xs : List α} {di g : α → PyData} {p : α → Bool} {own fr gl ns nm : List Str} {slots vs₀ vs' : List Slot} {Q : Flow → Shared → Prop}
    (hI : Iter f x tgt iter (xs.map di)) (hsc : f.env.scope = ⟨k, names, g1, g2, more⟩) (hc : compChk scope ⟨k, names, g1, g2, more⟩ own fr gl = true) (ats : Ats f.nm x.vs fr slots) (hnm : nm = own ++ fr) (hvs : vs₀ = own.map (fun _ => Slot.no) ++ slots)
    (hns : ∀ n ∈ ns, n ∈ own) (hsz : xs.length ≤ sizeLine)
    (turn : ∀ a ∈ xs, ∀ C cs base hz bad led, ∃ vs', Tgt nm vs₀ tgt (di a) ns vs' ∧ Forget vs' vs₀ ∧ Ifs (compF f scope C cs base nm gl own x.bad) ⟨hz, bad, led, vs'⟩ ifs (p a) ∧
      (p a = true → Ev (compF f scope C cs base nm gl own x.bad) ⟨hz, bad, led, vs'⟩ elt (g a)))
    (put : Put f.nm x.vs n (.val (.list ((xs.filter p).map g))) vs') (hr : Ex f { x with vs := vs' } rest Q) 
    (hs : ∀ v, foldedSetIterable iter f.env v = pure v := by intro _; rfl) (hf : f.sto = f.nm := by exact rfl)
    (hsw : swapsWith (.ListComp elt [⟨tgt, iter, ifs, 0⟩] scope cpos) (some (.Name n pn)) pos.line f.env = pure true := by exact rfl) : Ex f x (.Assign [.Name n pn] (.ListComp elt [⟨tgt, iter, ifs, 0⟩] scope cpos) pos :: rest) Q :=
  have H := compChk_iff hc
  Ex.assignC (CompR.one hI hsc H ats hnm hvs hns hsz turn) put hr hf H.k1 H.nd hs rfl hsw
theorem Ats.one {nm vs n sl} (a : At nm vs n sl) : Ats nm vs [n] [sl] := .cons a .nil
theorem Ats.two {nm vs n sl n' sl'} (a : At nm vs n sl) (b : At nm vs n' sl') : Ats nm vs [n, n'] [sl, sl'] := .cons a (.cons b .nil)
theorem one_in {n : Str} {l : List Str} : ∀ m ∈ [n], m ∈ n :: l := fun m h => by cases h with | head => exact .head _ | tail _ h => cases h
theorem two_in {n n' : Str} {l : List Str} : ∀ m ∈ [n, n'], m ∈ n :: n' :: l := fun m h => by
  cases h with
  | head => exact .head _
  | tail _ h => cases h with
    | head => exact .tail _ (.head _)
    | tail _ h => cases h
end

theorem map_true {α β : Type} (xs : List α) (g : α → β) : (xs.filter fun _ => true).map g = xs.map g := by rw [List.filter_eq_self.mpr fun _ _ => rfl]
end Mine
end
section
open PySem PySem.W PyProof.Rows PySem.Spec
set_option Elab.async false
set_option linter.all false
set_option maxRecDepth 100000
namespace Mine
noncomputable abbrev WL (prog : Program) (w : World) (mg mb : Str → Option Value) : Wd := ⟨prog, w, hd.heap_39 w.params, mg, mb⟩
theorem B_int : bootBuiltins (Str.ofString "int") = some (.type "int") := by kernel_rfl
theorem B_abs : bootBuiltins (Str.ofString "abs") = some (.builtin "abs") := by kernel_rfl
theorem B_divmod : bootBuiltins (Str.ofString "divmod") = some (.builtin "divmod") := by kernel_rfl
theorem B_enumerate : bootBuiltins (Str.ofString "enumerate") = some (.type "enumerate") := by kernel_rfl
theorem B_range : bootBuiltins (Str.ofString "range") = some (.type "range") := by kernel_rfl
theorem B_len : bootBuiltins (Str.ofString "len") = some (.builtin "len") := by kernel_rfl
theorem B_max : bootBuiltins (Str.ofString "max") = some (.builtin "max") := by kernel_rfl
theorem B_ord : bootBuiltins (Str.ofString "ord") = some (.builtin "ord") := by kernel_rfl
theorem B_sorted : bootBuiltins (Str.ofString "sorted") = some (.builtin "sorted") := by kernel_rfl
theorem B_zip : bootBuiltins (Str.ofString "zip") = some (.type "zip") := by kernel_rfl
section
variable {prog : Program} {w : World} {mg mb : Str → Option Value}
theorem b_int : nsIn (hd.heap_39 w.params) mainGlobals "int" = some none := by exact rfl
theorem b_abs : nsIn (hd.heap_39 w.params) mainGlobals "abs" = some none := by exact rfl
theorem b_divmod : nsIn (hd.heap_39 w.params) mainGlobals "divmod" = some none := by exact rfl
theorem b_enumerate : nsIn (hd.heap_39 w.params) mainGlobals "enumerate" = some none := by exact rfl
theorem b_range : nsIn (hd.heap_39 w.params) mainGlobals "range" = some none := by exact rfl
theorem b_len : nsIn (hd.heap_39 w.params) mainGlobals "len" = some none := by exact rfl
theorem b_max : nsIn (hd.heap_39 w.params) mainGlobals "max" = some none := by exact rfl
theorem b_ord : nsIn (hd.heap_39 w.params) mainGlobals "ord" = some none := by exact rfl
theorem b_sorted : nsIn (hd.heap_39 w.params) mainGlobals "sorted" = some none := by exact rfl
theorem b_zip : nsIn (hd.heap_39 w.params) mainGlobals "zip" = some none := by exact rfl
theorem g_NT : ∃ t, nsIn (hd.heap_39 w.params) mainGlobals "NT_OFFSET" = some (some (.int 256 t)) := ⟨_, by exact rfl⟩
theorem g_END : ∃ t, nsIn (hd.heap_39 w.params) mainGlobals "ENDMARKER" = some (some (.int 0 t)) := ⟨_, by exact rfl⟩
theorem g_term : nsIn (hd.heap_39 w.params) mainGlobals "ISTERMINAL" = some (some (.ref 41)) := by exact rfl
theorem g_nont : nsIn (hd.heap_39 w.params) mainGlobals "ISNONTERMINAL" = some (some (.ref 48)) := by exact rfl
theorem g_eof : nsIn (hd.heap_39 w.params) mainGlobals "ISEOF" = some (some (.ref 55)) := by exact rfl
theorem g_int2ap : nsIn (hd.heap_39 w.params) mainGlobals "Int2AP" = some (some (.ref 62)) := by exact rfl
theorem g_quote : nsIn (hd.heap_39 w.params) mainGlobals "quotedata" = some (some (.ref 79)) := by exact rfl
theorem g_symbols : nsIn (hd.heap_39 w.params) mainGlobals "_law_symbols" = some (some (.ref 84)) := by exact rfl
theorem g_kinds : nsIn (hd.heap_39 w.params) mainGlobals "_law_kinds" = some (some (.ref 91)) := by exact rfl
theorem g_factor : nsIn (hd.heap_39 w.params) mainGlobals "_law_factor" = some (some (.ref 98)) := by exact rfl
theorem g_product : nsIn (hd.heap_39 w.params) mainGlobals "_law_product" = some (some (.ref 105)) := by exact rfl
theorem g_difference : nsIn (hd.heap_39 w.params) mainGlobals "_law_difference" = some (some (.ref 112)) := by exact rfl
theorem g_sides : nsIn (hd.heap_39 w.params) mainGlobals "_law_sides" = some (some (.ref 117)) := by exact rfl
theorem g_letters : nsIn (hd.heap_39 w.params) mainGlobals "_law_letters" = some (some (.ref 122)) := by exact rfl
theorem g_claim : nsIn (hd.heap_39 w.params) mainGlobals "_law_claim" = some (some (.ref 129)) := by exact rfl
theorem g_pieces : nsIn (hd.heap_39 w.params) mainGlobals "_law_pieces" = some (some (.ref 134)) := by exact rfl
theorem g_read : nsIn (hd.heap_39 w.params) mainGlobals "_law_read" = some (some (.ref 139)) := by exact rfl
theorem g_mail : nsIn (hd.heap_39 w.params) mainGlobals "_law_mail" = some (some (.ref 144)) := by exact rfl
theorem g_sent : nsIn (hd.heap_39 w.params) mainGlobals "_law_sent_on" = some (some (.ref 151)) := by exact rfl
theorem g_stream : nsIn (hd.heap_39 w.params) mainGlobals "_law_stream" = some (some (.ref 156)) := by exact rfl
theorem g_law : nsIn (hd.heap_39 w.params) mainGlobals "law" = some (some (.ref 161)) := by exact rfl
theorem z_int (G : (WL prog w mg mb).Glob) : (WL prog w mg mb).mg "int" = none ∧ (WL prog w mg mb).mb "int" = some (.type "int") := G.blt b_int B_int (by decide +kernel)
theorem z_abs (G : (WL prog w mg mb).Glob) : (WL prog w mg mb).mg "abs" = none ∧ (WL prog w mg mb).mb "abs" = some (.builtin "abs") := G.blt b_abs B_abs (by decide +kernel)
theorem z_divmod (G : (WL prog w mg mb).Glob) : (WL prog w mg mb).mg "divmod" = none ∧ (WL prog w mg mb).mb "divmod" = some (.builtin "divmod") := G.blt b_divmod B_divmod (by decide +kernel)
theorem z_range (G : (WL prog w mg mb).Glob) : (WL prog w mg mb).mg "range" = none ∧ (WL prog w mg mb).mb "range" = some (.type "range") := G.blt b_range B_range (by decide +kernel)
theorem z_len (G : (WL prog w mg mb).Glob) : (WL prog w mg mb).mg "len" = none ∧ (WL prog w mg mb).mb "len" = some (.builtin "len") := G.blt b_len B_len (by decide +kernel)
theorem z_max (G : (WL prog w mg mb).Glob) : (WL prog w mg mb).mg "max" = none ∧ (WL prog w mg mb).mb "max" = some (.builtin "max") := G.blt b_max B_max (by decide +kernel)
theorem z_ord (G : (WL prog w mg mb).Glob) : (WL prog w mg mb).mg "ord" = none ∧ (WL prog w mg mb).mb "ord" = some (.builtin "ord") := G.blt b_ord B_ord (by decide +kernel)
theorem z_sorted (G : (WL prog w mg mb).Glob) : (WL prog w mg mb).mg "sorted" = none ∧ (WL prog w mg mb).mb "sorted" = some (.builtin "sorted") := G.blt b_sorted B_sorted (by decide +kernel)
theorem z_zip (G : (WL prog w mg mb).Glob) : (WL prog w mg mb).mg "zip" = none ∧ (WL prog w mg mb).mb "zip" = some (.type "zip") := G.blt b_zip B_zip (by decide +kernel)
end
end Mine
end
section
open PySem PySem.W PyProof.Rows PySem.Spec
set_option Elab.async false
set_option linter.all false
set_option maxRecDepth 100000
namespace Mine
noncomputable abbrev nt (n : Nat) : PyData := .int ((n : Nat) : Int)
section
variable {f : Fx} {x : Sx} {l r : Expr} {pos : Pos} {a b : Nat}
theorem Ev.addN (h1 : Ev f x l (nt a)) (h2 : Ev f x r (nt b)) : Ev f x (.BinOp l .Add r pos) (nt (a + b)) := (Ev.add h1 h2).eq (by simp)
theorem Ev.powN (h1 : Ev f x l (nt a)) (h2 : Ev f x r (nt b)) (hs : (Builtin.Int.intBits a : Int) * b ≤ 2 ^ 27) : Ev f x (.BinOp l .Pow r pos) (nt (a ^ b)) := (Ev.pow h1 h2 (by omega) hs).eq (by simp)
theorem Ev.fdivN (h1 : Ev f x l (nt a)) (h2 : Ev f x r (nt b)) (hb : b ≠ 0) (hp : b.log2 < 9000) : Ev f x (.BinOp l .FloorDiv r pos) (nt (a / b)) := (Ev.fdiv h1 h2 (by omega) (by simpa using hp)).eq (by
  show PyData.int _ = PyData.int _
  congr 1
  rw [Int.fdiv_eq_ediv_of_nonneg _ (by omega)]; rfl)
theorem Ev.fmodN (h1 : Ev f x l (nt a)) (h2 : Ev f x r (nt b)) (hb : b ≠ 0) : Ev f x (.BinOp l .Mod r pos) (nt (a % b)) := (Ev.fmod h1 h2 (by omega)).eq (by
  show PyData.int _ = PyData.int _
  congr 1
  rw [Int.fmod_eq_emod_of_nonneg _ (by omega)]; rfl)
theorem EvC.ltN (h1 : Ev f x l (nt a)) (h2 : Ev f x r (nt b)) : EvC f x l .Lt r (decide (a < b)) := by have := EvC.lt h1 h2; simpa using this
theorem EvC.leN (h1 : Ev f x l (nt a)) (h2 : Ev f x r (nt b)) : EvC f x l .LtE r (decide (a ≤ b)) := by have := EvC.le h1 h2; simpa using this
theorem EvC.geN (h1 : Ev f x l (nt a)) (h2 : Ev f x r (nt b)) : EvC f x l .GtE r (decide (b ≤ a)) := by have := EvC.ge h1 h2; simpa using this
theorem EvC.eqN (h1 : Ev f x l (nt a)) (h2 : Ev f x r (nt b)) : EvC f x l .Eq r (decide (a = b)) := by have := EvC.eq h1 h2; rwa [show decide ((a : Int) = b) = decide (a = b) from decide_eq_decide.mpr (by omega)] at this
theorem Ev.nat {n : Nat} {k pos} : Ev f x (.Constant (.int ((n : Nat) : Int)) k pos) (nt n) := Ev.int
theorem Ev.itemLN {v sl : Expr} {pos} {ds : List PyData} {i : Nat} {d : PyData} (h1 : Ev f x v (.list ds)) (h2 : Ev f x sl (nt i)) (hd : ds[i]? = some d) (hn : ds.length ≤ sizeLine)
    (hs : ∀ o j, subscripted sl false o j = operate [o, j] (getItem o j) := by intro _ _; with_unfolding_all rfl) : Ev f x (.Subscript v sl pos) d :=
  Ev.itemL h1 h2 (by unfold idx; rw [if_pos (by omega)]; simpa using hd) (by omega) hn hs
theorem Ev.itemSN {v sl : Expr} {pos} {ds : List Nat} {i : Nat} {c : Nat} (h1 : Ev f x v (st ds)) (h2 : Ev f x sl (nt i)) (hd : ds[i]? = some c) (hn : ds.length ≤ sizeLine)
    (hs : ∀ o j, subscripted sl false o j = operate [o, j] (getItem o j) := by intro _ _; with_unfolding_all rfl) : Ev f x (.Subscript v sl pos) (st [c]) :=
  Ev.itemS h1 h2 (by omega) (by simpa using hd) hn hs
end
theorem bits16 : ∀ k : Nat, k ≤ 60 → (Builtin.Int.intBits ((16 : Nat) : Int) : Int) * (k : Int) ≤ 2 ^ 27 := by
  intro k hk
  have : (Builtin.Int.intBits ((16 : Nat) : Int) : Int) = 5 := by decide +kernel
  rw [this]; omega
theorem log16 : ∀ k : Nat, k ≤ 60 → (16 ^ k).log2 < 9000 := by
  have : ∀ k : Nat, k < 61 → (16 ^ k).log2 < 9000 := by decide +kernel
  intro k hk; exact this k (by omega)

noncomputable def lett (n : Nat) (k : Nat) : List Nat := ((List.range k).reverse.filter fun i => decide (16 ^ i ≤ n)).map fun i => 65 + n / 16 ^ i % 16
theorem jn_nil : ∀ l : List (List Nat), jn [] l = l.flatten
  | [] => rfl
  | [y] => by simp [jn]
  | y :: z :: r => by rw [jn, jn_nil (z :: r)]; simp
theorem jn_sing (l : List Nat) : jn [] (l.map fun c => [c]) = l := by
  rw [jn_nil]
  induction l with
  | nil => rfl
  | cons a l ih => simp [ih]
theorem sing_sum (l : List Nat) : ((l.map fun c => [c]).map (·.length)).sum = l.length := by
  induction l with
  | nil => rfl
  | cons a l ih => simp at ih ⊢; omega
noncomputable def AZ : List Nat := (List.range 16).map (65 + ·)
theorem AZ_get {k : Nat} (h : k < 16) : AZ[k]? = some (65 + k) := by simp [AZ, h]
theorem lett_len (n k : Nat) : (lett n k).length ≤ k := by
  unfold lett
  rw [List.length_map]
  exact Nat.le_trans (List.length_filter_le _ _) (by simp)
end Mine
end
section
open PySem PySem.W PyProof.Rows PySem.Spec
set_option Elab.async false
set_option linter.all false
set_option maxRecDepth 100000
namespace Mine
section
variable {f : Fx} {x : Sx}
theorem Ev.strE {y : Str} {l : List Nat} {k pos} (h : y = S l := by decide +kernel) : Ev f x (.Constant (.str y) k pos) (st l) := by subst h; exact Ev.str
theorem Ev.iteB {t a b : Expr} {pos} {c : Bool} {da db : PyData} (h : Tst f x t c) (ha : Ev f x a da) (hb : Ev f x b db) : Ev f x (.IfExp t a b pos) (if c = true then da else db) :=
  .ite h (fun e => by rw [if_pos e]; exact ha) (fun e => by rw [if_neg (by rw [e]; decide)]; exact hb)
theorem Ev.iteS {t a b : Expr} {pos} {c : Bool} {da db : List Nat} (h : Tst f x t c) (ha : Ev f x a (st da)) (hb : Ev f x b (st db)) : Ev f x (.IfExp t a b pos) (st (if c = true then da else db)) :=
  (Ev.iteB h ha hb).eq (by cases c <;> rfl)
theorem Ev.iteI {t a b : Expr} {pos} {c : Bool} {da db : Int} (h : Tst f x t c) (ha : Ev f x a (.int da)) (hb : Ev f x b (.int db)) : Ev f x (.IfExp t a b pos) (.int (if c = true then da else db)) :=
  (Ev.iteB h ha hb).eq (by cases c <;> rfl)
theorem Ev.iteN {t a b : Expr} {pos} {c : Bool} {da db : Nat} (h : Tst f x t c) (ha : Ev f x a (nt da)) (hb : Ev f x b (nt db)) : Ev f x (.IfExp t a b pos) (nt (if c = true then da else db)) :=
  (Ev.iteB h ha hb).eq (by cases c <;> rfl)
end
noncomputable def numZ (i : Int) : Int := if i < 0 then -((i.natAbs % 16 ^ 17 : Nat) : Int) else ((i.natAbs % 16 ^ 17 : Nat) : Int)
noncomputable def CRLF : List Nat := [13, 10]
noncomputable def rowL (more : Nat) (r : Nat × List Nat) : List Nat := reps [46] (if r.1 = 0 then 0 else r.1 + more) ++ r.2
noncomputable def mailL (more : Nat) (rows : List (Nat × List Nat)) : List Nat := jn CRLF (rows.map (rowL more))
noncomputable def rowD (r : Nat × List Nat) : PyData := .list [nt r.1, st r.2]
theorem reps_one (c n : Nat) : reps [c] n = List.replicate n c := by
  unfold reps
  induction n with
  | zero => rfl
  | succ n ih => rw [List.replicate_succ, List.flatten_cons, ih]; rfl
theorem jn_len (g : List Nat) : ∀ ys : List (List Nat), (jn g ys).length + g.length = (ys.map (·.length)).sum + (if ys = [] then 1 else ys.length) * g.length
  | [] => by simp [jn]
  | [y] => by simp [jn]
  | y :: z :: r => by
    have := jn_len g (z :: r)
    simp [jn, Nat.add_mul] at this ⊢
    omega
theorem jn_fits {g : List Nat} {ys : List (List Nat)} {n : Nat} (h : (jn g ys).length + g.length ≤ n) : (ys.map (·.length)).sum + ys.length * g.length ≤ n := by
  have := jn_len g ys
  by_cases q : ys = []
  · subst q; simp
  · rw [if_neg q] at this; omega
end Mine
end
section
open PySem PySem.W PyProof.Rows PySem.Spec
set_option Elab.async false
set_option linter.all false
set_option maxRecDepth 100000
namespace Mine
section
variable {prog : Program} {w : World} {mg mb : Str → Option Value}
theorem c_term (G : (WL prog w mg mb).Glob) (i : Int) : Fn (WL prog w mg mb) (.ref 41) 1 [.int i] (.bool (decide (i < 256))) := by
  obtain ⟨t, ht⟩ := g_NT (w := w)
  refine Fn.of_at (nm := ["x"]) (gl := ["NT_OFFSET"]) (ps := ["x"]) rfl rfl rfl rfl rfl rfl rfl (by decide +kernel) (bind1 fun _ => rfl) (.cons .here .nil) fun A s L hz bad bad' => ?_
  exact Ex.ret (Ev.cmp (EvC.lt (Ev.name At.i0) (Ev.globI Mem.i0 (G.g _ _ ht)))) fun s v O r => O.retD r
theorem c_nont (G : (WL prog w mg mb).Glob) (i : Int) : Fn (WL prog w mg mb) (.ref 48) 1 [.int i] (.bool (decide (256 ≤ i))) := by
  obtain ⟨t, ht⟩ := g_NT (w := w)
  refine Fn.of_at (nm := ["x"]) (gl := ["NT_OFFSET"]) (ps := ["x"]) rfl rfl rfl rfl rfl rfl rfl (by decide +kernel) (bind1 fun _ => rfl) (.cons .here .nil) fun A s L hz bad bad' => ?_
  exact Ex.ret (Ev.cmp (EvC.ge (Ev.name At.i0) (Ev.globI Mem.i0 (G.g _ _ ht)))) fun s v O r => O.retD r
theorem c_eof (G : (WL prog w mg mb).Glob) (i : Int) : Fn (WL prog w mg mb) (.ref 55) 1 [.int i] (.bool (decide (i = 0))) := by
  obtain ⟨t, ht⟩ := g_END (w := w)
  refine Fn.of_at (nm := ["x"]) (gl := ["ENDMARKER"]) (ps := ["x"]) rfl rfl rfl rfl rfl rfl rfl (by decide +kernel) (bind1 fun _ => rfl) (.cons .here .nil) fun A s L hz bad bad' => ?_
  exact Ex.ret (Ev.cmp (EvC.eq (Ev.name At.i0) (Ev.globI Mem.i0 (G.g _ _ ht)))) fun s v O r => O.retD r

end
end Mine
end
section
open PySem PySem.W PyProof.Rows PySem.Spec
set_option Elab.async false
set_option linter.all false
set_option maxRecDepth 100000
namespace Mine
noncomputable def kgood (k : Nat) (s : Int) : Bool := decide (s < 256) == decide (k % 2 = 1)
noncomputable def kindsB (l : List Int) : Bool := (List.range l.length).all fun k => match l[k]? with | some s => kgood k s | none => true
theorem kindsB_false {l : List Int} {k : Nat} {s : Int} (h : l[k]? = some s) (hg : kgood k s = false) : kindsB l = false := by
  unfold kindsB
  rw [List.all_eq_false]
  exact ⟨k, List.mem_range.mpr (List.getElem?_eq_some_iff.mp h).1, by rw [h]; simp [hg]⟩
theorem kindsB_true {l : List Int} (h : ∀ k s, l[k]? = some s → kgood k s = true) : kindsB l = true := by
  unfold kindsB
  rw [List.all_eq_true]
  intro k hk
  have := List.getElem?_eq_getElem (List.mem_range.mp hk)
  rw [this]; exact h k _ this
section
variable {prog : Program} {w : World} {mg mb : Str → Option Value}
theorem c_kinds (G : (WL prog w mg mb).Glob) (l : List Int) (hl : l.length ≤ sizeLine) : Fn (WL prog w mg mb) (.ref 91) 2 [.list (l.map .int)] (.bool (kindsB l)) := by
  refine Fn.of_at (nm := ["symbols", "k", "s", "far"]) (gl := ["enumerate", "ISTERMINAL", "ISNONTERMINAL", "ISEOF"]) (ps := ["symbols"]) rfl rfl rfl rfl rfl rfl rfl (by decide +kernel) (bind1 fun _ => rfl) (.cons .here .nil) fun A s L hz bad bad' => ?_
  refine Ex.for (ns := ["k", "s"]) (Iter.enum (ds := l.map .int) (Ev.blt Mem.i0 (G.blt b_enumerate B_enumerate (by decide +kernel))) (Ev.name At.i0))
    (fun k vs led => led = [] ∧ vs = [.val (.list (l.map .int)), .no, .no, .no] ∧ ∀ j s, j < k → l[j]? = some s → kgood j s = true)
    (fun vs led => led = [] ∧ vs = [.val (.list (l.map .int)), .no, .no, .no] ∧ ∀ j s, l[j]? = some s → kgood j s = true) ⟨rfl, rfl, fun j s h => by omega⟩ ?_ ?_ ?_ ?_
  · rintro k d vs led hz' bad'' fp P hd ⟨rfl, rfl, hJ⟩
    obtain ⟨e, he, rfl⟩ := enum_get hd
    rw [List.getElem?_map] at he
    cases hls : l[k]? with
    | none => rw [hls] at he; cases he
    | some s' =>
    rw [hls] at he; cases he
    refine ⟨_, .names (.cons (.cons .nil)) (.inr rfl) (.cons Put.i1 (.cons Put.i2 .nil)), ?_⟩
    refine Ex.assign (Ev.sub Ev.int (Ev.name At.i2)) Put.i3 ?_
    refine Ex.ite (c := !kgood k s') (Tst.eq (Tst.or (Tst.cmp (EvC.isNot (Ev.call (Ev.glob Mem.i1 (G.g _ _ g_term)) (.fn rfl rfl) (.cons (Ev.name At.i2) .nil) (c_term G _) (Nat.le_of_ble_eq_true rfl)) (Ev.cmp (EvC.eqN (Ev.fmodN (Ev.name At.i1) (Ev.nat (n := 2)) (by decide)) (Ev.nat (n := 1))))))
      fun _ => Tst.or (Tst.cmp (EvC.isNot (Ev.call (Ev.glob Mem.i2 (G.g _ _ g_nont)) (.fn rfl rfl) (.cons (Ev.name At.i2) .nil) (c_nont G _) (Nat.le_of_ble_eq_true rfl)) (Ev.cmp (EvC.eqN (Ev.fmodN (Ev.name At.i1) (Ev.nat (n := 2)) (by decide)) (Ev.nat (n := 0))))))
      fun _ => Tst.or (Tst.cmp (EvC.isNot (Ev.call (Ev.glob Mem.i3 (G.g _ _ g_eof)) (.fn rfl rfl) (.cons (Ev.name At.i2) .nil) (c_eof G _) (Nat.le_of_ble_eq_true rfl)) (Ev.cmp (EvC.eq (Ev.name At.i2) Ev.int)))) fun _ => Tst.orN) ?_) ?_ ?_
    · unfold kgood
      have h1 : decide (256 ≤ s') = !decide (s' < 256) := by by_cases h : s' < 256 <;> simp [h] <;> omega
      have h2 : decide (k % 2 = 0) = !decide (k % 2 = 1) := by by_cases h : k % 2 = 1 <;> simp [h] <;> omega
      rw [h1, h2]
      cases decide (s' < 256) <;> cases decide (k % 2 = 1) <;> simp
    · intro hc
      have : kindsB l = false := kindsB_false hls (by simpa using hc)
      exact Ex.ret (d := .bool (kindsB l)) (by rw [this]; exact Ev.bool) fun s v O r => O.retD r
    · intro hc
      have hg : kgood k s' = true := by simpa using hc
      refine Ex.next ?_
      refine Ex.ite (c := false) (Tst.eq (Tst.or (Tst.cmp (EvC.isNot (Ev.call (Ev.glob Mem.i1 (G.g _ _ g_term)) (.fn rfl rfl) (.cons (Ev.name At.i3) .nil) (c_term G _) (Nat.le_of_ble_eq_true rfl)) (Ev.cmp (EvC.eqN (Ev.fmodN (Ev.name At.i1) (Ev.nat (n := 2)) (by decide)) (Ev.nat (n := 0))))))
        fun _ => Tst.or (Tst.cmp (EvC.isNot (Ev.call (Ev.glob Mem.i2 (G.g _ _ g_nont)) (.fn rfl rfl) (.cons (Ev.name At.i3) .nil) (c_nont G _) (Nat.le_of_ble_eq_true rfl)) (Ev.cmp (EvC.eqN (Ev.fmodN (Ev.name At.i1) (Ev.nat (n := 2)) (by decide)) (Ev.nat (n := 1))))))
        fun _ => Tst.or (Tst.cmp (EvC.isNot (Ev.call (Ev.glob Mem.i3 (G.g _ _ g_eof)) (.fn rfl rfl) (.cons (Ev.name At.i3) .nil) (c_eof G _) (Nat.le_of_ble_eq_true rfl)) (Ev.cmp (EvC.eq (Ev.name At.i3) Ev.int)))) fun _ => Tst.orN) ?_) (fun h => by cases h) (fun _ => ?_)
      · unfold kgood at hg
        have h1 : decide (511 - s' < 256) = !decide (s' < 256) := by by_cases h : s' < 256 <;> simp [h] <;> omega
        have h3 : decide (256 ≤ 511 - s') = decide (s' < 256) := by by_cases h : s' < 256 <;> simp [h] <;> omega
        have h2 : decide (k % 2 = 0) = !decide (k % 2 = 1) := by by_cases h : k % 2 = 1 <;> simp [h] <;> omega
        rw [h1, h2, h3]
        revert hg
        cases decide (s' < 256) <;> cases decide (k % 2 = 1) <;> simp
      · refine Ex.next (Ex.nil fun s₂ O₂ => ⟨_, _, [], ⟨rfl, rfl, fun j s hj hs => ?_⟩, O₂.forget (.keep (.drop (.drop (.drop .nil))))⟩)
        by_cases q : j = k
        · subst q; rw [hls] at hs; cases hs; exact hg
        · exact hJ j s (by omega) hs
  · rintro vs led ⟨rfl, rfl, hJ⟩
    refine ⟨rfl, rfl, fun j s hs => hJ j s ?_ hs⟩
    have : (enum (l.map PyData.int)).length = l.length := by simp [enum]
    rw [this]; exact (List.getElem?_eq_some_iff.mp hs).1
  · rintro vs led bad ⟨rfl, rfl, hJ⟩
    exact Ex.ret (d := .bool (kindsB l)) (by rw [kindsB_true hJ]; exact Ev.bool) fun s v O r => O.retD r
  · intro n hn
    cases hn with
    | head => exact Mem.i1
    | tail _ h => cases h with
      | head => exact Mem.i2
      | tail _ h => cases h
end
end Mine
end
section
open PySem PySem.W PyProof.Rows PySem.Spec
set_option Elab.async false
set_option linter.all false
set_option maxRecDepth 100000
namespace Mine

section
variable {f : Fx}
end
end Mine
end
section
open PySem PySem.W PyProof.Rows PySem.Spec
set_option Elab.async false
set_option linter.all false
set_option maxRecDepth 100000
namespace Mine

section
variable {f : Fx} {x : Sx}
end
end Mine
end
section
open PySem PySem.W PyProof.Rows PySem.Spec
set_option Elab.async false
set_option linter.all false
set_option maxRecDepth 100000
namespace Mine
section
variable {f : Fx} {x : Sx}
end
end Mine
end
section
open PySem PySem.W PyProof.Rows PySem.Spec
set_option Elab.async false
set_option linter.all false
set_option maxRecDepth 100000
namespace Mine
noncomputable def crlf : List Nat → List Nat
  | [] => []
  | 13 :: 10 :: r => 13 :: 10 :: crlf r
  | 10 :: r => 13 :: 10 :: crlf r
  | 13 :: r => 13 :: 10 :: crlf r
  | c :: r => c :: crlf r
noncomputable def stuff : Bool → List Nat → List Nat
  | _, [] => []
  | b, c :: r => if b = true ∧ c = 46 then 46 :: 46 :: stuff false r else c :: stuff (c == 10) r
noncomputable def qd (l : List Nat) : List Nat := stuff true (crlf l)
theorem crlf_len : ∀ l, (crlf l).length ≤ 2 * l.length := by
  intro l
  induction l using crlf.induct with
  | case1 => simp [crlf]
  | case2 r ih => simp [crlf]; omega
  | case3 r ih => simp [crlf]; omega
  | case4 r h ih => rw [crlf]; simp; omega; assumption
  | case5 c r h1 h2 h3 ih => rw [crlf]; simp; omega; all_goals assumption
theorem stuff_len : ∀ l b, (stuff b l).length ≤ 2 * l.length
  | [], b => by simp [stuff]
  | c :: r, b => by
    rw [stuff]
    split
    · have := stuff_len r false; simp; omega
    · have := stuff_len r (c == 10); simp; omega
theorem le_sum {n : Nat} : ∀ {l : List Nat}, n ∈ l → n ≤ l.sum
  | a :: r, h => by
    rcases List.mem_cons.mp h with rfl | h
    · simp
    · have := le_sum h; simp; omega
noncomputable def endsL : List (List Nat) := [[10], [13], [13, 10], [10, 46], [13, 13]]
noncomputable def duesL : List (List Nat) := [[13, 10], [13, 10], [13, 10], [13, 10, 46, 46], [13, 10, 13, 10]]
section
variable {f : Fx} {x : Sx}
end
end Mine
end
section
open PySem PySem.W PyProof.Rows PySem.Spec
set_option Elab.async false
set_option linter.all false
set_option maxRecDepth 100000
namespace Mine
section
variable {f : Fx} {x : Sx} {s : Shared}
end
section
variable {f : Fx} {x : Sx}
end
end Mine
end
section
open PySem PySem.W PyProof.Rows PySem.Spec
set_option Elab.async false
set_option linter.all false
set_option maxRecDepth 100000
namespace Mine
noncomputable def opsL : List (List Nat × Nat) := [([33], 54), ([33, 61], 28), ([37], 24), ([37, 61], 40), ([38], 19), ([38, 61], 41), ([40], 7), ([41], 8), ([42], 16), ([42, 42], 35), ([42, 42, 61], 46), ([42, 61], 38), ([43], 14), ([43, 61], 36), ([44], 12), ([45], 15), ([45, 61], 37), ([45, 62], 51), ([46], 23), ([46, 46, 46], 52), ([47], 17), ([47, 47], 47), ([47, 47, 61], 48), ([47, 61], 39), ([58], 11), ([58, 61], 53), ([59], 13), ([60], 20), ([60, 60], 33), ([60, 60, 61], 44), ([60, 61], 29), ([61], 22), ([61, 61], 27), ([62], 21), ([62, 61], 30), ([62, 62], 34), ([62, 62, 61], 45), ([64], 49), ([64, 61], 50), ([91], 9), ([93], 10), ([94], 32), ([94, 61], 43), ([123], 25), ([124], 18), ([124, 61], 42), ([125], 26), ([126], 31)]
noncomputable def opsS : List (Str × PyData) := opsL.map fun p => (S p.1, nt p.2)
noncomputable def opsD : List (PyData × PyData) := opsS.map fun p => (PyData.str p.1, p.2)
theorem ops_lookup (o : List Nat) : PySem.Spec.lookup (st o) opsD = (opsL.lookup o).map nt := by
  unfold opsD opsS
  generalize opsL = l
  induction l with
  | nil => rfl
  | cons p l ih =>
    obtain ⟨q, k⟩ := p
    simp only [List.map_cons, PySem.Spec.lookup]
    rw [PyProof.V.same_str, List.lookup_cons, ih]
    by_cases h : q = o
    · subst h; simp
    · have h1 : ¬ S q = S o := fun e => h (S_inj e)
      have h2 : (o == q) = false := by simpa using fun e : o = q => h e.symm
      simp [h1, h2]
theorem inS_one (c : Nat) (l : List Nat) : inS [c] l = decide (c ∈ l) := by
  have := StrLaws.found_one (S l) c
  rw [S_len] at this
  show (!(Builtin.Str.occurrences (S l) ⟨#[c]⟩ 0 l.length 1).isEmpty) = _
  rw [this, S_toList]

inductive Lx (stop : List Nat) : List Nat → Int → List Int → Prop
  | done {v} : Lx stop [] v [v]
  | stop {c r v} : c ∈ stop → Lx stop (c :: r) v [v]
  | word {c r v out} : c ∉ stop → 65 ≤ c → c < 81 → Lx stop r (256 + 16 * (v - 256) + c - 65) out → Lx stop (c :: r) v out
  | op {c o r v k out} : c ∉ stop → (c < 65 ∨ 81 ≤ c) → opsL.lookup (c :: o) = some k → o.length < 3 →
      (∀ n, o.length + 1 < n → n ≤ 3 → n ≤ (c :: (o ++ r)).length → opsL.lookup ((c :: (o ++ r)).take n) = none) → Lx stop r 256 out → Lx stop (c :: (o ++ r)) v (v :: k :: out)
theorem slc_nat (l : List Nat) (i j : Nat) : slc l (some (i : Int)) (some (j : Int)) = (l.drop i).take (j - i) := by
  unfold slc
  simp only [Option.elim, clipAt_nat]
  by_cases h : i ≤ l.length
  · rw [Nat.min_eq_left h]
    by_cases h2 : j ≤ l.length
    · rw [Nat.min_eq_left h2]
    · rw [Nat.min_eq_right (by omega), List.take_of_length_le (by simp), List.take_of_length_le (by simp; omega)]
  · rw [Nat.min_eq_right (by omega : l.length ≤ i), List.drop_of_length_le (by omega), List.drop_of_length_le (by omega)]
    simp
theorem Ex.augN {f : Fx} {x : Sx} {n : Str} {p : Pos} {e : Expr} {pos : Pos} {rest : List Stmt} {a b : Nat} {vs' : List Slot} {Q : Flow → Shared → Prop} (h0 : At f.nm x.vs n (.val (nt a))) (h : Ev f x e (nt b))
    (put : Put f.nm x.vs n (.val (nt (a + b))) vs') (hr : Ex f { x with vs := vs' } rest Q) (hc : f.sto = f.nm := by exact rfl) : Ex f x (.AugAssign (.Name n p) .Add e pos :: rest) Q :=
  .aug h0 h (fun s v w O r1 r2 => by
    obtain ⟨t, rfl⟩ := r1.int_inv; obtain ⟨u, rfl⟩ := r2.int_inv
    exact PySem.P.iadd_int ⟨.tok, by rw [← Int.natCast_add]; exact .int _ _⟩) put hr hc
theorem ltN {l : List Nat} {i : Nat} {c : Nat} {r : List Nat} (h : l.drop i = c :: r) : l[i]? = some c ∧ i < l.length ∧ l.drop (i + 1) = r := by
  have h1 : i < l.length := by
    rcases Nat.lt_or_ge i l.length with q | q
    · exact q
    · rw [List.drop_of_length_le q] at h; cases h
  have h2 := List.drop_eq_getElem_cons h1
  rw [h] at h2
  cases h2
  exact ⟨List.getElem?_eq_getElem h1, h1, rfl⟩
theorem AZ_mem {c : Nat} : c ∈ AZ ↔ 65 ≤ c ∧ c < 81 := by
  unfold AZ
  simp only [List.mem_map, List.mem_range]
  constructor
  · rintro ⟨a, h, rfl⟩; omega
  · intro h; exact ⟨c - 65, by omega, by omega⟩
theorem Lx.pos {stop l v out} (h : Lx stop l v out) : 1 ≤ out.length := by
  induction h with
  | done => simp
  | stop _ => simp
  | word _ _ _ _ ih => exact ih
  | op _ _ _ _ _ _ ih => simp
end Mine
end
section
open PySem PySem.W PyProof.Rows PySem.Spec
set_option Elab.async false
set_option linter.all false
set_option maxRecDepth 100000
namespace Mine
noncomputable abbrev Row := Nat × List Nat
noncomputable def moreL (k : Nat) : List Row := ([[], [], [], [(0, [])], [(0, []), (1, []), (0, [])], [], []] : List (List Row)).getD k []
theorem slc_lo {α : Type} (l : List α) (i : Nat) : slc l none (some (i : Int)) = l.take i := by
  unfold slc clipAt
  simp only [Option.elim]
  rw [List.drop_zero]
  by_cases h : i ≤ l.length
  · rw [if_neg (by omega)]; congr 1; omega
  · rw [if_neg (by omega)]
    rw [List.take_of_length_le (by omega), List.take_of_length_le (by omega)]
theorem slc_hi {α : Type} (l : List α) (i : Nat) : slc l (some (i : Int)) none = l.drop i := by
  unfold slc clipAt
  simp only [Option.elim]
  rw [if_neg (by omega)]
  by_cases h : i ≤ l.length
  · rw [List.take_of_length_le (by rw [List.length_drop]; omega)]; congr 1; omega
  · rw [List.drop_eq_nil_iff.mpr (by omega)]
    simp; omega
section
variable {f : Fx} {x : Sx}
theorem Ev.takeL {v hi : Expr} {p pos} {ds : List PyData} {i : Nat} (h1 : Ev f x v (.list ds)) (h3 : Ev f x hi (nt i)) (hn : ds.length ≤ sizeLine) : Ev f x (.Subscript v (.Slice none (some hi) .none p) pos) (.list (ds.take i)) :=
  (Ev.sliceL h1 EvO.none (EvO.some h3) hn).eq (by rw [slc_lo])
theorem Ev.dropL {v lo : Expr} {p pos} {ds : List PyData} {i : Nat} (h1 : Ev f x v (.list ds)) (h3 : Ev f x lo (nt i)) (hn : ds.length ≤ sizeLine) : Ev f x (.Subscript v (.Slice (some lo) none .none p) pos) (.list (ds.drop i)) :=
  (Ev.sliceL h1 (EvO.some h3) EvO.none hn).eq (by rw [slc_hi])
theorem Ev.takeS {v hi : Expr} {p pos} {ds : List Nat} {i : Nat} (h1 : Ev f x v (st ds)) (h3 : Ev f x hi (nt i)) (hn : ds.length ≤ sizeLine) : Ev f x (.Subscript v (.Slice none (some hi) .none p) pos) (st (ds.take i)) :=
  (Ev.sliceS h1 EvO.none (EvO.some h3) hn).eq (by rw [slc_lo])
theorem starEach_List (es p rest env) : starEach (.List es p :: rest) env = (false, eval (.List es p) env) :: starEach rest env := rfl
theorem starEach_Constant (c k p rest env) : starEach (.Constant c k p :: rest) env = (false, eval (.Constant c k p) env) :: starEach rest env := rfl
theorem EvL.consL {es' p es d ds} (h1 : Ev f x (.List es' p) d) (h2 : EvL f x es ds) : EvL f x (.List es' p :: es) (d :: ds) := EvL.cons h1 h2 (starEach_List ..)
theorem EvL.consK {c k p es d ds} (h1 : Ev f x (.Constant c k p) d) (h2 : EvL f x es ds) : EvL f x (.Constant c k p :: es) (d :: ds) := EvL.cons h1 h2 (starEach_Constant ..)
theorem Ev.rowE {k : Nat} {c1 c2 p1 p2 p3} : Ev f x (.List [.Constant (.int ((k : Nat) : Int)) c1 p1, .Constant (.str (Str.ofString "")) c2 p2] p3) (.list [nt k, st []]) :=
  Ev.list (ds := [nt k, st []]) (.consK Ev.nat (.consK (Ev.strE (l := [])) .nil)) (Nat.le_of_ble_eq_true rfl)
theorem Ev.nil0 {p} : Ev f x (.List [] p) (.list []) := Ev.list (ds := []) .nil (by decide)
noncomputable def moreD : List PyData := [.list [], .list [], .list [], .list [.list [nt 0, st []]], .list [.list [nt 0, st []], .list [nt 1, st []], .list [nt 0, st []]], .list [], .list []]
theorem moreD_get {k : Nat} (hk : k < 7) : moreD[k]? = some (.list ((moreL k).map rowD)) := by
  have : k = 0 ∨ k = 1 ∨ k = 2 ∨ k = 3 ∨ k = 4 ∨ k = 5 ∨ k = 6 := by omega
  rcases this with h | h | h | h | h | h | h <;> (subst h; rfl)
theorem ll3 {α : Type} (a b c : α) : [a, b, c].length ≤ sizeLine := by show 3 ≤ sizeLine; decide
theorem ll7 {α : Type} (a b c d e f g : α) : [a, b, c, d, e, f, g].length ≤ sizeLine := by show 7 ≤ sizeLine; decide
theorem Ev.m0 {p c0 c1 b0 b1} : Ev f x (.List [.Constant (.int 0) c0 b0, .Constant (.str (Str.ofString "")) c1 b1] p) (.list [nt 0, st []]) := Ev.rowE (k := 0)
theorem Ev.m01 {p c0 c1 b0 b1} : Ev f x (.List [.Constant (.int 1) c0 b0, .Constant (.str (Str.ofString "")) c1 b1] p) (.list [nt 1, st []]) := Ev.rowE (k := 1)
theorem Ev.m1 {p c0 c1 b0 b1 b2} : Ev f x (.List [.List [.Constant (.int 0) c0 b0, .Constant (.str (Str.ofString "")) c1 b1] b2] p) (.list [.list [nt 0, st []]]) :=
  Ev.list (EvL.consL Ev.m0 EvL.nil) (Nat.le_of_ble_eq_true rfl)
theorem Ev.m3 {p c2 c3 c4 c5 c6 c7 b3 b4 b5 b6 b7 b8 b9 b10 b11} : Ev f x (.List [.List [.Constant (.int 0) c2 b3, .Constant (.str (Str.ofString "")) c3 b4] b5, .List [.Constant (.int 1) c4 b6, .Constant (.str (Str.ofString "")) c5 b7] b8, .List [.Constant (.int 0) c6 b9, .Constant (.str (Str.ofString "")) c7 b10] b11] p) (.list [.list [nt 0, st []], .list [nt 1, st []], .list [nt 0, st []]]) := by
  refine Ev.list ?_ ?_
  · refine EvL.consL ?_ ?_
    · exact Ev.m0
    · refine EvL.consL ?_ ?_
      · exact Ev.m01
      · refine EvL.consL ?_ ?_
        · exact Ev.m0
        · exact EvL.nil
  · exact ll3 _ _ _
theorem Ev.mores {a0 a1 a2 a3 a4 a5 a6 b0 b1 b2 b3 b4 b5 b6 b7 b8 b9 b10 b11 pp : Pos} {c0 c1 c2 c3 c4 c5 c6 c7} : Ev f x
    (.List [.List [] a0, .List [] a1, .List [] a2, .List [.List [.Constant (.int 0) c0 b0, .Constant (.str (Str.ofString "")) c1 b1] b2] a3,
     .List [.List [.Constant (.int 0) c2 b3, .Constant (.str (Str.ofString "")) c3 b4] b5, .List [.Constant (.int 1) c4 b6, .Constant (.str (Str.ofString "")) c5 b7] b8, .List [.Constant (.int 0) c6 b9, .Constant (.str (Str.ofString "")) c7 b10] b11] a4, .List [] a5, .List [] a6] pp) (.list moreD) := by
  unfold moreD
  refine Ev.list ?_ ?_
  · refine EvL.consL ?_ ?_
    · exact Ev.nil0
    refine EvL.consL ?_ ?_
    · exact Ev.nil0
    refine EvL.consL ?_ ?_
    · exact Ev.nil0
    refine EvL.consL ?_ ?_
    · exact Ev.m1
    refine EvL.consL ?_ ?_
    · exact Ev.m3
    refine EvL.consL ?_ ?_
    · exact Ev.nil0
    refine EvL.consL ?_ ?_
    · exact Ev.nil0
    exact EvL.nil
  · exact ll7 _ _ _ _ _ _ _
theorem moreD_len : moreD.length ≤ sizeLine := by unfold moreD; exact ll7 _ _ _ _ _ _ _
end
end Mine
end
section
open PySem PySem.W PyProof.Rows PySem.Spec
set_option Elab.async false
set_option linter.all false
set_option maxRecDepth 100000
set_option maxHeartbeats 1000000
namespace Mine
section
variable {prog : Program} {w : World} {mg mb : Str → Option Value}
theorem c_mail (G : (WL prog w mg mb).Glob) (rows : List (Nat × List Nat)) (more : Nat) (hs : (mailL more rows).length ≤ 2 ^ 20) (hd : ∀ r ∈ rows, r.1 + more < 2 ^ 30) (hn : rows.length ≤ 2 ^ 20) :
    Fn (WL prog w mg mb) (.ref 144) 1 [.list (rows.map rowD), nt more] (st (mailL more rows)) := by
  have sz : sizeLine = 16777216 := by decide
  have hfit := jn_fits (g := CRLF) (ys := rows.map (rowL more)) (n := 2 ^ 20 + 2) (by show (mailL more rows).length + 2 ≤ _; omega)
  refine Fn.of_at (nm := ["rows", "more"]) (gl := []) (ps := ["rows", "more"]) rfl rfl rfl rfl rfl rfl rfl (by decide +kernel) (bind2 fun _ _ => rfl) (.cons Put.i0 (.cons Put.i1 .nil)) fun A s L hz bad bad' => ?_
  refine Ex.ret (Ev.join (g := CRLF) (ys := rows.map (rowL more)) (Ev.strE (l := CRLF)) (Ev.eq (Ev.comp1 (xs := rows) (di := rowD) (g := fun r => st (rowL more r)) (p := fun _ => true) (own := ["dots", "text"]) (fr := ["more"]) (gl := []) (ns := ["dots", "text"])
    (Iter.list (Ev.name At.i0)) rfl (by decide +kernel) (Ats.one At.i1) rfl rfl two_in (by omega) fun r hr C cs base hz bad led => ⟨_, .names (.cons (.cons .nil)) (.inl rfl) (.cons .here (.cons Put.i1 .nil)), .drop (.drop (.keep .nil)), .nil, fun _ => ?_⟩) ?_) ?_) fun s v O r => O.retD r
  · have hle : (rowL more r).length ≤ 2 ^ 20 + 2 := by
      have h1 : (rowL more r).length ∈ ((rows.map (rowL more)).map (·.length)) := List.mem_map.mpr ⟨_, List.mem_map.mpr ⟨r, hr, rfl⟩, rfl⟩
      have := le_sum h1
      omega
    have hd' := hd r hr
    unfold rowL at hle ⊢
    rw [List.length_append, reps_one, List.length_replicate] at hle
    have e0 : (if (r.1 != 0) = true then r.1 + more else 0) = (if r.1 = 0 then 0 else r.1 + more) := by by_cases h : r.1 = 0 <;> simp [h]
    refine Ev.eq (Ev.cat (Ev.mulS (Ev.strE (l := [46])) (Ev.iteN (c := r.1 != 0) (Tst.val (Ev.name At.i0) trivial (by cases r.1 <;> rfl)) (Ev.addN (Ev.name At.i0) (Ev.name At.i2)) (Ev.nat (n := 0))) ?_ ?_) (Ev.name At.i1) ?_) ?_
    · rw [e0, Int.toNat_natCast, sz]; simp; omega
    · rw [e0]; split <;> simp <;> omega
    · rw [e0, Int.toNat_natCast, reps_one, List.length_replicate, sz]; omega
    · rw [e0, Int.toNat_natCast]
  · rw [map_true, List.map_map]; rfl
  · rw [sz]; omega
theorem c_sent (G : (WL prog w mg mb).Glob) (page : List Nat) (rows : List (Nat × List Nat)) (k : Nat) (hk : k < 5) (hq : ∀ l : List Nat, l.length ≤ 2 ^ 20 → Fn (WL prog w mg mb) (.ref 79) 1 [st l] (st (qd l)))
    (hp : page.length ≤ 2 ^ 19) (h0 : (mailL 0 rows).length ≤ 2 ^ 20) (h1 : (mailL 1 rows).length ≤ 2 ^ 20) (hd : ∀ r ∈ rows, r.1 + 1 < 2 ^ 30) (hn : rows.length ≤ 2 ^ 20) :
    Fn (WL prog w mg mb) (.ref 151) 2 [st page, .list (rows.map rowD), nt k] (.bool (decide (page = mailL 0 rows) && decide (qd (page ++ endsL.getD k []) = mailL 1 rows ++ duesL.getD k []))) := by
  have sz : sizeLine = 16777216 := by decide
  have e1 : (endsL.map st)[k]? = some (st (endsL.getD k [])) := by
    have : ∀ k : Nat, k < 5 → endsL[k]? = some (endsL.getD k []) := by decide
    rw [List.getElem?_map, this k hk]; rfl
  have e2 : (duesL.map st)[k]? = some (st (duesL.getD k [])) := by
    have : ∀ k : Nat, k < 5 → duesL[k]? = some (duesL.getD k []) := by decide
    rw [List.getElem?_map, this k hk]; rfl
  have l1 : (endsL.getD k []).length ≤ 2 := by
    have : ∀ k : Nat, k < 5 → (endsL.getD k []).length ≤ 2 := by decide
    exact this k hk
  have l2 : (duesL.getD k []).length ≤ 4 := by
    have : ∀ k : Nat, k < 5 → (duesL.getD k []).length ≤ 4 := by decide
    exact this k hk
  refine Fn.of_at (nm := ["page", "rows", "kind", "ends", "dues"]) (gl := ["_law_mail", "quotedata"]) (ps := ["page", "rows", "kind"]) rfl rfl rfl rfl rfl rfl rfl (by decide +kernel) (bind3 fun _ _ _ => rfl) (.cons Put.i0 (.cons Put.i1 (.cons Put.i2 .nil))) fun A s L hz bad bad' => ?_
  refine Ex.assign (Ev.list (ds := endsL.map st) (.cons Ev.strE (.cons Ev.strE (.cons Ev.strE (.cons Ev.strE (.cons Ev.strE .nil))))) (Nat.le_of_ble_eq_true rfl)) Put.i3 ?_
  refine Ex.assign (Ev.list (ds := duesL.map st) (.cons Ev.strE (.cons Ev.strE (.cons Ev.strE (.cons Ev.strE (.cons Ev.strE .nil))))) (Nat.le_of_ble_eq_true rfl)) Put.i4 ?_
  refine Ex.ret (Ev.and2 (da := .bool (decide (page = mailL 0 rows))) (Ev.cmp (EvC.eqS (Ev.name At.i0) (Ev.call (Ev.glob Mem.i0 (G.g _ _ g_mail)) (.fn rfl rfl) (.cons (Ev.name At.i1) (.cons (Ev.nat (n := 0)) .nil)) (c_mail G rows 0 h0 (fun r hr => by have := hd r hr; omega) hn) (Nat.le_of_ble_eq_true rfl)))) trivial
    (fun _ => Ev.cmp (EvC.eqS (Ev.call (Ev.glob Mem.i1 (G.g _ _ g_quote)) (.fn rfl rfl) (.cons (Ev.cat (Ev.name At.i0) (Ev.itemLN (Ev.name At.i3) (Ev.name At.i2) e1 (Nat.le_of_ble_eq_true rfl)) (by omega)) .nil) (hq _ (by rw [List.length_append]; omega)) (Nat.le_of_ble_eq_true rfl))
      (Ev.cat (Ev.call (Ev.glob Mem.i0 (G.g _ _ g_mail)) (.fn rfl rfl) (.cons (Ev.name At.i1) (.cons (Ev.nat (n := 1)) .nil)) (c_mail G rows 1 h1 hd hn) (Nat.le_of_ble_eq_true rfl)) (Ev.itemLN (Ev.name At.i4) (Ev.name At.i2) e2 (Nat.le_of_ble_eq_true rfl)) (by omega)))) rfl) fun s v O r => O.retD ?_
  refine cast (congrArg _ ?_) r
  simp only [tr]
  cases decide (page = mailL 0 rows) <;> rfl
end
end Mine
end
section
open PySem PySem.W PyProof.Rows PySem.Spec
set_option Elab.async false
set_option linter.all false
set_option maxRecDepth 100000
namespace Mine
open PySem.Sre (M Outcome)
noncomputable def mit : Nat → M → M
  | 0, m => m
  | n + 1, m => mit n m.step
theorem step_out {m : M} (h : m.outcome.isSome = true) : m.step = m := by unfold Sre.M.step; rw [if_pos h]
theorem mit_out {m : M} (h : m.outcome.isSome = true) : ∀ n, mit n m = m
  | 0 => rfl
  | n + 1 => by rw [mit, step_out h, mit_out h n]
theorem mit_add (m : M) : ∀ a b, mit (a + b) m = mit b (mit a m)
  | 0, b => by rw [Nat.zero_add]; rfl
  | a + 1, b => by rw [Nat.add_right_comm, mit, mit, mit_add]
theorem runFor_mit : ∀ (n : Nat) (m : M), m.runFor n = mit n m
  | 0, m => rfl
  | n + 1, m => by
    rw [Sre.M.runFor]
    split
    · rename_i h; rw [mit_out h]
    · rw [runFor_mit n, mit]
theorem drive {X : Model} {A : Around} {E : Value → Shared → Prop} {s : Shared} {Q : M → Shared → Prop} : ∀ (turns k : Nat) (m : M), (mit k m).outcome.isSome = true → k < 4 * turns → Q (mit k m) s →
    wpAny X A (Builtin.Re.reDrive turns m) Q E s
  | 0, k, m, h, hk, hq => by omega
  | t + 1, k, m, h, hk, hq => by
    unfold Builtin.Re.reDrive
    show wpAny _ _ (if (m.runFor Builtin.Re.reTurnSteps).outcome.isSome = true then _ else _) _ _ s
    rw [show Builtin.Re.reTurnSteps = 4 from rfl, runFor_mit]
    by_cases q : (mit 4 m).outcome.isSome = true
    · rw [if_pos q]
      refine wpAny_pure ?_
      have : mit 4 m = mit k m := by
        by_cases hk4 : 4 ≤ k
        · have := mit_add m 4 (k - 4); rw [mit_out q, show 4 + (k - 4) = k by omega] at this; exact this.symm
        · have := mit_add m k (4 - k); rw [mit_out h, show k + (4 - k) = 4 by omega] at this; exact this
      rw [this]; exact hq
    · rw [if_neg q]
      have hk4 : 4 ≤ k := by
        refine Nat.le_of_not_lt fun hlt => q ?_
        have := mit_add m k (4 - k); rw [mit_out h, show k + (4 - k) = 4 by omega] at this; rw [this]; exact h
      have e : mit (k - 4) (mit 4 m) = mit k m := by rw [← mit_add, show 4 + (k - 4) = k by omega]
      exact wpAny_bind (wpAny_rule (drive t (k - 4) (mit 4 m) (by rw [e]; exact h) (by omega) (by rw [e]; exact hq)))
theorem rules_loop {X : Model} {A : Around} {E : Value → Shared → Prop} {s : Shared} {Q : PUnit → Shared → Prop} {g : Nat → PUnit → Sem (ForInStep PUnit)} (hg : ∀ i s, wpAny X A (g i ⟨⟩) (fun r s' => r = ForInStep.yield PUnit.unit ∧ s' = s) E s) (hq : Q ⟨⟩ s) : ∀ l : List Nat,
    wpAny X A (forIn l (PUnit.unit) g) Q E s
  | [] => by rw [List.forIn_nil]; exact wpAny_pure hq
  | i :: l => by
    rw [List.forIn_cons]
    refine wpAny_bind (wpAny_mono (hg i s) (fun r s' ⟨e1, e2⟩ => ?_) fun _ _ e => e)
    subst e1 e2
    exact rules_loop hg hq l
noncomputable def Ends (c : Nat) (m : M) (P : M → Prop) : Prop := ∃ k, k ≤ c ∧ (mit k m).outcome.isSome = true ∧ P (mit k m)
theorem Ends.one {c : Nat} {m : M} {P : M → Prop} (h : Ends c m.step P) : Ends (c + 1) m P := by
  obtain ⟨k, h1, h2, h3⟩ := h; exact ⟨k + 1, by omega, h2, h3⟩
theorem Ends.now {c : Nat} {m : M} {P : M → Prop} (h1 : m.outcome.isSome = true) (h : P m) : Ends c m P := ⟨0, Nat.zero_le _, h1, h⟩
theorem Ends.le {c c' : Nat} {m : M} {P : M → Prop} (h : Ends c m P) (hc : c ≤ c') : Ends c' m P := by obtain ⟨k, h1, h2⟩ := h; exact ⟨k, by omega, h2⟩
noncomputable def Gives (r : Option (Nat × Nat)) (m : M) : Prop := match r with
  | some (b, e) => m.outcome = some .matched ∧ m.start = b ∧ m.handed = e
  | none => m.outcome = some .failed
theorem run_end {X : Model} {A : Around} {E : Value → Shared → Prop} {s : Shared} {Q : Option M → Shared → Prop} {m : M} {c : Nat} {r : Option (Nat × Nat)} (h : Ends c m (Gives r)) (hc : c < 2 ^ 60)
    (h1 : ∀ m' b e, r = some (b, e) → m'.start = b → m'.handed = e → Q (some m') s) (h2 : r = none → Q none s) : wpAny X A (Builtin.Re.reRunToEnd m) Q E s := by
  obtain ⟨k, k1, k2, k3⟩ := h
  unfold Builtin.Re.reRunToEnd
  refine wpAny_bind (drive _ k m k2 (by omega) ?_)
  generalize mit k m = m' at k2 k3
  refine wpAny_bind (rules_loop (fun i s => ?_) ?_ _)
  · by_cases h : m'.seen.has i = true
    · rw [if_pos h]; exact wpAny_bind (wpAny_rule (wpAny_pure ⟨rfl, rfl⟩))
    · rw [if_neg h]; exact wpAny_pure ⟨rfl, rfl⟩
  cases r with
  | none =>
    simp only [Gives] at k3
    rw [k3]
    exact wpAny_pure (h2 rfl)
  | some p =>
    obtain ⟨b, e⟩ := p
    simp only [Gives] at k3
    rw [k3.1]
    exact wpAny_pure (h1 m' b e rfl k3.2.1 k3.2.2)
end Mine
end
section
open PySem PySem.W PyProof.Rows PySem.Spec
set_option Elab.async false
set_option linter.all false
set_option maxRecDepth 100000
namespace Mine
open PySem.Sre (M Outcome)
noncomputable def fnd (p : Nat → Bool) : Nat → Nat → Option Nat
  | 0, _ => none
  | n + 1, i => if p i = true then some i else fnd p n (i + 1)
theorem fnd_some {p : Nat → Bool} : ∀ {n s i}, fnd p n s = some i → s ≤ i ∧ i < s + n ∧ p i = true ∧ ∀ j, s ≤ j → j < i → p j = false
  | 0, s, i, h => nomatch h
  | n + 1, s, i, h => by
    rw [fnd] at h
    split at h
    · rename_i q; cases h; exact ⟨Nat.le_refl _, by omega, q, fun j h1 h2 => by omega⟩
    · rename_i q
      obtain ⟨a, b, c, d⟩ := fnd_some h
      refine ⟨by omega, by omega, c, fun j h1 h2 => ?_⟩
      by_cases e : j = s
      · subst e; simpa using q
      · exact d j (by omega) h2
noncomputable def c1 : Array Nat := #[14, 4, 0, 1, 1, 6, 1, 16, 46, 1]
noncomputable def X1 (t : Array Nat) (s : Nat) (must o : Bool) (seen : Sre.Seen) (hd : Nat) : M :=
  { code := c1, text := t, lim := t.size, start := s, lastStart := t.size, mustAdvance := must, pc := 5, pos := s, handed := hd, outermost := o, marks := #[], frames := [{ wait := .nextStart, pc := 5, pos := s, outermost := o }], weight := 1, seen := seen }
noncomputable def at1 (t : Array Nat) (i : Nat) : Bool := i == 0 || t.getD (i - 1) 0 == 10
noncomputable def hit1 (t : Array Nat) (i : Nat) : Bool := at1 t i && t.getD i 0 == 46
noncomputable def Z1 (t : Array Nat) (s : Nat) (must o : Bool) (seen : Sre.Seen) (hd p : Nat) : M := { X1 t s must o seen hd with answer := some false, pc := p }
section
variable (t : Array Nat) (s : Nat) (must o : Bool) (seen : Sre.Seen) (hd p : Nat)
theorem x1a : (X1 t s must o seen hd).step = if at1 t s = true then { X1 t s must o ((seen.add 6).add 44) hd with pc := 7 } else Z1 t s must o ((seen.add 6).add 44) hd 5 := rfl
theorem y1a : ({ X1 t s must o seen hd with pc := 7 } : M).step = if s ≥ t.size then Z1 t s must o (seen.add 16) hd 7 else (match (Except.ok (t.getD s 0 == 46, seen.add 16) : Except String (Bool × Sre.Seen)) with
    | .error why => { { X1 t s must o (seen.add 16) hd with pc := 7 } with outcome := some (.stuck why) }
    | .ok (false, seen) => Z1 t s must o seen hd 7
    | .ok (true, seen) => { X1 t s must o seen hd with pc := 9, pos := s + 1 }) := rfl
theorem w1a : ({ X1 t s must o seen hd with pc := 9, pos := s + 1 } : M).step = if (o && ((false && s + 1 != t.size) || (must && s + 1 == s))) = true then { X1 t s must o (seen.add 1) hd with pc := 9, pos := s + 1, answer := some false } else { X1 t s must o (seen.add 1) (s + 1) with pc := 9, pos := s + 1, answer := some true } := rfl
theorem v1a : ({ X1 t s must o seen (s + 1) with pc := 9, pos := s + 1, answer := some true } : M).step = { X1 t s must o seen (s + 1) with pc := 5, pos := s, answer := some true, frames := [], weight := 0 } := rfl
theorem u1a : ({ X1 t s must o seen (s + 1) with pc := 5, pos := s, answer := some true, frames := [], weight := 0 } : M).step = { X1 t s must o seen (s + 1) with pc := 5, pos := s, answer := some true, frames := [], weight := 0, outcome := some .matched } := rfl
theorem z1a : (Z1 t s must o seen hd p).step = if s < t.size then X1 t (s + 1) false false seen (s + 1) else { X1 t s must o seen hd with answer := some false, frames := [], weight := 0 } := rfl
theorem z1b : ({ X1 t s must o seen hd with answer := some false, frames := [], weight := 0 } : M).step = { X1 t s must o seen hd with answer := some false, frames := [], weight := 0, outcome := some .failed } := rfl
end
theorem z1_ends {t : Array Nat} {s : Nat} {must o : Bool} {seen : Sre.Seen} {hd p c : Nat} {r : Option (Nat × Nat)} (hc : 2 ≤ c) (h1 : s < t.size → ∀ sn, Ends (c - 1) (X1 t (s + 1) false false sn (s + 1)) (Gives r)) (h2 : ¬ s < t.size → r = none) : Ends c (Z1 t s must o seen hd p) (Gives r) := by
  obtain ⟨c, rfl⟩ : ∃ d, c = d + 1 := ⟨c - 1, by omega⟩
  refine Ends.one ?_
  rw [z1a]
  split
  · rename_i h; exact h1 h _
  · rename_i h
    obtain ⟨c, rfl⟩ : ∃ d, c = d + 1 := ⟨c - 1, by omega⟩
    refine Ends.one ?_
    rw [z1b, h2 h]
    exact Ends.now rfl rfl
theorem x1_ends {t : Array Nat} : ∀ (n s : Nat) (must o : Bool) (seen : Sre.Seen) (hd : Nat), s + n = t.size → Ends (6 * n + 6) (X1 t s must o seen hd) (Gives ((fnd (hit1 t) n s).map fun i => (i, i + 1)))
  | n, s, must, o, seen, hd, hn => by
    have hz : ∀ sn p c, 6 * n + 2 ≤ c → (s < t.size → hit1 t s = false) → Ends c (Z1 t s must o sn hd p) (Gives ((fnd (hit1 t) n s).map fun i => (i, i + 1))) := by
      intro sn p c hc hh
      refine z1_ends (by omega) (fun hl sn' => ?_) fun hl => ?_
      · cases n with
        | zero => omega
        | succ n =>
          rw [fnd, hh hl]
          exact (x1_ends n (s + 1) false false sn' (s + 1) (by omega)).le (by omega)
      · have : n = 0 := by omega
        subst this; rfl
    refine Ends.one ?_
    rw [x1a]
    by_cases ha : at1 t s = true
    · rw [if_pos ha]
      refine Ends.one ?_
      rw [y1a]
      split
      · rename_i h; exact hz _ _ _ (by omega) fun q => by omega
      · rename_i h
        cases hb : (t.getD s 0 == 46) with
        | false => exact hz _ _ _ (by omega) fun _ => by unfold hit1; rw [hb, Bool.and_false]
        | true =>
          dsimp only
          refine Ends.one ?_
          rw [w1a, if_neg (by simp)]
          refine Ends.one ?_
          rw [v1a]
          refine Ends.one ?_
          rw [u1a]
          cases n with
          | zero => omega
          | succ n =>
            have : hit1 t s = true := by unfold hit1; rw [hb, ha]; rfl
            rw [fnd, if_pos this]
            exact Ends.now rfl ⟨rfl, rfl, rfl⟩
    · rw [if_neg ha]
      exact hz _ _ _ (by omega) fun _ => by unfold hit1; rw [Bool.eq_false_iff.mpr ha]; rfl
theorem fs1 (t : Array Nat) (s : Nat) (must : Bool) : Sre.forSearch c1 t 0 s t.size must = if (decide (s > t.size) || decide (t.size - s < 1)) = true then { code := c1, text := t, lim := t.size, start := s, pc := 5, pos := s, handed := s, marks := #[], mustAdvance := must, seen := ({} : Sre.Seen).add 14, answer := some false } else X1 t s must true (({} : Sre.Seen).add 14) s := by
  rfl
theorem search1 (t : Array Nat) (s : Nat) (must : Bool) (hs : s ≤ t.size) : Ends (6 * (t.size - s) + 6) (Sre.forSearch c1 t 0 s t.size must) (Gives ((fnd (hit1 t) (t.size - s) s).map fun i => (i, i + 1))) := by
  rw [fs1]
  split
  · rename_i h
    have : t.size - s = 0 := by simp at h; omega
    rw [this]
    exact Ends.one (Ends.now rfl rfl)
  · exact x1_ends _ s must true _ s (by omega)
end Mine
end
section
open PySem PySem.W PyProof.Rows PySem.Spec
set_option Elab.async false
set_option linter.all false
set_option maxRecDepth 100000
namespace Mine
open PySem.Sre (M Outcome)
noncomputable def c2 : Array Nat := #[14, 9, 4, 1, 2, 16, 10, 16, 13, 0, 7, 7, 16, 13, 16, 10, 15, 18, 5, 16, 10, 15, 13, 11, 16, 13, 5, 5, 0, 16, 10, 1, 15, 2, 0, 1]
noncomputable def S2 (t : Array Nat) (i : Nat) (seen : Sre.Seen) (hd pc pos : Nat) (o : Bool) (fr : List Sre.Frame) (w : Nat) (ans : Option Bool) : M :=
  { code := c2, text := t, lim := t.size, start := i, lastStart := t.size, mustAdvance := false, pc := pc, pos := pos, handed := hd, outermost := o, marks := #[], frames := fr, weight := w, answer := ans, seen := seen }
noncomputable def F0 (i : Nat) : Sre.Frame := { wait := .nextStart, pc := 10, pos := i, outermost := true }
noncomputable def FB (i k : Nat) : Sre.Frame := { wait := .nextBranch, pc := k, pos := i, outermost := true }
noncomputable def FL (p : Nat) : Sre.Frame := { wait := .lookNot, pc := 26, pos := p, outermost := true }
noncomputable def LitR (t : Array Nat) (i : Nat) (seen : Sre.Seen) (hd pc pos : Nat) (o : Bool) (fr : List Sre.Frame) (w : Nat) (c : Nat) : M :=
  if pos ≥ t.size then S2 t i (seen.add 16) hd pc pos o fr w (some false) else (match (Except.ok (t.getD pos 0 == c, seen.add 16) : Except String (Bool × Sre.Seen)) with
    | .error why => { S2 t i (seen.add 16) hd pc pos o fr w none with outcome := some (.stuck why) }
    | .ok (false, seen) => S2 t i seen hd pc pos o fr w (some false)
    | .ok (true, seen) => S2 t i seen hd (pc + 2) (pos + 1) o fr w none)
section
variable (t : Array Nat) (i : Nat) (seen : Sre.Seen) (hd pos : Nat) (o : Bool) (fr : List Sre.Frame) (w pc : Nat)
theorem l12 : (S2 t i seen hd 12 pos o fr w none).step = LitR t i seen hd 12 pos o fr w 13 := rfl
theorem l14 : (S2 t i seen hd 14 pos o fr w none).step = LitR t i seen hd 14 pos o fr w 10 := rfl
theorem l19 : (S2 t i seen hd 19 pos o fr w none).step = LitR t i seen hd 19 pos o fr w 10 := rfl
theorem l24 : (S2 t i seen hd 24 pos o fr w none).step = LitR t i seen hd 24 pos o fr w 13 := rfl
theorem l29 : (S2 t i seen hd 29 pos o fr w none).step = LitR t i seen hd 29 pos o fr w 10 := rfl
theorem b10 : (S2 t i seen hd 10 i true [F0 i] 1 none).step = S2 t i (seen.add 7) i 12 i true [FB i 11, F0 i] 2 none := rfl
theorem r11 : (S2 t i seen hd pc pos o [FB i 11, F0 i] 2 (some false)).step = S2 t i seen i 19 i true [FB i 18, F0 i] 2 none := rfl
theorem r18 : (S2 t i seen hd pc pos o [FB i 18, F0 i] 2 (some false)).step = S2 t i seen i 24 i true [FB i 23, F0 i] 2 none := rfl
theorem a26 : (S2 t i seen hd 26 pos true [FB i 23, F0 i] 2 none).step = S2 t i (seen.add 5) pos 29 pos false [FL pos, FB i 23, F0 i] 3 none := rfl
theorem rL : (S2 t i seen hd pc pos o [FL (i + 1), FB i 23, F0 i] 3 (some false)).step = S2 t i seen hd 32 (i + 1) true [FB i 23, F0 i] 2 none := rfl
theorem j16 : (S2 t i seen hd 16 pos o fr w none).step = S2 t i (seen.add 15) hd 35 pos o fr w none := rfl
theorem j21 : (S2 t i seen hd 21 pos o fr w none).step = S2 t i (seen.add 15) hd 35 pos o fr w none := rfl
theorem j32 : (S2 t i seen hd 32 pos o fr w none).step = S2 t i (seen.add 15) hd 35 pos o fr w none := rfl
theorem s35 : (S2 t i seen hd 35 pos true fr w none).step = S2 t i (seen.add 1) pos 35 pos true fr w (some true) := rfl
theorem e1 : (S2 t i seen hd pc pos true [FB i w, F0 i] 2 (some true)).step = S2 t i seen hd w i true [F0 i] 1 (some true) := rfl
theorem e2 : (S2 t i seen hd pc pos true [F0 i] 1 (some true)).step = S2 t i seen hd 10 i true [] 0 (some true) := rfl
theorem e3 : (S2 t i seen hd pc pos true [] 0 (some true)).step = { S2 t i seen hd pc pos true [] 0 (some true) with outcome := some .matched } := rfl
end
section
variable {t : Array Nat} {i : Nat} {seen : Sre.Seen} {hd pos : Nat} {o : Bool} {fr : List Sre.Frame} {w pc c : Nat}
theorem LitR.yes (h : pos < t.size) (e : t.getD pos 0 = c) : LitR t i seen hd pc pos o fr w c = S2 t i (seen.add 16) hd (pc + 2) (pos + 1) o fr w none := by
  unfold LitR
  rw [if_neg (by omega), e, beq_self_eq_true]
theorem LitR.no (h : pos < t.size → t.getD pos 0 ≠ c) : LitR t i seen hd pc pos o fr w c = S2 t i (seen.add 16) hd pc pos o fr w (some false) := by
  unfold LitR
  split
  · rfl
  · rw [beq_false_of_ne (h (by omega))]
theorem fin35 {k n : Nat} : Ends (n + 4) (S2 t i seen hd 35 pos true [FB i k, F0 i] 2 none) (Gives (some (i, pos))) := by
  refine Ends.one ?_
  rw [s35]
  refine Ends.one ?_
  rw [e1]
  refine Ends.one ?_
  rw [e2]
  refine Ends.one ?_
  rw [e3]
  exact Ends.now rfl ⟨rfl, rfl, rfl⟩
noncomputable def len2 (t : Array Nat) (i : Nat) : Nat := if t.getD i 0 = 13 ∧ i + 1 < t.size ∧ t.getD (i + 1) 0 = 10 then 2 else 1
noncomputable def hit2 (t : Array Nat) (i : Nat) : Bool := t.getD i 0 == 10 || t.getD i 0 == 13
theorem x2_ends (h : i < t.size) (hh : hit2 t i = true) : Ends 30 (S2 t i seen hd 10 i true [F0 i] 1 none) (Gives (some (i, i + len2 t i))) := by
  refine Ends.one ?_
  rw [b10]
  refine Ends.one ?_
  rw [l12]
  by_cases h13 : t.getD i 0 = 13
  · rw [LitR.yes h h13]
    refine Ends.one ?_
    rw [l14]
    by_cases h10 : i + 1 < t.size ∧ t.getD (i + 1) 0 = 10
    · rw [LitR.yes h10.1 h10.2]
      refine Ends.one ?_
      rw [j16]
      have : len2 t i = 2 := if_pos ⟨h13, h10⟩
      rw [this]
      exact fin35
    · have h10' : i + 1 < t.size → t.getD (i + 1) 0 ≠ 10 := fun a b => h10 ⟨a, b⟩
      rw [LitR.no h10']
      refine Ends.one ?_
      rw [r11]
      refine Ends.one ?_
      rw [l19, LitR.no (by rw [h13]; exact fun _ => by decide)]
      refine Ends.one ?_
      rw [r18]
      refine Ends.one ?_
      rw [l24, LitR.yes h h13]
      refine Ends.one ?_
      rw [a26]
      refine Ends.one ?_
      rw [l29, LitR.no h10']
      refine Ends.one ?_
      rw [rL]
      refine Ends.one ?_
      rw [j32]
      have : len2 t i = 1 := if_neg fun q => h10 q.2
      rw [this]
      exact fin35
  · rw [LitR.no fun _ => h13]
    have h10 : t.getD i 0 = 10 := by
      unfold hit2 at hh
      simp only [Bool.or_eq_true, beq_iff_eq] at hh
      exact hh.resolve_right h13
    refine Ends.one ?_
    rw [r11]
    refine Ends.one ?_
    rw [l19, LitR.yes h h10]
    refine Ends.one ?_
    rw [j21]
    have : len2 t i = 1 := if_neg fun q => h13 q.1
    rw [this]
    exact fin35
end
noncomputable def B2 (t : Array Nat) (s : Nat) (must : Bool) (seen : Sre.Seen) (ans : Option Bool) (ls : Nat) : M := { code := c2, text := t, lim := t.size, start := s, lastStart := ls, pc := 10, pos := s, handed := s, marks := #[], mustAdvance := must, seen := seen, answer := ans }
theorem set2 (c : Nat) (seen : Sre.Seen) : Sre.inSet c2 c c2.size 5 true seen = if (c == 10) = true then .ok (true, seen.add 16) else if (c == 13) = true then .ok (true, (seen.add 16).add 16) else .ok (false, ((seen.add 16).add 16).add 0) := rfl
theorem adm {t : Array Nat} {m : M} (h1 : m.code = c2) (h2 : m.text = t) (h3 : m.lim = t.size) : ∀ (n s fuel : Nat) (seen : Sre.Seen), s + n = t.size → n < fuel → ∃ seen', Sre.M.admitted m fuel s seen = .ok (fnd (hit2 t) n s, seen')
  | n, s, 0, seen, _, h => by omega
  | 0, s, fuel + 1, seen, e, h => by
    unfold Sre.M.admitted
    rw [if_pos (by rw [h3]; omega)]
    exact ⟨_, rfl⟩
  | n + 1, s, fuel + 1, seen, e, h => by
    unfold Sre.M.admitted
    rw [if_neg (by rw [h3]; omega), h1, h2, set2, fnd]
    by_cases q1 : (t.getD s 0 == 10) = true
    · rw [if_pos q1, if_pos (by unfold hit2; rw [q1]; rfl)]; exact ⟨_, rfl⟩
    · by_cases q2 : (t.getD s 0 == 13) = true
      · rw [if_neg q1, if_pos q2, if_pos (by unfold hit2; rw [q2, Bool.or_true])]; exact ⟨_, rfl⟩
      · rw [if_neg q1, if_neg q2, if_neg (by unfold hit2; rw [Bool.eq_false_iff.mpr q1, Bool.eq_false_iff.mpr q2]; decide)]
        exact adm h1 h2 h3 n (s + 1) fuel _ (by omega) (by omega)
theorem fs2 (t : Array Nat) (s : Nat) (must : Bool) : Sre.forSearch c2 t 0 s t.size must = if (decide (s > t.size) || decide (t.size - s < 1)) = true then B2 t s must (({} : Sre.Seen).add 14) (some false) 0 else
    (match Sre.M.admitted (B2 t s must (({} : Sre.Seen).add 14) none t.size) (t.size + 1 - s) s (({} : Sre.Seen).add 14) with
      | .ok (some s', seen) => S2 t s' seen s' 10 s' true [F0 s'] 1 none
      | .ok (none, seen) => B2 t s must seen (some false) t.size
      | .error why => { B2 t s must (({} : Sre.Seen).add 14) none t.size with outcome := some (.stuck why) }) := rfl
theorem search2 (t : Array Nat) (s : Nat) (must : Bool) (hs : s ≤ t.size) : Ends 40 (Sre.forSearch c2 t 0 s t.size must) (Gives ((fnd (hit2 t) (t.size - s) s).map fun i => (i, i + len2 t i))) := by
  rw [fs2]
  split
  · rename_i h
    have : t.size - s = 0 := by simp at h; omega
    rw [this]
    exact Ends.one (Ends.now rfl rfl)
  · obtain ⟨seen', e⟩ := adm (t := t) (m := B2 t s must (({} : Sre.Seen).add 14) none t.size) rfl rfl rfl (t.size - s) s (t.size + 1 - s) (({} : Sre.Seen).add 14) (by omega) (by omega)
    rw [e]
    cases q : fnd (hit2 t) (t.size - s) s with
    | none => exact Ends.one (Ends.now rfl rfl)
    | some i =>
      obtain ⟨a, b, c, _⟩ := fnd_some q
      exact (x2_ends (by omega) c).le (by omega)
end Mine
end
section
open PySem PySem.W PyProof.Rows PySem.Spec
set_option Elab.async false
set_option linter.all false
set_option maxRecDepth 100000
namespace Mine
open PySem.Sre (M Outcome)
open PySem.Builtin.Re PySem.Builtin
theorem plainAttrs_re : PlainAttrs "re.Pattern" :=
  ⟨⟨"object.__getattribute__", by rw [typeLookup_type, builtinLookup_eq_fast]; kernel_rfl, by decide +kernel⟩, by rw [typeLookup_type, builtinLookup_eq_fast]; kernel_rfl⟩
theorem slot_re_sub : PySem.Slot "re.Pattern" "sub" "re.Pattern.sub" :=
  .of (owner := "re.Pattern") (n := "sub") (by rw [typeLookup_type, builtinLookup_eq_fast]; kernel_rfl) (by decide +kernel) (by decide +kernel) (by decide +kernel)
    (by first | exact .inl (by decide +kernel) | exact .inr (by decide +kernel)) (by rw [isSubtype_type]; kernel_rfl)
theorem type_re_sub : typeOf (.builtin "re.Pattern.sub") = pure (.type "method_descriptor") := by show builtinType _ = _; rw [builtinType_eq_fast]; kernel_rfl
theorem entry_re_sub : entryFor table "re.Pattern.sub" = some Builtin.«re.Pattern.sub» := entryFor_of_tree (by kernel_rfl)
theorem entry_re_loop : entryFor table "re.Pattern.sub.loop" = some Builtin.«re.Pattern.sub.loop» := entryFor_of_tree (by kernel_rfl)
theorem args_re_sub (a b c : Value) : argsOk "re.Pattern.sub" ⟨[a, b, c], []⟩ := by unfold argsOk; kernel_rfl
theorem str_no_call : typeLookup (.type "str") (Str.ofString "__call__") = pure none := by rw [typeLookup_type, builtinLookup_eq_fast]; kernel_rfl
noncomputable def Pat (h : Heap) (v : Value) (code : Array Nat) : Prop := ∃ a b o o2 p0 p1 p3 p4 t2 t6 xs n, v = .ref a ∧ h.get? a = some o ∧ o.cls = .type "re.Pattern" ∧ o.dict = none ∧ o.data = .fields #[p0, p1, .int 0 t2, p3, p4, .ref b, .int 0 t6] ∧
  h.get? b = some o2 ∧ o2.data = .seq xs n ∧ (xs.map reRawOf).map (·.toNat) = code
theorem Pat.ext {h h' : Heap} {v : Value} {code : Array Nat} (p : Pat h v code) (e : Ext h h') : Pat h' v code := by
  obtain ⟨a, b, o, o2, p0, p1, p3, p4, t2, t6, xs, n, e1, e2, e3, e4, e5, e6, e7, e8⟩ := p
  exact ⟨a, b, o, o2, p0, p1, p3, p4, t2, t6, xs, n, e1, e _ _ e2, e3, e4, e5, e _ _ e6, e7, e8⟩
section
variable {X : Model} {A : Around} {E : Value → Shared → Prop} {s : Shared}
theorem whole {pat : Value} {code : Array Nat} {l : List Nat} {t : Tok} {Q : ReTarget → Shared → Prop} (p : Pat s.heap pat code) (h : Q ⟨pat, .str (S l) t, code, l.toArray, 0, 0, 0, l.toArray.size⟩ s) : wpAny X A (reWholeTarget pat (.str (S l) t)) Q E s := by
  obtain ⟨a, b, o, o2, p0, p1, p3, p4, t2, t6, xs, n, e1, e2, e3, e4, e5, e6, e7, e8⟩ := p
  subst e1
  unfold reWholeTarget
  refine wpAny_bind (wpAny_fieldsOf e2 e5 ?_)
  refine wpAny_bind (m := reTextOf (.str (S l) t)) (wpAny_pure (a := ((S l).cps, 0)) ?_)
  refine wpAny_bind (m := reNoCollectionInside _ _) (wpAny_pure (a := ()) ?_)
  refine wpAny_bind (m := reRawItems (.ref b)) ?_
  unfold reRawItems
  refine wpAny_bind (wpAny_seqItems e6 e7 (wpAny_pure ?_))
  refine wpAny_pure ?_
  subst e8
  exact h
end
section
variable {W : Wd} {A : Around} {s : Shared}
theorem ext_upd {h : Heap} {base : Heap} {a : Addr} {f : Obj → Obj} (e : Ext base h) (ha : base.get? a = none) : Ext base (h.update a f) := fun b o hb => by
  have : b ≠ a := fun q => by rw [q, ha] at hb; cases hb
  exact ((Heap.SameBut.update h a f).2 b this).trans (e b o hb)
theorem push_str {L : List (Str × Tok)} {y : Str} {t : Tok} : strValues L ++ [.str y t] = strValues (L ++ [(y, t)]) := by simp [strValues]
theorem push_piece {base s : Shared} {a : Addr} {L : List (Str × Tok)} {q : Nat} {y : Str} {ty : Tok} {Q : Unit → Shared → Prop} (hb : Step base s) (ha : base.heap.get? a = none) (hp : PL s.heap a (strValues L) q) (hn : L.length ≤ sizeLine)
    (h : ∀ s' q', Step base s' → PL s'.heap a (strValues (L ++ [(y, ty)])) q' → Q () s') : wpAny W.M A (updateSeq a (·.push (.str y ty))) Q No s := by
  have hl : (strValues L).length = L.length := List.length_map ..
  refine wpAny_updateSeq hp rfl ?_ (by simpa [hl] using hn) (by simp [hl]; omega)
  obtain ⟨k', hp'⟩ := upd_PL (ws := strValues L ++ [.str y ty]) (g := fun xs => xs.push (.str y ty)) hp (by simp)
  refine h _ k' ?_ (by rw [← push_str]; exact hp')
  obtain ⟨h', t', rfl, e⟩ := hb
  exact ⟨_, _, rfl, ext_upd e ha⟩
theorem slice_eq (l : List Nat) (b e : Nat) (he : e ≤ l.length) : (⟨l.toArray.extract b e⟩ : Str) = S ((l.take e).drop b) := by
  unfold S
  congr 1
  apply Array.ext'
  simp [List.drop_take]
theorem sub_loop {base : Shared} {pat : Value} {code : Array Nat} {l r : List Nat} {t u : Tok} {fd : Nat → Option (Nat × Nat)} {T : Nat → List Nat} {C : Nat}
    (hs : ∀ st must, st ≤ l.length → Ends C (Sre.forSearch code l.toArray 0 st l.toArray.size must) (Gives (fd st))) (hC : C < 2 ^ 60)
    (hT : ∀ st, st ≤ l.length → match fd st with | some (b, e) => st ≤ b ∧ b < e ∧ e ≤ l.length ∧ T st = (l.take b).drop st ++ r ++ T e | none => T st = l.drop st) (hlen : 2 * l.length + 2 ≤ sizeLine) (hpat : Pat base.heap pat code) {a : Addr} (ha : base.heap.get? a = none) {F : List Nat} (hF : F.length ≤ sizeLine) :
    ∀ (k st : Nat) (L : List (Str × Tok)) (ps : List (List Nat)) (must : Bool) (n : Int) (s : Shared) (q : Nat), l.length - st = k → st ≤ l.length → L.length ≤ 2 * st → L.map (·.1) = ps.map S → ps.flatten ++ T st = F → Step base s →
      PL s.heap a (strValues L) q →
      codeAny W.M A (.builtin "re.Pattern.sub.loop" ⟨[pat, .str (S l) t, .str (S r) u, rawInt 0, rawInt 0, rawInt n, rawInt (st : Nat), rawInt (st : Nat), .bool must, .ref a, .bool false], []⟩)
        (wants (fun v s' => Step base s' ∧ ∃ t', v = .str (S F) t') No) s := by
  intro k
  induction k using Nat.strongRecOn with
  | ind k ih =>
  intro st L ps must n s q hk hst hL hLp hf hstep hp
  refine codeAny_builtin entry_re_loop ?_
  rw [Around.under_plainId (id := "re.Pattern.sub.loop") (by decide +kernel) _]
  have hp' := hpat.ext hstep.ext
  show wpAny _ _ (reWholeTarget pat (.str (S l) t) >>= fun t => _) _ _ s
  refine wpAny_bind (whole hp' ?_)
  refine wpAny_bind (m := reLiteralCannotBeTurned (.str (S r) u)) (wpAny_pure (a := ()) ?_)
  show wpAny _ _ (reNextFound _ st must >>= fun m => _) _ _ s
  have ht := hT st hst
  refine wpAny_bind (run_end (hs st must hst) hC (fun m' b e er eb ee => ?_) fun er => ?_)
  · rw [er] at ht
    obtain ⟨h1, h2, h3, h4⟩ := ht
    -- behind the piece ahead of what was found
    have rest : ∀ (mb : Bool) (L1 : List (Str × Tok)) (ps1 : List (List Nat)) (s1 : Shared) (q1 : Nat), L1.length ≤ 2 * st + 1 → L1.map (·.1) = ps1.map S → ps1.flatten = ps.flatten ++ (l.take b).drop st → Step base s1 → PL s1.heap a (strValues L1) q1 →
        wpAny W.M A.in1 (updateSeq a (fun x => x.push (.str (S r) u)) >>= fun _ => again (.builtin "re.Pattern.sub.loop" ⟨[pat, .str (S l) t, .str (S r) u, rawInt 0, rawInt 0, rawInt (n + 1), rawInt (m'.handed : Nat), rawInt (m'.handed : Nat), .bool mb, .ref a, .bool false], []⟩))
        (fun fin s' => match fin with | .done f => (wants (fun v s' => Step base s' ∧ ∃ t', v = .str (S F) t') No) (.ok f) s' | .again c' => c'.quiet = true ∧ codeAny W.M A c' (wants (fun v s' => Step base s' ∧ ∃ t', v = .str (S F) t') No) s') (fun e s' => (wants (fun v s' => Step base s' ∧ ∃ t', v = .str (S F) t') No) (.error e) s') s1 := by
      intro mb L1 ps1 s1 q1 g1 g2 g3 g4 g5
      refine wpAny_bind (wpAny_mono (push_piece (W := W) g4 ha g5 (by omega) (fun s2 q2 f1 f2 => And.intro f1 (Exists.intro q2 f2)) (Q := fun _ s2 => Step base s2 ∧ ∃ q2, PL s2.heap a (strValues (L1 ++ [(S r, u)])) q2)) (fun _ s2 ⟨f1, q2, f2⟩ => ?_) fun _ _ e => e.elim)
      refine wpAny_pure ⟨plainId_quiet (by decide +kernel) _, ?_⟩
      rw [ee]
      refine ih (l.length - e) (by omega) e (L1 ++ [(S r, u)]) (ps1 ++ [r]) _ _ s2 q2 rfl h3 (by simp; omega) (by simp [g2]) ?_ f1 f2
      rw [← hf, h4, List.flatten_append, g3]; simp
    show wpAny _ _ (if ((st : Nat) : Int).toNat < m'.start then (reSlice l.toArray 0 ((st : Nat) : Int).toNat m'.start >>= fun x => _) else _) _ _ s
    rw [Int.toNat_natCast, eb]
    by_cases hlt : st < b
    · rw [if_pos hlt]
      show wpAny _ _ (mkStr ⟨l.toArray.extract st b⟩ >>= fun x => _) _ _ s
      rw [slice_eq l st b (by omega)]
      refine wpAny_bind (wpAny_mkStr ?_ (by rw [S_len]; simp; omega))
      refine wpAny_bind (wpAny_mono (push_piece (W := W) (hstep.trans .tok) ha hp (by omega) (fun s2 q2 f1 f2 => And.intro f1 (Exists.intro q2 f2)) (Q := fun _ s2 => Step base s2 ∧ ∃ q2, PL s2.heap a (strValues (L ++ [(S ((l.take b).drop st), s.toks)])) q2)) (fun _ s2 ⟨f1, q2, f2⟩ => ?_) fun _ _ e => e.elim)
      refine wpAny_bind (wpAny_pure ?_)
      have w := rest (m'.handed == b) _ (ps ++ [(l.take b).drop st]) s2 q2 (by simp; omega) (by simp [hLp]) (by simp) f1 f2
      show wpAny _ _ (if (Value.str (S r) u != Value.none) = true then _ else _) _ _ _
      rw [if_pos (show (Value.str (S r) u != Value.none) = true from rfl)]
      exact w
    · rw [if_neg hlt]
      have : (l.take b).drop st = [] := by rw [List.drop_eq_nil_iff]; simp; omega
      refine wpAny_bind (wpAny_pure ?_)
      have w := rest (m'.handed == b) L ps s q (by omega) hLp (by rw [this, List.append_nil]) hstep hp
      show wpAny _ _ (if (Value.str (S r) u != Value.none) = true then _ else _) _ _ _
      rw [if_pos (show (Value.str (S r) u != Value.none) = true from rfl)]
      exact w
  · rw [er] at ht
    have rest : ∀ (L1 : List (Str × Tok)) (ps1 : List (List Nat)) (s1 : Shared) (q1 : Nat), L1.length ≤ 2 * l.length + 1 → L1.map (·.1) = ps1.map S → ps1.flatten = F → Step base s1 → PL s1.heap a (strValues L1) q1 →
        wpAny W.M A.in1 (reSlice l.toArray 0 0 0 >>= fun joiner => seqItems? (Value.ref a) >>= fun x => if (x.getD #[]).isEmpty = true then (pure joiner >>= fun text => ret text) else (call (.builtin "str.join") [joiner, .ref a] >>= fun text => ret text))
        (fun fin s' => match fin with | .done f => (wants (fun v s' => Step base s' ∧ ∃ t', v = .str (S F) t') No) (.ok f) s' | .again c' => c'.quiet = true ∧ codeAny W.M A c' (wants (fun v s' => Step base s' ∧ ∃ t', v = .str (S F) t') No) s') (fun e s' => (wants (fun v s' => Step base s' ∧ ∃ t', v = .str (S F) t') No) (.error e) s') s1 := by
      intro L1 ps1 s1 q1 g1 g2 g3 g4 g5
      show wpAny _ _ (mkStr ⟨l.toArray.extract 0 0⟩ >>= fun x => _) _ _ _
      rw [slice_eq l 0 0 (by omega)]
      refine wpAny_bind (wpAny_mkStr ?_ (by rw [S_len]; simp))
      refine wpAny_bind (wpAny_seqItems g5 rfl ?_)
      show wpAny _ _ (if (strValues L1).toArray.isEmpty = true then _ else _) _ _ _
      cases L1 with
      | nil =>
        rw [if_pos (show (strValues []).toArray.isEmpty = true from rfl)]
        have e0 : ps1 = [] := by cases ps1 with | nil => rfl | cons => simp at g2
        subst e0
        refine wpAny_bind (wpAny_pure (wpAny_pure ⟨g4.trans .tok, s1.toks, ?_⟩))
        rw [← g3]; simp
      | cons x L1 =>
        rw [if_neg (by simp [strValues])]
        refine wpAny_bind (m := call _ _) (wpAny_mono (SC.join (x := S ((l.take 0).drop 0)) (texts := ps1.map S) (Q := fun v s' => Step base s' ∧ ∃ t', v = .str (S F) t') (E := No) (PL.isList g5) g2 ?_ fun t' k => ?_) (fun v s' h => wpAny_pure h) fun _ _ e => e.elim)
        · unfold JoinOk Builtin.Str.tooLong
          have := fold_len (S ((l.take 0).drop 0)).length ps1 0
          simp only [List.foldl_toArray', S_len] at this ⊢
          rw [this]
          have e2 : (ps1.map (·.length)).sum = F.length := by rw [← g3, List.length_flatten]
          rw [e2]
          simpa using hF
        · refine ⟨g4.trans (Step.trans .tok .tok), t', ?_⟩
          rw [jn_eq, ← g3]
          have : (l.take 0).drop 0 = [] := by simp
          rw [this, jn_nil]
    show wpAny _ _ (if ((st : Nat) : Int).toNat < l.toArray.size then (reSlice l.toArray 0 ((st : Nat) : Int).toNat l.toArray.size >>= fun x => _) else _) _ _ s
    rw [Int.toNat_natCast, List.size_toArray]
    by_cases hlt : st < l.length
    · rw [if_pos hlt]
      show wpAny _ _ (mkStr ⟨l.toArray.extract st l.length⟩ >>= fun x => _) _ _ s
      rw [slice_eq l st l.length (by omega)]
      refine wpAny_bind (wpAny_mkStr ?_ (by rw [S_len]; simp; omega))
      refine wpAny_bind (wpAny_mono (push_piece (W := W) (hstep.trans .tok) ha hp (by omega) (fun s2 q2 f1 f2 => And.intro f1 (Exists.intro q2 f2)) (Q := fun _ s2 => Step base s2 ∧ ∃ q2, PL s2.heap a (strValues (L ++ [(S ((l.take l.length).drop st), s.toks)])) q2)) (fun _ s2 ⟨f1, q2, f2⟩ => ?_) fun _ _ e => e.elim)
      exact rest _ (ps ++ [(l.take l.length).drop st]) s2 q2 (by simp; omega) (by simp [hLp]) (by rw [← hf, ht]; simp) f1 f2
    · rw [if_neg hlt]
      have : l.drop st = [] := by rw [List.drop_eq_nil_iff]; omega
      exact rest L ps s q (by omega) hLp (by rw [← hf, ht, this, List.append_nil]) hstep hp
theorem sub_call {pat : Value} {code : Array Nat} {l r : List Nat} {t u : Tok} {fd : Nat → Option (Nat × Nat)} {T : Nat → List Nat} {C : Nat}
    (hs : ∀ st must, st ≤ l.length → Ends C (Sre.forSearch code l.toArray 0 st l.toArray.size must) (Gives (fd st))) (hC : C < 2 ^ 60)
    (hT : ∀ st, st ≤ l.length → match fd st with | some (b, e) => st ≤ b ∧ b < e ∧ e ≤ l.length ∧ T st = (l.take b).drop st ++ r ++ T e | none => T st = l.drop st) (hlen : 2 * l.length + 2 ≤ sizeLine) (hpat : Pat s.heap pat code) (hF : (T 0).length ≤ sizeLine) (hr : r.contains 92 = false) :
    wpAny W.M A (PySem.call (.builtin "re.Pattern.sub") [pat, .str (S r) u, .str (S l) t]) (fun v s' => Step s s' ∧ ∃ t', v = .str (S (T 0)) t') No s := by
  have hTy : s.TypeIs pat "re.Pattern" := by
    obtain ⟨a, b, o, o2, p0, p1, p3, p4, t2, t6, xs, n, e1, e2, e3, _⟩ := hpat
    subst e1; exact ⟨_, e2, e3⟩
  refine wpAny_call (codeAny_call_builtin slot_re_sub.plain entry_re_sub (slot_re_sub.check _ _ _ _ _ _ _ _ hTy (args_re_sub _ _ _) ?_))
  show wpAny _ _ (reNamed "re.Pattern.sub" "sub" ["repl", "string", "count"] 2 [.str (S r) u, .str (S l) t] [] >>= fun x => _) _ _ s
  refine wpAny_bind (wpAny_of_eq (a := [some (.str (S r) u), some (.str (S l) t), none]) rfl ?_)
  refine wpAny_bind (m := pure (0 : Int)) (wpAny_pure ?_)
  refine wpAny_bind (m := specialOf (.str (S r) u) (Str.ofString "__call__")) (wpAny_specialOf (typeIs_str _ _ _) str_no_call ?_)
  show wpAny _ _ (asStr? (.str (S r) u) >>= fun x => _) _ _ s
  refine wpAny_bind (m := asStr? (.str (S r) u)) (wpAny_pure (a := some (S r)) ?_)
  show wpAny _ _ (pure (!(S r).cps.contains 92) >>= fun x => _) _ _ s
  refine wpAny_bind (m := pure (!(S r).cps.contains 92)) (wpAny_pure ?_)
  have e92 : (!(S r).cps.contains 92) = true := by
    have : (S r).cps.contains 92 = r.contains 92 := by unfold S; simp
    rw [this, hr]; rfl
  rw [e92]
  show wpAny _ _ (pure ((Value.str (S r) u, 0) : Value × Nat) >>= fun x => _) _ _ s
  refine wpAny_bind (wpAny_pure ?_)
  show wpAny _ _ (holding [.str (S r) u] (reWholeTarget pat (.str (S l) t)) >>= fun x => _) _ _ s
  refine wpAny_bind (wpAny_holding (whole hpat ?_))
  show wpAny _ _ (newList [] >>= fun x => _) _ _ s
  refine wpAny_bind (wpAny_newList ?_ (by decide))
  refine wpAny_pure ⟨plainId_quiet (by decide +kernel) _, ?_⟩
  have hnew : s.heap.get? s.heap.objs.size = none := by
    cases q : s.heap.get? s.heap.objs.size with
    | none => rfl
    | some o => exact absurd (Heap.lt_size q) (Nat.lt_irrefl _)
  exact sub_loop (base := s) (F := T 0) hs hC hT hlen hpat hnew hF l.length 0 [] [] false 0 _ 0 (by omega) (by omega) (by simp) rfl (by simp) (.mkh (ext_push _)) (Heap.get?_push_size _ rfl)
end
end Mine
end
section
open PySem PySem.W PyProof.Rows PySem.Spec
set_option Elab.async false
set_option linter.all false
set_option maxRecDepth 100000
namespace Mine
theorem getD_arr (l : List Nat) (i : Nat) (h : i < l.length) : l.toArray.getD i 0 = l[i] := by simp [Array.getD, h]
theorem take_drop_self {l : List Nat} (i : Nat) : (l.take i).drop i = [] := by rw [List.drop_eq_nil_iff]; simp; omega
theorem take_drop_cons {l : List Nat} {s i : Nat} (h : s < l.length) (hi : s < i) : (l.take i).drop s = l[s] :: (l.take i).drop (s + 1) := by
  have h' : s < (l.take i).length := by simp; omega
  rw [List.drop_eq_getElem_cons h']; simp
noncomputable def TD (l : List Nat) (s : Nat) : List Nat := stuff (at1 l.toArray s) (l.drop s)
theorem TD_ok (l : List Nat) : ∀ n s, s + n = l.length → match fnd (hit1 l.toArray) n s with | some i => TD l s = (l.take i).drop s ++ [46, 46] ++ TD l (i + 1) | none => TD l s = l.drop s
  | 0, s, h => by
    have : l.drop s = [] := by rw [List.drop_eq_nil_iff]; omega
    show TD l s = _
    unfold TD
    rw [this]; rfl
  | n + 1, s, h => by
    have hs : s < l.length := by omega
    have e := List.drop_eq_getElem_cons hs
    have ih := TD_ok l n (s + 1) (by omega)
    have ea : at1 l.toArray (s + 1) = (l[s] == 10) := by
      unfold at1
      rw [Nat.add_sub_cancel, getD_arr l s hs]; rfl
    rw [fnd]
    by_cases q : hit1 l.toArray s = true
    · rw [if_pos q]
      have q' := q
      unfold hit1 at q'
      rw [Bool.and_eq_true, getD_arr l s hs, beq_iff_eq] at q'
      show TD l s = (l.take s).drop s ++ [46, 46] ++ TD l (s + 1)
      unfold TD
      rw [e, stuff, if_pos ⟨q'.1, q'.2⟩, ea, q'.2, take_drop_self]
      rfl
    · rw [if_neg q]
      have hstep : TD l s = l[s] :: TD l (s + 1) := by
        unfold TD
        rw [e, stuff, if_neg, ea]
        rintro ⟨a, b⟩
        apply q
        unfold hit1
        rw [a, getD_arr l s hs, b]; rfl
      cases q2 : fnd (hit1 l.toArray) n (s + 1) with
      | none =>
        rw [q2] at ih
        show TD l s = l.drop s
        rw [hstep, ih, e]
      | some i =>
        rw [q2] at ih
        obtain ⟨a, _⟩ := fnd_some q2
        show TD l s = _
        rw [hstep, ih, take_drop_cons hs (by omega)]; rfl
noncomputable def TE (l : List Nat) (s : Nat) : List Nat := crlf (l.drop s)
theorem TE_ok (l : List Nat) : ∀ n s, s + n = l.length → match fnd (hit2 l.toArray) n s with | some i => TE l s = (l.take i).drop s ++ [13, 10] ++ TE l (i + len2 l.toArray i) | none => TE l s = l.drop s
  | 0, s, h => by
    have : l.drop s = [] := by rw [List.drop_eq_nil_iff]; omega
    show TE l s = _
    unfold TE
    rw [this]; rfl
  | n + 1, s, h => by
    have hs : s < l.length := by omega
    have e := List.drop_eq_getElem_cons hs
    have ih := TE_ok l n (s + 1) (by omega)
    rw [fnd]
    by_cases q : hit2 l.toArray s = true
    · rw [if_pos q]
      unfold hit2 at q
      rw [Bool.or_eq_true, getD_arr l s hs, beq_iff_eq, beq_iff_eq] at q
      show TE l s = (l.take s).drop s ++ [13, 10] ++ TE l (s + len2 l.toArray s)
      unfold TE
      rw [take_drop_self]
      show _ = 13 :: 10 :: crlf (l.drop (s + len2 l.toArray s))
      unfold len2
      rw [getD_arr l s hs, List.size_toArray]
      by_cases h13 : l[s] = 13
      · by_cases h2 : s + 1 < l.length
        · have e2 := List.drop_eq_getElem_cons h2
          rw [getD_arr l (s + 1) h2]
          by_cases h10 : l[s + 1] = 10
          · rw [if_pos ⟨h13, h2, h10⟩, e, e2, h13, h10, crlf]
          · rw [if_neg fun z => h10 z.2.2, e, e2, h13]
            rw [crlf]
            · intro r' z; exact h10 (by injection z)
        · rw [if_neg fun z => h2 z.2.1, e, h13]
          have : l.drop (s + 1) = [] := by rw [List.drop_eq_nil_iff]; omega
          rw [this]; rfl
      · have h10 : l[s] = 10 := q.resolve_right h13
        rw [if_neg fun z => h13 z.1, e, h10, crlf]
    · rw [if_neg q]
      have hstep : TE l s = l[s] :: TE l (s + 1) := by
        unfold hit2 at q
        rw [Bool.or_eq_true, getD_arr l s hs, beq_iff_eq, beq_iff_eq] at q
        unfold TE
        rw [e, crlf]
        · intro r z1 z2; exact q (.inr z1)
        · exact fun z => q (.inl z)
        · exact fun z => q (.inr z)
      cases q2 : fnd (hit2 l.toArray) n (s + 1) with
      | none =>
        rw [q2] at ih
        show TE l s = l.drop s
        rw [hstep, ih, e]
      | some i =>
        rw [q2] at ih
        obtain ⟨a, _⟩ := fnd_some q2
        show TE l s = _
        rw [hstep, ih, take_drop_cons hs (by omega)]; rfl
section
variable {f : Fx} {x : Sx}
theorem EvP.pat {n : Str} {pos} {a : Addr} {code : Array Nat} (h : EvP f x (.Name n pos) fun _ u => u = .ref a) (hp : ∀ h, f.W.Ok h → Pat h (.ref a) code) : EvP f x (.Name n pos) fun h v => Pat h v code := .bx fun s O =>
  wpN (h.run s O) fun v s' ⟨k, e⟩ => ⟨k, by subst e; exact hp _ (O.wok.ext (O.step k).same.ext)⟩
theorem Pat.recv {h : Heap} {v : Value} {code : Array Nat} (p : Pat h v code) : Recv "re.Pattern" h v := by
  obtain ⟨a, b, o, o2, p0, p1, p3, p4, t2, t6, xs, n, e1, e2, e3, e4, _⟩ := p
  subst e1
  exact ⟨fun s hs => by subst hs; exact ⟨o, e2, e3⟩, fun b e => by cases e; exact ⟨o, e2, e4⟩⟩
theorem Ev.reSub {o e1 e2 : Expr} {apos pos} {code : Array Nat} {l r : List Nat} {fd : Nat → Option (Nat × Nat)} {T : Nat → List Nat} {C : Nat} (h0 : EvP f x o fun h v => Pat h v code) (h1 : Ev f x e1 (st r)) (h2 : Ev f x e2 (st l))
    (hs : ∀ st must, st ≤ l.length → Ends C (Sre.forSearch code l.toArray 0 st l.toArray.size must) (Gives (fd st))) (hC : C < 2 ^ 60)
    (hT : ∀ st, st ≤ l.length → match fd st with | some (b, e) => st ≤ b ∧ b < e ∧ e ≤ l.length ∧ T st = (l.take b).drop st ++ r ++ T e | none => T st = l.drop st) (hlen : 2 * l.length + 2 ≤ sizeLine) (hF : (T 0).length ≤ sizeLine) (hr : r.contains 92 = false)
    (hbase : attributeBase o (Str.ofString "sub") f.env (eval o f.env) = eval o f.env := by exact rfl) (hline : (apos.endLine == pos.line) = true := by exact rfl)
    (hfew : ((backTo pos (starEach [e1, e2] f.env)).all (fun x => !x.1) && (backToKw pos (keywordEach [] f.env)).all (fun x => x.1.isSome)
      && decide (([e1, e2] : List Expr).length + ([] : List Keyword).length + (if ([] : List Keyword).isEmpty then 0 else 1) < 30)) = true := by exact rfl)
    (he : starEach [e1, e2] f.env = (false, eval e1 f.env) :: starEach [e2] f.env := by exact rfl) (he2 : starEach [e2] f.env = (false, eval e2 f.env) :: starEach [] f.env := by exact rfl)
    (hp : (backTo pos (starEach [e2] f.env)).any (·.1) = false := by exact rfl) :
    Ev f x (.Call (.Attribute o (Str.ofString "sub") apos) [e1, e2] [] pos) (st (T 0)) :=
  EvP.meth (ds := [st r, st l]) h0 plainAttrs_re slot_re_sub type_re_sub (fun h v e => e.recv) (fun _ _ _ p e => p.ext e) (.cons h1 (.cons h2 .nil he2) he)
    (fun s v vs O p r' => by
      obtain ⟨v1, _, rfl, r1, r2⟩ := r'.cons_inv
      obtain ⟨v2, _, rfl, r3, r4⟩ := r2.cons_inv
      rw [r4.nil_inv]
      obtain ⟨u, rfl⟩ := r1.str_inv
      obtain ⟨t, rfl⟩ := r3.str_inv
      exact wpN (sub_call hs hC hT hlen p hF hr) fun v s' ⟨k, t', e⟩ => ⟨k, by subst e; exact .str _ _⟩)
    hbase hfew hline he hp
theorem Ev.reDots {o e1 e2 : Expr} {apos pos} {l : List Nat} (h0 : EvP f x o fun h v => Pat h v c1) (h1 : Ev f x e1 (st [46, 46])) (h2 : Ev f x e2 (st l)) (hl : l.length ≤ 2 ^ 22)
    (hbase : attributeBase o (Str.ofString "sub") f.env (eval o f.env) = eval o f.env := by exact rfl) (hline : (apos.endLine == pos.line) = true := by exact rfl)
    (hfew : ((backTo pos (starEach [e1, e2] f.env)).all (fun x => !x.1) && (backToKw pos (keywordEach [] f.env)).all (fun x => x.1.isSome)
      && decide (([e1, e2] : List Expr).length + ([] : List Keyword).length + (if ([] : List Keyword).isEmpty then 0 else 1) < 30)) = true := by exact rfl)
    (he : starEach [e1, e2] f.env = (false, eval e1 f.env) :: starEach [e2] f.env := by exact rfl) (he2 : starEach [e2] f.env = (false, eval e2 f.env) :: starEach [] f.env := by exact rfl)
    (hp : (backTo pos (starEach [e2] f.env)).any (·.1) = false := by exact rfl) :
    Ev f x (.Call (.Attribute o (Str.ofString "sub") apos) [e1, e2] [] pos) (st (stuff true l)) := by
  have sz : sizeLine = 16777216 := by decide
  have h := Ev.reSub (T := TD l) (C := 6 * l.length + 6) (fd := fun s => (fnd (hit1 l.toArray) (l.length - s) s).map fun i => (i, i + 1)) h0 h1 h2
    (fun s must hs => (search1 l.toArray s must (by simpa using hs)).le (by rw [List.size_toArray]; omega)) (by omega) (fun s hs => by
      have := TD_ok l (l.length - s) s (by omega)
      cases q : fnd (hit1 l.toArray) (l.length - s) s with
      | none => rw [q] at this; exact this
      | some i =>
        rw [q] at this
        obtain ⟨a, b, _⟩ := fnd_some q
        exact ⟨a, by omega, by omega, this⟩) (by rw [sz]; omega) (by have := stuff_len (l.drop 0) (at1 l.toArray 0); unfold TD; simp at this ⊢; rw [sz]; omega) (by decide) hbase hline hfew he he2 hp
  exact h
theorem Ev.reEnds {o e1 e2 : Expr} {apos pos} {l : List Nat} (h0 : EvP f x o fun h v => Pat h v c2) (h1 : Ev f x e1 (st [13, 10])) (h2 : Ev f x e2 (st l)) (hl : l.length ≤ 2 ^ 22)
    (hbase : attributeBase o (Str.ofString "sub") f.env (eval o f.env) = eval o f.env := by exact rfl) (hline : (apos.endLine == pos.line) = true := by exact rfl)
    (hfew : ((backTo pos (starEach [e1, e2] f.env)).all (fun x => !x.1) && (backToKw pos (keywordEach [] f.env)).all (fun x => x.1.isSome)
      && decide (([e1, e2] : List Expr).length + ([] : List Keyword).length + (if ([] : List Keyword).isEmpty then 0 else 1) < 30)) = true := by exact rfl)
    (he : starEach [e1, e2] f.env = (false, eval e1 f.env) :: starEach [e2] f.env := by exact rfl) (he2 : starEach [e2] f.env = (false, eval e2 f.env) :: starEach [] f.env := by exact rfl)
    (hp : (backTo pos (starEach [e2] f.env)).any (·.1) = false := by exact rfl) :
    Ev f x (.Call (.Attribute o (Str.ofString "sub") apos) [e1, e2] [] pos) (st (crlf l)) := by
  have sz : sizeLine = 16777216 := by decide
  have h := Ev.reSub (T := TE l) (C := 40) (fd := fun s => (fnd (hit2 l.toArray) (l.length - s) s).map fun i => (i, i + len2 l.toArray i)) h0 h1 h2
    (fun s must hs => (search2 l.toArray s must (by simpa using hs))) (by decide) (fun s hs => by
      have := TE_ok l (l.length - s) s (by omega)
      cases q : fnd (hit2 l.toArray) (l.length - s) s with
      | none => rw [q] at this; exact this
      | some i =>
        rw [q] at this
        obtain ⟨a, b, _⟩ := fnd_some q
        refine ⟨a, ?_, ?_, this⟩
        · unfold len2; split <;> omega
        · unfold len2; split
          · rename_i z; have := z.2.1; simp at this; omega
          · omega) (by rw [sz]; omega) (by have := crlf_len (l.drop 0); unfold TE; simp at this ⊢; rw [sz]; omega) (by decide) hbase hline hfew he he2 hp
  exact h
end
end Mine
end
section
open PySem PySem.W PyProof.Rows PySem.Spec
set_option Elab.async false
set_option linter.all false
set_option maxRecDepth 100000
set_option maxHeartbeats 1000000
namespace Mine
section
variable {prog : Program} {w : World} {mg mb : Str → Option Value}
theorem g_re1 : nsIn (hd.heap_39 w.params) mainGlobals "_twin_re_1" = some (some (.ref 67)) := by exact rfl
theorem g_re2 : nsIn (hd.heap_39 w.params) mainGlobals "_twin_re_2" = some (some (.ref 72)) := by exact rfl
theorem g_crlf : ∃ t, nsIn (hd.heap_39 w.params) mainGlobals "CRLF" = some (some (.str (Str.ofString "\r\n") t)) := ⟨_, by exact rfl⟩
theorem p_re1 {h : Heap} (W : (WL prog w mg mb).Ok h) : Pat h (.ref 67) c1 :=
  ⟨67, 66, _, _, _, _, _, _, _, _, _, _, rfl, W.k 67 _ rfl, rfl, rfl, rfl, W.k 66 _ rfl, rfl, by decide +kernel⟩
theorem p_re2 {h : Heap} (W : (WL prog w mg mb).Ok h) : Pat h (.ref 72) c2 :=
  ⟨72, 71, _, _, _, _, _, _, _, _, _, _, rfl, W.k 72 _ rfl, rfl, rfl, rfl, W.k 71 _ rfl, rfl, by decide +kernel⟩
theorem c_quote (G : (WL prog w mg mb).Glob) (l : List Nat) (hl : l.length ≤ 2 ^ 20) : Fn (WL prog w mg mb) (.ref 79) 1 [st l] (st (qd l)) := by
  refine Fn.of_at (nm := ["data"]) (gl := ["_twin_re_1", "_twin_re_2", "CRLF"]) (ps := ["data"]) rfl rfl rfl rfl rfl rfl rfl (by decide +kernel) (bind1 fun _ => rfl) (.cons Put.i0 .nil) fun A s L hz bad bad' => ?_
  obtain ⟨t, ht⟩ := g_crlf (w := w)
  exact Ex.ret (Ev.reDots (EvP.pat (Ev.glob Mem.i0 (G.g _ _ g_re1)) fun h W => p_re1 W) (Ev.strE (l := [46, 46])) (Ev.reEnds (EvP.pat (Ev.glob Mem.i1 (G.g _ _ g_re2)) fun h W => p_re2 W) (Ev.eq (Ev.globS Mem.i2 (G.g _ _ ht)) (congrArg PyData.str (by decide +kernel))) (Ev.name At.i0) (by omega)) (by have := crlf_len l; omega)) fun s v O r => O.retD r
theorem c_int2ap (G : (WL prog w mg mb).Glob) (i : Int) (hb : (ap i.natAbs).length ≤ 1000) : FnP (WL prog w mg mb) (.ref 62) 1 [.int i] (fun _ _ v => B (apB i.natAbs) v) := by
  refine FnP.of_at (nm := ["num", "val", "AP", "mod"]) (gl := ["int", "abs", "divmod"]) (ps := ["num"]) rfl rfl rfl rfl rfl rfl rfl (by decide +kernel) (bind1 fun _ => rfl) (.cons .here .nil) fun A s L hz bad bad' => ?_
  refine Ex.assignIs (P := B []) EvB.const Put.i1 ?_
  refine Ex.assignIs (P := B apAll) EvB.const Put.i2 ?_
  refine Ex.assign (Ev.call (Ev.blt Mem.i0 (z_int G)) (.type _) (.cons (Ev.call (Ev.blt Mem.i1 (z_abs G)) (.builtin _) (.cons (Ev.name At.i0) .nil) Fn.abs (Nat.zero_le _)) .nil) Fn.int (Nat.zero_le _)) Put.i0 ?_
  refine Ex.while (J := fun k y => ∃ (b : List Addr) (v : List Nat), ap k ++ v = ap i.natAbs ∧ y = ⟨hz, b, [], [.val (.int k), .is (B (v.map fun c => UInt8.ofNat c)), .is (B apAll), .no]⟩) (D := fun y => ∃ b : List Addr, y = ⟨hz, b, [], [.val (.int 0), .is (B (apB i.natAbs)), .is (B apAll), .no]⟩) (n := i.natAbs) ⟨bad', [], by simp, rfl⟩ ?_ ?_
  · rintro k y ⟨b, v, hv, rfl⟩
    refine ⟨k != 0, Tst.val (Ev.name At.i0) trivial (by cases k <;> rfl), fun h => ?_, fun h => ?_⟩
    · have : k = 0 := by simpa using h
      subst this
      rw [ap_zero, List.nil_append] at hv
      exact ⟨b, by rw [hv]; rfl⟩
    · have h0 : k ≠ 0 := by simpa using h
      have hl : (ap (k / 16)).length + 1 + v.length ≤ 1000 := by rw [← hv, ap_pos h0] at hb; simp at hb; omega
      refine Ex.unpack (Ev.call (Ev.blt Mem.i2 (z_divmod G)) (.builtin _) (.cons (Ev.name At.i0) (.cons Ev.int .nil)) (Fn.divmod (by decide) (by decide)) (Nat.zero_le _)) (.cons (.cons .nil)) (.inr rfl) (.cons Put.i0 (.cons Put.i3 .nil)) ?_
      refine Ex.assignIs (P := B (((65 + k % 16) :: v).map fun c => UInt8.ofNat c)) ?_ Put.i1 ?_
      · refine (EvB.add (EvB.slice (EvP.nameIs At.i2) (EvO.some (Ev.name At.i3)) (EvO.some (Ev.add (Ev.name At.i3) Ev.int)) (by decide)) (EvP.nameIs At.i1) ?_).mono fun h v h' => ?_
        · rw [ap_slice]; simp; omega
        · rw [ap_slice] at h'; exact h'
      · refine Ex.nil fun s O => ⟨k / 16, _, by omega, ⟨b, (65 + k % 16) :: v, by rw [← hv, ap_pos h0]; simp, rfl⟩, ?_⟩
        have e : (k : Int).fdiv 16 = ((k / 16 : Nat) : Int) := by rw [Int.fdiv_eq_ediv_of_nonneg _ (by omega)]; omega
        rw [e] at O
        exact O.forget (.keep (.keep (.keep (.drop .nil))))
  · rintro y ⟨b, rfl⟩
    exact Ex.retP (EvP.nameIs At.i1) fun s v O h => ⟨O.same, h⟩
end
end Mine
end
section
open PySem PySem.W PyProof.Rows PySem.Spec
set_option Elab.async false
set_option linter.all false
set_option maxRecDepth 100000
set_option maxHeartbeats 1000000
namespace Mine
section
variable {prog : Program} {w : World} {mg mb : Str → Option Value}
theorem g_table : nsIn (hd.heap_39 w.params) mainGlobals "EXACT_TOKEN_TYPES" = some (some (.ref 32)) := by exact rfl
theorem t_ops : Tab (WL prog w mg mb) 32 opsD := fun h X => kt_tab_in prog w X.k (D := opsS) (by rfl) (by decide +kernel) (by rfl)
theorem idx_last {α : Type} (l : List α) (a : α) : (l ++ [a])[idx (l ++ [a]).length (-1)]? = some a := by
  unfold idx
  have : (-1 + ((l ++ [a]).length : Int)).toNat = l.length := by simp; omega
  rw [if_neg (by omega), this]
  simp
theorem mulK {a b : Int} (h : Builtin.Int.intBits a ≤ 64 := by decide +kernel) : IntMulOk a b := .of_left h
theorem c_symbols (G : (WL prog w mg mb).Glob) (l : List Nat) (out : List Int) (h : Lx [] l 256 out) (hl : l.length ≤ 2 ^ 20) (ho : out.length ≤ 2 ^ 20) : Fn (WL prog w mg mb) (.ref 84) 1 [st l] (.list ((out ++ [0]).map .int)) := by
  have sz : sizeLine = 16777216 := by decide
  refine Fn.of_at (nm := ["text", "symbols", "at", "size"]) (gl := ["len", "ord", "max", "EXACT_TOKEN_TYPES"]) (ps := ["text"]) rfl rfl rfl rfl rfl rfl rfl (by decide +kernel) (bind1 fun _ => rfl) (.cons Put.i0 .nil) fun A s L hz bad bad' => ?_
  refine Ex.own (EvN.list (.cons Ev.int .nil) (Nat.le_of_ble_eq_true rfl)) (fun a => Put.i1) (fun a => ?_)
  refine Ex.assign (Ev.nat (n := 0)) Put.i2 ?_
  refine Ex.while (J := fun n y => ∃ (i : Nat) (pre : List Int) (v : Int) (out' : List Int) (b : List Addr), i + n = l.length ∧ Lx [] (l.drop i) v out' ∧ pre ++ out' = out ∧ y = ⟨hz, b, [.lst a ((pre ++ [v]).map .int)], [.val (st l), .ptr a, .val (nt i), .no]⟩)
    (D := fun y => ∃ (i : Nat) (b : List Addr), y = ⟨hz, b, [.lst a (out.map .int)], [.val (st l), .ptr a, .val (nt i), .no]⟩) (n := l.length) ⟨0, [], 256, out, _, by simp, by simpa using h, by simp, rfl⟩ ?_ ?_
  · rintro n y ⟨i, pre, v, out', b, hi, hL, hp, rfl⟩
    have hlen : (pre ++ [v]).length ≤ 2 ^ 20 := by
      have := hL.pos
      rw [← hp] at ho; simp at ho ⊢; omega
    generalize hr : l.drop i = rest at hL
    have hsl : ((pre ++ [v]).map PyData.int).length ≤ sizeLine := by rw [List.length_map, sz]; omega
    have hll : l.length ≤ sizeLine := by rw [sz]; omega
    have l63 : (l.length : Int) < 2 ^ 63 := by omega
    have hdl : ∀ w : Int, ((pre ++ [v]).map PyData.int).dropLast ++ [.int w] = (pre ++ [w]).map PyData.int := fun w => by simp
    cases hL with
    | done =>
      have hge : ¬ i < l.length := fun q => by have := List.drop_eq_getElem_cons q; rw [hr] at this; cases this
      refine ⟨false, Tst.eq (Tst.cmp (EvC.ltN (Ev.name At.i2) (Ev.call (Ev.blt Mem.i0 (z_len G)) (.builtin _) (.cons (Ev.name At.i0) .nil) (Fn.len_str l63) (Nat.zero_le _)))) (by simpa using hge), fun _ => ⟨i, b, by rw [hp]⟩, fun h => by cases h⟩
    | stop hc => exact nomatch hc
    | word hs h1 h2 hL' =>
      rename_i c r
      obtain ⟨hg, hlt, hr'⟩ := ltN hr
      refine ⟨true, Tst.eq (Tst.cmp (EvC.ltN (Ev.name At.i2) (Ev.call (Ev.blt Mem.i0 (z_len G)) (.builtin _) (.cons (Ev.name At.i0) .nil) (Fn.len_str l63) (Nat.zero_le _)))) ?_, fun h => (by cases h), fun _ => ?_⟩
      · simp [hlt]
      · refine Ex.ite (c := true) (Tst.eq (Tst.cmp (EvC.inStr (Ev.itemSN (Ev.name At.i0) (Ev.name At.i2) hg hll) (Ev.strE (l := AZ)))) ?_) (fun _ => ?_) (fun h => by cases h)
        · rw [inS_one]; exact decide_eq_true (AZ_mem.mpr ⟨h1, h2⟩)
        · refine Ex.setLast (d := .int (256 + 16 * (v - 256) + c - 65)) At.i1 (by rw [hdl]; exact .here) (Ev.thaw At.i1 .here Put.i1 (Ev.sub (Ev.add (Ev.add Ev.int (Ev.mul Ev.int (Ev.sub (Ev.itemL (Ev.name At.i1) (Ev.neg Ev.int) (by rw [List.map_append]; exact idx_last _ _) (by simp; omega) hsl) Ev.int) mulK)) (Ev.call (Ev.blt Mem.i1 (z_ord G)) (.builtin _) (.cons (Ev.itemSN (Ev.name At.i0) (Ev.name At.i2) hg hll) .nil) Fn.ord (Nat.zero_le _))) Ev.int) trivial) (by simp) hsl ?_
          refine Ex.augN At.i2 (Ev.nat (n := 1)) Put.i2 (Ex.next (Ex.nil fun s₂ O₂ => ⟨n - 1, _, by omega, ⟨i + 1, pre, 256 + 16 * (v - 256) + c - 65, out', b, by omega, by rw [hr']; exact hL', hp, rfl⟩, O₂⟩))
    | op hs h1 hk ho3 hmax hL' =>
      rename_i c o r k out2
      obtain ⟨hg, hlt, hr'⟩ := ltN hr
      have hlen2 : i + (o.length + 1) + r.length = l.length := by
        have := congrArg List.length hr
        simp at this; omega
      have htk : (l.drop i).take (o.length + 1) = c :: o := by rw [hr]; simp
      have hdr : l.drop (i + (o.length + 1)) = r := by rw [← List.drop_drop, hr]; simp
      refine ⟨true, Tst.eq (Tst.cmp (EvC.ltN (Ev.name At.i2) (Ev.call (Ev.blt Mem.i0 (z_len G)) (.builtin _) (.cons (Ev.name At.i0) .nil) (Fn.len_str l63) (Nat.zero_le _)))) ?_, fun h => (by cases h), fun _ => ?_⟩
      · simp [hlt]
      · refine Ex.ite (c := false) (Tst.eq (Tst.cmp (EvC.inStr (Ev.itemSN (Ev.name At.i0) (Ev.name At.i2) hg hll) (Ev.strE (l := AZ)))) ?_) (fun h => by cases h) (fun _ => ?_)
        · rw [inS_one]; exact decide_eq_false fun q => by have := AZ_mem.mp q; omega
        · refine Ex.assign (d := nt (o.length + 1)) (Ev.call (Ev.blt Mem.i2 (z_max G)) (.builtin _) (.cons (Ev.eq (b := .list ((([1, 2, 3].filter fun n => decide (i + n ≤ l.length) && ((opsL.lookup ((l.drop i).take n)).isSome && true)).map fun n : Nat => (n : Int)).map .int))
            (Ev.comp1 (xs := [1, 2, 3]) (di := nt) (g := nt) (p := fun n => decide (i + n ≤ l.length) && ((opsL.lookup ((l.drop i).take n)).isSome && true)) (own := ["n"]) (fr := ["at", "text"]) (gl := ["len", "EXACT_TOKEN_TYPES"]) (ns := ["n"])
            (Iter.tuple (Ev.tuple (.cons (Ev.nat (n := 1)) (.cons (Ev.nat (n := 2)) (.cons (Ev.nat (n := 3)) .nil))) (Nat.le_of_ble_eq_true rfl))) rfl (by decide +kernel) (Ats.two At.i2 At.i0) rfl rfl one_in (Nat.le_of_ble_eq_true rfl) (fun n hn C cs base hz bad led => ⟨_, .name .here, .drop (.keep (.keep .nil)), .one (Tst.and (Tst.cmp (EvC.leN (Ev.addN (Ev.name At.i1) (Ev.name At.i0)) (Ev.call (Ev.blt Mem.i0 (z_len G)) (.builtin _) (.cons (Ev.name At.i2) .nil) (Fn.len_str l63) (Nat.zero_le _))))
              fun _ => Tst.and (Tst.eq (Tst.cmp (EvC.inTab (Ev.sliceS (Ev.name At.i2) (EvO.some (Ev.name At.i1)) (EvO.some (Ev.addN (Ev.name At.i1) (Ev.name At.i0))) hll) (Ev.glob Mem.i1 (G.g _ _ g_table)) t_ops)) (by rw [slc_nat, ops_lookup, Nat.add_sub_cancel_left]; simp)) fun _ => Tst.andN), fun _ => (Ev.name At.i0)⟩)) (by rw [List.map_map]; rfl)) .nil) (Fn.max (M := ((o.length + 1 : Nat) : Int)) ?_ ?_) (Nat.zero_le _)) Put.i3 ?_
          · refine List.mem_map.mpr ⟨o.length + 1, List.mem_filter.mpr ⟨?_, ?_⟩, rfl⟩
            · have : o.length = 0 ∨ o.length = 1 ∨ o.length = 2 := by omega
              rcases this with h | h | h <;> simp [h]
            · rw [htk, hk]; simp; omega
          · intro z hz
            obtain ⟨n, hn, rfl⟩ := List.mem_map.mp hz
            obtain ⟨hn1, hn2⟩ := List.mem_filter.mp hn
            simp only [Bool.and_true, Bool.and_eq_true, decide_eq_true_eq] at hn2
            rcases Nat.lt_or_ge (o.length + 1) n with q | q
            · exfalso
              have := hmax n q (by simp at hn1; omega) (by simp; omega)
              rw [hr, this] at hn2
              simp at hn2
            · omega
          · refine Ex.extend At.i1 .here (Ev.list (.cons (Ev.itemTab (i := (k : Int)) (Ev.glob Mem.i3 (G.g _ _ g_table)) (Ev.sliceS (Ev.name At.i0) (EvO.some (Ev.name At.i2)) (EvO.some (Ev.addN (Ev.name At.i2) (Ev.name At.i3))) hll) t_ops (by rw [slc_nat, Nat.add_sub_cancel_left, htk, ops_lookup, hk]; rfl)) (.cons Ev.int .nil)) (Nat.le_of_ble_eq_true rfl)) (by rw [List.length_map, sz]; simp at hlen ⊢; omega) ?_
            refine Ex.augN At.i2 (Ev.name At.i3) Put.i2 (Ex.next (Ex.nil fun s₂ O₂ => ⟨r.length, ⟨hz, b, [.lst a ((pre ++ [v, (k : Int)] ++ [256]).map .int)], [.val (st l), .ptr a, .val (nt (i + (o.length + 1))), .no]⟩, by omega, ⟨i + (o.length + 1), pre ++ [v, (k : Int)], 256, out2, b, by omega, by rw [hdr]; exact hL', by rw [← hp]; simp, rfl⟩, ?_⟩))
            have e2 : (pre ++ [v]).map PyData.int ++ [.int (k : Int), .int 256] = (pre ++ [v, (k : Int)] ++ [256]).map PyData.int := by simp
            rw [← e2]
            exact O₂.forget (.keep (.keep (.keep (.drop .nil))))
  · rintro y ⟨i, b, rfl⟩
    exact Ex.freeze At.i1 .here Put.i1 (Ex.ret (Ev.eq (Ev.catL (Ev.name At.i1) (Ev.list (.cons Ev.int .nil) (Nat.le_of_ble_eq_true rfl)) (by rw [List.length_map, sz]; simp; omega)) (by rw [List.map_append]; rfl)) fun s v O r => O.retD r)
end
end Mine
end
section
open PySem PySem.W PyProof.Rows PySem.Spec
set_option Elab.async false
set_option linter.all false
set_option maxRecDepth 100000
namespace Mine
section
variable {f : Fx} {hz : Heap} {bad : List Addr} {led : List Res} {vs : List Slot}
theorem Ex.asg {n : Str} {p : Pos} {e : Expr} {pos : Pos} {rest : List Stmt} {d : PyData} {vs' : List Slot} {Q : Flow → Shared → Prop} (h : Ev f ⟨hz, bad, led, vs⟩ e d) (put : Put f.nm vs n (.val d) vs')
    (hr : Ex f ⟨hz, bad, led, vs'⟩ rest Q) (hc : f.sto = f.nm := by exact rfl)
    (hs : swapsWith e (some (.Name n p)) pos.line f.env = pure false := by exact rfl) : Ex f ⟨hz, bad, led, vs⟩ (.Assign [.Name n p] e pos :: rest) Q := Ex.assign (x := ⟨hz, bad, led, vs⟩) h put hr hc hs
theorem Ex.unp {es : List Expr} {k : Nat} {p : Pos} {e : Expr} {pos : Pos} {rest : List Stmt} {d : PyData} {ds : List PyData} {ns : List Str} {vs' : List Slot} {Q : Flow → Shared → Prop} (h : Ev f ⟨hz, bad, led, vs⟩ e d) (hn : Names es ns) (hd : d = .list ds ∨ d = .tuple ds)
    (put : Puts f.nm vs ns ds vs') (hr : Ex f ⟨hz, bad, led, vs'⟩ rest Q) (hc : f.sto = f.nm := by exact rfl)
    (hs : swapsWithSole [.Tuple es k p] e pos.line f.env = pure false := by exact rfl) (hw : swappedStores [.Tuple es k p] e f.env = pure none := by exact rfl) : Ex f ⟨hz, bad, led, vs⟩ (.Assign [.Tuple es k p] e pos :: rest) Q :=
  Ex.unpack (x := ⟨hz, bad, led, vs⟩) h hn hd put hr hc hs hw
theorem Ex.cmp1 {n : Str} {pn : Pos} {elt tgt iter : Expr} {ifs : List Expr} {scope : Scope} {k : ScopeKind} {names : List (Str × NameKind)} {g1 g2 : Bool} {more : List (Str × Const)} {cpos pos : Pos} {rest : List Stmt} {α : Type} {xs : List α} {di g : α → PyData} {p : α → Bool} {own fr gl ns nm : List Str} {slots vs₀ vs' : List Slot} {Q : Flow → Shared → Prop}
    (hI : Iter f ⟨hz, bad, led, vs⟩ tgt iter (xs.map di)) (hsc : f.env.scope = ⟨k, names, g1, g2, more⟩) (hc : compChk scope ⟨k, names, g1, g2, more⟩ own fr gl = true) (ats : Ats f.nm vs fr slots) (hnm : nm = own ++ fr) (hvs : vs₀ = own.map (fun _ => Slot.no) ++ slots)
    (hns : ∀ n ∈ ns, n ∈ own) (hsz : xs.length ≤ sizeLine)
    (turn : ∀ a ∈ xs, ∀ C cs base hz bd led, ∃ vs', Tgt nm vs₀ tgt (di a) ns vs' ∧ Forget vs' vs₀ ∧ Ifs (compF f scope C cs base nm gl own bad) ⟨hz, bd, led, vs'⟩ ifs (p a) ∧
      (p a = true → Ev (compF f scope C cs base nm gl own bad) ⟨hz, bd, led, vs'⟩ elt (g a)))
    (put : Put f.nm vs n (.val (.list ((xs.filter p).map g))) vs') (hr : Ex f ⟨hz, bad, led, vs'⟩ rest Q) 
    (hs : ∀ v, foldedSetIterable iter f.env v = pure v := by intro _; rfl) (hf : f.sto = f.nm := by exact rfl)
    (hsw : swapsWith (.ListComp elt [⟨tgt, iter, ifs, 0⟩] scope cpos) (some (.Name n pn)) pos.line f.env = pure true := by exact rfl) : Ex f ⟨hz, bad, led, vs⟩ (.Assign [.Name n pn] (.ListComp elt [⟨tgt, iter, ifs, 0⟩] scope cpos) pos :: rest) Q :=
  Ex.comp1 (x := ⟨hz, bad, led, vs⟩) hI hsc hc ats hnm hvs hns hsz turn put hr hs hf hsw
theorem starEach_c {e : Expr} {es : List Expr} {env : Env} (h : ∀ v p, e ≠ .Starred v p) : starEach (e :: es) env = (false, eval e env) :: starEach es env := by
  cases e <;> first | rfl | exact absurd rfl (h _ _)
theorem EvL.c {x : Sx} {e : Expr} {es : List Expr} {d : PyData} {ds : List PyData} (h1 : Ev f x e d) (h2 : EvL f x es ds) (hn : ∀ v p, e ≠ .Starred v p := by intro _ _ h; cases h) : EvL f x (e :: es) (d :: ds) := EvL.cons h1 h2 (starEach_c hn)
end
end Mine
end
section
open PySem PySem.W PyProof.Rows PySem.Spec
set_option Elab.async false
set_option linter.all false
set_option maxRecDepth 100000
namespace Mine
open PySem.StrLaws PySem.Builtin PySem.Builtin.Str
theorem at_crlf (x : List Nat) (k : Nat) : StrLaws.At (S x) (S CRLF) (S x).length k ↔ ∃ r, x.drop k = 13 :: 10 :: r := by
  unfold StrLaws.At
  rw [subAt_eq, S_toList, S_toList, S_len, S_len]
  constructor
  · rintro ⟨h1, h2⟩
    have h2' := eq_of_beq h2
    refine ⟨(x.drop k).drop 2, ?_⟩
    have := List.take_append_drop 2 (x.drop k)
    rw [show CRLF.length = 2 from rfl] at h2'
    rw [h2'] at this
    exact this.symm
  · rintro ⟨r, h⟩
    have hl : (x.drop k).length = r.length + 2 := by rw [h]; rfl
    rw [List.length_drop] at hl
    refine ⟨by show k + 2 ≤ _; omega, ?_⟩
    rw [h]; simp [CRLF]
theorem no_at {x y r : List Nat} {a k : Nat} (h : x.drop a = y ++ r) (hy : 13 ∉ y) (h1 : a ≤ k) (h2 : k < a + y.length) : ¬ ∃ r', x.drop k = 13 :: 10 :: r' := by
  rintro ⟨r', e⟩
  have e2 : x.drop k = (x.drop a).drop (k - a) := by rw [List.drop_drop]; congr 1; omega
  rw [e2, h, List.drop_append_of_le_length (by omega)] at e
  have h3 : k - a < y.length := by omega
  rw [List.drop_eq_getElem_cons h3] at e
  simp only [List.cons_append] at e
  injection e with e1 _
  exact hy (e1 ▸ List.getElem_mem h3)
theorem sub_list (x : List Nat) (a b : Nat) : (strSub (S x) a b).cps.toList = (x.drop a).take (b - a) := by rw [strSub_toList, S_toList]
theorem spl_parts (x : List Nat) : ∀ (ys : List (List Nat)) (cuts : List Nat) (a f : Nat), ys ≠ [] → (∀ y ∈ ys, 13 ∉ y) → x.drop a = jn CRLF ys → ChainG (S x) (S CRLF) (S x).length a cuts f → (∀ k, f ≤ k → ¬ StrLaws.At (S x) (S CRLF) (S x).length k) →
    (partsFrom (S x) 2 a cuts).map (fun z => z.cps.toList) = ys
  | [], _, _, _, h, _, _, _, _ => absurd rfl h
  | [y], cuts, a, f, _, hy, hx, hc, hn => by
    have hx' : x.drop a = y ++ [] := by rw [hx]; simp [jn]
    have h13 := hy y (.head _)
    cases cuts with
    | nil =>
      show [(strSub (S x) a (S x).length).cps.toList] = _
      rw [sub_list, S_len, List.take_of_length_le (by simp), hx']; simp
    | cons c r =>
      obtain ⟨h1, h2, _⟩ := hc
      have h2' := (at_crlf x c).mp h2
      have hlen : (x.drop a).length = y.length := by rw [hx']; simp
      rw [List.length_drop] at hlen
      exact absurd h2' (no_at hx' h13 h1 (by obtain ⟨r', e⟩ := h2'; have : (x.drop c).length = r'.length + 2 := by rw [e]; rfl
                                             rw [List.length_drop] at this; omega))
  | y :: z :: r, cuts, a, f, _, hy, hx, hc, hn => by
    have hx' : x.drop a = y ++ (13 :: 10 :: jn CRLF (z :: r)) := by rw [hx, jn]; simp [CRLF]
    have h13 := hy y (.head _)
    have hd : x.drop (a + y.length) = 13 :: 10 :: jn CRLF (z :: r) := by
      rw [← List.drop_drop, hx', List.drop_left]
    have hat := (at_crlf x (a + y.length)).mpr ⟨_, hd⟩
    cases cuts with
    | nil =>
      have e : f = a := hc
      exact absurd hat (hn _ (by rw [e]; exact Nat.le_add_right _ _))
    | cons c cs =>
      obtain ⟨h1, h2, h3, h4⟩ := hc
      have h2' := (at_crlf x c).mp h2
      have hce : c = a + y.length := by
        rcases Nat.lt_trichotomy c (a + y.length) with q | q | q
        · exact absurd h2' (no_at hx' h13 h1 q)
        · exact q
        · exact absurd hat (h3 _ (Nat.le_add_right _ _) q)
      subst hce
      show (strSub (S x) a (a + y.length)).cps.toList :: (partsFrom (S x) 2 (a + y.length + 2) cs).map _ = _
      rw [sub_list, hx', Nat.add_sub_cancel_left, List.take_left]
      congr 1
      refine spl_parts x (z :: r) cs _ f (by simp) (fun u hu => hy u (.tail _ hu)) ?_ h4 hn
      rw [← List.drop_drop, hd]; rfl
theorem spl_jn {ys : List (List Nat)} (h0 : ys ≠ []) (hy : ∀ y ∈ ys, 13 ∉ y) : spl (jn CRLF ys) CRLF = ys := by
  obtain ⟨f, hG, hn⟩ := occ_tight (S (jn CRLF ys)) (S CRLF) (by rw [S_len]; decide)
  have key := spl_parts (jn CRLF ys) ys _ 0 f h0 hy (by simp) hG hn
  unfold spl Txt.split
  split
  · rename_i hc
    have hk : ¬ Builtin.Str.strKind (S (jn CRLF ys)) < Builtin.Str.strKind (S CRLF) := by
      have : Builtin.Str.strKind (S CRLF) = Builtin.Str.strKind (S []) := by decide +kernel
      rw [this]
      have h2 : ∀ z, Builtin.Str.strKind (S []) ≤ Builtin.Str.strKind z := by
        intro z; rw [show Builtin.Str.strKind (S []) = 1 from by decide +kernel]; unfold Builtin.Str.strKind; split <;> (try split) <;> omega
      exact Nat.not_lt.mpr (h2 _)
    rw [Bool.or_eq_true, decide_eq_true_eq, decide_eq_true_eq] at hc
    have hl := hc.resolve_right hk
    rw [S_len, S_len] at hl
    have : Builtin.Str.occurrences (S (jn CRLF ys)) (S CRLF) 0 (S (jn CRLF ys)).length ((S (jn CRLF ys)).length + 1) = [] := by
      cases q : Builtin.Str.occurrences (S (jn CRLF ys)) (S CRLF) 0 (S (jn CRLF ys)).length ((S (jn CRLF ys)).length + 1) with
      | nil => rfl
      | cons c cs =>
        rw [q] at hG
        have := hG.2.1.1
        rw [S_len, S_len] at this
        omega
    rw [this] at key
    simpa [partsFrom, sub_whole, sub_list, S_len, S_toList] using key
  · split
    · rename_i he
      have e0 := List.isEmpty_iff.mp he
      rw [e0] at key
      simpa [partsFrom, sub_list, S_len, S_toList] using key
    · rw [partsBetween_eq]; exact key
end Mine
end
section
open PySem PySem.W PyProof.Rows PySem.Spec
set_option Elab.async false
set_option linter.all false
set_option maxRecDepth 100000
namespace Mine
noncomputable def Plain (y : List Nat) : Prop := ∀ c ∈ y, c ≠ 10 ∧ c ≠ 13
theorem Plain.nil : Plain [] := fun c h => nomatch h
theorem Plain.cons {c y} (h : c ≠ 10 ∧ c ≠ 13) (hy : Plain y) : Plain (c :: y) := fun d hd => by
  rcases List.mem_cons.mp hd with rfl | hd
  · exact h
  · exact hy d hd
theorem Plain.tail {c y} (h : Plain (c :: y)) : Plain y := fun d hd => h d (.tail _ hd)
theorem Plain.append {x y} (h : Plain x) (hy : Plain y) : Plain (x ++ y) := fun d hd => by
  rcases List.mem_append.mp hd with hd | hd
  · exact h d hd
  · exact hy d hd
theorem Plain.dots (n : Nat) : Plain (List.replicate n 46) := fun c h => by rw [List.eq_of_mem_replicate h]; decide
theorem crlf_plain {y : List Nat} (h : Plain y) (r : List Nat) : crlf (y ++ r) = y ++ crlf r := by
  induction y with
  | nil => rfl
  | cons c y ih =>
    have hc := h c (.head _)
    rw [List.cons_append, crlf, ih h.tail]
    · rfl
    · intro r' z _; exact hc.2 z
    · exact hc.1
    · exact hc.2
theorem crlf_self {y : List Nat} (h : Plain y) : crlf y = y := by have := crlf_plain h []; simpa [crlf] using this
theorem crlf_crlf (r : List Nat) : crlf (CRLF ++ r) = CRLF ++ crlf r := by show crlf (13 :: 10 :: r) = _; rw [crlf]; rfl
theorem crlf_mail {ys : List (List Nat)} (h : ∀ y ∈ ys, Plain y) : crlf (jn CRLF ys) = jn CRLF ys := by
  induction ys with
  | nil => rfl
  | cons y ys ih =>
    cases ys with
    | nil => exact crlf_self (h y (.head _))
    | cons z r =>
      rw [jn, List.append_assoc, crlf_plain (h y (.head _)), crlf_crlf, ih fun u hu => h u (.tail _ hu)]
theorem crlf_lines {ys : List (List Nat)} (h : ∀ y ∈ ys, Plain y) (r : List Nat) : crlf ((ys.flatMap fun y => y ++ CRLF) ++ r) = (ys.flatMap fun y => y ++ CRLF) ++ crlf r := by
  induction ys with
  | nil => rfl
  | cons y ys ih =>
    rw [List.flatMap_cons, List.append_assoc, List.append_assoc, crlf_plain (h y (.head _)), crlf_crlf, ih fun u hu => h u (.tail _ hu)]
    simp
theorem jn_lines (ys zs : List (List Nat)) (hz : zs ≠ []) : (ys.flatMap fun y => y ++ CRLF) ++ jn CRLF zs = jn CRLF (ys ++ zs) := by
  induction ys with
  | nil => rfl
  | cons y ys ih =>
    rw [List.flatMap_cons, List.append_assoc, ih, List.append_assoc]
    cases q : ys ++ zs with
    | nil => simp at q; exact absurd q.2 hz
    | cons u r => rw [List.cons_append, q, jn]; simp
theorem stuff_plain {y : List Nat} (h : Plain y) (r : List Nat) : stuff false (y ++ r) = y ++ stuff false r := by
  induction y with
  | nil => rfl
  | cons c y ih =>
    have hc := h c (.head _)
    rw [List.cons_append, stuff, if_neg (by simp)]
    have : (c == 10) = false := by simpa using hc.1
    rw [this, ih h.tail]; rfl
theorem stuff_crlf (b : Bool) (r : List Nat) : stuff b (CRLF ++ r) = CRLF ++ stuff true r := by
  show stuff b (13 :: 10 :: r) = _
  rw [stuff, if_neg (by simp)]
  show 13 :: stuff false (10 :: r) = _
  rw [stuff, if_neg (by simp)]; rfl
noncomputable def RowOk (r : Row) : Prop := Plain r.2 ∧ (r.1 = 0 → ∀ c t, r.2 = c :: t → c ≠ 46)
noncomputable def more1 (k : Nat) (r : Row) : Row := (if r.1 = 0 then 0 else r.1 + k, r.2)
theorem rowL_more1 (k : Nat) (r : Row) : rowL 0 (more1 k r) = rowL k r := by
  unfold rowL more1
  by_cases h : r.1 = 0
  · simp [h]
  · simp only [if_neg h]
    rw [if_neg (by omega)]; rfl
theorem rowL_plain {k : Nat} {r : Row} (h : RowOk r) : Plain (rowL k r) := by
  unfold rowL; rw [reps_one]; exact (Plain.dots _).append h.1
theorem stuff_row {k : Nat} {r : Row} (h : RowOk r) (x : List Nat) (hx : r.1 = 0 → r.2 = [] → ∀ c t, x = c :: t → c ≠ 46) : stuff true (rowL k r ++ x) = rowL (k + 1) r ++ stuff (rowL k r == []) x := by
  unfold rowL
  rw [reps_one, reps_one]
  by_cases h0 : r.1 = 0
  · rw [if_pos h0, if_pos h0]
    simp only [List.replicate_zero, List.nil_append]
    cases hr : r.2 with
    | nil => rfl
    | cons c t =>
      have hc := h.2 h0 c t hr
      have hp : Plain (c :: t) := hr ▸ h.1
      have h10 : (c == 10) = false := by simpa using (hp c (.head _)).1
      rw [List.cons_append, stuff, if_neg (fun z => hc z.2), h10, stuff_plain hp.tail]
      rfl
  · rw [if_neg h0, if_neg h0]
    obtain ⟨d, hd⟩ : ∃ d, r.1 + k = d + 1 := ⟨r.1 + k - 1, by omega⟩
    rw [hd, show r.1 + (k + 1) = d + 1 + 1 by omega]
    rw [List.replicate_succ, List.cons_append, List.cons_append, stuff, if_pos ⟨rfl, rfl⟩, List.append_assoc, stuff_plain (Plain.dots d), stuff_plain h.1]
    simp [List.replicate_succ]
theorem stuff_mail {k : Nat} : ∀ {rows : List Row}, rows ≠ [] → (∀ r ∈ rows, RowOk r) → ∀ z : List Nat, (∀ c t, z = c :: t → c = 13) → stuff true (mailL k rows ++ z) = mailL (k + 1) rows ++ stuff (rowL k (rows.getLastD (0, [])) == []) z
  | [], h, _, z, _ => absurd rfl h
  | [r], _, h, z, hz => by
    show stuff true (rowL k r ++ z) = rowL (k + 1) r ++ _
    exact stuff_row (h r (.head _)) z fun _ _ c t e => by have := hz c t e; omega
  | r :: s :: rest, _, h, z, hz => by
    have ih := stuff_mail (k := k) (rows := s :: rest) (by simp) (fun u hu => h u (.tail _ hu)) z hz
    unfold mailL at ih ⊢
    simp only [List.map_cons, jn] at ih ⊢
    rw [List.append_assoc, List.append_assoc, stuff_row (h r (.head _)) _ (fun _ _ c t e => by simp [CRLF] at e; omega), stuff_crlf, ih]
    simp
noncomputable def aged0 (rows : List Row) : List Row := rows.map (more1 1)
theorem mail_more1 (k : Nat) (rows : List Row) : mailL 0 (rows.map (more1 k)) = mailL k rows := by
  unfold mailL; rw [List.map_map]; congr 1
  refine List.map_congr_left fun r _ => rowL_more1 k r
theorem mail_plain {rows : List Row} (h : ∀ r ∈ rows, RowOk r) : ∀ y ∈ rows.map (rowL 0), Plain y := fun y hy => by
  obtain ⟨r, hr, rfl⟩ := List.mem_map.mp hy
  exact rowL_plain (h r hr)
theorem stuff_all {rows : List Row} (h0 : rows ≠ []) (h : ∀ r ∈ rows, RowOk r) : stuff true (mailL 0 rows) = mailL 0 (aged0 rows) := by
  have := stuff_mail (k := 0) h0 h [] (fun c t e => nomatch e)
  rw [List.append_nil] at this
  rw [this]
  unfold aged0
  rw [mail_more1]
  simp [stuff]
theorem qd_ends {rows : List Row} (h0 : rows ≠ []) (h : ∀ r ∈ rows, RowOk r) (k : Nat) (hk : k < 5) : qd (mailL 0 rows ++ endsL.getD k []) = mailL 1 rows ++ duesL.getD k [] := by
  have hp : crlf (mailL 0 rows ++ endsL.getD k []) = mailL 0 rows ++ crlf (endsL.getD k []) := by
    unfold mailL
    obtain ⟨ys, y, e⟩ : ∃ ys y, rows.map (rowL 0) = ys ++ [y] := by
      have : rows.map (rowL 0) ≠ [] := by simpa using h0
      exact ⟨_, _, (List.dropLast_concat_getLast this).symm⟩
    have hpl := mail_plain h
    rw [e] at hpl ⊢
    rw [← jn_lines ys [y] (by simp), List.append_assoc, crlf_lines (fun u hu => hpl u (List.mem_append_left _ hu)), List.append_assoc]
    congr 1
    exact crlf_plain (hpl y (by simp)) _
  unfold qd
  rw [hp]
  have hc : ∃ w, crlf (endsL.getD k []) = 13 :: 10 :: w ∧ ∀ b, stuff b (13 :: 10 :: w) = duesL.getD k [] := by
    have : k = 0 ∨ k = 1 ∨ k = 2 ∨ k = 3 ∨ k = 4 := by omega
    rcases this with h | h | h | h | h <;> subst h
    · exact ⟨[], by rfl, fun b => by cases b <;> rfl⟩
    · exact ⟨[], by rfl, fun b => by cases b <;> rfl⟩
    · exact ⟨[], by rfl, fun b => by cases b <;> rfl⟩
    · exact ⟨[46], by rfl, fun b => by cases b <;> rfl⟩
    · exact ⟨[13, 10], by rfl, fun b => by cases b <;> rfl⟩
  obtain ⟨w, e1, e2⟩ := hc
  rw [e1, stuff_mail h0 h _ (fun c t e => by injection e with e _; exact e.symm), e2]
theorem crlf_cr {B : List Nat} (h : ∀ c t, B = c :: t → c ≠ 10) : crlf (13 :: B) = 13 :: 10 :: crlf B := by
  cases B with
  | nil => rfl
  | cons c t => rw [crlf]; intro r z; injection z with z _; exact h c t rfl z
theorem mail_head {zs : List (List Nat)} (h : ∀ y ∈ zs, Plain y) : ∀ c t, jn CRLF zs = c :: t → c ≠ 10 := by
  intro c t e
  cases zs with
  | nil => cases e
  | cons y r =>
    cases y with
    | cons d y =>
      have : c = d := by
        cases r with
        | nil => injection e with e _; exact e.symm
        | cons z r => rw [jn] at e; injection e with e _; exact e.symm
      subst this
      exact (h _ (.head _) c (.head _)).1
    | nil =>
      cases r with
      | nil => cases e
      | cons z r => rw [jn] at e; simp [CRLF] at e; omega
noncomputable def ends7 : List (List Nat) := [[10], [13], [13, 10], [13, 13, 10], [10, 13, 46, 13, 13, 10], [11, 46, 10], [133, 46, 13]]
noncomputable def tailL (k : Nat) : List Nat := ([[], [], [], [], [], [11, 46], [133, 46]] : List (List Nat)).getD k []
theorem crlf_ends {B : List Nat} (h : ∀ c t, B = c :: t → c ≠ 10) (k : Nat) (hk : k < 7) : crlf (ends7.getD k [] ++ B) = tailL k ++ CRLF ++ (((moreL k).map (rowL 0)).flatMap fun y => y ++ CRLF) ++ crlf B := by
  have : k = 0 ∨ k = 1 ∨ k = 2 ∨ k = 3 ∨ k = 4 ∨ k = 5 ∨ k = 6 := by omega
  rcases this with q | q | q | q | q | q | q <;> subst q
  · show crlf (10 :: B) = _; rw [crlf]; rfl
  · show crlf (13 :: B) = _; rw [crlf_cr h]; rfl
  · show crlf (13 :: 10 :: B) = _; rw [crlf]; rfl
  · show crlf (13 :: (13 :: 10 :: B)) = _; rw [crlf_cr (fun c t e => by injection e with e _; omega), crlf]; rfl
  · show crlf (10 :: 13 :: 46 :: 13 :: 13 :: 10 :: B) = _
    rw [crlf, crlf_cr (fun c t e => by injection e with e _; omega)]
    have e1 : crlf (46 :: 13 :: 13 :: 10 :: B) = 46 :: crlf (13 :: 13 :: 10 :: B) := crlf_plain (y := [46]) (by intro c hc; simp at hc; omega) _
    rw [e1, crlf_cr (fun c t e => by injection e with e _; omega), crlf]; rfl
  · have e1 : crlf ([11, 46] ++ (10 :: B)) = [11, 46] ++ crlf (10 :: B) := crlf_plain (by intro c hc; simp at hc; omega) _
    show crlf ([11, 46] ++ (10 :: B)) = _
    rw [e1, crlf]; rfl
  · have e1 : crlf ([133, 46] ++ (13 :: B)) = [133, 46] ++ crlf (13 :: B) := crlf_plain (by intro c hc; simp at hc; omega) _
    show crlf ([133, 46] ++ (13 :: B)) = _
    rw [e1, crlf_cr h]; rfl
theorem qd_laid {rows : List Row} (h : ∀ r ∈ rows, RowOk r) {place k : Nat} (hp : place < rows.length) (hk : k < 7) {body : List Nat} (hb : Plain body) (ht : Plain (tailL k)) (hm : ∀ r ∈ moreL k, RowOk r) :
    qd (((rows.take place).map (rowL 0)).flatMap (fun y => y ++ CRLF) ++ (46 :: body ++ ends7.getD k []) ++ jn CRLF ((rows.drop place).map (rowL 0))) =
      mailL 0 (aged0 (rows.take place ++ [(1, body ++ tailL k)] ++ moreL k ++ rows.drop place)) := by
  have hd0 : rows.drop place ≠ [] := fun z => by rw [List.drop_eq_nil_iff] at z; omega
  have hT : ∀ r ∈ rows.take place, RowOk r := fun r hr => h r (List.mem_of_mem_take hr)
  have hD : ∀ r ∈ rows.drop place, RowOk r := fun r hr => h r (List.mem_of_mem_drop hr)
  have h1 : RowOk (1, body ++ tailL k) := ⟨hb.append ht, fun z => by cases z⟩
  have key : crlf (((rows.take place).map (rowL 0)).flatMap (fun y => y ++ CRLF) ++ (46 :: body ++ ends7.getD k []) ++ jn CRLF ((rows.drop place).map (rowL 0))) = mailL 0 (rows.take place ++ [(1, body ++ tailL k)] ++ moreL k ++ rows.drop place) := by
    rw [List.append_assoc, crlf_lines (mail_plain hT), List.append_assoc, crlf_plain (y := 46 :: body) (hb.cons (by decide)), crlf_ends (mail_head (mail_plain hD)) k hk, crlf_mail (mail_plain hD)]
    unfold mailL
    rw [List.map_append, ← jn_lines _ _ (by simpa using hd0)]
    simp only [List.map_append, List.map_cons, List.map_nil, List.flatMap_append, List.flatMap_cons, List.flatMap_nil, rowL]
    simp [reps_one]
  unfold qd
  rw [key]
  refine stuff_all (by simp) fun r hr => ?_
  simp only [List.mem_append, List.mem_singleton] at hr
  rcases hr with ((hr | rfl) | hr) | hr
  · exact hT r hr
  · exact h1
  · exact hm r hr
  · exact hD r hr
end Mine
end
section
open PySem PySem.W PyProof.Rows PySem.Spec
set_option Elab.async false
set_option linter.all false
set_option maxRecDepth 100000
namespace Mine
theorem lett_succ (n k : Nat) : lett n (k + 1) = lett (n / 16) k ++ (if 1 ≤ n then [65 + n % 16] else []) := by
  unfold lett
  rw [List.range_succ_eq_map, List.reverse_cons, List.filter_append, List.map_append, ← List.map_reverse, List.filter_map, List.map_map]
  congr 1
  · have e : ((fun i => decide (16 ^ i ≤ n)) ∘ Nat.succ) = fun i => decide (16 ^ i ≤ n / 16) := by
      funext i
      show decide (16 ^ (i + 1) ≤ n) = _
      rw [Nat.pow_succ]
      refine decide_eq_decide.mpr ?_
      rw [Nat.le_div_iff_mul_le (by decide)]
    rw [e]
    refine List.map_congr_left fun i _ => ?_
    show 65 + n / 16 ^ (i + 1) % 16 = _
    rw [Nat.pow_succ, Nat.mul_comm, Nat.div_div_eq_div_mul]
  · by_cases h : 1 ≤ n
    · simp [h]
    · simp [h]
theorem lett_ap : ∀ (k n : Nat), n < 16 ^ k → lett n k = ap n
  | 0, n, h => by
    have : n = 0 := by simpa using h
    subst this; rw [ap_zero]; rfl
  | k + 1, n, h => by
    rw [lett_succ, lett_ap k (n / 16) (by rw [Nat.pow_succ] at h; omega)]
    by_cases h0 : n = 0
    · subst h0; simp [ap_zero]
    · rw [ap_pos h0, if_pos (by omega)]
noncomputable def Let (y : List Nat) : Prop := ∀ c ∈ y, 65 ≤ c ∧ c < 81
theorem lett_let (n k : Nat) : Let (lett n k) := by
  intro c hc
  unfold lett at hc
  obtain ⟨i, _, rfl⟩ := List.mem_map.mp hc
  have : n / 16 ^ i % 16 < 16 := Nat.mod_lt _ (by decide)
  omega
noncomputable def wv (v : Int) (y : List Nat) : Int := y.foldl (fun (v : Int) (c : Nat) => 256 + 16 * (v - 256) + (c : Int) - 65) v
theorem wv_ap (n : Nat) : wv 256 (ap n) = 256 + (n : Int) := by
  induction n using Nat.strongRecOn with
  | ind n ih =>
    by_cases h : n = 0
    · subst h; rw [ap_zero]; rfl
    · rw [ap_pos h]
      unfold wv at ih ⊢
      rw [List.foldl_append, ih (n / 16) (by omega)]
      simp only [List.foldl_cons, List.foldl_nil]
      omega
theorem Lx.words {stop y r v out} (hy : Let y) (hs : ∀ c ∈ stop, c < 65 ∨ 81 ≤ c) (h : Lx stop r (wv v y) out) : Lx stop (y ++ r) v out := by
  induction y generalizing v with
  | nil => exact h
  | cons c y ih =>
    have hc := hy c (.head _)
    exact Lx.word (fun m => by have := hs c m; omega) hc.1 hc.2 (ih (fun d hd => hy d (.tail _ hd)) h)
theorem look_mem {l : List Nat} {k : Nat} : ∀ {t : List (List Nat × Nat)}, t.lookup l = some k → (l, k) ∈ t
  | [], h => nomatch h
  | (a, b) :: t, h => by
    rw [List.lookup_cons] at h
    by_cases e : (l == a) = true
    · rw [e] at h
      have := eq_of_beq e
      subst this
      cases h; exact .head _
    · rw [Bool.eq_false_iff.mpr e] at h
      exact .tail _ (look_mem h)
end Mine
end
section
open PySem PySem.W PyProof.Rows PySem.Spec
set_option Elab.async false
set_option linter.all false
set_option maxRecDepth 100000
set_option maxHeartbeats 1000000
namespace Mine
theorem rng_down53 : rng 52 (-1) 53 = ((List.range 53).reverse).map fun k : Nat => PyData.int k := by rfl
noncomputable def headL (a b d e f h i : List Nat) : List Nat := [40, 40] ++ a ++ [42] ++ e ++ [45] ++ b ++ [42] ++ d ++ [41, 42, 40] ++ e ++ [42] ++ i ++ [45] ++ f ++ [42] ++ h ++ [41, 45, 40]
noncomputable def claimL (a b c d e f g h i n : List Nat) : List Nat := headL a b d e f h i ++ b ++ [42] ++ f ++ [45] ++ c ++ [42] ++ e ++ [41, 42, 40] ++ d ++ [42] ++ h ++ [45] ++ e ++ [42] ++ g ++ [41, 41, 47, 47] ++ e ++ [61, 61] ++ n
theorem claimL_len {a b c d e f g h i n : List Nat} {k : Nat} (ha : a.length ≤ k) (hb : b.length ≤ k) (hc : c.length ≤ k) (hd : d.length ≤ k) (he : e.length ≤ k) (hf : f.length ≤ k) (hg : g.length ≤ k) (hh : h.length ≤ k) (hi : i.length ≤ k) (hn : n.length ≤ k) :
    (claimL a b c d e f g h i n).length ≤ 18 * k + 40 := by
  unfold claimL headL
  simp only [List.length_append, List.length_cons, List.length_nil]; omega
noncomputable def cutsL (n : Nat) (ds : List Int) : List Int := 0 :: (srt ((ds.take 4).map fun x => x.fmod ((n : Int) + 1)) ++ [(n : Int)])
noncomputable def piecesL (claim : List Nat) (ds : List Int) : List (List Nat) := (List.range 5).map fun t => slc claim (some ((cutsL claim.length ds).getD t 0)) (some ((cutsL claim.length ds).getD (t + 1) 0))
theorem srt_len (ns : List Int) : (srt ns).length = ns.length := (srt_perm ns).length_eq
theorem cutsL_len (n : Nat) {ds : List Int} (h : ds.length = 5) : (cutsL n ds).length = 6 := by
  unfold cutsL
  rw [List.length_cons, List.length_append, srt_len, List.length_map, List.length_take, h]; rfl
section
variable {prog : Program} {w : World} {mg mb : Str → Option Value}
theorem c_letters (G : (WL prog w mg mb).Glob) (n : Nat) : Fn (WL prog w mg mb) (.ref 122) 1 [nt n] (st (lett n 53)) := by
  refine Fn.of_at (nm := ["n"]) (gl := ["range"]) (ps := ["n"]) rfl rfl rfl rfl rfl rfl rfl (by decide +kernel) (bind1 fun _ => rfl) (.cons Put.i0 .nil) fun A s L hz bad bad' => ?_
  refine Ex.ret (d := st (lett n 53)) (Ev.eq (Ev.join (g := []) (ys := (lett n 53).map fun c => [c]) (Ev.strE (l := [])) (Ev.eq (Ev.comp1 (xs := (List.range 53).reverse) (di := fun k => .int k) (g := fun k => st [65 + n / 16 ^ k % 16]) (p := fun k => decide (16 ^ k ≤ n)) (own := ["k"]) (fr := ["n"]) (gl := [])
    (ns := ["k"]) (rng_down53 ▸ Iter.range (EvR.three (Ev.blt Mem.i0 (z_range G)) Ev.int (Ev.neg Ev.int) (Ev.neg Ev.int) (by decide) (by decide)) (by decide) (by decide)) rfl (by decide +kernel) (Ats.one At.i0) rfl rfl one_in (by decide) fun k hk C cs base hz bad led => ?_) ?_) ?_) (by rw [jn_sing])) fun s v O r => O.retD r
  · have hk' : k < 53 := by simpa using hk
    refine ⟨_, .name .here, .drop (.keep .nil), .one (Tst.cmp (EvC.geN (Ev.name At.i1) (Ev.powN (Ev.nat (n := 16)) (Ev.name At.i0) (bits16 _ (by omega))))), fun hp => ?_⟩
    exact Ev.itemSN (ds := AZ) (Ev.strE (l := AZ)) (Ev.fmodN (Ev.fdivN (Ev.name At.i1) (Ev.powN (Ev.nat (n := 16)) (Ev.name At.i0) (bits16 _ (by omega))) (Nat.ne_of_gt (Nat.pow_pos (by decide))) (log16 _ (by omega))) (Ev.nat (n := 16)) (by decide)) (AZ_get (Nat.mod_lt _ (by decide))) (by decide)
  · rw [List.map_map]
    unfold lett
    rw [List.map_map]
    rfl
  · rw [sing_sum]
    have := lett_len n 53
    have : sizeLine = 16777216 := by decide
    simp; omega
theorem c_claim (G : (WL prog w mg mb).Glob) (a b c d e f g h i n : List Nat) (ha : a.length ≤ 100) (hb : b.length ≤ 100) (hc : c.length ≤ 100) (hd : d.length ≤ 100) (he : e.length ≤ 100) (hf : f.length ≤ 100) (hg : g.length ≤ 100) (hh : h.length ≤ 100) (hi : i.length ≤ 100) (hn : n.length ≤ 100) :
    Fn (WL prog w mg mb) (.ref 129) 1 [.list [st a, st b, st c, st d, st e, st f, st g, st h, st i, st n]] (st (claimL a b c d e f g h i n)) := by
  have sz : sizeLine = 16777216 := by decide
  refine Fn.of_at (nm := ["words", "a", "b", "c", "d", "e", "f", "g", "h", "i", "n", "head"]) (gl := []) (ps := ["words"]) rfl rfl rfl rfl rfl rfl rfl (by decide +kernel) (bind1 fun _ => rfl) (.cons Put.i0 .nil) fun A s L hz bad bad' => ?_
  refine Ex.unp (Ev.name At.i0) (.cons (.cons (.cons (.cons (.cons (.cons (.cons (.cons (.cons (.cons .nil)))))))))) (.inl rfl) (.cons Put.i1 (.cons Put.i2 (.cons Put.i3 (.cons Put.i4 (.cons Put.i5 (.cons Put.i6 (.cons Put.i7 (.cons Put.i8 (.cons Put.i9 (.cons Put.i10 .nil)))))))))) ?_
  refine Ex.asg (d := st (headL a b d e f h i)) (Ev.cat (Ev.cat (Ev.cat (Ev.cat (Ev.cat (Ev.cat (Ev.cat (Ev.cat (Ev.cat (Ev.cat (Ev.cat (Ev.cat (Ev.cat (Ev.cat (Ev.cat (Ev.cat (Ev.strE (l := [40, 40])) (Ev.name At.i1) ?_) (Ev.strE (l := [42])) ?_) (Ev.name At.i5) ?_) (Ev.strE (l := [45])) ?_) (Ev.name At.i2) ?_) (Ev.strE (l := [42])) ?_) (Ev.name At.i4) ?_) (Ev.strE (l := [41, 42, 40])) ?_) (Ev.name At.i5) ?_) (Ev.strE (l := [42])) ?_) (Ev.name At.i9) ?_) (Ev.strE (l := [45])) ?_) (Ev.name At.i6) ?_) (Ev.strE (l := [42])) ?_) (Ev.name At.i8) ?_) (Ev.strE (l := [41, 45, 40])) ?_) Put.i11 ?_
  rotate_right
  have hhl : (headL a b d e f h i).length ≤ 820 := by
    unfold headL
    simp only [List.length_append, List.length_cons, List.length_nil]; omega
  refine Ex.ret (d := st (claimL a b c d e f g h i n)) (Ev.cat (Ev.cat (Ev.cat (Ev.cat (Ev.cat (Ev.cat (Ev.cat (Ev.cat (Ev.cat (Ev.cat (Ev.cat (Ev.cat (Ev.cat (Ev.cat (Ev.cat (Ev.cat (Ev.cat (Ev.cat (Ev.cat (Ev.name At.i11) (Ev.name At.i2) ?_) (Ev.strE (l := [42])) ?_) (Ev.name At.i6) ?_) (Ev.strE (l := [45])) ?_) (Ev.name At.i3) ?_) (Ev.strE (l := [42])) ?_) (Ev.name At.i5) ?_) (Ev.strE (l := [41, 42, 40])) ?_) (Ev.name At.i4) ?_) (Ev.strE (l := [42])) ?_) (Ev.name At.i8) ?_) (Ev.strE (l := [45])) ?_) (Ev.name At.i5) ?_) (Ev.strE (l := [42])) ?_) (Ev.name At.i7) ?_) (Ev.strE (l := [41, 41, 47, 47])) ?_) (Ev.name At.i5) ?_) (Ev.strE (l := [61, 61])) ?_) (Ev.name At.i10) ?_) fun s v O r => O.retD r
  all_goals (rw [sz]; (try simp only [List.length_append, List.length_cons, List.length_nil]); omega)
theorem c_pieces (G : (WL prog w mg mb).Glob) (claim : List Nat) (ds : List Int) (hd : ds.length = 5) (hc : claim.length ≤ 2 ^ 16) : Fn (WL prog w mg mb) (.ref 134) 1 [st claim, .list (ds.map .int)] (.list ((piecesL claim ds).map st)) := by
  have sz : sizeLine = 16777216 := by decide
  have hdl : (ds.map PyData.int).length = 5 := by rw [List.length_map, hd]
  have htl : ((ds.take 4).map fun x => x.fmod ((claim.length : Int) + 1)).length = 4 := by rw [List.length_map, List.length_take, hd]; rfl
  have c63 : (claim.length : Int) < 2 ^ 63 := by omega
  refine Fn.of_at (nm := ["claim", "draws", "cuts"]) (gl := ["sorted", "len", "range"]) (ps := ["claim", "draws"]) rfl rfl rfl rfl rfl rfl rfl (by decide +kernel) (bind2 fun _ _ => rfl) (.cons Put.i0 (.cons Put.i1 .nil)) fun A s L hz bad bad' => ?_
  refine Ex.asg (d := .list ((cutsL claim.length ds).map .int)) (Ev.eq (Ev.catL (Ev.catL (Ev.list (ds := [.int 0]) (.cons Ev.int .nil) (Nat.le_of_ble_eq_true rfl)) (Ev.call (Ev.blt Mem.i0 (z_sorted G)) (.builtin _) (.cons (Ev.eq (Ev.comp1 (xs := ds.take 4) (di := .int) (g := fun x => .int (x.fmod ((claim.length : Int) + 1))) (p := fun _ => true) (own := ["x"]) (fr := ["claim"]) (gl := ["len"]) (ns := ["x"])
    (Iter.list (Ev.eq (Ev.takeL (Ev.name At.i1) (Ev.nat (n := 4)) (by rw [hdl, sz]; omega)) (by rw [List.map_take]))) rfl (by decide +kernel) (Ats.one At.i0) rfl rfl one_in (by rw [List.length_take, hd, sz]; omega) (fun x hx C cs base hz bad led => ⟨_, .name .here, .drop (.keep .nil), .nil, fun _ => Ev.fmod (Ev.name At.i0) (Ev.add (Ev.call (Ev.blt Mem.i0 (z_len G)) (.builtin _) (.cons (Ev.name At.i1) .nil) (Fn.len_str c63) (Nat.zero_le _)) Ev.int) (by omega)⟩)) (b := .list (((ds.take 4).map fun x => x.fmod ((claim.length : Int) + 1)).map .int)) ?e1) .nil) (Fn.sorted (by rw [htl]; decide)) (Nat.zero_le _)) ?s1) (Ev.list (ds := [nt claim.length]) (.cons (Ev.call (Ev.blt Mem.i1 (z_len G)) (.builtin _) (.cons (Ev.name At.i0) .nil) (Fn.len_str c63) (Nat.zero_le _)) .nil) (Nat.le_of_ble_eq_true rfl)) ?s2) ?e2) Put.i2 ?_
  case e1 => rw [map_true, List.map_map]; rfl
  case s1 => rw [List.length_map, srt_len, htl]; decide
  case s2 => rw [List.length_append, List.length_map, srt_len, htl]; show 1 + 4 + 1 ≤ sizeLine; decide
  case e2 => unfold cutsL; simp
  have hcl := cutsL_len claim.length hd
  have hci : ∀ t : Nat, t < 6 → ((cutsL claim.length ds).map PyData.int)[t]? = some (.int ((cutsL claim.length ds).getD t 0)) := by
    intro t ht
    rw [List.getElem?_map, List.getD_eq_getElem?_getD, List.getElem?_eq_getElem (by omega)]; rfl
  have hcs : ((cutsL claim.length ds).map PyData.int).length ≤ sizeLine := by rw [List.length_map, hcl]; decide
  refine Ex.ret (d := .list ((piecesL claim ds).map st)) (Ev.eq (Ev.comp1 (xs := List.range 5) (di := fun t : Nat => .int (0 + (t : Int) * 1)) (g := fun t => st (slc claim (some ((cutsL claim.length ds).getD t 0)) (some ((cutsL claim.length ds).getD (t + 1) 0)))) (p := fun _ => true) (own := ["t"]) (fr := ["claim", "cuts"]) (gl := []) (ns := ["t"])
    (Iter.range (a := 0) (b := 5) (c := 1) (n := 5) (EvR.one (Ev.blt Mem.i2 (z_range G)) Ev.int) (by decide) (by decide)) rfl (by decide +kernel) (Ats.two At.i0 At.i2) rfl rfl one_in (by decide) (fun t ht C cs base hz bad led => ⟨_, .name .here, .drop (.keep (.keep .nil)), .nil, fun _ => ?_⟩)) ?e3) fun s v O r => O.retD r
  · have ht' : t < 5 := by simpa using ht
    have ek : ((0 : Int) + (t : Int) * 1) = ((t : Nat) : Int) := by omega
    rw [ek]
    exact Ev.sliceS (Ev.name At.i1) (EvO.some (Ev.itemLN (Ev.name At.i2) (Ev.name At.i0) (hci t (by omega)) hcs)) (EvO.some (Ev.itemLN (Ev.name At.i2) (Ev.addN (Ev.name At.i0) (Ev.nat (n := 1))) (hci (t + 1) (by omega)) hcs)) (by rw [sz]; omega)
  case e3 => rw [map_true]; unfold piecesL; rw [List.map_map]; rfl
end
end Mine
end
section
open PySem PySem.W PyProof.Rows PySem.Spec
set_option Elab.async false
set_option linter.all false
set_option maxRecDepth 100000
set_option maxHeartbeats 1000000
namespace Mine
noncomputable def aged (rows : List Row) : List Row := rows.map fun r => (if r.1 = 0 then 0 else r.1 + 1, r.2)
theorem aged_is (rows : List Row) : aged rows = aged0 rows := rfl
noncomputable def laid (rows : List Row) (place : Nat) (text : List Nat) (more : List Row) : List Row := aged (rows.take place ++ [(1, text)] ++ more ++ rows.drop place)
noncomputable def kindS (x : Int) : Nat := (x.fmod 7).toNat
noncomputable def placeS (x : Int) (n : Nat) : Nat := ((x.fdiv 7).fmod n).toNat
noncomputable def streamL (w4 : List Nat) (ps : List (List Nat)) (ds : List Int) : Nat → List Row
  | 0 => [(0, w4)]
  | t + 1 =>
    let rows := streamL w4 ps ds t
    let x := ds.getD t 0
    laid rows (placeS x rows.length) (ps.getD t [] ++ tailL (kindS x)) (moreL (kindS x))
theorem fmodNat {a : Int} {n : Nat} (h : n ≠ 0) : a.fmod n = ((a.fmod n).toNat : Int) ∧ (a.fmod n).toNat < n := by
  have h1 : 0 ≤ a.fmod n := Int.fmod_nonneg_of_pos _ (by omega)
  have h2 : a.fmod n < n := Int.fmod_lt_of_pos _ (by omega)
  omega
theorem laid_len (rows : List Row) (p : Nat) (t : List Nat) (m : List Row) : (laid rows p t m).length = rows.length + 1 + m.length := by
  unfold laid aged
  simp only [List.length_map, List.length_append, List.length_take, List.length_drop, List.length_cons, List.length_nil]; omega
theorem moreL_len (k : Nat) : (moreL k).length ≤ 3 := by
  unfold moreL
  have : ∀ k : Nat, k < 7 → (([[], [], [], [(0, [])], [(0, []), (1, []), (0, [])], [], []] : List (List Row)).getD k []).length ≤ 3 := by decide
  rcases Nat.lt_or_ge k 7 with h | h
  · exact this k h
  · rw [List.getD_eq_getElem?_getD, List.getElem?_eq_none (by simpa using h)]; simp
theorem streamL_len (w4 : List Nat) (ps : List (List Nat)) (ds : List Int) : ∀ t, 1 ≤ (streamL w4 ps ds t).length ∧ (streamL w4 ps ds t).length ≤ 1 + 4 * t
  | 0 => by simp [streamL]
  | t + 1 => by
    have := streamL_len w4 ps ds t
    rw [streamL]
    simp only [laid_len]
    have := moreL_len (kindS (ds.getD t 0))
    omega
section
variable {prog : Program} {w : World} {mg mb : Str → Option Value}
theorem c_stream (G : (WL prog w mg mb).Glob) (a b c d e f g h i n : List Nat) (ha : a.length ≤ 100) (hb : b.length ≤ 100) (hc : c.length ≤ 100) (hd : d.length ≤ 100) (he : e.length ≤ 100) (hf : f.length ≤ 100) (hg : g.length ≤ 100) (hh : h.length ≤ 100) (hi : i.length ≤ 100) (hn : n.length ≤ 100) (ds : List Int) (hds : ds.length = 5) :
    Fn (WL prog w mg mb) (.ref 156) 3 [.list [st a, st b, st c, st d, st e, st f, st g, st h, st i, st n], .list (ds.map .int)] (.list ((streamL e (piecesL (claimL a b c d e f g h i n) ds) ds 5).map rowD)) := by
  have sz : sizeLine = 16777216 := by decide
  have hcl := claimL_len ha hb hc hd he hf hg hh hi hn
  refine Fn.of_at (nm := ["words", "draws", "stream", "piece", "x", "text", "more", "place"]) (gl := ["_law_pieces", "_law_claim", "len", "zip"]) (ps := ["words", "draws"]) rfl rfl rfl rfl rfl rfl rfl (by decide +kernel) (bind2 fun _ _ => rfl) (.cons Put.i0 (.cons Put.i1 .nil)) fun A s L hz bad bad' => ?_
  refine Ex.asg (d := .list ((streamL e (piecesL (claimL a b c d e f g h i n) ds) ds 0).map rowD)) (Ev.list (.cons (Ev.list (.cons (Ev.nat (n := 0)) (.cons (Ev.itemLN (Ev.name At.i0) (Ev.nat (n := 4)) rfl (Nat.le_of_ble_eq_true rfl)) .nil)) (Nat.le_of_ble_eq_true rfl)) .nil) (Nat.le_of_ble_eq_true rfl)) Put.i2 ?_
  generalize hcc : claimL a b c d e f g h i n = claim at hcl ⊢
  have hpl : (piecesL claim ds).length = 5 := by unfold piecesL; rw [List.length_map, List.length_range]
  have hpe : ∀ p ∈ piecesL claim ds, p.length ≤ 2000 := by
    intro p hp
    unfold piecesL at hp
    obtain ⟨t, _, rfl⟩ := List.mem_map.mp hp
    have := slc_le claim (some ((cutsL claim.length ds).getD t 0)) (some ((cutsL claim.length ds).getD (t + 1) 0))
    omega
  refine Ex.for (ns := ["piece", "x"]) (Iter.zip (as := (piecesL claim ds).map st) (bs := ds.map .int) (Ev.blt Mem.i3 (z_zip G)) (Ev.call (Ev.glob Mem.i0 (G.g _ _ g_pieces)) (.fn rfl rfl) (.cons (Ev.call (Ev.glob Mem.i1 (G.g _ _ g_claim)) (.fn rfl rfl) (.cons (Ev.name At.i0) .nil) (hcc ▸ c_claim G a b c d e f g h i n ha hb hc hd he hf hg hh hi hn) (Nat.le_of_ble_eq_true rfl)) (.cons (Ev.name At.i1) .nil)) (c_pieces G claim ds hds (by omega)) (Nat.le_of_ble_eq_true rfl)) (Ev.name At.i1))
    (fun k vs led => led = [] ∧ vs = [.val (.list [st a, st b, st c, st d, st e, st f, st g, st h, st i, st n]), .val (.list (ds.map .int)), .val (.list ((streamL e (piecesL claim ds) ds k).map rowD)), .no, .no, .no, .no, .no])
    (fun vs led => led = [] ∧ vs = [.val (.list [st a, st b, st c, st d, st e, st f, st g, st h, st i, st n]), .val (.list (ds.map .int)), .val (.list ((streamL e (piecesL claim ds) ds 5).map rowD)), .no, .no, .no, .no, .no]) ⟨rfl, rfl⟩ ?_ ?_ ?_ ?_
  · rintro k dd vs led hz' bad'' fp P hdd ⟨rfl, rfl⟩
    obtain ⟨u, v, hu, hv, rfl⟩ := zips_get hdd
    rw [List.getElem?_map] at hu hv
    cases hpk : (piecesL claim ds)[k]? with
    | none => rw [hpk] at hu; cases hu
    | some pc =>
    cases hxk : ds[k]? with
    | none => rw [hxk] at hv; cases hv
    | some x =>
    rw [hpk] at hu; cases hu
    rw [hxk] at hv; cases hv
    refine ⟨_, .names (.cons (.cons .nil)) (.inr rfl) (.cons Put.i3 (.cons Put.i4 .nil)), ?_⟩
    have hpc := hpe pc (List.mem_of_getElem? hpk)
    have hg1 : (piecesL claim ds).getD k [] = pc := by rw [List.getD_eq_getElem?_getD, hpk]; rfl
    have hg2 : ds.getD k 0 = x := by rw [List.getD_eq_getElem?_getD, hxk]; rfl
    have hk5 : k < 5 := by have := (List.getElem?_eq_some_iff.mp hxk).1; omega
    have hsl := streamL_len e (piecesL claim ds) ds k
    have hst0 : streamL e (piecesL claim ds) ds (k + 1) = laid (streamL e (piecesL claim ds) ds k) (placeS x (streamL e (piecesL claim ds) ds k).length) (pc ++ tailL (kindS x)) (moreL (kindS x)) := by
      rw [streamL]; simp only [hg1, hg2]
    generalize hrows : streamL e (piecesL claim ds) ds k = rows at hsl hst0 ⊢
    have hrl : (rows.map rowD).length ≤ sizeLine := by rw [List.length_map, sz]; omega
    have hkind := fmodNat (a := x) (n := 7) (by decide)
    have hplace := fmodNat (a := x.fdiv 7) (n := rows.length) (by omega)
    have hk7 : kindS x < 7 := hkind.2
    have htl : ((([[], [], [], [], [], [11, 46], [133, 46]] : List (List Nat))).map st)[kindS x]? = some (st (tailL (kindS x))) := by
      have : ∀ j : Nat, j < 7 → ([[], [], [], [], [], [11, 46], [133, 46]] : List (List Nat))[j]? = some (tailL j) := by decide
      rw [List.getElem?_map, this _ hk7]; rfl
    have htll : (tailL (kindS x)).length ≤ 2 := by
      have : ∀ j : Nat, j < 7 → (tailL j).length ≤ 2 := by decide
      exact this _ hk7
    refine Ex.asg (d := st (pc ++ tailL (kindS x))) (Ev.cat (Ev.name At.i3) (Ev.itemLN (Ev.list (ds := (([[], [], [], [], [], [11, 46], [133, 46]] : List (List Nat))).map st) (.cons Ev.strE (.cons Ev.strE (.cons Ev.strE (.cons Ev.strE (.cons Ev.strE (.cons Ev.strE (.cons Ev.strE .nil))))))) (Nat.le_of_ble_eq_true rfl)) (Ev.eq (Ev.fmod (Ev.name At.i4) Ev.int (by decide)) (congrArg PyData.int hkind.1)) htl (Nat.le_of_ble_eq_true rfl)) (by rw [sz]; omega)) Put.i5 ?_
    have hml := moreL_len (kindS x)
    have hmr : ((moreL (kindS x)).map rowD).length ≤ 3 := by rw [List.length_map]; exact hml
    have hmg := moreD_get hk7
    generalize hY : moreL (kindS x) = Y at hml hmr hmg hst0
    generalize hX : pc ++ tailL (kindS x) = X at hst0 ⊢
    refine Ex.asg (d := .list (Y.map rowD)) (vs' := _) ?h1 Put.i6 ?_
    case h1 =>
      refine Ev.itemLN (ds := moreD) (i := kindS x) ?_ ?_ ?_ ?_
      · with_reducible exact Ev.mores
      · exact Ev.eq (Ev.fmod (Ev.name At.i4) Ev.int (by decide)) (congrArg PyData.int hkind.1)
      · exact hmg
      · exact moreD_len
    have hrn : (rows.map rowD).length = rows.length := List.length_map ..
    have hplc : (x.fdiv 7).fmod (((rows.map rowD).length : Nat) : Int) = ((placeS x rows.length : Nat) : Int) := by rw [hrn]; exact hplace.1
    have hl63 : ((rows.map rowD).length : Int) < 2 ^ 63 := by rw [hrn]; omega
    have hl0 : ((rows.map rowD).length : Int) ≠ 0 := by rw [hrn]; omega
    refine Ex.asg (d := nt (placeS x rows.length)) (Ev.eq (Ev.fmod (b := ((rows.map rowD).length : Int)) (Ev.fdiv (Ev.name At.i4) (Ev.int (i := 7)) (by decide) (by decide)) (Ev.call (Ev.blt Mem.i2 (z_len G)) (.builtin _) (.cons (Ev.name At.i2) .nil) (Fn.len_list hl63) (Nat.zero_le _)) hl0) (congrArg PyData.int hplc)) Put.i7 ?_
    generalize hP : placeS x rows.length = P0 at hst0 ⊢
    have hst : streamL e (piecesL claim ds) ds (k + 1) = aged (rows.take P0 ++ [(1, X)] ++ Y ++ rows.drop P0) := hst0
    generalize hZ : rows.take P0 ++ [(1, X)] ++ Y ++ rows.drop P0 = Z at hst
    have hZl : Z.length ≤ 1000 := by rw [← hZ]; simp only [List.length_append, List.length_take, List.length_drop, List.length_cons, List.length_nil]; omega
    refine Ex.asg (d := .list (Z.map rowD)) (Ev.eq (Ev.catL (Ev.catL (Ev.catL (Ev.takeL (Ev.name At.i2) (Ev.name At.i7) hrl) (Ev.list (ds := [rowD (1, X)]) (.cons (Ev.list (ds := [nt 1, st X]) (.cons (Ev.nat (n := 1)) (.cons (Ev.name At.i5) .nil)) (Nat.le_of_ble_eq_true rfl)) .nil) (Nat.le_of_ble_eq_true rfl)) ?_) (Ev.name At.i6) ?_) (Ev.dropL (Ev.name At.i2) (Ev.name At.i7) hrl) ?_) ?_) Put.i2 ?_
    · simp only [List.length_take, List.length_map, List.length_cons, List.length_nil]; rw [sz]; omega
    · simp only [List.length_append, List.length_take, List.length_map, List.length_cons, List.length_nil]; rw [sz]; omega
    · simp only [List.length_append, List.length_take, List.length_drop, List.length_map, List.length_cons, List.length_nil]; rw [sz]; omega
    · rw [← hZ]; simp only [List.map_append, List.map_take, List.map_drop, List.map_cons, List.map_nil]
    refine Ex.cmp1 (xs := Z) (di := rowD) (g := fun r => rowD (if r.1 = 0 then 0 else r.1 + 1, r.2)) (p := fun _ => true) (own := ["dots", "row"]) (fr := []) (gl := []) (ns := ["dots", "row"])
      (Iter.list (Ev.name At.i2)) rfl (by decide +kernel) .nil rfl rfl two_in (by rw [sz]; omega)
      (fun r hr C cs base hz bad led => ⟨_, .names (.cons (.cons .nil)) (.inl rfl) (.cons .here (.cons Put.i1 .nil)), .drop (.drop .nil), .nil, fun _ => ?_⟩) Put.i2 ?_
    · refine Ev.list (ds := [nt (if r.1 = 0 then 0 else r.1 + 1), st r.2]) (.cons (Ev.eq (Ev.iteN (c := r.1 != 0) (Tst.val (Ev.name At.i0) trivial (by cases r.1 <;> rfl)) (Ev.addN (Ev.name At.i0) (Ev.nat (n := 1))) (Ev.nat (n := 0))) ?_) (.cons (Ev.name At.i1) .nil)) (Nat.le_of_ble_eq_true rfl)
      by_cases h : r.1 = 0 <;> simp [h]
    refine Ex.nil fun s' O => ⟨bad'', _, [], ⟨rfl, rfl⟩, ?_⟩
    have ez : (Z.filter fun _ => true).map (fun r => rowD (if r.1 = 0 then 0 else r.1 + 1, r.2)) = (streamL e (piecesL claim ds) ds (k + 1)).map rowD := by rw [map_true, hst, aged, List.map_map]; rfl
    rw [ez] at O
    exact O.forget (.keep (.keep (.keep (.drop (.drop (.drop (.drop (.drop .nil))))))))
  · rintro vs led ⟨rfl, rfl⟩
    refine ⟨rfl, ?_⟩
    have : (zips ((piecesL claim ds).map st) (ds.map .int)).length = 5 := by unfold zips; rw [List.length_map, List.length_zip, List.length_map, List.length_map, hpl, hds]; rfl
    rw [this]
  · rintro vs led bad ⟨rfl, rfl⟩
    exact Ex.ret (Ev.name At.i2) fun s v O r => O.retD r
  · intro n hn
    cases hn with
    | head => exact Mem.i3
    | tail _ h => cases h with
      | head => exact Mem.i4
      | tail _ h => cases h
end
end Mine
end
section
open PySem PySem.W PyProof.Rows PySem.Spec
set_option Elab.async false
set_option linter.all false
set_option maxRecDepth 100000
set_option maxHeartbeats 4000000
namespace Mine
section
variable {prog : Program} {w : World} {A : Around} {E : Value → Shared → Prop} {s : Shared} {h0 : Heap} {a kS : Addr} {vs : List Value} {kz : List Int} {keys : Array Value} {e e1 : Nat} {P : PySem.Fin → Shared → Prop} {R : Array Value → Array Keyed → Prop}
theorem ext_turn {h : Heap} {g : Obj → Obj} (x : Ext h0 h) (h1 : h0.get? a = none) : Ext h0 (h.update a g) := fun b o e =>
  ((Heap.SameBut.update h a g).2 b fun q => by rw [q, h1] at e; cases e).trans (x b o e)
theorem skx_tail {st : SortSt} (x : Ext h0 s.heap) (nk : s.heap.get? kS = some (seqObj "list" keys e)) (na : s.heap.get? a = some (seqObj "list" #[] e1)) (hka : kS ≠ a) (hk0 : h0.get? kS = none) (ha0 : h0.get? a = none)
    (hsz : keys.size = vs.length) (h64 : vs.length < 64) (hp : (arrOf st).Perm (keys.zip vs.toArray)) (hfl : failedOf st = none)
    (h : ∀ h' tk c, Ext h0 h' → h'.get? a = some (seqObj "list" ((arrOf st).map (·.2)) c) → P (.done (.ret .none)) { s with heap := h', toks := tk }) :
    wpAny (model prog w) A (ksk_tail a false e1 (.ref kS) st) P E s := by
  have hsz2 : (arrOf st).size = vs.length := by rw [hp.size_eq, Array.size_zip, hsz, List.size_toArray, Nat.min_self]
  have hout : ((arrOf st).map (·.2)).size = vs.length := by rw [Array.size_map]; exact hsz2
  have s1 := Heap.SameBut.update s.heap kS (Obj.mapSeq fun _ => (#[] : Array Value))
  have na1 : (s.heap.update kS (Obj.mapSeq fun _ => (#[] : Array Value))).get? a = some (seqObj "list" #[] e1) := (s1.2 a hka.symm).trans na
  obtain ⟨c2, hc2⟩ : ∃ c2, ((s.heap.update kS (Obj.mapSeq fun _ => (#[] : Array Value))).update a (Obj.mapSeq fun _ => (arrOf st).map (·.2))).get? a = some (seqObj "list" ((arrOf st).map (·.2)) c2) :=
    ⟨_, get?_update_seq na1 fun _ => (arrOf st).map (·.2)⟩
  unfold ksk_tail
  try dsimp only
  refine wpAny_bind (listUpdate_at nk rfl ?_ (by rw [hsz, sizeLine_eq]; omega) (Nat.zero_le _))
  refine wpAny_bind (wpAny_letGo ?_)
  refine wpAny_bind (seqEpoch_at na1 rfl ?_)
  refine wpAny_bind (listUpdate_at na1 rfl ?_ (Nat.zero_le _) (Nat.le_trans (Nat.le_of_eq (by simpa using hout)) (by rw [sizeLine_eq]; omega)))
  rw [hfl]
  simp only [bne_self_eq_false, Bool.false_eq_true, if_false]
  exact wpAny_pure (h _ _ c2 (ext_turn (ext_turn x hk0) ha0) hc2)

noncomputable def SortsTo (prog : Program) (w : World) (kz : List Int) (vs : List Value) (R : Array Value → Array Keyed → Prop) : Prop :=
  ∀ keys : Array Value, IntsAre keys.toList kz → (vs.length < 2 → R keys (keys.zip vs.toArray)) ∧ (2 ≤ vs.length → ∀ (A : Around) (E : Value → Shared → Prop) (s : Shared),
    wpS (model prog w) A E s sortRuns' (fun _ st' => (arrOf st').Perm (keys.zip vs.toArray) ∧ failedOf st' = none ∧ R keys (arrOf st')) (SortSt.mk' oneType' (keys.zip vs.toArray) #[] 7 none))

theorem skx_end (x : Ext h0 s.heap) (nk : s.heap.get? kS = some (seqObj "list" keys e)) (na : s.heap.get? a = some (seqObj "list" #[] e1)) (hka : kS ≠ a) (hk0 : h0.get? kS = none) (ha0 : h0.get? a = none)
    (hk : IntsAre keys.toList kz) (hlen : kz.length = vs.length) (h64 : vs.length < 64) (hS : SortsTo prog w kz vs R)
    (h : ∀ h' tk arr c, Ext h0 h' → h'.get? a = some (seqObj "list" (arr.map (·.2)) c) → R keys arr → P (.done (.ret .none)) { s with heap := h', toks := tk }) :
    wpAny (model prog w) A (ksk_end a false vs.toArray e1 (.ref kS) keys) P E s := by
  have hsz : keys.size = vs.length := by
    have h1 := hk.length
    rw [Array.length_toList] at h1
    omega
  unfold ksk_end
  simp only [Bool.false_eq_true, if_false]
  by_cases h2 : vs.toArray.size < 2
  · rw [if_pos h2, if_pos h2]
    refine wpAny_bind (wpAny_pure ?_)
    rw [StateT.run_pure]
    refine wpAny_bind (wpAny_pure ?_)
    try dsimp only
    exact skx_tail (st := SortSt.mk' general' (keys.zip vs.toArray) #[] 7 none) x nk na hka hk0 ha0 hsz h64 (Array.Perm.refl _) rfl fun h' tk c a1 a2 => h h' tk _ c a1 a2 ((hS keys hk).1 (by simpa using h2))
  · rw [if_neg h2, if_neg h2]
    rw [List.size_toArray] at h2
    rw [ksk_kind hk (by rw [hsz]; omega)]
    refine wpAny_bind (wpAny_pure ?_)
    refine wpAny_bind (wpAny_mono ((hS keys hk).2 (by omega) A E s) ?_ fun _ _ e => e)
    rintro ⟨⟨⟩, st'⟩ s' ⟨rfl, hp, hf, hs⟩
    try dsimp only
    exact skx_tail x nk na hka hk0 ha0 hsz h64 hp hf fun h' tk c a1 a2 => h h' tk _ c a1 a2 hs

theorem skx_rest {f : Value} (x : Ext h0 s.heap) (nk0 : s.heap.get? kS = some (seqObj "list" #[] 0)) (na0 : s.heap.get? a = some (seqObj "list" #[] e1)) (hka : kS ≠ a) (hk0 : h0.get? kS = none) (ha0 : h0.get? a = none)
    (hlen : kz.length = vs.length) (h64 : vs.length < 64) (hS : SortsTo prog w kz vs R)
    (turn : ∀ (i : Nat) (v : Value) (k : Int), vs[i]? = some v → kz[i]? = some k → ∀ (h : Heap) (tk : Nat), Ext h0 h →
      wpAny (model prog w) A (call f [v]) (fun u s' => Step { s with heap := h, toks := tk } s' ∧ ∃ t, u = .int k t) No { s with heap := h, toks := tk })
    (h : ∀ h' tk keys arr c, Ext h0 h' → h'.get? a = some (seqObj "list" (arr.map (·.2)) c) → IntsAre keys.toList kz → R keys arr → P (.done (.ret .none)) { s with heap := h', toks := tk }) :
    wpAny (model prog w) A (ksk_rest a f false vs.toArray e1 (.ref kS)) P E s := by
  unfold ksk_rest
  refine wpAny_bind (wpAny_rule ?_)
  first
    | rw [List.forIn_toArray]
    | (rw [← Array.forIn_toList]; simp only [List.toList_toArray])
    | rw [← Array.forIn_toList]
  refine wpAny_bind (ksk_fold (fun i s' => ∃ h' tk kA e, s' = { s with heap := h', toks := tk } ∧ Ext h0 h' ∧ h'.get? kS = some (seqObj "list" kA e) ∧ h'.get? a = some (seqObj "list" #[] e1) ∧ IntsAre kA.toList (kz.take i)) vs 0 s
    ⟨s.heap, s.toks, #[], 0, rfl, x, nk0, na0, by simpa using IntsAre.nil⟩ ?step ?done)
  case step =>
    rintro j y s' hx ⟨h', tk, kA, e, rfl, x', nk, na, hk⟩
    simp only [Nat.zero_add] at hk ⊢
    have hj : j < vs.length := (List.getElem?_eq_some_iff.mp hx).1
    obtain ⟨k, hkj⟩ : ∃ k, kz[j]? = some k := ⟨_, List.getElem?_eq_getElem (by omega)⟩
    have hz : kA.size ≤ vs.length := by
      have h1 := hk.length
      rw [Array.length_toList, List.length_take] at h1
      omega
    refine wpAny_bind (wpAny_attempt (wpAny_mono (turn j y k hx hkj h' tk x') (fun v s'' he => ?_) fun _ _ hF => hF.elim))
    obtain ⟨st, t2, rfl⟩ := he
    obtain ⟨g, tk2, rfl, xg⟩ := st
    try dsimp only
    have nk2 := xg _ _ nk
    have na2 := xg _ _ na
    have s1 := Heap.SameBut.update g kS (Obj.mapSeq (·.push (.int k t2)))
    obtain ⟨c2, hc2⟩ : ∃ c2, (g.update kS (Obj.mapSeq (·.push (.int k t2)))).get? kS = some (seqObj "list" (kA.push (.int k t2)) c2) := ⟨_, get?_update_seq nk2 (·.push (.int k t2))⟩
    have ek : kz.take (j + 1) = kz.take j ++ [k] := by rw [List.take_add_one, hkj]; simp
    have ea : (kA.push (Value.int k t2)).toList = kA.toList ++ [Value.int k t2] := by simp
    refine wpAny_bind (listUpdate_at nk2 rfl ?_ (by rw [sizeLine_eq]; omega) (Nat.le_trans (Nat.le_of_eq (Array.size_push ..)) (by rw [sizeLine_eq]; omega)))
    exact wpAny_pure ⟨rfl, _, _, kA.push (.int k t2), c2, rfl, ext_turn (x'.trans xg) hk0, hc2, (s1.2 a hka.symm).trans na2, by rw [ea, ek]; exact ksk_snoc hk⟩
  case done =>
    rintro s' ⟨h', tk, kA, e, rfl, x', nk, na, hk⟩
    have hk' : IntsAre kA.toList kz := by
      have e3 : kz.take (0 + vs.length) = kz := List.take_of_length_le (by omega)
      rw [e3] at hk
      exact hk
    try dsimp only
    refine wpAny_bind (listItems_at nk rfl ?_)
    exact skx_end x' nk na hka hk0 ha0 hk' hlen h64 hS fun h3 tk3 arr c a1 a2 a3 => h h3 tk3 kA arr c a1 a2 hk' a3

theorem skx_sorted {l q : Addr} {Q : Value → Shared → Prop} (hl : s.heap.IsList l vs.toArray) (hlen : kz.length = vs.length) (h64 : vs.length < 64) (hS : SortsTo prog w kz vs R)
    (turn : ∀ (i : Nat) (v : Value) (k : Int), vs[i]? = some v → kz[i]? = some k → ∀ (h : Heap) (tk : Nat), Ext s.heap h →
      wpAny (model prog w) A.in1.in1 (call (.ref q) [v]) (fun u s' => Step { s with heap := h, toks := tk } s' ∧ ∃ t, u = .int k t) No { s with heap := h, toks := tk })
    (h : ∀ D h' tk keys arr c, Ext s.heap h' → s.heap.get? D = none → h'.get? D = some (seqObj "list" (arr.map (·.2)) c) → IntsAre keys.toList kz → R keys arr → Q (.ref D) { s with heap := h', toks := tk }) :
    wpAny (model prog w) A (call (.builtin "sorted") [.ref l] [(Str.ofString "key", .ref q)]) Q E s := by
  refine call_function_entry_kw kind_sorted plain_sorted entry_sorted (ksk_s1 _ _) ?_
  unfold Builtin.«sorted»
  refine wpAny_bind (m := checkCount "sorted" 1 1 _) (wpAny_pure ?_)
  refine wpAny_bind (collect_list hl ?_ (by rw [sizeLine_eq]; omega))
  refine wpAny_bind (wpAny_newList ?_ (by rw [sizeLine_eq]; omega))
  have hsz : ((s.heap.push (seqObj "list" #[] 0)).update s.heap.objs.size (Obj.mapSeq (· ++ vs.toArray))).objs.size = s.heap.objs.size + 1 := by
    rw [Heap.size_update, size_push']
  have hoL : (((s.heap.push (seqObj "list" #[] 0)).update s.heap.objs.size (Obj.mapSeq (· ++ vs.toArray))).push (seqObj "list" vs.toArray 0)).get? (s.heap.objs.size + 1) = some (seqObj "list" vs.toArray 0) := by
    rw [← hsz]; exact Heap.get?_push_size _ rfl
  have keep : Ext s.heap (((s.heap.push (seqObj "list" #[] 0)).update s.heap.objs.size (Obj.mapSeq (· ++ vs.toArray))).push (seqObj "list" vs.toArray 0)) := fun b o q => by
    have hlt : b < s.heap.objs.size := Heap.lt_size q
    rw [Heap.get?_push_ne _ _ _ (by rw [hsz]; exact Nat.ne_of_lt (Nat.lt_succ_of_lt hlt)), Heap.get?_update_ne _ _ _ _ (Nat.ne_of_lt hlt), Heap.get?_push_ne _ _ _ (Nat.ne_of_lt hlt)]
    exact q
  show wpAny _ _ _ _ _ { s with heap := ((s.heap.push (seqObj "list" #[] 0)).update s.heap.objs.size (Obj.mapSeq (· ++ vs.toArray))).push (seqObj "list" vs.toArray 0) }
  rw [hsz]
  have fresh : ∀ b : Nat, s.heap.objs.size ≤ b → s.heap.get? b = none := fun b hb => Heap.get?_none_of_le hb
  refine wpAny_bind (wpAny_holding (wpAny_call_entry_kw slot_list_sort ⟨_, hoL, rfl⟩ entry_list_sort ?body (ksk_l1 _ _)))
  case body =>
    show wpAny (model prog w) A.in1.in1 (Builtin.«list.sort» ⟨[.ref (s.heap.objs.size + 1)], [(Str.ofString "key", .ref q)]⟩) _ _ _
    rw [ksk_t1]
    generalize hH : ((s.heap.push (seqObj "list" #[] 0)).update s.heap.objs.size (Obj.mapSeq (· ++ vs.toArray))).push (seqObj "list" vs.toArray 0) = H at hoL keep
    generalize ha : s.heap.objs.size + 1 = a at hoL
    have ha1 : s.heap.get? a = none := fresh a (by rw [← ha]; exact Nat.le_succ _)
    have s1 := Heap.SameBut.update H a (Obj.mapSeq fun _ => (#[] : Array Value))
    obtain ⟨e1, ho1⟩ : ∃ e1, (H.update a (Obj.mapSeq fun _ => (#[] : Array Value))).get? a = some (seqObj "list" #[] e1) := ⟨_, get?_update_seq hoL fun _ => #[]⟩
    have x1 : Ext s.heap (H.update a (Obj.mapSeq fun _ => (#[] : Array Value))) := ext_turn keep ha1
    have haH : a < H.objs.size := Heap.lt_size hoL
    have hkS : ((H.update a (Obj.mapSeq fun _ => (#[] : Array Value))).push (seqObj "tuple" vs.toArray 0)).objs.size = H.objs.size + 1 := by rw [size_push', Heap.size_update]
    unfold ksk_tree
    refine wpAny_bind (listItems_at hoL rfl ?_)
    refine wpAny_bind (listUpdate_at hoL rfl ?_ (by rw [List.size_toArray, sizeLine_eq]; omega) (Nat.zero_le _))
    refine wpAny_bind (seqEpoch_at ho1 rfl ?_)
    refine wpAny_bind (wpAny_newTuple ?_ (by show vs.length ≤ _; rw [sizeLine_eq]; omega))
    refine wpAny_bind (wpAny_newList ?_ (Nat.zero_le _))
    refine wpAny_holding ?_
    have hHs : s.heap.objs.size ≤ H.objs.size := by
      have : s.heap.objs.size + 1 < H.objs.size := by rw [ha]; exact haH
      omega
    refine skx_rest (h0 := s.heap) (s := { s with heap := ((H.update a (Obj.mapSeq fun _ => (#[] : Array Value))).push (seqObj "tuple" vs.toArray 0)).push (seqObj "list" #[] 0) }) (kS := ((H.update a (Obj.mapSeq fun _ => (#[] : Array Value))).push (seqObj "tuple" vs.toArray 0)).objs.size)
      (fun b o e => Heap.get?_push_of_some _ (Heap.get?_push_of_some _ (x1 b o e))) (Heap.get?_push_size _ rfl) (Heap.get?_push_of_some _ (Heap.get?_push_of_some _ ho1)) (by rw [hkS]; exact Nat.ne_of_gt (Nat.lt_succ_of_lt haH)) (fresh _ (by rw [hkS]; exact Nat.le_succ_of_le hHs)) ha1 hlen h64 hS turn
      fun h' tk keys arr c a1 a2 a3 a4 => ⟨_, rfl, wpAny_pure ⟨_, rfl, h a h' tk keys arr c a1 ha1 a2 a3 a4⟩⟩
end
theorem sorts_any {prog : Program} {w : World} {kz : List Int} {vs : List Value} (hlen : kz.length = vs.length) (h64 : vs.length < 64) : SortsTo prog w kz vs fun keys arr => KskOut false kz vs (arr.map (·.2)).toList := fun keys hk => by
  have hsz : keys.size = vs.length := by
    have h1 := hk.length
    rw [Array.length_toList] at h1
    omega
  have hzs : (keys.zip vs.toArray).size = vs.length := by rw [Array.size_zip, hsz, List.size_toArray, Nat.min_self]
  refine ⟨fun h2 => ?_, fun h2 A E s => ?_⟩
  · refine ksk_out (b := false) hk (Array.Perm.refl _) fun i j hij hj => ?_
    have : i = j := by rw [hzs] at hj; omega
    subst this
    exact Int.le_refl _
  · exact wpS_sortRuns (a₀ := keys.zip vs.toArray) (ksk_intKeys hk) ⟨Array.Perm.refl _, rfl, rfl, rfl⟩ (by rw [hzs]; omega) (by rw [hzs]; exact h64) fun st' a1 a2 a3 => ⟨a1, a2, ksk_out (b := false) hk a1 (by rw [a1.size_eq]; exact a3)⟩
end Mine
end
section
open PySem PySem.W PyProof.Rows PySem.Spec
set_option Elab.async false
set_option linter.all false
set_option maxRecDepth 100000
set_option maxHeartbeats 1000000
namespace Mine
@[reducible] noncomputable def lamF (W : Wd) (A : Around) (rm : Nat) (qual : Str) (scope : Scope) (L a c' : Addr) (cl : List (Str × Addr)) (base : Shared) (nm gl : List Str) (cb : List Addr) : Fx :=
  { W := W, A := A.deeper (envX qual scope L a (.ref c') cl), rm := rm, env := envX qual scope L a (.ref c') cl, base := base, nm := nm, gl := gl, sto := nm, cb := cb }
noncomputable def lamChk (scope : Scope) (p : Str) (gl : List Str) : Bool :=
  scope.kind == .function && !scope.isCoroutine && !scope.isGenerator && scope.names.all (fun q => q.2 != .cell) && scope.names.lookup p == some .local && dbg p && nodupS scope.names && gl.all fun n => dbg n && scope.names.lookup n == some .globalImplicit
structure LamChk (scope : Scope) (p : Str) (gl : List Str) : Prop where
  kind : scope.kind = .function
  co : scope.isCoroutine = false
  gen : scope.isGenerator = false
  cells : ∀ q ∈ scope.names, q.2 ≠ .cell
  loc : scope.names.lookup p = some .local
  pd : (p == ("__debug__" : Str)) = false
  nd : nodupS scope.names = true
  glk : ∀ n ∈ gl, (n == ("__debug__" : Str)) = false ∧ scope.names.lookup n = some .globalImplicit
theorem lamChk_iff {scope : Scope} {p : Str} {gl : List Str} (h : lamChk scope p gl = true) : LamChk scope p gl := by
  unfold lamChk dbg at h
  simp only [Bool.and_eq_true, beq_iff_eq, Bool.not_eq_true', List.all_eq_true, bne_iff_ne] at h
  obtain ⟨⟨⟨⟨⟨⟨⟨h1, h2⟩, h3⟩, h4⟩, h5⟩, h6⟩, h7⟩, h8⟩ := h
  exact ⟨h1, h2, h3, h4, h5, by simpa using h6, h7, fun n hn => ⟨by simpa using (h8 n hn).1, (h8 n hn).2⟩⟩
theorem lam_call {W : Wd} {A : Around} {n : Nat} {s : Shared} {bad : List Addr} {a c' : Addr} {name qual : Str} {params : Arguments} {body : Expr} {scope : Scope} {cl : List (Str × Addr)} {pm ctv : Value} {p : Str} {gl : List Str} {v : Value} {d : PyData} {R : Value → Prop}
    (hA : Room A (n + 1)) (w : W.Ok s.heap) (hb : ∀ b ∈ bad, ∃ o, s.heap.get? b = some o) (ho : s.heap.get? a = some (kla_obj name qual params body scope cl pm c' ctv)) (hcd : s.heap.CodeRec (.ref c') qual) (hk : LamChk scope p gl)
    (hbind : ∀ cd v, bindArgs (kla_fn name qual params body scope cl pm cd ctv) ⟨[v], []⟩ = pure [(p, v)])
    (hcl : ∀ m c, cl.lookup m = some c → (m, NameKind.free) ∈ scope.names ∧ c ∈ bad ∧ ∃ ov, s.heap.IsCell c ov) (hinj : ∀ m m' c, cl.lookup m = some c → cl.lookup m' = some c → m = m')
    (rv : Rd (hideAll s.heap bad) v d)
    (hbody : ∀ L bad', EvP (lamF W A n qual scope L a c' cl s [p] gl bad) ⟨hideAll s.heap bad, bad', [], [.val d]⟩ body fun _ u => R u) :
    wpAny W.M A (PySem.call (.ref a) [v]) (fun u s' => Step s s' ∧ R u) No s := by
  refine wpAny_call ?_
  refine kla_callFunE (Nat.lt_trans (Nat.lt_of_le_of_lt (Nat.le_add_right _ _) hA.dep) (by decide)) ho rfl hk.co hk.gen rfl hcd ?_
  rw [hbind]
  refine wpAny_pure (wpAny_newFunctionEnv hk.cells (fun y hy => ?_) (fun h₁ hns hsb => ⟨w.lim.fresh _ hsb, ?_⟩) hk.kind)
  · cases hy with
    | head => exact hk.loc
    | tail _ h => cases h
  show codeAny _ _ (.expr body (envX qual scope s.heap.objs.size a (.ref c') cl)) _ _
  have k1 : Ext s.heap h₁ := fun b o e => hsb.extBut b o (Nat.ne_of_lt (Heap.lt_size e)) (Heap.get?_push_of_some _ e)
  have lt2 : ∀ {b : Nat} {o : Obj}, s.heap.get? b = some o → @LT.lt Nat _ b s.heap.objs.size := fun e => szN e
  have nL : s.heap.get? s.heap.objs.size = none := Heap.get?_none_of_le (Nat.le_refl _)
  have clp : cl.lookup p = none := by
    cases q : cl.lookup p with
    | none => rfl
    | some c => have := lookup_nodup hk.nd (hcl p c q).1; rw [hk.loc] at this; cases this
  have O : Ok (lamF W A n qual scope s.heap.objs.size a c' cl s [p] gl bad) ⟨hideAll s.heap bad, s.heap.objs.size :: bad, [], [.val d]⟩ { s with heap := h₁, toks := s.toks + [(p, v)].length } := by
    refine ⟨hk.kind, rfl, rfl, hA.deeper, w, by simp, ?_, hk.glk, ?_, ?_, .mk' k1, ?_, ?_, nL, .head _, ?_, hinj, fun r hr => (nomatch hr), List.nodup_nil, _, hns, ?_⟩
    · intro m hm
      cases hm with
      | head => exact ⟨hk.pd, .inl hk.loc⟩
      | tail _ h => cases h
    · intro m hm c hc
      cases hm with
      | head => have hc' : cl.lookup p = some c := hc; rw [clp] at hc'; cases hc'
      | tail _ h => cases h
    · exact fun b h => ⟨.tail _ h, hb b h⟩
    · intro b o e
      obtain ⟨e1, e2⟩ := hid_iff.mp e
      refine ⟨k1 b o e1, fun m => ?_⟩
      rcases List.mem_cons.mp m with q | m
      · have := lt2 e1; have q' : @Eq Nat b s.heap.objs.size := q; omega
      · exact e2 m
    · intro b h
      rcases List.mem_cons.mp h with e | h
      · obtain ⟨o, _, _, e', _⟩ := hns; exact ⟨o, e ▸ e'⟩
      · obtain ⟨o, e⟩ := hb b h; exact ⟨o, k1 b o e⟩
    · intro m c hc
      obtain ⟨_, h1, ov, h2⟩ := hcl m c hc
      refine ⟨.tail _ h1, fun q => ?_, ov, h2.keeps k1⟩
      obtain ⟨o, e⟩ := hb c h1
      have := lt2 e; have q' : @Eq Nat c s.heap.objs.size := q; omega
    · intro i m sl e1 e2
      cases i with
      | zero =>
        simp at e1 e2
        subst e1 e2
        refine ⟨v, .inl ⟨hk.loc, by simp⟩, rv.ext fun b o e => ?_⟩
        obtain ⟨e1, e2⟩ := hid_iff.mp e
        refine hid_iff.mpr ⟨k1 b o e1, fun m => ?_⟩
        rcases List.mem_cons.mp m with q | m
        · have := lt2 e1; have q' : @Eq Nat b s.heap.objs.size := q; omega
        · exact e2 m
      | succ i => simp at e1
  exact kla_codeExpr (wpAny_mono ((hbody s.heap.objs.size (s.heap.objs.size :: bad)).run _ O) (fun u s' ⟨k, r⟩ => ⟨O.same.trans k, r⟩) fun _ _ e => e.elim)
inductive RdK (h : Heap) : List (Int × Value) → List (Int × PyData) → Prop
  | nil : RdK h [] []
  | cons {k v d ps es} : Rd h v d → RdK h ps es → RdK h ((k, v) :: ps) ((k, d) :: es)
theorem RdK.zip {h : Heap} : ∀ {kz : List Int} {vs : List Value} {ds : List PyData}, kz.length = vs.length → RdAll h vs ds → RdK h (kz.zip vs) (kz.zip ds)
  | [], vs, ds, _, _ => by simpa using RdK.nil
  | k :: kz, [], ds, e, _ => by simp at e
  | k :: kz, v :: vs, ds, e, r => by
    cases r with | cons a b => exact .cons a (RdK.zip (by simpa using e) b)
theorem RdK.all {h : Heap} {ps es} (r : RdK h ps es) : RdAll h (ps.map Prod.snd) (es.map Prod.snd) := by
  induction r with
  | nil => exact .nil
  | cons a _ ih => exact .cons a ih
theorem RdK.keys {h : Heap} {ps es} (r : RdK h ps es) : ps.map Prod.fst = es.map Prod.fst := by
  induction r with
  | nil => rfl
  | cons a _ ih => simp [ih]
theorem RdK.perm {h : Heap} {ps qs : List (Int × Value)} (p : ps.Perm qs) : ∀ {es}, RdK h qs es → ∃ es', RdK h ps es' ∧ es'.Perm es := by
  induction p with
  | nil => intro es r; exact ⟨es, r, .refl _⟩
  | cons x p ih =>
    intro es r
    cases r with | cons a b =>
    obtain ⟨es', r', p'⟩ := ih b
    exact ⟨_, .cons a r', p'.cons _⟩
  | swap x y l =>
    intro es r
    cases r with | cons a b =>
    cases b with | cons b c =>
    exact ⟨_, .cons b (.cons a c), .swap _ _ _⟩
  | trans p q ih1 ih2 =>
    intro es r
    obtain ⟨e1, r1, p1⟩ := ih2 r
    obtain ⟨e2, r2, p2⟩ := ih1 r1
    exact ⟨e2, r2, p2.trans p1⟩
theorem pw_keys {α : Type} : ∀ {ps : List (Int × α)}, ps.Pairwise (fun p q => p.1 ≤ q.1) ↔ (ps.map Prod.fst).Pairwise (· ≤ ·) := by
  intro ps; rw [List.pairwise_map]
end Mine
end
section
open PySem PySem.W PyProof.Rows PySem.Spec
set_option Elab.async false
set_option linter.all false
set_option maxRecDepth 100000
set_option maxHeartbeats 2000000
namespace Mine
noncomputable abbrev T0 (P : Addr) : Heap → Prop := fun h => h.get? P = some (tabObj #[])
noncomputable abbrev TG (P : Addr) : Heap → Prop := fun h => GrownAt P h
theorem tg_frame {P : Addr} : ∀ h h' : Heap, TG P h → (∀ b ∈ [P], ∀ o, h.get? b = some o → h'.get? b = some o) → TG P h' := fun h h' ⟨ps, e⟩ k => ⟨ps, k P (.head _) _ e⟩
theorem t0_frame {P : Addr} : ∀ h h' : Heap, T0 P h → (∀ b ∈ [P], ∀ o, h.get? b = some o → h'.get? b = some o) → T0 P h' := fun h h' e k => k P (.head _) _ e
noncomputable def EvG (f : Fx) (hz : Heap) (bad : List Addr) (led : List Res) (vs : List Slot) (P : Addr) (e : Expr) (R : Heap → Value → Prop) : Prop :=
  Bx (∀ s, Ok f ⟨hz, bad, .prd [P] (T0 P) :: led, vs⟩ s → wpAny f.W.M f.A (eval e f.env) (fun v s' => Ok f ⟨hz, bad, .prd [P] (TG P) :: led, vs⟩ s' ∧ R s'.heap v) No s)
section
variable {f : Fx} {hz : Heap} {bad : List Addr} {led : List Res} {vs : List Slot} {P : Addr}
theorem Ex.assignG {n : Str} {p : Pos} {e : Expr} {pos : Pos} {rest : List Stmt} {Q : Flow → Shared → Prop} {D : PyData → Prop} {vs' : PyData → List Slot} (h : EvG f hz bad led vs P e fun h v => ∃ d, D d ∧ Rd (hideAll h bad) v d) (put : ∀ d, Put f.nm vs n (.val d) (vs' d))
    (hr : ∀ d, D d → Ex f ⟨hz, bad, .prd [P] (TG P) :: led, vs' d⟩ rest Q) (hc : f.sto = f.nm := by exact rfl)
    (hs : swapsWith e (some (.Name n p)) pos.line f.env = pure false := by exact rfl) : Ex f ⟨hz, bad, .prd [P] (T0 P) :: led, vs⟩ (.Assign [.Name n p] e pos :: rest) Q := .cons fun s O =>
  wpAny_Assign_Name (wpN (h.run s O) fun v s₁ ⟨O₁, d, hd, r⟩ => wpN (O₁.store (put d) r (hc ▸ (put d).mem)) fun _ s₂ O₂ => (hr d hd).run s₂ O₂.1) hs
theorem EvG.app {n : Str} {p pos} {e : Expr} {cv : Value} {m : Nat} {d d' : PyData} (hc : EvP f ⟨hz, bad, .prd [P] (T0 P) :: led, vs⟩ (.Name n p) fun _ u => u = cv) (c : Callee f.W cv) (ha : EvG f hz bad led vs P e fun h v => Rd (hideAll h bad) v d) (F : Fn f.W cv m [d] d') (hm : m ≤ f.rm)
    (he : starEach [e] f.env = [(false, eval e f.env)] := by exact rfl) : EvG f hz bad led vs P (.Call (.Name n p) [e] [] pos) fun h v => Rd (hideAll h bad) v d' := .bx fun s O =>
  PyProof.Rows.Call_Name rfl (wpN (hc.run s O) fun u s₁ ⟨k1, e1⟩ => by
    subst e1
    refine callWith_any c ?_ he rfl
    rw [he]
    show wpAny f.W.M f.A (spliced [(false, eval e f.env)]) _ No s₁
    refine PySem.Calls.spliced_cons (wpAny_mono (Q := fun v s' => Ok f ⟨hz, bad, .prd [P] (TG P) :: led, vs⟩ s' ∧ Rd (hideAll s'.heap bad) v d) (ha.run s₁ (O.step k1)) (fun v s₂ ⟨O₂, r⟩ => ?_) fun _ _ e => e)
    refine PySem.Calls.spliced_nil ?_
    have W₂ := O₂.wok.ext O₂.same.ext
    exact ⟨W₂, wpN (F f.A s₂ bad [v] (O₂.room.le hm) W₂ O₂.live (.cons r .nil)) fun v s₃ ⟨k3, r3⟩ => ⟨O₂.step k3, r3⟩⟩)
theorem EvG.sortKey {x : Str} {xp : Pos} {e lbody : Expr} {params : Arguments} {scope : Scope} {lp kp pos : Pos} {c : Addr} {mb : Value} {p : Str} {gl : List Str} {ds : List PyData} {g : PyData → Int} {n : Nat}
    (hc : EvP f ⟨hz, bad, .prd [P] (T0 P) :: led, vs⟩ (.Name x xp) fun _ u => u = .builtin "sorted") (h1 : Ev f ⟨hz, bad, .prd [P] (T0 P) :: led, vs⟩ e (.list ds))
    (hcode : f.env.code = .ref c) (hK : codeHdIn f.W.K c P = true) (hdef : defaultsOf params f.env = ([], [])) (hbt : ∃ bm o, f.W.mg "__builtins__" = some (.ref bm) ∧ bm ≠ builtinsNs ∧ f.base.heap.get? bm = some o ∧ o.cls = .type "module" ∧ o.dict = some builtinsNs ∧ o.data = .plain)
    (hk : lamChk scope p gl = true) (hfr : scope.names.all (fun q => q.2 != .free) = true) (hbind : ∀ qual pm ct cd v, bindArgs (kla_fn "<lambda>" qual params lbody scope [] pm cd ct) ⟨[v], []⟩ = pure [(p, v)]) (h64 : ds.length < 64) (hn : n + 3 ≤ f.rm)
    (hbody : ∀ d ∈ ds, ∀ A qual L a c' base hz bad cb, EvP (lamF f.W A n qual scope L a c' [] base [p] gl cb) ⟨hz, bad, [], [.val d]⟩ lbody fun _ u => ∃ t, u = .int (g d) t)
    (he : starEach [e] f.env = [(false, eval e f.env)] := by exact rfl) (hkw : eval (.Call (.Name x xp) [e] [⟨some (Str.ofString "key"), .Lambda params lbody scope lp, kp⟩] pos) f.env = (do let u ← eval (.Name x xp) f.env; callWith pos u [] (backTo pos (starEach [e] f.env)) (backToKw pos (keywordEach [⟨some (Str.ofString "key"), .Lambda params lbody scope lp, kp⟩] f.env))) := by exact rfl) :
    EvG f hz bad led vs P (.Call (.Name x xp) [e] [⟨some (Str.ofString "key"), .Lambda params lbody scope lp, kp⟩] pos) fun h v => ∃ d, (∃ es : List (Int × PyData), es.Perm ((ds.map g).zip ds) ∧ (es.map Prod.fst).Pairwise (· ≤ ·) ∧ d = .list (es.map Prod.snd)) ∧ Rd (hideAll h bad) v d := .bx fun s O => by
  rw [hkw]
  refine wpAny_bind (wpN (hc.run s O) fun u s₁ ⟨k1, e1⟩ => ?_)
  subst e1
  have O₁ := O.step k1
  have hL := lamChk_iff hk
  refine callWith_kw ?_ (by rw [he]; rfl) (by rw [he]; rfl)
  rw [he]
  show wpAny f.W.M f.A (spliced [(false, eval e f.env)]) _ No s₁
  refine PySem.Calls.spliced_cons (wpAny_mono (h1.run s₁ O₁) (fun v s₂ ⟨k2, r⟩ => ?_) fun _ _ e => e)
  refine PySem.Calls.spliced_nil ?_
  have O₂ := O₁.step k2
  have W₂ := O₂.wok.ext O₂.same.ext
  obtain ⟨l, ws, kk, rfl, hl, hr⟩ := r.list_inv
  have hP : s₂.heap.get? P = some (tabObj #[]) := (O₂.led _ (.head _)).1.1
  have hPb : P ∈ bad := ((O₂.led _ (.head _)).2 P (.head _)).1
  have hlen := hr.length
  obtain ⟨bm, ob, b1, b2, b3, b4, b5, b6⟩ := hbt
  have b3' := O₂.same.ext _ _ b3
  have hgP : mainGlobals ≠ P := fun q => by
    obtain ⟨o, es, ep, e, hd, _⟩ := W₂.g
    rw [q, hP] at e; cases e; cases hd
  have hbP : bm ≠ P := fun q => by
    rw [q, hP] at b3'; cases b3'; cases b4
  have hbG : bm ≠ mainGlobals := fun q => by
    obtain ⟨o, es, ep, e, hd, _⟩ := W₂.g
    rw [q, e] at b3'; cases b3'; rw [hd] at b6; cases b6
  obtain ⟨cl, hcl, _, hcl0⟩ := closure_ok (scope := scope) (env := f.env) (fun m hm => by
    have := List.all_eq_true.mp hfr _ hm; simp at this)
  have hcln : ∀ m, cl.lookup m = none := fun m => hcl0 m fun hm => by have := List.all_eq_true.mp hfr _ hm; simp at this
  have hclN : cl = [] := by
    cases cl with
    | nil => rfl
    | cons q r => have := hcln q.1; rw [List.lookup_cons] at this; simp at this
  subst hclN
  refine kws_cons (kla_eval hdef (kla_makeFunction hcl O.glo W₂.g hcode (codeHd_of_K W₂.k hK) hP trivial rfl hgP ⟨bm, ob, b1, b2, hbG, hbP, b3', b4, b5, b6⟩ fun c' ctv h' tk hx hge hlt hrec htb => ?_))
  refine kws_nil ?_
  show wpAny f.W.M f.A (PySem.call (.builtin "sorted") [.ref l] [(Str.ofString "key", .ref h'.objs.size)]) _ No _
  generalize hfo : kla_obj "<lambda>" (f.env.qual ++ "<lambda>") params lbody scope [] ((f.W.mg "__name__").getD .none) c' ctv = fo
  have e0 : (h'.push fo).get? h'.objs.size = some (kla_obj "<lambda>" (f.env.qual ++ "<lambda>") params lbody scope [] ((f.W.mg "__name__").getD .none) c' ctv) := by rw [← hfo]; exact Heap.get?_push_size _ rfl
  have xP : ∀ b o, b ∉ [P] → s₂.heap.get? b = some o → (h'.push fo).get? b = some o := fun b o hb e => Heap.get?_push_of_some _ (hx b o (fun q => hb (q ▸ .head _)) e)
  have O₃ : Ok f ⟨hz, bad, .prd [P] (TG P) :: led, vs⟩ { s₂ with heap := h'.push fo, toks := tk } := O₂.prd (P' := TG P) xP (fun b hb => by
      cases hb with
      | head => exact ⟨_, Heap.get?_push_of_some _ htb⟩
      | tail _ h => cases h) ⟨_, Heap.get?_push_of_some _ htb⟩ tg_frame
  have xh : Ext (hideAll s₂.heap bad) (hideAll (h'.push fo) bad) := fun b o e => by
    obtain ⟨e1, e2⟩ := hid_iff.mp e
    exact hid_iff.mpr ⟨xP b o (fun q => by cases q with | head => exact e2 hPb | tail _ q => cases q) e1, e2⟩
  have hr₃ := hr.ext xh
  have hl₃ : PL (h'.push fo) l ws kk := (hid_iff.mp (xh _ _ hl)).1
  refine skx_sorted (kz := ds.map g) (vs := ws) hl₃.isList (by rw [List.length_map, hlen]) (by rw [hlen]; exact h64) (sorts_any (by rw [List.length_map, hlen]) (by rw [hlen]; exact h64)) (fun i v k hv hkz h₄ tk₄ x₄ => ?_) fun D h₅ tk₅ keys arr cD x₅ nD hD hki hR => ?_
  · obtain ⟨d, hd, rd⟩ := hr₃.get' hv
    have hkd : k = g d := by rw [List.getElem?_map, hd] at hkz; exact (Option.some.inj hkz).symm
    subst hkd
    have O₄ : Ok f ⟨hz, bad, .prd [P] (TG P) :: led, vs⟩ { s₂ with heap := h₄, toks := tk₄ } := O₃.step (.mk' x₄)
    have hroom : Room f.A.in1.in1 (n + 1) := (O₃.room.le hn).in1.in1
    refine lam_call (s := { s₂ with heap := h₄, toks := tk₄ }) (bad := bad) (R := fun u => ∃ t, u = .int (g d) t) hroom (O₄.wok.ext O₄.same.ext) O₄.live (x₄ _ _ e0) ?_ hL (fun cd v => hbind _ _ _ _ _) (fun m c hm => by cases hm) (fun m m' c hm => by cases hm) (rd.ext (hid_ext x₄)) fun L bad' => hbody d (List.mem_of_getElem? hd) _ _ _ _ _ _ _ _ _
    exact (hrec.keeps fun b o e => Heap.get?_push_of_some _ e).keeps x₄
  · obtain ⟨ps, hp, ho, hs⟩ := hR
    obtain ⟨es, r1, p1⟩ := RdK.perm hp (RdK.zip (by rw [List.length_map, hlen]) hr₃)
    have O₅ : Ok f ⟨hz, bad, .prd [P] (TG P) :: led, vs⟩ { s₂ with heap := h₅, toks := tk₅ } := O₃.step (.mk' x₅)
    refine ⟨O₅, .list (es.map Prod.snd), ⟨es, p1, ?_, rfl⟩, ?_⟩
    · rw [← r1.keys]
      exact pw_keys.mp (by simpa using hs)
    · have hout : (arr.map (·.2)).toList = ps.map Prod.snd := ho
      refine .list (vs := ps.map Prod.snd) (n := cD) (hid_iff.mpr ⟨?_, fun m => ?_⟩) ((r1.all).ext (hid_ext x₅))
      · rw [hD, ← hout, Array.toArray_toList]
      · obtain ⟨o, e⟩ := O₃.live D m
        rw [nD] at e; cases e
end
end Mine
end
section
open PySem PySem.W PyProof.Rows PySem.Spec
set_option Elab.async false
set_option linter.all false
set_option maxRecDepth 100000
namespace Mine
theorem well_ints {P : Params} {h : Heap} : ∀ {l : List Int} {vs : List Value} {xs : List WData}, xs = l.map (fun i => WData.int i) → WellAll P h vs xs → RdAll h vs (l.map .int)
  | [], vs, xs, e, w => by subst e; cases w; exact .nil
  | i :: l, vs, xs, e, w => by
    subst e
    cases w with | cons a b => cases a with | int i t => exact .cons (.int _ _) (well_ints rfl b)
theorem ofPy_ints : ∀ l : List Int, ofPy (.list (l.map .int)) = .list (l.map fun i => WData.int i) := by
  intro l
  simp only [ofPy]
  congr 1
  induction l with
  | nil => rfl
  | cons a l ih => simp only [List.map_cons, ofPys, ofPy, ih]
theorem well_list {P : Params} {h : Heap} {a : Addr} {l : List Int} (w : Well P h (.ref a) (ofPy (.list (l.map .int)))) : Rd h (.ref a) (.list (l.map .int)) := by
  rw [ofPy_ints] at w
  cases w with | list e ws => exact .list e (well_ints rfl ws)
end Mine
end
section
open PySem PySem.W PyProof.Rows PySem.Spec
set_option Elab.async false
set_option linter.all false
set_option maxRecDepth 100000
set_option maxHeartbeats 1000000
namespace Mine
noncomputable def Bmod (W : Wd) (h : Heap) : Prop := ∃ bm o, W.mg "__builtins__" = some (.ref bm) ∧ bm ≠ builtinsNs ∧ h.get? bm = some o ∧ o.cls = .type "module" ∧ o.dict = some builtinsNs ∧ o.data = .plain
theorem Bmod.hid {W : Wd} {h : Heap} {P : Addr} (x : Bmod W h) (hP : h.get? P = some (tabObj #[])) : Bmod W (hideAll h [P]) := by
  obtain ⟨bm, o, a, b, c, d, r⟩ := x
  refine ⟨bm, o, a, b, hid_iff.mpr ⟨c, fun q => ?_⟩, d, r⟩
  cases q with
  | head => rw [hP] at c; cases c; cases d
  | tail _ q => cases q
theorem Bmod.ext {W : Wd} {h h' : Heap} (x : Bmod W h) (k : Ext h h') : Bmod W h' := by
  obtain ⟨bm, o, a, b, c, r⟩ := x
  exact ⟨bm, o, a, b, k _ _ c, r⟩
theorem ns_hid {h : Heap} {P a : Addr} {m : Str → Option Value} (hP : h.get? P = some (tabObj #[])) (x : h.Ns a m) : (hideAll h [P]).Ns a m := by
  obtain ⟨o, es, ep, e, hd, r⟩ := x
  refine ⟨o, es, ep, hid_iff.mpr ⟨e, fun q => ?_⟩, hd, r⟩
  cases q with
  | head => rw [hP] at e; cases e; cases hd
  | tail _ q => cases q
theorem Wd.Ok.hid {W : Wd} {h : Heap} {P : Addr} (x : W.Ok h) (hP : h.get? P = some (tabObj #[])) (hK : W.K.lookup P = none) : W.Ok (hideAll h [P]) where
  k := fun a o e => hid_iff.mpr ⟨x.k a o e, fun q => by
    cases q with
    | head => rw [hK] at e; cases e
    | tail _ q => cases q⟩
  g := ns_hid hP x.g
  b := ns_hid hP x.b
  lim := let ⟨mc, a, r⟩ := x.lim; ⟨mc, ns_hid hP a, r⟩
@[reducible] noncomputable def ghF (f : Fx) (P : Addr) : Fx := { f with base := { f.base with heap := hideAll f.base.heap [P] }, cb := [] }
theorem Ok.ghost {f : Fx} {hz : Heap} {bad : List Addr} {vs : List Slot} {s : Shared} {P : Addr} (O : Ok f ⟨hz, bad, [], vs⟩ s) (hP : f.base.heap.get? P = some (tabObj #[])) (hb : P ∈ bad) (hK : f.W.K.lookup P = none) :
    Ok (ghF f P) ⟨hz, bad, [.prd [P] (T0 P)], vs⟩ s := by
  have hPs : s.heap.get? P = some (tabObj #[]) := O.same.ext _ _ hP
  have gn : ∀ {b : Addr}, f.base.heap.get? b = none → (hideAll f.base.heap [P]).get? b = none := fun {b} e => by
    cases q : (hideAll f.base.heap [P]).get? b with
    | none => rfl
    | some o => rw [of_hideAll _ q] at e; cases e
  refine ⟨O.kind, O.glo, O.bui, O.room, O.wok.hid hP hK, O.nd, O.knd, O.gk, fun n hn c hc => gn (O.cellF n hn c hc), fun b hb => (nomatch hb), ?_, O.hz, O.live, gn O.locF, O.locB, O.cell, O.inj, ?_, by simp [Res.fp], O.vars⟩
  · obtain ⟨h, t, rfl, e⟩ := O.same
    exact ⟨h, t, rfl, fun b o q => e b o (of_hideAll _ q)⟩
  · intro r hr
    cases hr with
    | tail _ hr => cases hr
    | head =>
      refine ⟨⟨hPs, t0_frame⟩, fun a ha => ?_⟩
      cases ha with
      | tail _ ha => cases ha
      | head =>
        refine ⟨hb, hideAll_none _ (.head _), fun q => ?_, fun n hn => ?_⟩
        · have := O.locF; rw [← q, hP] at this; cases this
        · obtain ⟨_, _, ov, o, e, hd⟩ := O.cell n P hn
          rw [hPs] at e; cases e; cases hd
noncomputable def FnT (W : Wd) (cv : Value) (n : Nat) (P : Addr) (d : PyData) (R : Value → Prop) : Prop :=
  ∀ A s bad v, Room A n → W.Ok s.heap → (∀ b ∈ bad, ∃ o, s.heap.get? b = some o) → P ∈ bad → s.heap.get? P = some (tabObj #[]) → Bmod W s.heap → Rd (hideAll s.heap bad) v d →
    wpAny W.M A (PySem.call cv [v]) (fun u s' => (∃ h t, s' = { s with heap := h, toks := t } ∧ (∀ b o, b ≠ P → s.heap.get? b = some o → h.get? b = some o) ∧ GrownAt P h) ∧ R u) No s
noncomputable def RetT (f : Fx) (P : Addr) (R : Value → Prop) : Flow → Shared → Prop
  | .ret v, s' => Step f.base s' ∧ GrownAt P s'.heap ∧ R v
  | _, _ => False
theorem Ok.retT {f : Fx} {hz : Heap} {bad : List Addr} {led : List Res} {vs : List Slot} {s : Shared} {P : Addr} {R : Value → Prop} {v : Value} (O : Ok f ⟨hz, bad, .prd [P] (TG P) :: led, vs⟩ s) (h : R v) : RetT f P R (.ret v) s :=
  ⟨O.same, (O.led _ (.head _)).1.1, h⟩
theorem FnT.of_at {W : Wd} {a : Addr} {oc : Value} {od : Option Addr} {osl : Array (Option Value)} {fd : FuncData} {sc : Scope} {body : List Stmt} {nm gl : List Str} {p : Str} {d : PyData} {vs₀ : List Slot} {n : Nat} {P : Addr} {R : Value → Prop}
    (hk : W.K.lookup a = some ⟨oc, od, .func fd, osl⟩) (hcd : codeIn W.K fd.code fd.qualname = true) (hbody : fd.body = .stmts body) (hclo : fd.closure = []) (hg : fd.globals = mainGlobals) (hbi : fd.builtins = builtinsNs) (hsc : fd.scope = sc)
    (hchk : fnChk sc nm gl [p] = true) (hbind : ∀ vs : List Value, vs.length = 1 → bindArgs fd ⟨vs, []⟩ = pure ([p].zip vs)) (puts : Puts nm (nm.map fun _ => Slot.no) [p] [d] vs₀) (hKP : W.K.lookup P = none)
    (h : ∀ A s L hz bad bad', Bmod W (ghF (fnG W A n sc (fdAt W.K a) a L s nm gl bad) P).base.heap → Ex (ghF (fnG W A n sc (fdAt W.K a) a L s nm gl bad) P) ⟨hz, bad', [.prd [P] (T0 P)], vs₀⟩ body (RetT (ghF (fnG W A n sc (fdAt W.K a) a L s nm gl bad) P) P R)) :
    FnT W (.ref a) (n + 1) P d R := fun A s bad v hA w hb hPb hP hbm r => by
  have hchk' := fnChk_iff (by rw [← hsc] at hchk; exact hchk)
  have hfd : fdAt W.K a = fd := by unfold fdAt; rw [hk]
  refine wpAny_call ?_
  refine codeAny_call_function (Nat.lt_trans (Nat.lt_of_le_of_lt (Nat.le_add_right _ _) hA.dep) (by decide)) (w.k _ _ hk) rfl hchk'.co hchk'.gen hbody (codeRec_of w.k hcd) ?_
  rw [hbind [v] rfl, hclo]
  refine wpAny_pure ?_
  simp only [newFunctionEnv, Option.isSome_none, Bool.false_eq_true, if_false]
  refine wpAny_bind (wpAny_alloc ?_)
  refine wpAny_bind (wpAny_layCells _ (fun name kind cells => by cases hkc : kind == NameKind.cell <;> simp [hkc]) _ _ _ _ ?_)
  rw [show ({ s with heap := s.heap.push { cls := .type "frame", data := .dict #[] } } : Shared).heap.objs.size = s.heap.objs.size + 1 from Heap.size_push ..]
  obtain ⟨bad', O, kx⟩ := Ok.entry hA w hb (a := a) hchk' hg hbi
  have hPb' : P ∈ bad' := (O.cbB P hPb).1
  have Og := O.ghost hP hPb' hKP
  have O' : Ok { ghF (fnF W A n fd a s.heap.objs.size s nm gl bad) P with A := A.in1 } _ _ := Og.around hA.in1
  have hh := h A s s.heap.objs.size (hideAll s.heap bad) bad bad' (hbm.hid hP)
  rw [hfd] at hh
  subst hsc
  have q := bindOk (f := { ghF (fnF W A n fd a s.heap.objs.size s nm gl bad) P with A := A.in1 }) (fun x _ => do storeName (callEnvC fd s.heap.objs.size a) x.1 x.2; pure (.yield ⟨⟩)) (fun _ _ _ => rfl) [p] [v] [d] _ _ vs₀
    (fun _ s₂ => wpAny (model W.prog W.w) A.in1 (pure (callEnvC fd s.heap.objs.size a)) (fun env s₂ => s₂.heap.NoLimit ∧ codeAny (model W.prog W.w) A (.func body env) (fun r s' => match r with
      | .ok (.ret v) => (∃ h t, s' = { s with heap := h, toks := t } ∧ (∀ b o, b ≠ P → s.heap.get? b = some o → h.get? b = some o) ∧ GrownAt P h) ∧ R v
      | .ok _ => False | .error e => No e s') s₂) No s₂)
    O' (.cons (r.ext kx) .nil) puts hchk'.psk (fun s₂ O₂ => wpAny_pure ⟨(O₂.wok.ext O₂.same.ext).lim, codeAny_func (wpE (hh.run s₂ (O₂.around hA.deeper)) fun fl s₃ hfl => ?_)⟩)
  · exact wpAny_bind (wpE q fun _ _ h => h)
  · cases fl with
    | ret v =>
      obtain ⟨st, gr, hr⟩ := hfl
      obtain ⟨h3, t3, rfl, e3⟩ := st
      exact ⟨⟨h3, t3, rfl, fun b o hb e => e3 b o (hid_iff.mpr ⟨e, fun q => by cases q with | head => exact hb rfl | tail _ q => cases q⟩), gr⟩, hr⟩
    | _ => exact hfl.elim
theorem EvG.callT {f : Fx} {hz : Heap} {bad : List Addr} {led : List Res} {vs : List Slot} {P : Addr} {n : Str} {p pos} {e : Expr} {cv : Value} {m : Nat} {d d' : PyData} {R : Value → Prop} (hc : EvP f ⟨hz, bad, .prd [P] (T0 P) :: led, vs⟩ (.Name n p) fun _ u => u = cv) (c : Callee f.W cv)
    (ha : Ev f ⟨hz, bad, .prd [P] (T0 P) :: led, vs⟩ e d) (F : FnT f.W cv m P d R) (hR : ∀ u h, R u → Rd h u d') (hbt : Bmod f.W f.base.heap) (hm : m ≤ f.rm) (he : starEach [e] f.env = [(false, eval e f.env)] := by exact rfl) :
    EvG f hz bad led vs P (.Call (.Name n p) [e] [] pos) fun h v => Rd (hideAll h bad) v d' := .bx fun s O =>
  PyProof.Rows.Call_Name rfl (wpN (hc.run s O) fun u s₁ ⟨k1, e1⟩ => by
    subst e1
    refine callWith_any c ?_ he rfl
    rw [he]
    show wpAny f.W.M f.A (spliced [(false, eval e f.env)]) _ No s₁
    refine PySem.Calls.spliced_cons (wpAny_mono (ha.run s₁ (O.step k1)) (fun v s₂ ⟨k2, r⟩ => ?_) fun _ _ e => e)
    refine PySem.Calls.spliced_nil ?_
    have O₂ := (O.step k1).step k2
    have W₂ := O₂.wok.ext O₂.same.ext
    have hP : s₂.heap.get? P = some (tabObj #[]) := (O₂.led _ (.head _)).1.1
    have hPb : P ∈ bad := ((O₂.led _ (.head _)).2 P (.head _)).1
    refine ⟨W₂, wpN (F f.A s₂ bad v (O₂.room.le hm) W₂ O₂.live hPb hP (hbt.ext O₂.same.ext) r) fun u s₃ ⟨⟨h3, t3, e3, x3, g3⟩, hr⟩ => ?_⟩
    subst e3
    refine ⟨O₂.prd (P' := TG P) (fun b o hb e => x3 b o (fun q => hb (q ▸ .head _)) e) (fun b hb => ?_) g3 tg_frame, hR _ _ hr⟩
    cases hb with
    | head => obtain ⟨ps, e⟩ := g3; exact ⟨_, e⟩
    | tail _ h => cases h)
theorem rd_hid_ints {h : Heap} {P a : Addr} {l : List Int} (hP : h.get? P = some (tabObj #[])) (r : Rd h (.ref a) (.list (l.map .int))) : Rd (hideAll h [P]) (.ref a) (.list (l.map .int)) := by
  obtain ⟨b, vs, n, e, hl, hr⟩ := r.list_inv
  cases e
  refine .list (hid_iff.mpr ⟨hl, fun q => ?_⟩) (RdAll.of_ints hr.ints)
  cases q with
  | head => have hl' : h.get? P = some _ := hl; rw [hP] at hl'; cases hl'
  | tail _ q => cases q
theorem law_endT {l : OpenLaw} {w : World} {s₁ : Shared} {cl : Str → Option Addr} {mean : ExcName → Option Value} {args : List WData} {W : Wd} {n : Nat} {a fa c P : Addr} {ns : List Int}
    (hp : W.prog = l.row.prog) (hw : W.w = w) (F : FnT W (.ref fa) n P (.list (ns.map .int)) (fun u => u = .bool true)) (hr : Room callerA n) (ok : W.Ok s₁.heap) (hbt : Bmod W s₁.heap) (hP : s₁.heap.get? P = some (tabObj #[])) (hC : CodeHd s₁.heap c P) (rd : Rd s₁.heap (.ref a) (.list (ns.map .int))) (hg : s₁.gens = #[])
    (hpost : l.row.claim.post args (.bool true) args = true) :
    wpAny (model l.row.prog w) callerA (PySem.call (.ref fa) [.ref a]) (fun v s' => GoodWG l.row.claim cl mean args s₁ (.ok (.ret v)) s') (fun e s' => GoodWG l.row.claim cl mean args s₁ (.error e) s') s₁ := by
  have key := F callerA s₁ [P] (.ref a) hr ok (fun b hb => by
    cases hb with
    | head => exact ⟨_, hP⟩
    | tail _ h => cases h) (.head _) hP hbt (rd_hid_ints hP rd)
  have e : W.M = model l.row.prog w := by show model W.prog W.w = _; rw [hp, hw]
  rw [e] at key
  refine wpAny_mono key (fun v s' h => ?_) fun e s' h => h.elim
  obtain ⟨⟨h', t', rfl, hx, ps, hps⟩, hv⟩ := h
  subst hv
  obtain ⟨o, vs, _, _, _, _, _, _, _, c1, c2, c3, c4, _⟩ := hC
  refine ⟨.inl ⟨.bool true, .bool true, [], rfl, fun cls => rfl, .bool _, hpost, fun _ => ⟨List.nodup_nil, fun a ha => nomatch ha⟩⟩, ⟨fun b o e => ?_, fun b o e => ?_⟩, rfl, .of_eq hg⟩
  · by_cases q : b = P
    · subst q
      rw [hP] at e; cases e
      refine .inr (.inl ⟨⟨c, _, vs, c1, c2, c3, c4⟩, rfl, #[], ps, rfl, ?_⟩)
      rw [hps]
      simp
    · exact .inl (hx b o q e)
  · by_cases q : b = P
    · subst q; exact ⟨_, hps⟩
    · exact ⟨o, hx b o q e⟩
end Mine
end
section
open PySem PySem.W PyProof.Rows PySem.Spec
set_option Elab.async false
set_option linter.all false
set_option maxRecDepth 100000
namespace Mine
open PySem.StrLaws PySem.Builtin PySem.Builtin.Str
noncomputable def undot (l : List Nat) : List Nat := l.dropWhile (· == 46)
theorem drop_tw {α : Type} (p : α → Bool) : ∀ l : List α, l.drop (l.takeWhile p).length = l.dropWhile p
  | [] => rfl
  | a :: r => by
    rw [List.takeWhile_cons, List.dropWhile_cons]
    by_cases h : p a = true
    · rw [if_pos h, if_pos h]; exact drop_tw p r
    · rw [if_neg h, if_neg h]; rfl
theorem undot_dots (n : Nat) {y : List Nat} (h : ∀ c t, y = c :: t → c ≠ 46) : undot (List.replicate n 46 ++ y) = y := by
  induction n with
  | zero =>
    cases y with
    | nil => rfl
    | cons c t =>
      have := h c t rfl
      unfold undot
      rw [List.replicate_zero, List.nil_append, List.dropWhile_cons, if_neg (by simpa using this)]
  | succ n ih =>
    unfold undot at ih ⊢
    rw [List.replicate_succ, List.cons_append, List.dropWhile_cons, if_pos (by rfl)]; exact ih
theorem contains46 : (fun c => (S [46]).cps.contains c) = fun c : Nat => c == 46 := by
  funext c
  show ([46].toArray).contains c = (c == 46)
  rw [List.contains_toArray]
  simp only [List.contains_cons, List.contains_nil, Bool.or_false]
theorem lstrip_eq (l : List Nat) : Txt.lstripChars (S l) (S [46]) = S (undot l) := by
  unfold Txt.lstripChars
  have h0 : Txt.stripBy (fun c => (S [46]).cps.contains c) true false (S l) = S (undot l) := by
    rw [contains46, PyProof.Rows.stripBy_eq]
    have h1 : stripLo (fun c : Nat => c == 46) true (S l) = (l.takeWhile (· == 46)).length := by
      simp only [stripLo, if_true]; rw [S_toList]
    have h2 : stripHi (fun c : Nat => c == 46) false (S l) ((l.takeWhile (· == 46)).length) = l.length := by
      simp only [stripHi, Bool.false_eq_true, if_false]; rw [S_len]
    rw [h1, h2, ← S_of (strSub _ _ _), strSub_toList, S_toList, List.take_of_length_le (by simp), drop_tw]; rfl
  exact h0
variable {f : Fx} {x : Sx}
theorem Ev.lstrip {o e : Expr} {apos pos} {l : List Nat} (h0 : Ev f x o (st l)) (h1 : Ev f x e (st [46])) (hn : l.length ≤ sizeLine)
    (hbase : attributeBase o (Str.ofString "lstrip") f.env (eval o f.env) = eval o f.env := by exact rfl) (hline : (apos.endLine == pos.line) = true := by exact rfl)
    (hfew : ((backTo pos (starEach [e] f.env)).all (fun x => !x.1) && (backToKw pos (keywordEach [] f.env)).all (fun x => x.1.isSome)
      && decide (([e] : List Expr).length + ([] : List Keyword).length + (if ([] : List Keyword).isEmpty then 0 else 1) < 30)) = true := by exact rfl)
    (he : starEach [e] f.env = (false, eval e f.env) :: starEach [] f.env := by exact rfl) :
    Ev f x (.Call (.Attribute o (Str.ofString "lstrip") apos) [e] [] pos) (st (undot l)) :=
  EvP.meth (ds := [st [46]]) h0.toStr F.plainAttrs_str F.slot_str_lstrip F.type_str_lstrip (fun h v e => strRecv e) (fun _ _ _ b _ => b) (.cons h1 .nil he)
    (fun s v vs O ⟨t, ev⟩ r => by
      subst ev
      obtain ⟨v', _, rfl, r1, r2⟩ := r.cons_inv; rw [r2.nil_inv]
      obtain ⟨u, rfl⟩ := r1.str_inv
      refine SC.lstripChars (fun t' k => ?_) (by rw [S_len]; exact hn)
      rw [lstrip_eq]
      exact ⟨.tok, .str _ _⟩) hbase hfew hline he rfl
end Mine
end
section
open PySem PySem.W PyProof.Rows PySem.Spec
set_option Elab.async false
set_option linter.all false
set_option maxRecDepth 100000
set_option maxHeartbeats 1000000
namespace Mine
theorem sum_le {l : List Nat} {n : Nat} (h : ∀ a ∈ l, a ≤ n) : l.sum ≤ l.length * n := by
  induction l with
  | nil => simp
  | cons a l ih =>
    have := ih fun b hb => h b (.tail _ hb)
    have := h a (.head _)
    simp [Nat.add_mul]; omega
theorem perm_map {α β : Type} {f : α → β} {a c : List β} (p : a.Perm c) : ∀ {b : List α}, c = b.map f → ∃ b' : List α, b'.Perm b ∧ a = b'.map f := by
  induction p with
  | nil => intro b e; exact ⟨b, .refl _, e⟩
  | cons x p ih =>
    intro b e
    cases b with
    | nil => cases e
    | cons y b =>
      injection e with e1 e2
      obtain ⟨b', h1, h2⟩ := ih e2
      exact ⟨y :: b', h1.cons _, by rw [List.map_cons, e1, h2]⟩
  | swap x y l =>
    intro b e
    cases b with
    | nil => cases e
    | cons u b =>
      cases b with
      | nil => injection e with _ e; cases e
      | cons v b =>
        injection e with e1 e2
        injection e2 with e2 e3
        exact ⟨v :: u :: b, .swap _ _ _, by simp [e1, e2, e3]⟩
  | trans p q ih1 ih2 =>
    intro b e
    obtain ⟨b1, h1, e1⟩ := ih2 e
    obtain ⟨b2, h2, e2⟩ := ih1 e1
    exact ⟨b2, h2.trans h1, e2⟩
theorem zip_keys {g : PyData → Int} : ∀ {ds : List PyData}, ∀ q ∈ (ds.map g).zip ds, q.1 = g q.2
  | [], q, h => by simp at h
  | d :: ds, q, h => by
    rw [List.map_cons, List.zip_cons_cons] at h
    rcases List.mem_cons.mp h with rfl | h
    · rfl
    · exact zip_keys q h
theorem zip_snd {g : PyData → Int} : ∀ ds : List PyData, ((ds.map g).zip ds).map Prod.snd = ds
  | [] => rfl
  | d :: ds => by rw [List.map_cons, List.zip_cons_cons, List.map_cons, zip_snd ds]
noncomputable def keyR (y : List Nat) : Int := ((undot y).length : Int) - y.length
noncomputable def gKey : PyData → Int
  | .str x => keyR x.cps.toList
  | _ => 0
theorem gKey_st (y : List Nat) : gKey (st y) = keyR y := by unfold gKey; simp only []; rw [S_toList]
theorem undot_le (l : List Nat) : (undot l).length ≤ l.length := by
  unfold undot
  induction l with
  | nil => simp
  | cons a r ih => rw [List.dropWhile_cons]; split <;> simp <;> omega
section
variable {prog : Program} {w : World} {mg mb : Str → Option Value}
theorem c_read (G : (WL prog w mg mb).Glob) (l claim : List Nat) (F : List (List Nat)) (rd : List Nat → List Nat) (hl : l.length ≤ 2 ^ 18) (hF : (spl l CRLF).filter (fun y => decide (y.take 1 = [46])) = F) (hs : (spl l CRLF).length ≤ 2 ^ 18) (h64 : F.length < 64) (hy : ∀ y ∈ spl l CRLF, y.length ≤ 2 ^ 18)
    (hrd : ∀ y ∈ F, ∃ a, (spl (undot y) [11])[0]? = some a ∧ (spl a [133])[0]? = some (rd y) ∧ a.length ≤ 2 ^ 18 ∧ (rd y).length ≤ 2 ^ 12 ∧ (spl (undot y) [11]).length ≤ 100 ∧ (spl a [133]).length ≤ 100)
    (hread : ∀ out : List (List Nat), out.Perm F → (out.map keyR).Pairwise (· ≤ ·) → (out.map rd).flatten = claim) :
    FnT (WL prog w mg mb) (.ref 139) 5 136 (st l) (fun u => ∃ t, u = .str (S claim) t) := by
  have sz : sizeLine = 16777216 := by decide
  have hFm : ∀ y ∈ F, y ∈ spl l CRLF := fun y h => (List.mem_filter.mp (hF ▸ h)).1
  refine FnT.of_at (nm := ["page", "rows"]) (gl := ["sorted"]) (p := "page") rfl rfl rfl rfl rfl rfl rfl (by decide +kernel) (bind1 fun _ => rfl) (.cons Put.i0 .nil) rfl fun A s L hz bad bad' hbm => ?_
  refine Ex.assignG (vs' := fun d => [.val (st l), .val d]) (EvG.sortKey (c := 138) (ds := F.map st) (g := gKey) (n := 0) (p := "row") (gl := ["len"]) (mb := .none) (Ev.blt Mem.i0 (z_sorted G)) (Ev.eq (Ev.comp1 (xs := spl l CRLF) (di := st) (g := st) (p := fun y => decide (y.take 1 = [46])) (own := ["row"]) (fr := []) (gl := []) (ns := ["row"])
    (Iter.list (Ev.split (Ev.name At.i0) (Ev.strE (l := CRLF)) (by decide) (by rw [sz]; omega))) rfl (by decide +kernel) .nil rfl rfl one_in (by rw [sz]; omega)
    (fun y hy' C cs base hz bad led => ⟨_, .name .here, .drop .nil, .one (Tst.cmp (EvC.eqS (Ev.takeS (Ev.name At.i0) (Ev.nat (n := 1)) (by have := hy y hy'; rw [sz]; omega)) (Ev.strE (l := [46])))), fun _ => (Ev.name At.i0)⟩)) (by rw [hF])) rfl (by exact rfl) rfl hbm (by decide +kernel) (by decide +kernel) (fun _ _ _ _ _ => rfl) (by rw [List.length_map]; exact h64) (Nat.le_of_ble_eq_true rfl) (fun d hd A qual L a c' base hz bad cb => ?_)) (fun d => Put.i1) (fun d hD => ?_)
  · obtain ⟨y, hyF, rfl⟩ := List.mem_map.mp hd
    have hyl := hy y (hFm y hyF)
    have hul := undot_le y
    rw [gKey_st]
    exact EvP.mono (Ev.eq (Ev.sub (Ev.call (Ev.blt Mem.i0 (z_len G)) (.builtin _) (.cons (Ev.lstrip (Ev.name At.i0) (Ev.strE (l := [46])) (by rw [sz]; omega)) .nil) (Fn.len_str (by omega)) (Nat.zero_le _)) (Ev.call (Ev.blt Mem.i0 (z_len G)) (.builtin _) (.cons (Ev.name At.i0) .nil) (Fn.len_str (by omega)) (Nat.zero_le _))) (b := .int (keyR y)) rfl) fun h v r => r.int_inv
  · obtain ⟨es, p1, p2, rfl⟩ := hD
    obtain ⟨out, q1, q2⟩ := perm_map (f := st) (p1.map Prod.snd) (zip_snd (g := gKey) (F.map st))
    have hk : es.map Prod.fst = out.map keyR := by
      have h1 : es.map Prod.fst = (es.map Prod.snd).map gKey := by
        rw [List.map_map]
        exact List.map_congr_left fun q hq => zip_keys q (p1.mem_iff.mp hq)
      rw [h1, q2, List.map_map]
      exact List.map_congr_left fun y _ => gKey_st y
    rw [hk] at p2
    rw [q2]
    have hcl := hread out q1 p2
    have hol : out.length < 64 := by rw [q1.length_eq]; exact h64
    have hrl : ((out.map rd).map (·.length)).sum ≤ 64 * 2 ^ 12 := by
      have := sum_le (l := (out.map rd).map (·.length)) (n := 2 ^ 12) (by
        intro a ha
        obtain ⟨z, hz, rfl⟩ := List.mem_map.mp ha
        obtain ⟨y, hy1, rfl⟩ := List.mem_map.mp hz
        obtain ⟨_, _, _, _, h, _⟩ := hrd y (q1.mem_iff.mp hy1)
        exact h)
      simp only [List.length_map] at this
      have h2 : out.length * 2 ^ 12 ≤ 64 * 2 ^ 12 := Nat.mul_le_mul_right _ (by omega)
      omega
    refine Ex.ret (d := st claim) (Ev.eq (Ev.join (ys := out.map rd) (Ev.strE (l := [])) (Ev.eq (Ev.comp1 (xs := out) (di := st) (g := fun y => st (rd y)) (p := fun _ => true) (own := ["row"]) (fr := []) (gl := []) (ns := ["row"])
      (Iter.list (Ev.name At.i1)) rfl (by decide +kernel) .nil rfl rfl one_in (by rw [sz]; omega) (fun y hy' C cs base hz bad led => ⟨_, .name .here, .drop .nil, .nil, fun _ => ?_⟩)) (by rw [map_true, List.map_map]; rfl)) ?hs) ?hj) fun s v O r => O.retT r.str_inv
    · obtain ⟨a, h1, h2, h3, h4, h5, h6⟩ := hrd y (q1.mem_iff.mp hy')
      have hyl := hy y (hFm y (q1.mem_iff.mp hy'))
      have hul := undot_le y
      have g1 : ((spl (undot y) [11]).map st)[0]? = some (st a) := by rw [List.getElem?_map, h1]; rfl
      have g2 : ((spl a [133]).map st)[0]? = some (st (rd y)) := by rw [List.getElem?_map, h2]; rfl
      exact Ev.itemLN (Ev.split (Ev.itemLN (Ev.split (Ev.lstrip (Ev.name At.i0) (Ev.strE (l := [46])) (by rw [sz]; omega)) (Ev.strE (l := [11])) (by decide) (by rw [sz]; omega)) (Ev.nat (n := 0)) g1 (by rw [List.length_map, sz]; omega)) (Ev.strE (l := [133])) (by decide) (by rw [sz]; omega)) (Ev.nat (n := 0)) g2 (by rw [List.length_map, sz]; omega)
    case hs => rw [List.length_nil, Nat.mul_zero, sz]; omega
    case hj => rw [jn_nil, hcl]
end
end Mine
end
section
open PySem PySem.W PyProof.Rows PySem.Spec
set_option Elab.async false
set_option linter.all false
set_option maxRecDepth 100000
namespace Mine
open PySem.StrLaws PySem.Builtin PySem.Builtin.Str
theorem at_one (c : Nat) (x : List Nat) (k : Nat) : StrLaws.At (S x) (S [c]) (S x).length k ↔ ∃ r, x.drop k = c :: r := by
  unfold StrLaws.At
  rw [subAt_eq, S_toList, S_toList, S_len, S_len]
  constructor
  · rintro ⟨h1, h2⟩
    have h2' := eq_of_beq h2
    refine ⟨(x.drop k).drop 1, ?_⟩
    have := List.take_append_drop 1 (x.drop k)
    rw [show [c].length = 1 from rfl] at h2'
    rw [h2'] at this
    exact this.symm
  · rintro ⟨r, h⟩
    have hl : (x.drop k).length = r.length + 1 := by rw [h]; rfl
    rw [List.length_drop] at hl
    refine ⟨by show k + 1 ≤ _; omega, ?_⟩
    rw [h]; simp
theorem no_at1 {c : Nat} {x y r : List Nat} {a k : Nat} (h : x.drop a = y ++ r) (hy : c ∉ y) (h1 : a ≤ k) (h2 : k < a + y.length) : ¬ ∃ r', x.drop k = c :: r' := by
  rintro ⟨r', e⟩
  have e2 : x.drop k = (x.drop a).drop (k - a) := by rw [List.drop_drop]; congr 1; omega
  rw [e2, h, List.drop_append_of_le_length (by omega)] at e
  have h3 : k - a < y.length := by omega
  rw [List.drop_eq_getElem_cons h3] at e
  simp only [List.cons_append] at e
  injection e with e1 _
  exact hy (e1 ▸ List.getElem_mem h3)
theorem spl_parts1 (c : Nat) (x : List Nat) : ∀ (ys : List (List Nat)) (cuts : List Nat) (a f : Nat), ys ≠ [] → (∀ y ∈ ys, c ∉ y) → x.drop a = jn [c] ys → ChainG (S x) (S [c]) (S x).length a cuts f → (∀ k, f ≤ k → ¬ StrLaws.At (S x) (S [c]) (S x).length k) →
    (partsFrom (S x) 1 a cuts).map (fun z => z.cps.toList) = ys
  | [], _, _, _, h, _, _, _, _ => absurd rfl h
  | [y], cuts, a, f, _, hy, hx, hc, hn => by
    have hx' : x.drop a = y ++ [] := by rw [hx]; simp [jn]
    have h13 := hy y (.head _)
    cases cuts with
    | nil =>
      show [(strSub (S x) a (S x).length).cps.toList] = _
      rw [sub_list, S_len, List.take_of_length_le (by simp), hx']; simp
    | cons q r =>
      obtain ⟨h1, h2, _⟩ := hc
      have h2' := (at_one c x q).mp h2
      have hlen : (x.drop a).length = y.length := by rw [hx']; simp
      rw [List.length_drop] at hlen
      exact absurd h2' (no_at1 hx' h13 h1 (by obtain ⟨r', e⟩ := h2'; have : (x.drop q).length = r'.length + 1 := by rw [e]; rfl
                                              rw [List.length_drop] at this; omega))
  | y :: z :: r, cuts, a, f, _, hy, hx, hc, hn => by
    have hx' : x.drop a = y ++ (c :: jn [c] (z :: r)) := by rw [hx, jn]; simp
    have h13 := hy y (.head _)
    have hd : x.drop (a + y.length) = c :: jn [c] (z :: r) := by
      rw [← List.drop_drop, hx', List.drop_left]
    have hat := (at_one c x (a + y.length)).mpr ⟨_, hd⟩
    cases cuts with
    | nil =>
      have e : f = a := hc
      exact absurd hat (hn _ (by rw [e]; exact Nat.le_add_right _ _))
    | cons q cs =>
      obtain ⟨h1, h2, h3, h4⟩ := hc
      have h2' := (at_one c x q).mp h2
      have hce : q = a + y.length := by
        rcases Nat.lt_trichotomy q (a + y.length) with e | e | e
        · exact absurd h2' (no_at1 hx' h13 h1 e)
        · exact e
        · exact absurd hat (h3 _ (Nat.le_add_right _ _) e)
      subst hce
      show (strSub (S x) a (a + y.length)).cps.toList :: (partsFrom (S x) 1 (a + y.length + 1) cs).map _ = _
      rw [sub_list, hx', Nat.add_sub_cancel_left, List.take_left]
      congr 1
      refine spl_parts1 c x (z :: r) cs _ f (by simp) (fun u hu => hy u (.tail _ hu)) ?_ h4 hn
      rw [← List.drop_drop, hd]; rfl
theorem spl_one {c : Nat} {ys : List (List Nat)} (h0 : ys ≠ []) (hy : ∀ y ∈ ys, c ∉ y) (hk : ¬ Builtin.Str.strKind (S (jn [c] ys)) < Builtin.Str.strKind (S [c]) ∨ ys.length = 1) : spl (jn [c] ys) [c] = ys := by
  obtain ⟨f, hG, hn⟩ := occ_tight (S (jn [c] ys)) (S [c]) (by rw [S_len]; simp)
  have key := spl_parts1 c (jn [c] ys) ys _ 0 f h0 hy (by simp) hG hn
  unfold spl Txt.split
  split
  · rename_i hc
    rw [Bool.or_eq_true, decide_eq_true_eq, decide_eq_true_eq] at hc
    have hone : ys.length = 1 := by
      rcases hk with hk | hk
      · have hl := hc.resolve_right hk
        rw [S_len, S_len] at hl
        cases ys with
        | nil => exact absurd rfl h0
        | cons y r =>
          cases r with
          | nil => rfl
          | cons z r => rw [jn] at hl; simp at hl
      · exact hk
    obtain ⟨y, rfl⟩ : ∃ y, ys = [y] := by
      cases ys with
      | nil => cases hone
      | cons y r => cases r with | nil => exact ⟨y, rfl⟩ | cons z r => simp at hone
    simp [jn, S_toList]
  · split
    · rename_i he
      have e0 := List.isEmpty_iff.mp he
      rw [e0] at key
      simpa [partsFrom, sub_list, S_len, S_toList] using key
    · rw [partsBetween_eq]; exact key
end Mine
end
section
open PySem PySem.W PyProof.Rows PySem.Spec
set_option Elab.async false
set_option linter.all false
set_option maxRecDepth 100000
set_option maxHeartbeats 1000000
namespace Mine
noncomputable def prD (p : Int × Int) : PyData := .tuple [.int p.1, .int p.2]
noncomputable def Sm (z : Int) : Prop := z.natAbs < 2 ^ 1000
theorem Sm.bits {z : Int} (h : Sm z) : Builtin.Int.intBits z ≤ 1000 := by
  unfold Builtin.Int.intBits
  split
  · omega
  · rename_i h0
    have h1 : z.natAbs ≠ 0 := fun q => h0 (by simp at q; simp [q])
    have := (Nat.log2_lt h1).mpr h
    omega
theorem Sm.mul {a b : Int} (ha : Sm a) (hb : Sm b) : IntMulOk a b := PyProof.Rows.mulOk_of_bits ha.bits hb.bits (by decide)
theorem Sm.log {a : Int} (ha : Sm a) (h0 : a ≠ 0) : a.natAbs.log2 < 9000 := by
  have h1 : a.natAbs ≠ 0 := by omega
  have := (Nat.log2_lt h1).mpr ha
  omega
section
variable {prog : Program} {w : World} {mg mb : Str → Option Value}
noncomputable abbrev FacC (prog : Program) (w : World) (mg mb : Str → Option Value) (ps : List (Int × Int)) (n a : Nat) (t : Int) (a' : Nat) : Prop := Fn (WL prog w mg mb) (.ref 98) n [.list (ps.map prD), nt a] (.tuple [.int t, nt a'])
noncomputable abbrev PrdC (prog : Program) (w : World) (mg mb : Str → Option Value) (ps : List (Int × Int)) (n a : Nat) (t : Int) (a' : Nat) : Prop := Fn (WL prog w mg mb) (.ref 105) n [.list (ps.map prD), nt a] (.tuple [.int t, nt a'])
noncomputable abbrev DifC (prog : Program) (w : World) (mg mb : Str → Option Value) (ps : List (Int × Int)) (n a : Nat) (t : Int) (a' : Nat) : Prop := Fn (WL prog w mg mb) (.ref 112) n [.list (ps.map prD), nt a] (.tuple [.int t, nt a'])
inductive PG (F : Nat → Int → Nat → Prop) (ps : List (Int × Int)) : Nat → Int → Nat → Int → Nat → Prop
  | stop {t a k v} : ps[a]? = some (k, v) → k ≠ 16 → k ≠ 47 → PG F ps 0 t a t a
  | mul {m t a v o a2 t' a'} : ps[a]? = some (16, v) → F (a + 1) o a2 → Sm t → Sm o → PG F ps m (t * o) a2 t' a' → PG F ps (m + 1) t a t' a'
  | div {m t a v o a2 t' a'} : ps[a]? = some (47, v) → F (a + 1) o a2 → o ≠ 0 → Sm o → PG F ps m (t.fdiv o) a2 t' a' → PG F ps (m + 1) t a t' a'
inductive DG (F : Nat → Int → Nat → Prop) (ps : List (Int × Int)) : Nat → Int → Nat → Int → Nat → Prop
  | stop {t a k v} : ps[a]? = some (k, v) → k ≠ 15 → DG F ps 0 t a t a
  | sub {m t a v o a2 t' a'} : ps[a]? = some (15, v) → F (a + 1) o a2 → DG F ps m (t - o) a2 t' a' → DG F ps (m + 1) t a t' a'
theorem pr_get {ps : List (Int × Int)} {a : Nat} {p : Int × Int} (h : ps[a]? = some p) : (ps.map prD)[a]? = some (.tuple [.int p.1, .int p.2]) := by rw [List.getElem?_map, h]; rfl
theorem c_factor_num (G : (WL prog w mg mb).Glob) {ps : List (Int × Int)} (hl : ps.length ≤ 1000) {n a : Nat} {k v : Int} (hp : ps[a]? = some (k, v)) (h7 : k ≠ 7) : FacC prog w mg mb ps (n + 1) a (if k = 14 then v else -v) (a + 1) := by
  have hs : (ps.map prD).length ≤ sizeLine := by rw [List.length_map]; exact Nat.le_trans hl (by decide)
  refine Fn.of_at (nm := ["pairs", "at", "kind", "value", "told"]) (gl := ["_law_difference"]) (ps := ["pairs", "at"]) rfl rfl rfl rfl rfl rfl rfl (by decide +kernel) (bind2 fun _ _ => rfl) (.cons Put.i0 (.cons Put.i1 .nil)) fun A s L hz bad bad' => ?_
  refine Ex.unp (Ev.itemLN (Ev.name At.i0) (Ev.name At.i1) (pr_get hp) hs) (.cons (.cons .nil)) (.inr rfl) (.cons Put.i2 (.cons Put.i3 .nil)) ?_
  refine Ex.ite (c := false) (Tst.eq (Tst.cmp (EvC.eq (Ev.name At.i2) Ev.int)) (by simpa using h7)) (fun h => by cases h) (fun _ => Ex.next ?_)
  refine Ex.ret (Ev.tuple (.cons (Ev.iteI (c := decide (k = 14)) (Tst.cmp (EvC.eq (Ev.name At.i2) Ev.int)) (Ev.name At.i3) (Ev.neg (Ev.name At.i3))) (.cons (Ev.addN (Ev.name At.i1) (Ev.nat (n := 1))) .nil)) (Nat.le_of_ble_eq_true rfl)) fun s v O r => O.retD ?_
  simpa using r
theorem c_factor_par (G : (WL prog w mg mb).Glob) {ps : List (Int × Int)} (hl : ps.length ≤ 1000) {n a a' : Nat} {t v : Int} (hp : ps[a]? = some (7, v)) (h : DifC prog w mg mb ps n (a + 1) t a') : FacC prog w mg mb ps (n + 1) a t (a' + 1) := by
  have hs : (ps.map prD).length ≤ sizeLine := by rw [List.length_map]; exact Nat.le_trans hl (by decide)
  refine Fn.of_at (nm := ["pairs", "at", "kind", "value", "told"]) (gl := ["_law_difference"]) (ps := ["pairs", "at"]) rfl rfl rfl rfl rfl rfl rfl (by decide +kernel) (bind2 fun _ _ => rfl) (.cons Put.i0 (.cons Put.i1 .nil)) fun A s L hz bad bad' => ?_
  refine Ex.unp (Ev.itemLN (Ev.name At.i0) (Ev.name At.i1) (pr_get hp) hs) (.cons (.cons .nil)) (.inr rfl) (.cons Put.i2 (.cons Put.i3 .nil)) ?_
  refine Ex.ite (c := true) (Tst.eq (Tst.cmp (EvC.eq (Ev.name At.i2) Ev.int)) (by simp)) (fun _ => ?_) (fun h => by cases h)
  refine Ex.unp (Ev.call (Ev.glob Mem.i0 (G.g _ _ g_difference)) (.fn rfl rfl) (.cons (Ev.name At.i0) (.cons (Ev.addN (Ev.name At.i1) (Ev.nat (n := 1))) .nil)) h (Nat.le_refl _)) (.cons (.cons .nil)) (.inr rfl) (.cons Put.i4 (.cons Put.i1 .nil)) ?_
  exact Ex.ret (Ev.tuple (.cons (Ev.name At.i4) (.cons (Ev.addN (Ev.name At.i1) (Ev.nat (n := 1))) .nil)) (Nat.le_of_ble_eq_true rfl)) fun s v O r => O.retD r
theorem c_product (G : (WL prog w mg mb).Glob) {ps : List (Int × Int)} (hl : ps.length ≤ 1000) {n a0 a m a' : Nat} {t t' : Int} (h1 : FacC prog w mg mb ps n a0 t a) (h2 : PG (FacC prog w mg mb ps n) ps m t a t' a') : PrdC prog w mg mb ps (n + 1) a0 t' a' := by
  have hs : (ps.map prD).length ≤ sizeLine := by rw [List.length_map]; exact Nat.le_trans hl (by decide)
  refine Fn.of_at (nm := ["pairs", "at", "told", "kind", "other"]) (gl := ["_law_factor"]) (ps := ["pairs", "at"]) rfl rfl rfl rfl rfl rfl rfl (by decide +kernel) (bind2 fun _ _ => rfl) (.cons Put.i0 (.cons Put.i1 .nil)) fun A s L hz bad bad' => ?_
  refine Ex.unp (Ev.call (Ev.glob Mem.i0 (G.g _ _ g_factor)) (.fn rfl rfl) (.cons (Ev.name At.i0) (.cons (Ev.name At.i1) .nil)) h1 (Nat.le_refl _)) (.cons (.cons .nil)) (.inr rfl) (.cons Put.i2 (.cons Put.i1 .nil)) ?_
  refine Ex.while (J := fun m y => ∃ (t : Int) (a : Nat) (b : List Addr), PG (FacC prog w mg mb ps n) ps m t a t' a' ∧ y = ⟨hz, b, [], [.val (.list (ps.map prD)), .val (nt a), .val (.int t), .no, .no]⟩)
    (D := fun y => ∃ b : List Addr, y = ⟨hz, b, [], [.val (.list (ps.map prD)), .val (nt a'), .val (.int t'), .no, .no]⟩) (n := m) ⟨t, a, _, h2, rfl⟩ ?_ ?_
  · rintro m y ⟨t, a, b, h, rfl⟩
    cases h with
    | stop hp h16 h47 =>
      refine ⟨false, Tst.eq (Tst.or (Tst.cmp (EvC.eq (Ev.itemT (i := 0) (Ev.itemLN (Ev.name At.i0) (Ev.name At.i1) (pr_get hp) hs) Ev.int (by decide) rfl (Nat.le_of_ble_eq_true rfl)) Ev.int)) fun _ => Tst.or (Tst.cmp (EvC.eq (Ev.itemT (i := 0) (Ev.itemLN (Ev.name At.i0) (Ev.name At.i1) (pr_get hp) hs) Ev.int (by decide) rfl (Nat.le_of_ble_eq_true rfl)) Ev.int)) fun _ => Tst.orN) (by simp [h16, h47]), fun _ => ⟨b, rfl⟩, fun h => by cases h⟩
    | mul hp hF ht ho hr =>
      rename_i m' v o a2
      refine ⟨true, Tst.eq (Tst.or (Tst.cmp (EvC.eq (Ev.itemT (i := 0) (Ev.itemLN (Ev.name At.i0) (Ev.name At.i1) (pr_get hp) hs) Ev.int (by decide) rfl (Nat.le_of_ble_eq_true rfl)) Ev.int)) fun _ => Tst.or (Tst.cmp (EvC.eq (Ev.itemT (i := 0) (Ev.itemLN (Ev.name At.i0) (Ev.name At.i1) (pr_get hp) hs) Ev.int (by decide) rfl (Nat.le_of_ble_eq_true rfl)) Ev.int)) fun _ => Tst.orN) (by simp), fun h => (by cases h), fun _ => ?_⟩
      refine Ex.asg (d := .int 16) (Ev.itemT (i := 0) (Ev.itemLN (Ev.name At.i0) (Ev.name At.i1) (pr_get hp) hs) Ev.int (by decide) rfl (Nat.le_of_ble_eq_true rfl)) Put.i3 ?_
      refine Ex.unp (Ev.call (Ev.glob Mem.i0 (G.g _ _ g_factor)) (.fn rfl rfl) (.cons (Ev.name At.i0) (.cons (Ev.addN (Ev.name At.i1) (Ev.nat (n := 1))) .nil)) hF (Nat.le_refl _)) (.cons (.cons .nil)) (.inr rfl) (.cons Put.i4 (.cons Put.i1 .nil)) ?_
      refine Ex.asg (d := .int (t * o)) (Ev.ite (c := true) (Tst.eq (Tst.cmp (EvC.eq (Ev.name At.i3) Ev.int)) (by simp)) (fun _ => Ev.mul (Ev.name At.i2) (Ev.name At.i4) (ht.mul ho)) (fun h => by cases h)) Put.i2 ?_
      exact Ex.nil fun s O => ⟨m', _, by omega, ⟨t * o, a2, b, hr, rfl⟩, O.forget (.keep (.keep (.keep (.drop (.drop .nil)))))⟩
    | div hp hF h0 ho hr =>
      rename_i m' v o a2
      refine ⟨true, Tst.eq (Tst.or (Tst.cmp (EvC.eq (Ev.itemT (i := 0) (Ev.itemLN (Ev.name At.i0) (Ev.name At.i1) (pr_get hp) hs) Ev.int (by decide) rfl (Nat.le_of_ble_eq_true rfl)) Ev.int)) fun _ => Tst.or (Tst.cmp (EvC.eq (Ev.itemT (i := 0) (Ev.itemLN (Ev.name At.i0) (Ev.name At.i1) (pr_get hp) hs) Ev.int (by decide) rfl (Nat.le_of_ble_eq_true rfl)) Ev.int)) fun _ => Tst.orN) (by simp), fun h => (by cases h), fun _ => ?_⟩
      refine Ex.asg (d := .int 47) (Ev.itemT (i := 0) (Ev.itemLN (Ev.name At.i0) (Ev.name At.i1) (pr_get hp) hs) Ev.int (by decide) rfl (Nat.le_of_ble_eq_true rfl)) Put.i3 ?_
      refine Ex.unp (Ev.call (Ev.glob Mem.i0 (G.g _ _ g_factor)) (.fn rfl rfl) (.cons (Ev.name At.i0) (.cons (Ev.addN (Ev.name At.i1) (Ev.nat (n := 1))) .nil)) hF (Nat.le_refl _)) (.cons (.cons .nil)) (.inr rfl) (.cons Put.i4 (.cons Put.i1 .nil)) ?_
      refine Ex.asg (d := .int (t.fdiv o)) (Ev.ite (c := false) (Tst.eq (Tst.cmp (EvC.eq (Ev.name At.i3) Ev.int)) (by decide)) (fun h => by cases h) (fun _ => Ev.fdiv (Ev.name At.i2) (Ev.name At.i4) h0 (ho.log h0))) Put.i2 ?_
      exact Ex.nil fun s O => ⟨m', _, by omega, ⟨t.fdiv o, a2, b, hr, rfl⟩, O.forget (.keep (.keep (.keep (.drop (.drop .nil)))))⟩
  · rintro y ⟨b, rfl⟩
    exact Ex.ret (Ev.tuple (.cons (Ev.name At.i2) (.cons (Ev.name At.i1) .nil)) (Nat.le_of_ble_eq_true rfl)) fun s v O r => O.retD r
theorem c_difference (G : (WL prog w mg mb).Glob) {ps : List (Int × Int)} (hl : ps.length ≤ 1000) {n a0 a m a' : Nat} {t t' : Int} (h1 : PrdC prog w mg mb ps n a0 t a) (h2 : DG (PrdC prog w mg mb ps n) ps m t a t' a') : DifC prog w mg mb ps (n + 1) a0 t' a' := by
  have hs : (ps.map prD).length ≤ sizeLine := by rw [List.length_map]; exact Nat.le_trans hl (by decide)
  refine Fn.of_at (nm := ["pairs", "at", "told", "other"]) (gl := ["_law_product"]) (ps := ["pairs", "at"]) rfl rfl rfl rfl rfl rfl rfl (by decide +kernel) (bind2 fun _ _ => rfl) (.cons Put.i0 (.cons Put.i1 .nil)) fun A s L hz bad bad' => ?_
  refine Ex.unp (Ev.call (Ev.glob Mem.i0 (G.g _ _ g_product)) (.fn rfl rfl) (.cons (Ev.name At.i0) (.cons (Ev.name At.i1) .nil)) h1 (Nat.le_refl _)) (.cons (.cons .nil)) (.inr rfl) (.cons Put.i2 (.cons Put.i1 .nil)) ?_
  refine Ex.while (J := fun m y => ∃ (t : Int) (a : Nat) (b : List Addr), DG (PrdC prog w mg mb ps n) ps m t a t' a' ∧ y = ⟨hz, b, [], [.val (.list (ps.map prD)), .val (nt a), .val (.int t), .no]⟩)
    (D := fun y => ∃ b : List Addr, y = ⟨hz, b, [], [.val (.list (ps.map prD)), .val (nt a'), .val (.int t'), .no]⟩) (n := m) ⟨t, a, _, h2, rfl⟩ ?_ ?_
  · rintro m y ⟨t, a, b, h, rfl⟩
    cases h with
    | stop hp h15 =>
      exact ⟨false, Tst.eq (Tst.cmp (EvC.eq (Ev.itemT (i := 0) (Ev.itemLN (Ev.name At.i0) (Ev.name At.i1) (pr_get hp) hs) Ev.int (by decide) rfl (Nat.le_of_ble_eq_true rfl)) Ev.int)) (by simp [h15]), fun _ => ⟨b, rfl⟩, fun h => by cases h⟩
    | sub hp hF hr =>
      rename_i m' v o a2
      refine ⟨true, Tst.eq (Tst.cmp (EvC.eq (Ev.itemT (i := 0) (Ev.itemLN (Ev.name At.i0) (Ev.name At.i1) (pr_get hp) hs) Ev.int (by decide) rfl (Nat.le_of_ble_eq_true rfl)) Ev.int)) (by simp), fun h => (by cases h), fun _ => ?_⟩
      refine Ex.unp (Ev.call (Ev.glob Mem.i0 (G.g _ _ g_product)) (.fn rfl rfl) (.cons (Ev.name At.i0) (.cons (Ev.addN (Ev.name At.i1) (Ev.nat (n := 1))) .nil)) hF (Nat.le_refl _)) (.cons (.cons .nil)) (.inr rfl) (.cons Put.i3 (.cons Put.i1 .nil)) ?_
      refine Ex.asg (d := .int (t - o)) (Ev.sub (Ev.name At.i2) (Ev.name At.i3)) Put.i2 ?_
      exact Ex.nil fun s O => ⟨m', _, by omega, ⟨t - o, a2, b, hr, rfl⟩, O.forget (.keep (.keep (.keep (.drop .nil))))⟩
  · rintro y ⟨b, rfl⟩
    exact Ex.ret (Ev.tuple (.cons (Ev.name At.i2) (.cons (Ev.name At.i1) .nil)) (Nat.le_of_ble_eq_true rfl)) fun s v O r => O.retD r
end
end Mine
end
section
open PySem PySem.W PyProof.Rows PySem.Spec
set_option Elab.async false
set_option linter.all false
set_option maxRecDepth 100000
set_option maxHeartbeats 1000000
namespace Mine
noncomputable def symF (ps : List (Int × Int)) : List Int := 256 :: ((ps.flatMap fun p => [p.1, p.2 + 256]) ++ [0])
theorem flat_get (r : List Int) : ∀ (ps : List (Int × Int)) (i : Nat) (p : Int × Int), ps[i]? = some p → ((ps.flatMap fun p => [p.1, p.2 + 256]) ++ r)[2 * i]? = some p.1 ∧ ((ps.flatMap fun p => [p.1, p.2 + 256]) ++ r)[2 * i + 1]? = some (p.2 + 256)
  | [], i, p, h => by simp at h
  | q :: ps, 0, p, h => by simp at h; subst h; exact ⟨rfl, rfl⟩
  | q :: ps, i + 1, p, h => by
    have ih := flat_get r ps i p (by simpa using h)
    rw [List.flatMap_cons, List.append_assoc, show 2 * (i + 1) = 2 * i + 1 + 1 by omega, show 2 * i + 1 + 1 + 1 = 2 * i + 1 + 1 + 1 from rfl]
    exact ih
theorem flat_len : ∀ ps : List (Int × Int), (ps.flatMap fun p => [p.1, p.2 + 256]).length = 2 * ps.length
  | [] => rfl
  | p :: ps => by rw [List.flatMap_cons, List.length_append, flat_len ps]; simp; omega
noncomputable def tok (z : Int) : Int × Int := (if z < 0 then 15 else 14, (z.natAbs : Int))
noncomputable def pairsL (a b c d e f g h i n : Int) : List (Int × Int) :=
  [(7, 0), (7, 0), tok a, (16, 0), tok e, (15, 0), tok b, (16, 0), tok d, (8, 0), (16, 0), (7, 0), tok e, (16, 0), tok i, (15, 0), tok f, (16, 0), tok h, (8, 0), (15, 0),
   (7, 0), tok b, (16, 0), tok f, (15, 0), tok c, (16, 0), tok e, (8, 0), (16, 0), (7, 0), tok d, (16, 0), tok h, (15, 0), tok e, (16, 0), tok g, (8, 0), (8, 0), (47, 0), tok e, (27, 0), tok n]
theorem sm_of {z : Int} (h : z.natAbs < 16 ^ 17) : Sm z := Nat.lt_of_lt_of_le h (by decide)
theorem sm_minor {a b c d : Int} (ha : a.natAbs < 16 ^ 17) (hb : b.natAbs < 16 ^ 17) (hc : c.natAbs < 16 ^ 17) (hd : d.natAbs < 16 ^ 17) : Sm (a * b - c * d) := by
  have h1 : (a * b).natAbs ≤ 16 ^ 17 * 16 ^ 17 := by rw [Int.natAbs_mul]; exact Nat.mul_le_mul (Nat.le_of_lt ha) (Nat.le_of_lt hb)
  have h2 : (c * d).natAbs ≤ 16 ^ 17 * 16 ^ 17 := by rw [Int.natAbs_mul]; exact Nat.mul_le_mul (Nat.le_of_lt hc) (Nat.le_of_lt hd)
  have h3 : (a * b - c * d).natAbs ≤ (a * b).natAbs + (c * d).natAbs := by omega
  have h4 : (16 : Nat) ^ 17 * 16 ^ 17 + 16 ^ 17 * 16 ^ 17 < 2 ^ 1000 := by decide
  exact Nat.lt_of_le_of_lt (Nat.le_trans h3 (Nat.add_le_add h1 h2)) h4
noncomputable def det (a b c d e f g h i : Int) : Int := a * e * i + b * f * g + c * d * h - c * e * g - b * d * i - a * f * h
theorem dodgson (a b c d e f g h i : Int) : (a * e - b * d) * (e * i - f * h) - (b * f - c * e) * (d * h - e * g) = e * det a b c d e f g h i := by
  unfold det; grind
section
variable {prog : Program} {w : World} {mg mb : Str → Option Value}
theorem c_sides (G : (WL prog w mg mb).Glob) {ps : List (Int × Int)} (hl : ps.length = 45) {n at1 e : Nat} {left right k v : Int} (h1 : DifC prog w mg mb (ps ++ [(0, 0)]) n 0 left at1) (hk : (ps ++ [(0, 0)])[at1]? = some (k, v)) (h2 : DifC prog w mg mb (ps ++ [(0, 0)]) n (at1 + 1) right e) :
    Fn (WL prog w mg mb) (.ref 117) (n + 1) [.list ((symF ps).map .int)] (.list [.int left, .int k, .int right, .int ((e : Int) - 46)]) := by
  have hsl : ((symF ps).map PyData.int).length = 92 := by rw [List.length_map]; unfold symF; rw [List.length_cons, List.length_append, flat_len, hl]; rfl
  have hss : ((symF ps).map PyData.int).length ≤ sizeLine := by rw [hsl]; decide
  have hpl : ((ps ++ [((0 : Int), (0 : Int))]).map prD).length = 46 := by rw [List.length_map, List.length_append, hl]; rfl
  have hps : ((ps ++ [((0 : Int), (0 : Int))]).map prD).length ≤ sizeLine := by rw [hpl]; decide
  refine Fn.of_at (nm := ["symbols", "pairs", "left", "at", "right", "end"]) (gl := ["range", "len", "_law_difference"]) (ps := ["symbols"]) rfl rfl rfl rfl rfl rfl rfl (by decide +kernel) (bind1 fun _ => rfl) (.cons Put.i0 .nil) fun A s L hz bad bad' => ?_
  refine Ex.asg (d := .list ((ps ++ [(0, 0)]).map prD)) (Ev.eq (Ev.catL (Ev.comp1 (xs := List.range 45) (di := fun i : Nat => .int (1 + (i : Int) * 2)) (g := fun i => prD (ps.getD i (0, 0))) (p := fun _ => true) (own := ["k"]) (fr := ["symbols"]) (gl := []) (ns := ["k"])
    (Iter.range (a := 1) (b := 91) (c := 2) (n := 45) (EvR.three (Ev.blt Mem.i0 (z_range G)) Ev.int (Ev.eq (Ev.sub (Ev.call (Ev.blt Mem.i1 (z_len G)) (.builtin _) (.cons (Ev.name At.i0) .nil) (Fn.len_list (by rw [hsl]; decide)) (Nat.zero_le _)) Ev.int) (by rw [hsl]; rfl)) Ev.int (by decide) (by decide)) (by decide) (by decide)) rfl (by decide +kernel) (Ats.one At.i0) rfl rfl one_in (by decide) (fun i hi C cs base hz bad led => ⟨_, .name .here, .drop (.keep .nil), .nil, fun _ => ?_⟩))
    (Ev.list (ds := [prD (0, 0)]) (.cons (Ev.tuple (.cons Ev.int (.cons Ev.int .nil)) (Nat.le_of_ble_eq_true rfl)) .nil) (Nat.le_of_ble_eq_true rfl)) (by rw [map_true, List.length_map, List.length_range]; show 45 + 1 ≤ sizeLine; decide)) ?e1) Put.i1 ?_
  · have hi' : i < 45 := by simpa using hi
    have hg : ps[i]? = some (ps.getD i (0, 0)) := by rw [List.getD_eq_getElem?_getD, List.getElem?_eq_getElem (by omega)]; rfl
    obtain ⟨g1, g2⟩ := flat_get [0] ps i _ hg
    have ek : (1 + (i : Int) * 2) = ((2 * i + 1 : Nat) : Int) := by omega
    rw [ek]
    have s1 : ((symF ps).map PyData.int)[2 * i + 1]? = some (.int (ps.getD i (0, 0)).1) := by rw [List.getElem?_map]; unfold symF; rw [List.getElem?_cons_succ, g1]; rfl
    have s2 : ((symF ps).map PyData.int)[2 * i + 1 + 1]? = some (.int ((ps.getD i (0, 0)).2 + 256)) := by rw [List.getElem?_map]; unfold symF; rw [List.getElem?_cons_succ, g2]; rfl
    exact Ev.tuple (.cons (Ev.itemLN (Ev.name At.i1) (Ev.name At.i0) s1 hss) (.cons (Ev.eq (Ev.sub (Ev.itemLN (Ev.name At.i1) (Ev.addN (Ev.name At.i0) (Ev.nat (n := 1))) s2 hss) Ev.int) (congrArg PyData.int (by omega))) .nil)) (Nat.le_of_ble_eq_true rfl)
  case e1 =>
    rw [map_true, List.map_append]
    congr 2
    refine List.ext_getElem (by simp [hl]) fun i h1 h2 => ?_
    simp only [List.getElem_map, List.getElem_range]
    rw [List.getD_eq_getElem?_getD, List.getElem?_eq_getElem (by simpa using h2)]; rfl
  refine Ex.unp (Ev.call (Ev.glob Mem.i2 (G.g _ _ g_difference)) (.fn rfl rfl) (.cons (Ev.name At.i1) (.cons (Ev.nat (n := 0)) .nil)) h1 (Nat.le_refl _)) (.cons (.cons .nil)) (.inr rfl) (.cons Put.i2 (.cons Put.i3 .nil)) ?_
  refine Ex.unp (Ev.call (Ev.glob Mem.i2 (G.g _ _ g_difference)) (.fn rfl rfl) (.cons (Ev.name At.i1) (.cons (Ev.addN (Ev.name At.i3) (Ev.nat (n := 1))) .nil)) h2 (Nat.le_refl _)) (.cons (.cons .nil)) (.inr rfl) (.cons Put.i4 (.cons Put.i5 .nil)) ?_
  exact Ex.ret (Ev.list (.cons (Ev.name At.i2) (.cons (Ev.itemT (i := 0) (Ev.itemLN (Ev.name At.i1) (Ev.name At.i3) (pr_get hk) hps) Ev.int (by decide) rfl (Nat.le_of_ble_eq_true rfl)) (.cons (Ev.name At.i4) (.cons (Ev.eq (Ev.sub (Ev.name At.i5) (Ev.call (Ev.blt Mem.i1 (z_len G)) (.builtin _) (.cons (Ev.name At.i1) .nil) (Fn.len_list (by rw [hpl]; decide)) (Nat.zero_le _))) (by rw [hpl]; rfl)) .nil)))) (Nat.le_of_ble_eq_true rfl)) fun s v O r => O.retD r
section
variable (G : (WL prog w mg mb).Glob) {ps : List (Int × Int)} (hl : ps.length ≤ 1000)
include G hl
theorem f_tok {n at1 : Nat} {z : Int} (h : ps[at1]? = some (tok z)) : FacC prog w mg mb ps (n + 1) at1 z (at1 + 1) := by
  have := c_factor_num (n := n) G hl (k := (tok z).1) (v := (tok z).2) h (by unfold tok; simp only []; split <;> decide)
  have e : (if (tok z).1 = 14 then (tok z).2 else -(tok z).2) = z := by unfold tok; simp only []; split <;> simp <;> omega
  rw [e] at this; exact this
theorem f_term {n q : Nat} {x y k v : Int} (h0 : ps[q]? = some (tok x)) (h1 : ps[q + 1]? = some (16, 0)) (h2 : ps[q + 1 + 1]? = some (tok y)) (h3 : ps[q + 1 + 1 + 1]? = some (k, v)) (hx : Sm x) (hy : Sm y) (h16 : k ≠ 16) (h47 : k ≠ 47) : PrdC prog w mg mb ps (n + 1 + 1) q (x * y) (q + 3) :=
  c_product G hl (f_tok G hl h0) (.mul h1 (f_tok G hl h2) hx hy (.stop h3 h16 h47))
theorem f_minor {n q : Nat} {x y z u : Int} (hq : ps[q]? = some (7, 0)) (h0 : ps[q + 1]? = some (tok x)) (h1 : ps[q + 2]? = some (16, 0)) (h2 : ps[q + 3]? = some (tok y)) (h3 : ps[q + 4]? = some (15, 0)) (h4 : ps[q + 5]? = some (tok z)) (h5 : ps[q + 6]? = some (16, 0)) (h6 : ps[q + 7]? = some (tok u)) (h7 : ps[q + 8]? = some (8, 0))
    (hx : Sm x) (hy : Sm y) (hz : Sm z) (hu : Sm u) : FacC prog w mg mb ps (n + 4) q (x * y - z * u) (q + 9) :=
  c_factor_par G hl hq (c_difference G hl (f_term (n := n) G hl h0 h1 h2 h3 hx hy (by decide) (by decide)) (.sub h3 (f_term (n := n) (q := q + 5) G hl h4 h5 h6 h7 hz hu (by decide) (by decide)) (.stop h7 (by decide))))
end
theorem c_sides_claim (G : (WL prog w mg mb).Glob) {a b c d e f g h i : Int} (ha : a.natAbs < 16 ^ 17) (hb : b.natAbs < 16 ^ 17) (hc : c.natAbs < 16 ^ 17) (hd : d.natAbs < 16 ^ 17) (he : e.natAbs < 16 ^ 17) (hf : f.natAbs < 16 ^ 17) (hg : g.natAbs < 16 ^ 17) (hh : h.natAbs < 16 ^ 17) (hi : i.natAbs < 16 ^ 17) (h0 : e ≠ 0) :
    Fn (WL prog w mg mb) (.ref 117) 10 [.list ((symF (pairsL a b c d e f g h i (det a b c d e f g h i))).map .int)] (.list [.int (det a b c d e f g h i), .int 27, .int (det a b c d e f g h i), .int (-1)]) := by
  generalize hn : det a b c d e f g h i = n
  have hl : (pairsL a b c d e f g h i n ++ [(0, 0)]).length ≤ 1000 := by show 46 ≤ 1000; decide
  have m1 := f_minor (n := 0) (q := 1) G hl (x := a) (y := e) (z := b) (u := d) rfl rfl rfl rfl rfl rfl rfl rfl rfl (sm_of ha) (sm_of he) (sm_of hb) (sm_of hd)
  have m2 := f_minor (n := 0) (q := 11) G hl (x := e) (y := i) (z := f) (u := h) rfl rfl rfl rfl rfl rfl rfl rfl rfl (sm_of he) (sm_of hi) (sm_of hf) (sm_of hh)
  have m3 := f_minor (n := 0) (q := 21) G hl (x := b) (y := f) (z := c) (u := e) rfl rfl rfl rfl rfl rfl rfl rfl rfl (sm_of hb) (sm_of hf) (sm_of hc) (sm_of he)
  have m4 := f_minor (n := 0) (q := 31) G hl (x := d) (y := h) (z := e) (u := g) rfl rfl rfl rfl rfl rfl rfl rfl rfl (sm_of hd) (sm_of hh) (sm_of he) (sm_of hg)
  have p1 := c_product G hl m1 (.mul (v := 0) rfl m2 (sm_minor ha he hb hd) (sm_minor he hi hf hh) (.stop (k := 15) (v := 0) rfl (by decide) (by decide)))
  have p2 := c_product G hl m3 (.mul (v := 0) rfl m4 (sm_minor hb hf hc he) (sm_minor hd hh he hg) (.stop (k := 8) (v := 0) rfl (by decide) (by decide)))
  have d1 := c_difference G hl p1 (.sub (v := 0) rfl p2 (.stop (k := 8) (v := 0) rfl (by decide)))
  have f0 := c_factor_par (a := 0) (v := 0) G hl rfl d1
  have p0 := c_product G hl f0 (.div (v := 0) rfl (f_tok (n := 6) (at1 := 42) (z := e) G hl rfl) h0 (sm_of he) (.stop (k := 27) (v := 0) rfl (by decide) (by decide)))
  have d0 := c_difference G hl p0 (.stop (k := 27) (v := 0) rfl (by decide))
  have r0 := c_difference G hl (c_product G hl (f_tok (n := 6) (at1 := 44) (z := n) G hl rfl) (.stop (k := 0) (v := 0) rfl (by decide) (by decide))) (.stop (k := 0) (v := 0) rfl (by decide))
  have key := c_sides (ps := pairsL a b c d e f g h i n) G rfl d0 (k := 27) (v := 0) rfl r0
  rw [dodgson, hn, Int.mul_fdiv_cancel_left _ h0] at key
  exact key
end
end Mine
end
section
open PySem PySem.W PyProof.Rows PySem.Spec
set_option Elab.async false
set_option linter.all false
set_option maxRecDepth 100000
set_option maxHeartbeats 1000000
namespace Mine
noncomputable def noPre (s : List Nat) (x : Nat) : Bool := opsL.all fun p => !(s ++ [x]).isPrefixOf p.1
theorem noPre_look {s : List Nat} {x : Nat} (h : noPre s x = true) (n : Nat) (hn : s.length < n) (r : List Nat) : opsL.lookup ((s ++ x :: r).take n) = none := by
  cases q : opsL.lookup ((s ++ x :: r).take n) with
  | none => rfl
  | some k =>
    have hm := look_mem q
    have := List.all_eq_true.mp h _ hm
    have hp : (s ++ [x]).isPrefixOf ((s ++ x :: r).take n) = true := by
      rw [List.isPrefixOf_iff_prefix]
      obtain ⟨m, hm⟩ : ∃ m, n = s.length + (m + 1) := ⟨n - s.length - 1, by omega⟩
      rw [hm, List.take_append, List.take_of_length_le (by omega), show s.length + (m + 1) - s.length = m + 1 by omega, List.take_succ_cons]
      exact ⟨r.take m, by simp⟩
    rw [hp] at this
    exact absurd this (by decide)
theorem Lx.opn {c : Nat} {o r : List Nat} {v : Int} {k : Nat} {out : List Int} (h2 : c < 65 ∨ 81 ≤ c) (hk : opsL.lookup (c :: o) = some k) (ho : o.length < 3) (hp : ∀ x t, r = x :: t → noPre (c :: o) x = true) (h : Lx [] r 256 out) :
    Lx [] (c :: (o ++ r)) v (v :: (k : Int) :: out) := by
  refine .op (by simp) h2 hk ho (fun n h1 h3 h4 => ?_) h
  cases r with
  | nil => simp at h4; omega
  | cons x t => exact noPre_look (hp x t rfl) n (by simpa using h1) t
inductive Tk where
  | op (c : Nat) (o : List Nat) (k : Nat)
  | num (z : Int)
noncomputable def wordS (z : Int) : List Nat := (if z < 0 then [45] else [43]) ++ lett z.natAbs 53
noncomputable def Tk.txt : Tk → List Nat
  | .op c o _ => c :: o
  | .num z => wordS z
noncomputable def Tk.pr : Tk → Int × Int
  | .op _ _ k => ((k : Int), 0)
  | .num z => tok z
noncomputable def Tk.hd : Tk → List Nat
  | .op c _ _ => [c]
  | .num _ => [43, 45]
noncomputable def hds : List Tk → List Nat
  | [] => []
  | t :: _ => t.hd
noncomputable def okT : List Tk → Prop
  | [] => True
  | .op c o k :: r => ((c < 65 ∨ 81 ≤ c) ∧ opsL.lookup (c :: o) = some k ∧ o.length < 3 ∧ (hds r).all (fun x => noPre (c :: o) x) = true) ∧ okT r
  | .num z :: r => (z.natAbs < 16 ^ 53 ∧ (z ≠ 0 ∨ (hds r).all (fun x => noPre [43] x) = true)) ∧ okT r
theorem txt_head {ts : List Tk} {x : Nat} {t : List Nat} (h : ts.flatMap Tk.txt = x :: t) : x ∈ hds ts := by
  cases ts with
  | nil => cases h
  | cons a ts =>
    cases a with
    | op c o k => injection h with h _; subst h; exact .head _
    | num z =>
      have h' : wordS z ++ ts.flatMap Tk.txt = x :: t := h
      unfold wordS at h'
      split at h'
      · injection h' with h' _; subst h'; exact .tail _ (.head _)
      · injection h' with h' _; subst h'; exact .head _
theorem sign_look : opsL.lookup [43] = some 14 ∧ opsL.lookup [45] = some 15 := by decide +kernel
theorem let_noPre : (List.range 16).all (fun j => noPre [43] (65 + j) && noPre [45] (65 + j)) = true := by decide +kernel
theorem let_pre {y : List Nat} (hy : Let y) {x : Nat} {t r : List Nat} (hr : y ++ r = x :: t) (h0 : y ≠ []) : noPre [43] x = true ∧ noPre [45] x = true := by
  cases y with
  | nil => exact absurd rfl h0
  | cons a y =>
    have e : a = x := by injection hr
    subst e
    have := hy a (.head _)
    obtain ⟨j, hj⟩ : ∃ j, a = 65 + j := ⟨a - 65, by omega⟩
    have := List.all_eq_true.mp let_noPre j (List.mem_range.mpr (by omega))
    rw [hj]
    simpa using this
theorem read_toks : ∀ (ts : List Tk) (v : Int), okT ts → Lx [] (ts.flatMap Tk.txt) v (v :: (ts.flatMap fun t => [t.pr.1, t.pr.2 + 256]))
  | [], v, _ => .done
  | .op c o k :: ts, v, ⟨⟨h1, h2, h3, h4⟩, h5⟩ => by
    show Lx [] (c :: (o ++ ts.flatMap Tk.txt)) v (v :: (k : Int) :: (0 + 256) :: _)
    exact Lx.opn h1 h2 h3 (fun x t e => List.all_eq_true.mp h4 x (txt_head e)) (read_toks ts 256 h5)
  | .num z :: ts, v, ⟨⟨hz, h1⟩, h2⟩ => by
    have ih := read_toks ts (256 + (z.natAbs : Int)) h2
    have hw : wv 256 (lett z.natAbs 53) = 256 + (z.natAbs : Int) := by rw [lett_ap _ _ hz, wv_ap]
    have hl := lett_let z.natAbs 53
    have hword : Lx [] (lett z.natAbs 53 ++ ts.flatMap Tk.txt) 256 ((256 + (z.natAbs : Int)) :: (ts.flatMap fun t => [t.pr.1, t.pr.2 + 256])) := Lx.words hl (fun c hc => nomatch hc) (by rw [hw]; exact ih)
    have hne : z ≠ 0 → lett z.natAbs 53 ≠ [] := fun h0 q => by
      rw [lett_ap _ _ hz, ap_pos (by omega)] at q
      simp at q
    have e0 : (Tk.num z :: ts).flatMap Tk.txt = wordS z ++ ts.flatMap Tk.txt := rfl
    have e1 : ((Tk.num z :: ts).flatMap fun t => [t.pr.1, t.pr.2 + 256]) = (tok z).1 :: ((tok z).2 + 256) :: (ts.flatMap fun t => [t.pr.1, t.pr.2 + 256]) := rfl
    rw [e0, e1]
    have e2 : (tok z).2 + 256 = 256 + (z.natAbs : Int) := by unfold tok; simp only []; omega
    rw [e2]
    unfold wordS
    by_cases hn : z < 0
    · rw [if_pos hn]
      have e3 : (tok z).1 = ((15 : Nat) : Int) := by unfold tok; rw [if_pos hn]; rfl
      rw [e3]
      exact Lx.opn (c := 45) (o := []) (by omega) sign_look.2 (by decide) (fun x t e => (let_pre hl e (hne (by omega))).2) hword
    · rw [if_neg hn]
      have e3 : (tok z).1 = ((14 : Nat) : Int) := by unfold tok; rw [if_neg hn]; rfl
      rw [e3]
      refine Lx.opn (c := 43) (o := []) (by omega) sign_look.1 (by decide) (fun x t e => ?_) hword
      by_cases h0 : z = 0
      · have hl0 : lett z.natAbs 53 = [] := by rw [lett_ap _ _ hz, h0]; exact ap_zero
        have e' : ts.flatMap Tk.txt = x :: t := by rw [hl0] at e; exact e
        rcases h1 with h1 | h1
        · exact absurd h0 h1
        · exact List.all_eq_true.mp h1 x (txt_head e')
      · exact (let_pre hl e (hne h0)).1
noncomputable def claimT (a b c d e f g h i n : Int) : List Tk :=
  [.op 40 [] 7, .op 40 [] 7, .num a, .op 42 [] 16, .num e, .op 45 [] 15, .num b, .op 42 [] 16, .num d, .op 41 [] 8, .op 42 [] 16, .op 40 [] 7, .num e, .op 42 [] 16, .num i, .op 45 [] 15, .num f, .op 42 [] 16, .num h, .op 41 [] 8, .op 45 [] 15,
   .op 40 [] 7, .num b, .op 42 [] 16, .num f, .op 45 [] 15, .num c, .op 42 [] 16, .num e, .op 41 [] 8, .op 42 [] 16, .op 40 [] 7, .num d, .op 42 [] 16, .num h, .op 45 [] 15, .num e, .op 42 [] 16, .num g, .op 41 [] 8, .op 41 [] 8, .op 47 [47] 47, .num e, .op 61 [61] 27, .num n]
theorem claim_pr (a b c d e f g h i n : Int) : (claimT a b c d e f g h i n).map Tk.pr = pairsL a b c d e f g h i n := rfl
theorem claim_txt (a b c d e f g h i n : Int) : (claimT a b c d e f g h i n).flatMap Tk.txt = claimL (wordS a) (wordS b) (wordS c) (wordS d) (wordS e) (wordS f) (wordS g) (wordS h) (wordS i) (wordS n) := by
  unfold claimT claimL headL
  simp only [List.flatMap_cons, List.flatMap_nil, Tk.txt, List.append_assoc, List.cons_append, List.nil_append, List.append_nil]
theorem op_facts : opsL.lookup [40] = some 7 ∧ opsL.lookup [41] = some 8 ∧ opsL.lookup [42] = some 16 ∧ opsL.lookup [45] = some 15 ∧ opsL.lookup [47, 47] = some 47 ∧ opsL.lookup [61, 61] = some 27 := by decide +kernel
theorem pre_facts : ([40, 43, 45].all fun x => noPre [40] x) = true ∧ ([41, 42, 45, 47].all fun x => noPre [41] x) = true ∧ ([40, 43, 45].all fun x => noPre [42] x) = true ∧ ([40, 43, 45].all fun x => noPre [45] x) = true ∧ ([43, 45].all fun x => noPre [47, 47] x) = true ∧ ([43, 45].all fun x => noPre [61, 61] x) = true ∧ ([41, 42, 45].all fun x => noPre [43] x) = true := by decide +kernel
theorem claim_ok {a b c d e f g h i n : Int} (ha : a.natAbs < 16 ^ 53) (hb : b.natAbs < 16 ^ 53) (hc : c.natAbs < 16 ^ 53) (hd : d.natAbs < 16 ^ 53) (he : e.natAbs < 16 ^ 53) (hf : f.natAbs < 16 ^ 53) (hg : g.natAbs < 16 ^ 53) (hh : h.natAbs < 16 ^ 53) (hi : i.natAbs < 16 ^ 53) (hn : n.natAbs < 16 ^ 53) (h0 : e ≠ 0) : okT (claimT a b c d e f g h i n) := by
  obtain ⟨o1, o2, o3, o4, o5, o6⟩ := op_facts
  obtain ⟨p1, p2, p3, p4, p5, p6, p7⟩ := pre_facts
  simp only [List.all_cons, List.all_nil, Bool.and_true, Bool.and_eq_true] at p1 p2 p3 p4 p5 p6 p7
  obtain ⟨a1, a2, a3⟩ := p1
  obtain ⟨b1, b2, b3, b4⟩ := p2
  obtain ⟨c1, c2, c3⟩ := p3
  obtain ⟨d1, d2, d3⟩ := p4
  obtain ⟨e1, e2⟩ := p5
  obtain ⟨f1, f2⟩ := p6
  obtain ⟨g1, g2, g3⟩ := p7
  unfold claimT
  simp only [okT, hds, Tk.hd, List.all_cons, List.all_nil, Bool.and_true, o1, o2, o3, o4, o5, o6, a1, a2, a3, b1, b2, b3, b4, c1, c2, c3, d1, d2, d3, e1, e2, f1, f2, g1, g2, g3, List.length_nil, List.length_cons, ha, hb, hc, hd, he, hf, hg, hh, hi, hn, and_true, true_and, or_true]
  refine ⟨?_, ?_, ?_, ?_, ?_, ?_⟩ <;> first | decide | exact .inl h0 | trivial | omega
theorem claim_read {a b c d e f g h i n : Int} (ha : a.natAbs < 16 ^ 53) (hb : b.natAbs < 16 ^ 53) (hc : c.natAbs < 16 ^ 53) (hd : d.natAbs < 16 ^ 53) (he : e.natAbs < 16 ^ 53) (hf : f.natAbs < 16 ^ 53) (hg : g.natAbs < 16 ^ 53) (hh : h.natAbs < 16 ^ 53) (hi : i.natAbs < 16 ^ 53) (hn : n.natAbs < 16 ^ 53) (h0 : e ≠ 0) :
    ∃ out, Lx [] (claimL (wordS a) (wordS b) (wordS c) (wordS d) (wordS e) (wordS f) (wordS g) (wordS h) (wordS i) (wordS n)) 256 out ∧ out ++ [0] = symF (pairsL a b c d e f g h i n) := by
  refine ⟨_, claim_txt a b c d e f g h i n ▸ read_toks _ 256 (claim_ok ha hb hc hd he hf hg hh hi hn h0), ?_⟩
  unfold symF
  rw [← claim_pr, List.flatMap_map]; rfl
end Mine
end
section
open PySem PySem.W PyProof.Rows PySem.Spec
set_option Elab.async false
set_option linter.all false
set_option maxRecDepth 100000
set_option maxHeartbeats 1000000
namespace Mine
open PySem.StrLaws PySem.Builtin PySem.Builtin.Str
theorem kind_pos (z : Str) : 1 ≤ Builtin.Str.strKind z := by unfold Builtin.Str.strKind; split <;> (try split) <;> omega
theorem kind_one {c : Nat} (h : c < 256) : Builtin.Str.strKind (S [c]) = 1 := by
  unfold Builtin.Str.strKind
  rw [if_pos]
  show ([c].toArray).all (fun x => decide (x < 256)) = true
  simpa using h
theorem spl_none {c : Nat} (h : c < 256) {y : List Nat} (hy : c ∉ y) : spl y [c] = [y] := by
  have := spl_one (c := c) (ys := [y]) (by simp) (by simpa using hy) (.inr rfl)
  simpa [jn] using this
theorem spl_two {c : Nat} (h : c < 256) {y z : List Nat} (hy : c ∉ y) (hz : c ∉ z) : spl (y ++ c :: z) [c] = [y, z] := by
  have := spl_one (c := c) (ys := [y, z]) (by simp) (fun u hu => by
    rcases List.mem_cons.mp hu with rfl | hu
    · exact hy
    · rw [List.mem_singleton.mp hu]; exact hz) (.inl (by rw [kind_one h]; have := kind_pos (S (jn [c] [y, z])); omega))
  simpa [jn] using this
noncomputable def Cl (c : Nat) : Prop := c ≠ 10 ∧ c ≠ 13 ∧ c ≠ 46 ∧ c ≠ 11 ∧ c ≠ 133
noncomputable def ClL (y : List Nat) : Prop := ∀ c ∈ y, Cl c
theorem ClL.plain {y} (h : ClL y) : Plain y := fun c hc => ⟨(h c hc).1, (h c hc).2.1⟩
theorem ClL.app {y z} (h : ClL y) (k : ClL z) : ClL (y ++ z) := fun c hc => (List.mem_append.mp hc).elim (h c) (k c)
theorem wordS_cl (z : Int) : ClL (wordS z) := by
  unfold wordS
  refine ClL.app ?_ fun c hc => by have := lett_let z.natAbs 53 c hc; unfold Cl; omega
  split <;> (intro c hc; rw [List.mem_singleton.mp hc]; unfold Cl; decide)
theorem lit_cl {y : List Nat} (h : y.all (fun c => decide (c ≠ 10 ∧ c ≠ 13 ∧ c ≠ 46 ∧ c ≠ 11 ∧ c ≠ 133)) = true) : ClL y := fun c hc => by unfold Cl; simpa using List.all_eq_true.mp h c hc
theorem claim_cl (a b c d e f g h i n : Int) : ClL (claimL (wordS a) (wordS b) (wordS c) (wordS d) (wordS e) (wordS f) (wordS g) (wordS h) (wordS i) (wordS n)) := by
  unfold claimL headL
  have w := wordS_cl
  have l := @lit_cl
  refine ((((((((((((((((((ClL.app ?_ (w b)).app ?_).app (w f)).app ?_).app (w c)).app ?_).app (w e)).app ?_).app (w d)).app ?_).app (w h)).app ?_).app (w e)).app ?_).app (w g)).app ?_).app (w e)).app ?_).app (w n)
  · exact ((((((((((((((((l (by decide)).app (w a)).app (l (by decide))).app (w e)).app (l (by decide))).app (w b)).app (l (by decide))).app (w d)).app (l (by decide))).app (w e)).app (l (by decide))).app (w i)).app (l (by decide))).app (w f)).app (l (by decide))).app (w h)).app (l (by decide))
  all_goals exact l (by decide)
theorem slc_mem {α : Type} {l : List α} {lo hi : Option Int} {c : α} (h : c ∈ slc l lo hi) : c ∈ l := List.mem_of_mem_drop (List.mem_of_mem_take h)
theorem pieces_cl {claim : List Nat} (h : ClL claim) (ds : List Int) : ∀ p ∈ piecesL claim ds, ClL p := by
  intro p hp c hc
  unfold piecesL at hp
  obtain ⟨t, _, rfl⟩ := List.mem_map.mp hp
  exact h c (slc_mem hc)
theorem tail_cases {k : Nat} (h : k < 7) : tailL k = [] ∨ tailL k = [11, 46] ∨ tailL k = [133, 46] := by
  have : k = 0 ∨ k = 1 ∨ k = 2 ∨ k = 3 ∨ k = 4 ∨ k = 5 ∨ k = 6 := by omega
  rcases this with q | q | q | q | q | q | q <;> subst q <;> first | exact .inl rfl | exact .inr (.inl rfl) | exact .inr (.inr rfl)
theorem tail_plain (k : Nat) : Plain (tailL k) := by
  have : ∀ y ∈ ([[], [], [], [], [], [11, 46], [133, 46]] : List (List Nat)), Plain y := by unfold Plain; decide
  unfold tailL
  rw [List.getD_eq_getElem?_getD]
  cases q : ([[], [], [], [], [], [11, 46], [133, 46]] : List (List Nat))[k]? with
  | none => exact Plain.nil
  | some y => exact this y (List.mem_of_getElem? q)
theorem more_txt (k : Nat) : ∀ r ∈ moreL k, r.2 = [] ∧ r.1 ≤ 1 := by
  have : ∀ y ∈ ([[], [], [], [(0, [])], [(0, []), (1, []), (0, [])], [], []] : List (List Row)), ∀ r ∈ y, r.2 = [] ∧ r.1 ≤ 1 := by decide
  unfold moreL
  rw [List.getD_eq_getElem?_getD]
  cases q : ([[], [], [], [(0, [])], [(0, []), (1, []), (0, [])], [], []] : List (List Row))[k]? with
  | none => intro r h; exact nomatch h
  | some y => exact this y (List.mem_of_getElem? q)
noncomputable def cutT (y : List Nat) : List Nat := y.takeWhile fun c => c != 11 && c != 133
theorem cut_piece {p : List Nat} (h : ClL p) {k : Nat} (hk : k < 7) : cutT (p ++ tailL k) = p := by
  have h1 : ∀ r : List Nat, (∀ c t, r = c :: t → (c != 11 && c != 133) = false) → cutT (p ++ r) = p := by
    intro r hr
    unfold cutT
    induction p with
    | nil =>
      cases r with
      | nil => rfl
      | cons c t => rw [List.nil_append, List.takeWhile_cons, if_neg (by rw [hr c t rfl]; decide)]
    | cons a p ih =>
      have ha := h a (.head _)
      rw [List.cons_append, List.takeWhile_cons, if_pos (by unfold Cl at ha; simp [ha.2.2.2.1, ha.2.2.2.2]), ih fun c hc => h c (.tail _ hc)]
  rcases tail_cases hk with q | q | q <;> rw [q] <;> refine h1 _ fun c t e => ?_
  · cases e
  · injection e with e _; subst e; decide
  · injection e with e _; subst e; decide
noncomputable def Txt3 (y : List Nat) : Prop := ∃ p k, ClL p ∧ k < 7 ∧ y = p ++ tailL k
theorem Txt3.plain {y} (h : Txt3 y) : Plain y := by obtain ⟨p, k, h1, _, rfl⟩ := h; exact h1.plain.append (tail_plain k)
theorem Txt3.nodot {y} (h : Txt3 y) : ∀ c t, y = c :: t → c ≠ 46 := by
  obtain ⟨p, k, h1, hk, rfl⟩ := h
  intro c t e
  cases p with
  | nil =>
    rcases tail_cases hk with q | q | q <;> rw [q] at e
    · cases e
    · injection e with e _; omega
    · injection e with e _; omega
  | cons a p => injection e with e _; subst e; exact (h1 a (.head _)).2.2.1
theorem Txt3.nil : Txt3 [] := ⟨[], 0, (fun c h => by cases h), by decide, rfl⟩
theorem Txt3.reads {y} (h : Txt3 y) : ∃ a, (spl y [11])[0]? = some a ∧ (spl a [133])[0]? = some (cutT y) ∧ a.length ≤ y.length ∧ (cutT y).length ≤ y.length ∧ (spl y [11]).length ≤ 100 ∧ (spl a [133]).length ≤ 100 := by
  obtain ⟨p, k, h1, hk, rfl⟩ := h
  have n11 : 11 ∉ p := fun q => (h1 _ q).2.2.2.1 rfl
  have n133 : 133 ∉ p := fun q => (h1 _ q).2.2.2.2 rfl
  rw [cut_piece h1 hk]
  rcases tail_cases hk with q | q | q <;> rw [q]
  · rw [List.append_nil, spl_none (by decide) n11]
    exact ⟨p, rfl, by rw [spl_none (by decide) n133]; rfl, Nat.le_refl _, Nat.le_refl _, by simp, by rw [spl_none (by decide) n133]; simp⟩
  · rw [spl_two (by decide) n11 (by decide)]
    exact ⟨p, rfl, by rw [spl_none (by decide) n133]; rfl, by simp, by simp, by simp, by rw [spl_none (by decide) n133]; simp⟩
  · have m : 11 ∉ p ++ [133, 46] := fun q => by
      rcases List.mem_append.mp q with q | q
      · exact n11 q
      · exact absurd q (by decide)
    rw [spl_none (by decide) m]
    exact ⟨_, rfl, by rw [spl_two (by decide) n133 (by decide)]; rfl, Nat.le_refl _, by simp, by simp, by rw [spl_two (by decide) n133 (by decide)]; simp⟩
section
variable {w4 : List Nat} {ps : List (List Nat)} {ds : List Int}
theorem kindS_lt (x : Int) : kindS x < 7 := (fmodNat (a := x) (n := 7) (by decide)).2
theorem stream_txt (h4 : ClL w4) (hp : ∀ p ∈ ps, ClL p) : ∀ t, ∀ r ∈ streamL w4 ps ds t, Txt3 r.2
  | 0, r, hr => by
    have e : r = (0, w4) := by simpa [streamL] using hr
    subst e
    exact ⟨w4, 0, h4, by decide, (List.append_nil _).symm⟩
  | t + 1, r, hr => by
    rw [streamL] at hr
    simp only [laid, aged_is, aged0] at hr
    obtain ⟨r', hr', rfl⟩ := List.mem_map.mp hr
    show Txt3 r'.2
    simp only [List.mem_append, List.mem_singleton] at hr'
    rcases hr' with ((hr' | rfl) | hr') | hr'
    · exact stream_txt h4 hp t r' (List.mem_of_mem_take hr')
    · refine ⟨ps.getD t [], _, ?_, kindS_lt _, rfl⟩
      rw [List.getD_eq_getElem?_getD]
      cases q : ps[t]? with
      | none => exact fun c h => nomatch h
      | some y => exact hp y (List.mem_of_getElem? q)
    · rw [(more_txt _ r' hr').1]; exact Txt3.nil
    · exact stream_txt h4 hp t r' (List.mem_of_mem_drop hr')
theorem stream_ok (h4 : ClL w4) (hp : ∀ p ∈ ps, ClL p) (t : Nat) : ∀ r ∈ streamL w4 ps ds t, RowOk r := fun r hr =>
  ⟨(stream_txt h4 hp t r hr).plain, fun _ => (stream_txt h4 hp t r hr).nodot⟩
theorem more_ok (k : Nat) : ∀ r ∈ moreL k, RowOk r := fun r hr => by
  have := (more_txt k r hr).1
  exact ⟨by rw [this]; exact Plain.nil, fun _ c t e => by rw [this] at e; cases e⟩
theorem page_step (h4 : ClL w4) (hp : ∀ p ∈ ps, ClL p) (t : Nat) :
    qd (((((streamL w4 ps ds t).map (rowL 0)).take (placeS (ds.getD t 0) (streamL w4 ps ds t).length)).map fun y => y ++ CRLF).flatten ++ (46 :: ps.getD t [] ++ ends7.getD (kindS (ds.getD t 0)) []) ++
      jn CRLF (((streamL w4 ps ds t).map (rowL 0)).drop (placeS (ds.getD t 0) (streamL w4 ps ds t).length))) = mailL 0 (streamL w4 ps ds (t + 1)) := by
  have hl := (streamL_len w4 ps ds t).1
  have hpl := fmodNat (a := (ds.getD t 0).fdiv 7) (n := (streamL w4 ps ds t).length) (by omega)
  have hb : Plain (ps.getD t []) := by
    rw [List.getD_eq_getElem?_getD]
    cases q : ps[t]? with
    | none => exact Plain.nil
    | some y => exact (hp y (List.mem_of_getElem? q)).plain
  have := qd_laid (stream_ok h4 hp t) (place := placeS (ds.getD t 0) (streamL w4 ps ds t).length) hpl.2 (kindS_lt (ds.getD t 0)) hb (tail_plain _) (more_ok _)
  rw [streamL]
  simp only [laid, aged_is]
  rw [← this, List.flatMap_def]
  simp only [List.map_take, List.map_drop]
end
end Mine
end
section
open PySem PySem.W PyProof.Rows PySem.Spec
set_option Elab.async false
set_option linter.all false
set_option maxRecDepth 100000
set_option maxHeartbeats 1000000
namespace Mine
theorem mail_size {rows : List Row} {k d n : Nat} (h : ∀ r ∈ rows, r.1 ≤ d ∧ r.2.length ≤ n) : (mailL k rows).length ≤ (rows.length + 1) * (d + k + n + 2) := by
  have h1 := jn_len CRLF (rows.map (rowL k))
  have h2 : ((rows.map (rowL k)).map (·.length)).sum ≤ rows.length * (d + k + n) := by
    have := sum_le (l := (rows.map (rowL k)).map (·.length)) (n := d + k + n) (by
      intro a ha
      obtain ⟨y, hy, rfl⟩ := List.mem_map.mp ha
      obtain ⟨r, hr, rfl⟩ := List.mem_map.mp hy
      have := h r hr
      unfold rowL
      rw [reps_one, List.length_append, List.length_replicate]
      split <;> omega)
    simpa using this
  have h3 : CRLF.length = 2 := rfl
  unfold mailL
  rw [h3] at h1
  have h4 : (if rows.map (rowL k) = [] then 1 else (rows.map (rowL k)).length) ≤ rows.length + 1 := by split <;> simp
  have e1 : (rows.length + 1) * (d + k + n + 2) = rows.length * (d + k + n) + rows.length * 2 + (d + k + n + 2) := by rw [Nat.add_mul, Nat.mul_add]; omega
  rw [e1]
  omega
theorem ends7_len (k : Nat) : (ends7.getD k []).length ≤ 6 := by
  have : ∀ y ∈ ends7, y.length ≤ 6 := by decide
  rw [List.getD_eq_getElem?_getD]
  cases q : ends7[k]? with
  | none => simp
  | some y => exact this y (List.mem_of_getElem? q)
theorem mem_le_jn {y : List Nat} {ys : List (List Nat)} (h : y ∈ ys) : y.length ≤ (jn CRLF ys).length := by
  have h1 := jn_len CRLF ys
  have h2 : y.length ≤ (ys.map (·.length)).sum := le_sum (List.mem_map.mpr ⟨y, h, rfl⟩)
  have h3 : ys ≠ [] := fun q => by rw [q] at h; exact nomatch h
  rw [if_neg h3] at h1
  have h4 : 1 ≤ ys.length := List.length_pos_iff.mpr h3
  have h5 : CRLF.length = 2 := rfl
  rw [h5] at h1
  omega
theorem jn_take_len {ys : List (List Nat)} (k : Nat) : (((ys.take k).map fun y => y ++ CRLF).map (·.length)).sum ≤ (jn CRLF ys).length + 2 := by
  have h1 := jn_len CRLF ys
  have h5 : CRLF.length = 2 := rfl
  have h2 : (((ys.take k).map fun y => y ++ CRLF).map (·.length)).sum ≤ (ys.map (·.length)).sum + ys.length * 2 := by
    clear h1
    induction ys generalizing k with
    | nil => simp
    | cons y ys ih =>
      cases k with
      | zero => simp
      | succ k =>
        have := ih k
        simp only [List.take_succ_cons, List.map_cons, List.sum_cons, List.length_append, List.length_cons, h5] at this ⊢
        omega
  rw [h5] at h1
  by_cases q : ys = []
  · subst q; simp
  · rw [if_neg q] at h1; omega
theorem jn_drop_len {ys : List (List Nat)} (k : Nat) : ((ys.drop k).map (·.length)).sum + (ys.drop k).length * 2 ≤ (jn CRLF ys).length + 2 := by
  have h1 := jn_len CRLF ys
  have h5 : CRLF.length = 2 := rfl
  have h2 : ((ys.drop k).map (·.length)).sum + (ys.drop k).length * 2 ≤ (ys.map (·.length)).sum + ys.length * 2 := by
    clear h1
    induction ys generalizing k with
    | nil => simp
    | cons y ys ih =>
      cases k with
      | zero => simp
      | succ k =>
        have := ih k
        simp only [List.drop_succ_cons, List.map_cons, List.sum_cons, List.length_cons] at this ⊢
        omega
  rw [h5] at h1
  by_cases q : ys = []
  · subst q; simp
  · rw [if_neg q] at h1; omega
theorem undot_row {r : Row} (h : Txt3 r.2) : undot (rowL 0 r) = r.2 := by
  unfold rowL
  rw [reps_one]
  exact undot_dots _ h.nodot
theorem row_len (r : Row) : (rowL 0 r).length = r.1 + r.2.length := by
  unfold rowL
  rw [reps_one, List.length_append, List.length_replicate]
  split <;> omega
theorem key_row {r : Row} (h : Txt3 r.2) : keyR (rowL 0 r) = -(r.1 : Int) := by
  unfold keyR
  rw [undot_row h, row_len]; omega
theorem dotted {r : Row} (h : Txt3 r.2) : decide ((rowL 0 r).take 1 = [46]) = decide (r.1 ≠ 0) := by
  unfold rowL
  rw [reps_one]
  by_cases h0 : r.1 = 0
  · rw [if_pos h0, decide_eq_false (p := r.1 ≠ 0) (by simpa using h0)]
    refine decide_eq_false fun q => ?_
    cases e : r.2 with
    | nil => rw [e] at q; cases q
    | cons c t => rw [e] at q; have := h.nodot c t e; simp at q; exact this q
  · rw [if_neg h0, decide_eq_true h0]
    obtain ⟨d, hd⟩ : ∃ d, r.1 + 0 = d + 1 := ⟨r.1 - 1, by omega⟩
    rw [hd, List.replicate_succ]
    exact decide_eq_true (by simp)
theorem sorted_eq : ∀ {l2 l1 : List Row}, l1.Perm l2 → l1.Pairwise (fun a b => b.1 ≤ a.1) → l2.Pairwise (fun a b => b.1 < a.1) → l1 = l2
  | [], l1, p, _, _ => List.perm_nil.mp p
  | b :: l2, [], p, _, _ => by have := p.length_eq; simp at this
  | b :: l2, a :: l1, p, h1, h2 => by
    have hb : b ∈ a :: l1 := p.mem_iff.mpr (.head _)
    have ha : a ∈ b :: l2 := p.mem_iff.mp (.head _)
    have e : a = b := by
      rcases List.mem_cons.mp ha with q | q
      · exact q
      · rcases List.mem_cons.mp hb with q2 | q2
        · exact q2.symm
        · have := (List.pairwise_cons.mp h2).1 a q
          have := (List.pairwise_cons.mp h1).1 b q2
          omega
    subst e
    rw [sorted_eq (List.Perm.cons_inv p) (List.pairwise_cons.mp h1).2 (List.pairwise_cons.mp h2).2]
noncomputable def GR (r : Row) : Bool := decide (r.1 ≠ 0) && decide (cutT r.2 ≠ [])
noncomputable def canonL (ps : List (List Nat)) (ds : List Int) : Nat → List Row
  | 0 => []
  | t + 1 => (canonL ps ds t).map (more1 1) ++ [(2, ps.getD t [] ++ tailL (kindS (ds.getD t 0)))]
theorem more1_dots (r : Row) : ((more1 1 r).1 ≠ 0 ↔ r.1 ≠ 0) ∧ (more1 1 r).2 = r.2 := by
  unfold more1
  refine ⟨?_, rfl⟩
  simp only []
  split <;> omega
theorem GR_more (r : Row) : GR (more1 1 r) = GR r := by
  unfold GR
  rw [(more1_dots r).2, decide_eq_decide.mpr (more1_dots r).1]
theorem filt_more (l : List Row) : (l.map (more1 1)).filter GR = (l.filter GR).map (more1 1) := by
  rw [List.filter_map]
  congr 1
  exact List.filter_congr fun r _ => GR_more r
section
variable {w4 : List Nat} {ps : List (List Nat)} {ds : List Int}
theorem stream_canon : ∀ t, ((streamL w4 ps ds t).filter GR).Perm ((canonL ps ds t).filter GR)
  | 0 => by simp [streamL, canonL, GR]
  | t + 1 => by
    have ih := stream_canon t
    rw [streamL, canonL]
    simp only [laid, aged_is, aged0]
    generalize placeS (ds.getD t 0) (streamL w4 ps ds t).length = P
    generalize hX : ps.getD t [] ++ tailL (kindS (ds.getD t 0)) = X
    have hm : (moreL (kindS (ds.getD t 0))).filter GR = [] := by
      rw [List.filter_eq_nil_iff]
      intro r hr
      have := (more_txt _ r hr).1
      unfold GR
      rw [this]
      simp [cutT]
    rw [filt_more, List.filter_append, List.filter_append, List.filter_append, hm, List.append_nil, List.filter_append, filt_more]
    have h2 : ([(2, X)] : List Row).filter GR = (([(1, X)] : List Row).filter GR).map (more1 1) := by
      have e : GR (2, X) = GR (1, X) := by unfold GR; rfl
      by_cases q : GR (1, X) = true
      · rw [List.filter_cons_of_pos (by rw [e]; exact q), List.filter_cons_of_pos q]; rfl
      · rw [List.filter_cons_of_neg (by rw [e]; exact q), List.filter_cons_of_neg q]; rfl
    rw [h2, ← List.map_append]
    refine List.Perm.map _ ?_
    have h3 : (streamL w4 ps ds t).filter GR = ((streamL w4 ps ds t).take P).filter GR ++ ((streamL w4 ps ds t).drop P).filter GR := by
      rw [← List.filter_append, List.take_append_drop]
    rw [h3] at ih
    refine List.Perm.trans ?_ (ih.append_right _)
    rw [List.append_assoc, List.append_assoc]
    exact List.Perm.append_left _ List.perm_append_comm
theorem canon_five : canonL ps ds 5 = [(6, ps.getD 0 [] ++ tailL (kindS (ds.getD 0 0))), (5, ps.getD 1 [] ++ tailL (kindS (ds.getD 1 0))), (4, ps.getD 2 [] ++ tailL (kindS (ds.getD 2 0))), (3, ps.getD 3 [] ++ tailL (kindS (ds.getD 3 0))), (2, ps.getD 4 [] ++ tailL (kindS (ds.getD 4 0)))] := rfl
theorem getD_cl (hp : ∀ p ∈ ps, ClL p) (t : Nat) : ClL (ps.getD t []) := by
  rw [List.getD_eq_getElem?_getD]
  cases q : ps[t]? with
  | none => exact fun c h => nomatch h
  | some y => exact hp y (List.mem_of_getElem? q)
theorem flat_drop {l : List Row} : (l.map fun r => cutT r.2).flatten = ((l.filter fun r => decide (cutT r.2 ≠ [])).map fun r => cutT r.2).flatten := by
  induction l with
  | nil => rfl
  | cons r l ih =>
    by_cases q : cutT r.2 = []
    · rw [List.filter_cons_of_neg (by simpa using q), List.map_cons, List.flatten_cons, q, List.nil_append, ih]
    · rw [List.filter_cons_of_pos (by simpa using q), List.map_cons, List.flatten_cons, List.map_cons, List.flatten_cons, ih]
theorem canon_flat (hp : ∀ p ∈ ps, ClL p) (hl : ps.length = 5) : ((canonL ps ds 5).map fun r => cutT r.2).flatten = ps.flatten := by
  rw [canon_five]
  simp only [List.map_cons, List.map_nil, cut_piece (getD_cl hp _) (kindS_lt _)]
  match ps, hl with
  | [a, b, c, d, e], _ => rfl
theorem read_all (h4 : ClL w4) (hp : ∀ p ∈ ps, ClL p) (hl : ps.length = 5) {F : List (List Nat)} (hF : ((streamL w4 ps ds 5).map (rowL 0)).filter (fun y => decide (y.take 1 = [46])) = F) :
    (∀ y ∈ F, ∃ a, (spl (undot y) [11])[0]? = some a ∧ (spl a [133])[0]? = some (cutT (undot y)) ∧ a.length ≤ y.length ∧ (cutT (undot y)).length ≤ y.length ∧ (spl (undot y) [11]).length ≤ 100 ∧ (spl a [133]).length ≤ 100) ∧
    ∀ out : List (List Nat), out.Perm F → (out.map keyR).Pairwise (· ≤ ·) → (out.map fun y => cutT (undot y)).flatten = ps.flatten := by
  have ht := stream_txt (ds := ds) h4 hp 5
  have hF' : F = ((streamL w4 ps ds 5).filter fun r => decide (r.1 ≠ 0)).map (rowL 0) := by
    rw [← hF, List.filter_map]
    congr 1
    exact List.filter_congr fun r hr => dotted (ht r hr)
  refine ⟨fun y hy => ?_, fun out hpm hs => ?_⟩
  · rw [hF'] at hy
    obtain ⟨r, hr, rfl⟩ := List.mem_map.mp hy
    have h3 := ht r (List.mem_filter.mp hr).1
    rw [undot_row h3]
    obtain ⟨a, a1, a2, a3, a4, a5⟩ := h3.reads
    have := row_len r
    exact ⟨a, a1, a2, by omega, by omega, a5⟩
  · obtain ⟨L, hL, rfl⟩ := perm_map hpm hF'
    have hLt : ∀ r ∈ L, Txt3 r.2 := fun r hr => ht r (List.mem_filter.mp (hL.mem_iff.mp hr)).1
    have e1 : (L.map (rowL 0)).map (fun y => cutT (undot y)) = L.map fun r => cutT r.2 := by
      rw [List.map_map]
      exact List.map_congr_left fun r hr => by show cutT (undot (rowL 0 r)) = _; rw [undot_row (hLt r hr)]
    have hs2 : L.Pairwise fun a b => b.1 ≤ a.1 := by
      rw [List.map_map, List.pairwise_map] at hs
      refine hs.imp_of_mem fun {a b} ha hb h => ?_
      have h' : keyR (rowL 0 a) ≤ keyR (rowL 0 b) := h
      rw [key_row (hLt a ha), key_row (hLt b hb)] at h'
      omega
    have hp2 : (L.filter fun r => decide (cutT r.2 ≠ [])).Perm ((canonL ps ds 5).filter GR) := by
      have h1 := hL.filter fun r => decide (cutT r.2 ≠ [])
      rw [List.filter_filter] at h1
      refine h1.trans (List.Perm.trans ?_ (stream_canon (w4 := w4) 5))
      refine List.Perm.of_eq (List.filter_congr fun r _ => ?_)
      unfold GR
      rw [Bool.and_comm]
    have hc : ((canonL ps ds 5).filter GR).Pairwise fun a b => b.1 < a.1 := by
      refine List.Pairwise.filter _ ?_
      rw [canon_five]
      simp
    have e2 := sorted_eq hp2 (hs2.filter _) hc
    have e3 : (canonL ps ds 5).filter GR = (canonL ps ds 5).filter fun r => decide (cutT r.2 ≠ []) := by
      refine List.filter_congr fun r hr => ?_
      have : r.1 ≠ 0 := by
        rw [canon_five] at hr
        simp only [List.mem_cons, List.not_mem_nil, or_false] at hr
        rcases hr with rfl | rfl | rfl | rfl | rfl <;> simp
      unfold GR
      simp [this]
    rw [e1, flat_drop, e2, e3, ← flat_drop, canon_flat hp hl]
end
theorem slc_join (l : List Nat) {a b c : Nat} (h1 : a ≤ b) (h2 : b ≤ c) : slc l (some (a : Int)) (some (b : Int)) ++ slc l (some (b : Int)) (some (c : Int)) = slc l (some (a : Int)) (some (c : Int)) := by
  rw [slc_nat, slc_nat, slc_nat]
  have e : (l.drop b).take (c - b) = ((l.drop a).drop (b - a)).take (c - b) := by rw [List.drop_drop]; congr 2; omega
  rw [e]
  generalize l.drop a = m
  have : c - a = (b - a) + (c - b) := by omega
  rw [this, List.take_add]
theorem pieces_join (claim : List Nat) {ds : List Int} (hd : ds.length = 5) : (piecesL claim ds).flatten = claim := by
  have hlen : ((ds.take 4).map fun x => x.fmod ((claim.length : Int) + 1)).length = 4 := by rw [List.length_map, List.length_take, hd]; rfl
  have hmem : ∀ x ∈ srt ((ds.take 4).map fun x => x.fmod ((claim.length : Int) + 1)), 0 ≤ x ∧ x ≤ claim.length := by
    intro x hx
    obtain ⟨y, _, rfl⟩ := List.mem_map.mp ((srt_perm _).mem_iff.mp hx)
    have h1 := Int.fmod_nonneg_of_pos y (b := (claim.length : Int) + 1) (by omega)
    have h2 := Int.fmod_lt_of_pos y (b := (claim.length : Int) + 1) (by omega)
    omega
  have hle := srt_le ((ds.take 4).map fun x => x.fmod ((claim.length : Int) + 1))
  have hsl : (srt ((ds.take 4).map fun x => x.fmod ((claim.length : Int) + 1))).length = 4 := by rw [srt_len, hlen]
  unfold piecesL cutsL
  generalize srt ((ds.take 4).map fun x => x.fmod ((claim.length : Int) + 1)) = s at hmem hle hsl
  match s, hsl with
  | [p, q, r, t], _ =>
    simp only [List.pairwise_cons, List.mem_cons, List.not_mem_nil, or_false, forall_eq_or_imp, forall_eq] at hle hmem
    obtain ⟨⟨hp0, hp1⟩, ⟨hq0, hq1⟩, ⟨hr0, hr1⟩, ⟨ht0, ht1⟩⟩ := hmem
    obtain ⟨⟨pq, pr, pt⟩, ⟨qr, qt⟩, rt, _⟩ := hle
    obtain ⟨p, rfl⟩ := Int.eq_ofNat_of_zero_le hp0
    obtain ⟨q, rfl⟩ := Int.eq_ofNat_of_zero_le hq0
    obtain ⟨r, rfl⟩ := Int.eq_ofNat_of_zero_le hr0
    obtain ⟨t, rfl⟩ := Int.eq_ofNat_of_zero_le ht0
    show slc claim (some ((0 : Nat) : Int)) (some (p : Int)) ++ (slc claim (some (p : Int)) (some (q : Int)) ++ (slc claim (some (q : Int)) (some (r : Int)) ++ (slc claim (some (r : Int)) (some (t : Int)) ++ (slc claim (some (t : Int)) (some (claim.length : Int)) ++ [])))) = claim
    rw [List.append_nil, slc_join _ (by omega) (by omega), slc_join _ (by omega) (by omega), slc_join _ (by omega) (by omega), slc_join _ (by omega) (by omega), slc_nat]
    simp
end Mine
end
section
open PySem PySem.W PyProof.Rows PySem.Spec
set_option Elab.async false
set_option linter.all false
set_option maxRecDepth 100000
set_option maxHeartbeats 1000000
namespace Mine
theorem slc_map {α β : Type} (g : α → β) (l : List α) (a b : Option Int) : slc (l.map g) a b = (slc l a b).map g := by
  unfold slc
  simp only [List.length_map, List.map_take, List.map_drop]
theorem numZ_lt (i : Int) : (numZ i).natAbs < 16 ^ 17 := by
  have : i.natAbs % 16 ^ 17 < 16 ^ 17 := Nat.mod_lt _ (by decide)
  unfold numZ; split <;> omega
theorem numZ_eq (x : Int) : (if x < 0 then -((-x).fmod (((16 ^ 17 : Nat) : Int))) else x.fmod (((16 ^ 17 : Nat) : Int))) = numZ x := by
  unfold numZ
  have k : (0 : Int) ≤ ((16 ^ 17 : Nat) : Int) := by omega
  split
  · rw [Int.fmod_eq_emod_of_nonneg _ k]
    have e : -x = ((x.natAbs : Nat) : Int) := by omega
    rw [e]; omega
  · rw [Int.fmod_eq_emod_of_nonneg _ k]
    have e : x = ((x.natAbs : Nat) : Int) := by omega
    rw [e]; omega
noncomputable def dfl : List Int := [2, -1, 3, 0, 5, 4, -7, 1, 6]
noncomputable def nineL (script : List Int) : List Int := (script.take 9).map numZ ++ dfl.drop ((script.take 9).map numZ).length
theorem nineL_len (script : List Int) : (nineL script).length = 9 := by
  unfold nineL dfl
  simp only [List.length_append, List.length_map, List.length_take, List.length_drop, List.length_cons, List.length_nil]; omega
theorem nineL_lt (script : List Int) : ∀ z ∈ nineL script, z.natAbs < 16 ^ 17 := by
  intro z hz
  rcases List.mem_append.mp hz with h | h
  · obtain ⟨x, _, rfl⟩ := List.mem_map.mp h; exact numZ_lt x
  · have : ∀ z ∈ dfl, z.natAbs < 16 ^ 17 := by decide
    exact this z (List.mem_of_mem_drop h)
theorem nine_cases : ∀ {l : List Int}, l.length = 9 → ∃ a b c d e f g h i, l = [a, b, c, d, e, f, g, h, i]
  | [a, b, c, d, e, f, g, h, i], _ => ⟨a, b, c, d, e, f, g, h, i, rfl⟩
noncomputable def drawsL (script : List Int) : List Int := ((slc script (some 9) (some 14)) ++ [7, 20, 33, 46, 59]).take 5
theorem drawsL_len (script : List Int) : (drawsL script).length = 5 := by
  unfold drawsL
  simp only [List.length_take, List.length_append, List.length_cons, List.length_nil]; omega
noncomputable def wayL : List (Nat × Nat × Nat) := [(0, 4, 8), (1, 5, 6), (2, 3, 7), (2, 4, 6), (1, 3, 8), (0, 5, 7)]
noncomputable def trpD (p : Nat × Nat × Nat) : PyData := .tuple [nt p.1, nt p.2.1, nt p.2.2]
theorem sm_prod {a b : Int} (ha : a.natAbs < 16 ^ 17) (hb : b.natAbs < 16 ^ 17) : Sm (a * b) := by
  have h1 : (a * b).natAbs ≤ 16 ^ 17 * 16 ^ 17 := by rw [Int.natAbs_mul]; exact Nat.mul_le_mul (Nat.le_of_lt ha) (Nat.le_of_lt hb)
  exact Nat.lt_of_le_of_lt h1 (by decide)
theorem det_lt {a b c d e f g h i : Int} (ha : a.natAbs < 16 ^ 17) (hb : b.natAbs < 16 ^ 17) (hc : c.natAbs < 16 ^ 17) (hd : d.natAbs < 16 ^ 17) (he : e.natAbs < 16 ^ 17) (hf : f.natAbs < 16 ^ 17) (hg : g.natAbs < 16 ^ 17) (hh : h.natAbs < 16 ^ 17) (hi : i.natAbs < 16 ^ 17) : (det a b c d e f g h i).natAbs < 16 ^ 53 := by
  have t : ∀ {x y z : Int}, x.natAbs < 16 ^ 17 → y.natAbs < 16 ^ 17 → z.natAbs < 16 ^ 17 → (x * y * z).natAbs ≤ 16 ^ 51 := by
    intro x y z hx hy hz
    rw [Int.natAbs_mul, Int.natAbs_mul]
    exact Nat.le_trans (Nat.mul_le_mul (Nat.mul_le_mul (Nat.le_of_lt hx) (Nat.le_of_lt hy)) (Nat.le_of_lt hz)) (by decide)
  have t1 := t ha he hi; have t2 := t hb hf hg; have t3 := t hc hd hh; have t4 := t hc he hg; have t5 := t hb hd hi; have t6 := t ha hf hh
  unfold det
  generalize a * e * i = x1 at t1 ⊢
  generalize b * f * g = x2 at t2 ⊢
  generalize c * d * h = x3 at t3 ⊢
  generalize c * e * g = x4 at t4 ⊢
  generalize b * d * i = x5 at t5 ⊢
  generalize a * f * h = x6 at t6 ⊢
  have : (6 : Nat) * 16 ^ 51 < 16 ^ 53 := by decide
  omega
theorem wordS_len (z : Int) : (wordS z).length ≤ 54 := by
  unfold wordS
  have := lett_len z.natAbs 53
  rw [List.length_append]
  split <;> simp only [List.length_cons, List.length_nil] <;> omega
section
variable {w4 : List Nat} {ps : List (List Nat)} {ds : List Int}
theorem stream_size (h4 : w4.length ≤ 2000) (hp : ∀ p ∈ ps, p.length ≤ 2000) : ∀ t, ∀ r ∈ streamL w4 ps ds t, r.1 ≤ t + 1 ∧ r.2.length ≤ 2002
  | 0, r, hr => by
    have e : r = (0, w4) := by simpa [streamL] using hr
    subst e
    exact ⟨by simp, by show w4.length ≤ 2002; omega⟩
  | t + 1, r, hr => by
    rw [streamL] at hr
    simp only [laid, aged_is, aged0] at hr
    obtain ⟨r', hr', rfl⟩ := List.mem_map.mp hr
    have key : r'.1 ≤ t + 1 ∧ r'.2.length ≤ 2002 := by
      simp only [List.mem_append, List.mem_singleton] at hr'
      rcases hr' with ((hr' | rfl) | hr') | hr'
      · exact stream_size h4 hp t r' (List.mem_of_mem_take hr')
      · refine ⟨by simp, ?_⟩
        have h1 : (ps.getD t []).length ≤ 2000 := by
          rw [List.getD_eq_getElem?_getD]
          cases q : ps[t]? with
          | none => simp
          | some y => exact hp y (List.mem_of_getElem? q)
        have h2 : (tailL (kindS (ds.getD t 0))).length ≤ 2 := by
          have : ∀ j : Nat, j < 7 → (tailL j).length ≤ 2 := by decide
          exact this _ (kindS_lt _)
        simp only [List.length_append]; omega
      · have := more_txt _ r' hr'; rw [this.1]; exact ⟨by omega, by simp⟩
      · exact stream_size h4 hp t r' (List.mem_of_mem_drop hr')
    refine ⟨?_, key.2⟩
    unfold more1
    simp only []
    split <;> omega
theorem page_size (h4 : w4.length ≤ 2000) (hp : ∀ p ∈ ps, p.length ≤ 2000) {t k : Nat} (ht : t ≤ 5) (hk : k ≤ 1) : (mailL k (streamL w4 ps ds t)).length ≤ 2 ^ 16 := by
  have h1 := mail_size (k := k) (d := 6) (n := 2002) fun r hr => by have := stream_size (ds := ds) h4 hp t r hr; exact ⟨by omega, this.2⟩
  have h2 := (streamL_len w4 ps ds t).2
  have h3 : ((streamL w4 ps ds t).length + 1) * (6 + k + 2002 + 2) ≤ 22 * (6 + k + 2002 + 2) := Nat.mul_le_mul_right _ (by omega)
  omega
end
theorem spl_rows {rows : List Row} (h0 : rows ≠ []) (h : ∀ r ∈ rows, RowOk r) : spl (mailL 0 rows) CRLF = rows.map (rowL 0) :=
  spl_jn (by simpa using h0) fun y hy hc => (mail_plain h y hy 13 hc).2 rfl
theorem EvB.call {f : Fx} {x : Sx} {n : Str} {p pos} {e : Expr} {es : List Expr} {cv : Value} {ds : List PyData} {m : Nat} {l : List UInt8}
    (hc : EvP f x (.Name n p) fun _ u => u = cv) (c : Callee f.W cv) (ha : EvL f x (e :: es) ds) (F : FnP f.W cv m ds fun _ _ v => B l v) (hm : m ≤ f.rm)
    (he : starEach (e :: es) f.env = (false, eval e f.env) :: starEach es f.env := by exact rfl) (hp : (backTo pos (starEach es f.env)).any (·.1) = false := by exact rfl) :
    EvB f x (.Call (.Name n p) (e :: es) [] pos) l := EvP.call hc c ha F hm he hp
theorem EvG.mono {f : Fx} {hz : Heap} {bad : List Addr} {led : List Res} {vs : List Slot} {P : Addr} {e : Expr} {R R' : Heap → Value → Prop} (h : EvG f hz bad led vs P e R) (k : ∀ h v, R h v → R' h v) : EvG f hz bad led vs P e R' :=
  .bx fun s O => wpN (h.run s O) fun v s' ⟨a, b⟩ => ⟨a, k _ _ b⟩
theorem lay_ints : ∀ l : List Int, PyData.canLayAll0 (l.map PyData.int) = true
  | [] => rfl
  | a :: l => by simp only [List.map_cons, PyData.canLayAll0, PyData.canLay0, Bool.true_and]; exact lay_ints l
theorem dep_ints : ∀ l : List Int, PyData.depthAll (l.map PyData.int) = 0
  | [] => rfl
  | a :: l => by simp only [List.map_cons, PyData.depthAll, PyData.depth, dep_ints l]; rfl
theorem shaped_ints (l : List Int) : SeqAt.shaped (.list (l.map .int)) = true := by
  rw [SeqAt.shaped, Bool.and_eq_true, decide_eq_true_eq]
  refine ⟨?_, ?_⟩
  · rw [PyData.canLay0]; exact lay_ints l
  · rw [PyData.depth, dep_ints]; omega
theorem eqv_ints : ∀ l : List Int, PyData.eqvAll (l.map .int) (l.map .int) = true
  | [] => rfl
  | a :: l => by simp [PyData.eqvAll, PyData.eqv, eqv_ints l]
theorem kinds_claim (ps : List (Int × Int)) (hp : ∀ p ∈ ps, 0 < p.1 ∧ p.1 < 256 ∧ 0 ≤ p.2) : kindsB (symF ps) = true := by
  refine kindsB_true fun k s h => ?_
  unfold symF at h
  have key : ∀ (ps : List (Int × Int)) (k : Nat) (s : Int), (∀ p ∈ ps, 0 < p.1 ∧ p.1 < 256 ∧ 0 ≤ p.2) → ((ps.flatMap fun p => [p.1, p.2 + 256]) ++ [0])[k]? = some s → kgood (k + 1) s = true := by
    intro ps
    induction ps with
    | nil =>
      intro k s _ h
      cases k with
      | zero => cases h; decide
      | succ k => simp at h
    | cons p ps ih =>
      intro k s hp h
      obtain ⟨h1, h2, h3⟩ := hp p (.head _)
      cases k with
      | zero => cases h; unfold kgood; simp; omega
      | succ k =>
        cases k with
        | zero => cases h; unfold kgood; simp; omega
        | succ k =>
          have := ih k s (fun q hq => hp q (.tail _ hq)) (by simpa using h)
          unfold kgood at this ⊢
          rw [show (k + 1 + 1 + 1) % 2 = (k + 1) % 2 by omega]; exact this
  cases k with
  | zero => cases h; decide
  | succ k => exact key ps k s hp (by simpa using h)
theorem pairs_good (a b c d e f g h i n : Int) : ∀ p ∈ pairsL a b c d e f g h i n, 0 < p.1 ∧ p.1 < 256 ∧ 0 ≤ p.2 := by
  have t : ∀ z : Int, 0 < (tok z).1 ∧ (tok z).1 < 256 ∧ 0 ≤ (tok z).2 := by intro z; unfold tok; simp only []; split <;> omega
  intro p hp
  unfold pairsL at hp
  simp only [List.mem_cons, List.not_mem_nil, or_false] at hp
  rcases hp with rfl | rfl | rfl | rfl | rfl | rfl | rfl | rfl | rfl | rfl | rfl | rfl | rfl | rfl | rfl | rfl | rfl | rfl | rfl | rfl | rfl | rfl | rfl | rfl | rfl | rfl | rfl | rfl | rfl | rfl | rfl | rfl | rfl | rfl | rfl | rfl | rfl | rfl | rfl | rfl | rfl | rfl | rfl | rfl | rfl
  all_goals first | exact t _ | decide
end Mine
end
section
open PySem PySem.W PyProof.Rows PySem.Spec
set_option Elab.async false
set_option linter.all false
set_option maxRecDepth 100000
set_option maxHeartbeats 1000000
namespace Mine
theorem dot5 (A p E B : List Nat) : (((A ++ [46]) ++ p) ++ E) ++ B = A ++ (46 :: p ++ E) ++ B := by simp
section
variable {prog : Program} {w : World} {mg mb : Str → Option Value}
theorem c_law (G : (WL prog w mg mb).Glob) (script : List Int) (hs63 : script.length ≤ 63) : FnT (WL prog w mg mb) (.ref 161) 20 136 (.list (script.map .int)) (fun u => u = .bool true) := by
  have sz : sizeLine = 16777216 := by decide
  have hsl : (script.map PyData.int).length ≤ sizeLine := by rw [List.length_map, sz]; omega
  have hEl : (ends7.map st).length ≤ sizeLine := by rw [List.length_map, sz]; decide
  refine FnT.of_at (nm := ["script", "nine", "ways", "six", "total", "draws", "ends", "words", "page", "piece", "x", "rows", "place", "stream", "symbols"]) (gl := ["len", "zip", "_law_pieces", "_law_claim", "quotedata", "_law_stream", "_law_sent_on", "_law_symbols", "_law_read", "_law_kinds", "_law_sides"]) (p := "script") rfl rfl rfl rfl rfl rfl rfl (by decide +kernel) (bind1 fun _ => rfl) (.cons Put.i0 .nil) rfl fun A s L hz bad bad' hbm => ?_
  refine Ex.asg (d := .list (((script.take 9).map numZ).map .int)) (Ev.eq (Ev.comp1 (xs := script.take 9) (di := .int) (g := fun z => .int (numZ z)) (p := fun _ => true) (own := ["x"]) (fr := []) (gl := []) (ns := ["x"])
    (Iter.list (Ev.eq (Ev.takeL (Ev.name At.i0) (Ev.nat (n := 9)) hsl) (by rw [List.map_take]))) rfl (by decide +kernel) .nil rfl rfl one_in (by rw [List.length_take, sz]; omega)
    (fun z hz' C cs base hz bad led => ⟨_, .name .here, .drop .nil, .nil, fun _ => Ev.eq (Ev.iteI (Tst.cmp (EvC.lt (Ev.name At.i0) Ev.int)) (Ev.neg (Ev.fmod (Ev.neg (Ev.name At.i0)) (Ev.powN (Ev.nat (n := 16)) (Ev.nat (n := 17)) (bits16 _ (by decide))) (by decide))) (Ev.fmod (Ev.name At.i0) (Ev.powN (Ev.nat (n := 16)) (Ev.nat (n := 17)) (bits16 _ (by decide))) (by decide))) (congrArg PyData.int (by rw [← numZ_eq]; simp))⟩)) (by rw [map_true, List.map_map]; rfl)) Put.i1 ?_
  have h9l : (((script.take 9).map numZ).map PyData.int).length = ((script.take 9).map numZ).length := List.length_map ..
  have h9b : ((script.take 9).map numZ).length ≤ 9 := by simp; omega
  refine Ex.asg (d := .list ((nineL script).map .int)) (Ev.eq (Ev.catL (Ev.name At.i1) (Ev.dropL (Ev.list (ds := dfl.map .int) (.cons Ev.int (.cons (Ev.neg Ev.int) (.cons Ev.int (.cons Ev.int (.cons Ev.int (.cons Ev.int (.cons (Ev.neg Ev.int) (.cons Ev.int (.cons Ev.int .nil))))))))) (Nat.le_of_ble_eq_true rfl)) (Ev.call (Ev.blt Mem.i0 (z_len G)) (.builtin _) (.cons (Ev.name At.i1) .nil) (Fn.len_list (by rw [h9l]; omega)) (Nat.zero_le _)) (Nat.le_of_ble_eq_true rfl)) ?q1) ?q2) Put.i1 ?_
  case q1 => rw [h9l, List.length_drop, show (dfl.map PyData.int).length = 9 from rfl, sz]; omega
  case q2 => rw [h9l]; unfold nineL; rw [List.map_append, List.map_drop]
  have hnl := nineL_len script
  have hnlt := nineL_lt script
  have hdl := drawsL_len script
  obtain ⟨a, b, c, d, e0, f, g, h, i, hN⟩ := nine_cases hnl
  rw [hN] at hnlt ⊢
  have la := hnlt a (by simp); have lb := hnlt b (by simp); have lc := hnlt c (by simp); have ld := hnlt d (by simp); have le0 := hnlt e0 (by simp); have lf := hnlt f (by simp); have lg := hnlt g (by simp); have lh := hnlt h (by simp); have li := hnlt i (by simp)
  generalize he : (if e0 = 0 then 1 else e0) = e
  have le1 : e.natAbs < 16 ^ 17 := by
    rw [← he]
    split
    · decide
    · exact le0
  have en0 : e ≠ 0 := by
    rw [← he]
    split
    · decide
    · assumption
  refine Ex.asg (d := .list ([a, b, c, d, e, f, g, h, i].map .int)) (Ev.eq (Ev.catL (Ev.catL (Ev.takeL (Ev.name At.i1) (Ev.nat (n := 4)) (Nat.le_of_ble_eq_true rfl)) (Ev.list (ds := [.int e]) (.cons (Ev.or2 (Ev.itemLN (Ev.name At.i1) (Ev.nat (n := 4)) rfl (Nat.le_of_ble_eq_true rfl)) trivial (fun _ => Ev.int) ?r1) .nil) (Nat.le_of_ble_eq_true rfl)) (Nat.le_of_ble_eq_true rfl)) (Ev.dropL (Ev.name At.i1) (Ev.nat (n := 5)) (Nat.le_of_ble_eq_true rfl)) (Nat.le_of_ble_eq_true rfl)) rfl) Put.i1 ?_
  case r1 => rw [← he]; by_cases q : e0 = 0 <;> simp [tr, q]
  clear hN hnlt hnl h9l h9b
  refine Ex.asg (d := .list (wayL.map trpD)) ?w1 Put.i2 ?_
  case w1 =>
    refine Ev.list ?_ (Nat.le_of_ble_eq_true rfl)
    refine EvL.c (Ev.tuple (.cons (Ev.nat (n := 0)) (.cons (Ev.nat (n := 4)) (.cons (Ev.nat (n := 8)) .nil))) (Nat.le_of_ble_eq_true rfl)) ?_
    refine EvL.c (Ev.tuple (.cons (Ev.nat (n := 1)) (.cons (Ev.nat (n := 5)) (.cons (Ev.nat (n := 6)) .nil))) (Nat.le_of_ble_eq_true rfl)) ?_
    refine EvL.c (Ev.tuple (.cons (Ev.nat (n := 2)) (.cons (Ev.nat (n := 3)) (.cons (Ev.nat (n := 7)) .nil))) (Nat.le_of_ble_eq_true rfl)) ?_
    refine EvL.c (Ev.tuple (.cons (Ev.nat (n := 2)) (.cons (Ev.nat (n := 4)) (.cons (Ev.nat (n := 6)) .nil))) (Nat.le_of_ble_eq_true rfl)) ?_
    refine EvL.c (Ev.tuple (.cons (Ev.nat (n := 1)) (.cons (Ev.nat (n := 3)) (.cons (Ev.nat (n := 8)) .nil))) (Nat.le_of_ble_eq_true rfl)) ?_
    refine EvL.c (Ev.tuple (.cons (Ev.nat (n := 0)) (.cons (Ev.nat (n := 5)) (.cons (Ev.nat (n := 7)) .nil))) (Nat.le_of_ble_eq_true rfl)) ?_
    exact EvL.nil
  have hN9 : ∀ p : Nat, p < 9 → ([a, b, c, d, e, f, g, h, i].map PyData.int)[p]? = some (.int ([a, b, c, d, e, f, g, h, i].getD p 0)) ∧ ([a, b, c, d, e, f, g, h, i].getD p 0).natAbs < 16 ^ 17 := by
    intro p hp
    have : p = 0 ∨ p = 1 ∨ p = 2 ∨ p = 3 ∨ p = 4 ∨ p = 5 ∨ p = 6 ∨ p = 7 ∨ p = 8 := by omega
    rcases this with q | q | q | q | q | q | q | q | q <;> subst q <;> exact ⟨rfl, by assumption⟩
  refine Ex.cmp1 (xs := wayL) (di := trpD) (g := fun p => .int ([a, b, c, d, e, f, g, h, i].getD p.1 0 * [a, b, c, d, e, f, g, h, i].getD p.2.1 0 * [a, b, c, d, e, f, g, h, i].getD p.2.2 0)) (p := fun _ => true) (own := ["p", "q", "r"]) (fr := ["nine"]) (gl := []) (ns := ["p", "q", "r"])
    (Iter.list (Ev.name At.i2)) rfl (by decide +kernel) (Ats.one At.i1) rfl rfl (fun n hn => hn) (Nat.le_of_ble_eq_true rfl)
    (fun p hp C cs base hz bad led => ⟨_, .names (.cons (.cons (.cons .nil))) (.inr rfl) (.cons .here (.cons Put.i1 (.cons Put.i2 .nil))), .drop (.drop (.drop (.keep .nil))), .nil, fun _ => ?_⟩) Put.i3 ?_
  · have hp9 : p.1 < 9 ∧ p.2.1 < 9 ∧ p.2.2 < 9 := by
      have : ∀ p ∈ wayL, p.1 < 9 ∧ p.2.1 < 9 ∧ p.2.2 < 9 := by decide
      exact this p hp
    obtain ⟨g1, b1⟩ := hN9 _ hp9.1
    obtain ⟨g2, b2⟩ := hN9 _ hp9.2.1
    obtain ⟨g3, b3⟩ := hN9 _ hp9.2.2
    exact Ev.mul (Ev.mul (Ev.itemLN (Ev.name At.i3) (Ev.name At.i0) g1 (Nat.le_of_ble_eq_true rfl)) (Ev.itemLN (Ev.name At.i3) (Ev.name At.i1) g2 (Nat.le_of_ble_eq_true rfl)) ((sm_of b1).mul (sm_of b2))) (Ev.itemLN (Ev.name At.i3) (Ev.name At.i2) g3 (Nat.le_of_ble_eq_true rfl)) ((sm_prod b1 b2).mul (sm_of b3))
  refine Ex.asg (d := .int (det a b c d e f g h i)) (Ev.sub (Ev.sub (Ev.sub (Ev.add (Ev.add (Ev.itemLN (Ev.name At.i3) (Ev.nat (n := 0)) rfl (Nat.le_of_ble_eq_true rfl)) (Ev.itemLN (Ev.name At.i3) (Ev.nat (n := 1)) rfl (Nat.le_of_ble_eq_true rfl))) (Ev.itemLN (Ev.name At.i3) (Ev.nat (n := 2)) rfl (Nat.le_of_ble_eq_true rfl))) (Ev.itemLN (Ev.name At.i3) (Ev.nat (n := 3)) rfl (Nat.le_of_ble_eq_true rfl))) (Ev.itemLN (Ev.name At.i3) (Ev.nat (n := 4)) rfl (Nat.le_of_ble_eq_true rfl))) (Ev.itemLN (Ev.name At.i3) (Ev.nat (n := 5)) rfl (Nat.le_of_ble_eq_true rfl))) Put.i4 ?_
  have hdet := det_lt la lb lc ld le1 lf lg lh li
  refine Ex.asg (d := .list ((drawsL script).map .int)) (Ev.eq (Ev.takeL (Ev.catL (Ev.sliceL (Ev.name At.i0) (EvO.some Ev.int) (EvO.some Ev.int) hsl) (Ev.list (ds := ([7, 20, 33, 46, 59] : List Int).map .int) (.cons Ev.int (.cons Ev.int (.cons Ev.int (.cons Ev.int (.cons Ev.int .nil))))) (Nat.le_of_ble_eq_true rfl)) ?d1) (Ev.nat (n := 5)) ?d2) ?d3) Put.i5 ?_
  case d1 => have := slc_le (script.map PyData.int) (some 9) (some 14); rw [List.length_map] at this; rw [List.length_map, sz]; show _ + 5 ≤ _; omega
  case d2 => have := slc_le (script.map PyData.int) (some 9) (some 14); rw [List.length_map] at this; rw [List.length_append, List.length_map, sz]; show _ + 5 ≤ _; omega
  case d3 => unfold drawsL; rw [slc_map, List.map_take, List.map_append]
  refine Ex.asg (d := .list (ends7.map st)) ?e1 Put.i6 ?_
  case e1 =>
    refine Ev.list ?_ hEl
    refine EvL.c (Ev.strE (l := [10])) ?_
    refine EvL.c (Ev.strE (l := [13])) ?_
    refine EvL.c (Ev.strE (l := [13, 10])) ?_
    refine EvL.c (Ev.strE (l := [13, 13, 10])) ?_
    refine EvL.c (Ev.strE (l := [10, 13, 46, 13, 13, 10])) ?_
    refine EvL.c (Ev.strE (l := [11, 46, 10])) ?_
    refine EvL.c (Ev.strE (l := [133, 46, 13])) ?_
    exact EvL.nil
  generalize hT : det a b c d e f g h i = total at hdet ⊢
  have hten : ∀ z ∈ ([a, b, c, d, e, f, g, h, i, total] : List Int), z.natAbs < 16 ^ 53 := by
    have q : (16 : Nat) ^ 17 < 16 ^ 53 := by decide
    intro z hz'
    simp only [List.mem_cons, List.not_mem_nil, or_false] at hz'
    rcases hz' with rfl | rfl | rfl | rfl | rfl | rfl | rfl | rfl | rfl | rfl <;> first | exact hdet | omega
  generalize hds : drawsL script = ds at hdl ⊢
  have hap : ∀ z : Int, z.natAbs < 16 ^ 53 → ap z.natAbs = lett z.natAbs 53 := fun z h => (lett_ap 53 _ h).symm
  refine Ex.cmp1 (xs := [a, b, c, d, e, f, g, h, i, total]) (di := .int) (g := fun z => st (wordS z)) (p := fun _ => true) (own := ["x"]) (fr := []) (gl := ["Int2AP"]) (ns := ["x"])
    (Iter.list (Ev.eq (Ev.catL (Ev.name At.i1) (Ev.list (ds := [.int total]) (.cons (Ev.name At.i4) .nil) (Nat.le_of_ble_eq_true rfl)) (Nat.le_of_ble_eq_true rfl)) rfl)) rfl (by decide +kernel) .nil rfl rfl one_in (Nat.le_of_ble_eq_true rfl)
    (fun z hz' C cs base hz bad led => ⟨_, .name .here, .drop .nil, .nil, fun _ => ?_⟩) Put.i7 ?_
  · have hz5 := hten z hz'
    have hl5 : (ap z.natAbs).length ≤ 53 := by rw [hap z hz5]; exact lett_len _ _
    refine Ev.eq (Ev.cat (Ev.iteS (da := [45]) (db := [43]) (Tst.cmp (EvC.lt (Ev.name At.i0) Ev.int)) Ev.strE Ev.strE) (Ev.decode (EvB.call (Ev.glob Mem.i0 (G.g _ _ g_int2ap)) (.fn rfl rfl) (.cons (Ev.name At.i0) .nil) (c_int2ap G z (by omega)) (Nat.le_of_ble_eq_true rfl)) (apB_lt _) (by show ((ap z.natAbs).map _).length ≤ _; rw [List.length_map, sz]; omega)) ?z1) ?z2
    case z1 => rw [apB_nat, sz]; split <;> simp only [List.length_cons, List.length_nil] <;> omega
    case z2 => rw [apB_nat, hap z hz5]; unfold wordS; by_cases q : z < 0 <;> simp [q]
  have W := fun z : Int => wordS_len z
  have hcl := claimL_len (W a) (W b) (W c) (W d) (W e) (W f) (W g) (W h) (W i) (W total)
  have hccl := claim_cl a b c d e f g h i total
  have hcread := claim_read (a := a) (b := b) (c := c) (d := d) (e := e) (f := f) (g := g) (h := h) (i := i) (n := total) (hten a (by simp)) (hten b (by simp)) (hten c (by simp)) (hten d (by simp)) (hten e (by simp)) (hten f (by simp)) (hten g (by simp)) (hten h (by simp)) (hten i (by simp)) (hten total (by simp)) en0
  have hcc := c_claim G (wordS a) (wordS b) (wordS c) (wordS d) (wordS e) (wordS f) (wordS g) (wordS h) (wordS i) (wordS total) (by have := W a; omega) (by have := W b; omega) (by have := W c; omega) (by have := W d; omega) (by have := W e; omega) (by have := W f; omega) (by have := W g; omega) (by have := W h; omega) (by have := W i; omega) (by have := W total; omega)
  have hcs := c_stream G (wordS a) (wordS b) (wordS c) (wordS d) (wordS e) (wordS f) (wordS g) (wordS h) (wordS i) (wordS total) (by have := W a; omega) (by have := W b; omega) (by have := W c; omega) (by have := W d; omega) (by have := W e; omega) (by have := W f; omega) (by have := W g; omega) (by have := W h; omega) (by have := W i; omega) (by have := W total; omega) ds hdl
  have hsd := c_sides_claim G la lb lc ld le1 lf lg lh li en0
  rw [hT] at hsd
  generalize hclm : claimL (wordS a) (wordS b) (wordS c) (wordS d) (wordS e) (wordS f) (wordS g) (wordS h) (wordS i) (wordS total) = claim at hcl hccl hcread hcc hcs
  have hpl : (piecesL claim ds).length = 5 := by unfold piecesL; rw [List.length_map, List.length_range]
  have hpe : ∀ p ∈ piecesL claim ds, p.length ≤ 2000 := by
    intro p hp
    unfold piecesL at hp
    obtain ⟨t, _, rfl⟩ := List.mem_map.mp hp
    have := slc_le claim (some ((cutsL claim.length ds).getD t 0)) (some ((cutsL claim.length ds).getD (t + 1) 0))
    omega
  have hpc := pieces_cl hccl ds
  have hpj := pieces_join claim hdl
  have h4c := wordS_cl e
  have h4l : (wordS e).length ≤ 2000 := by have := W e; omega
  generalize hw4 : wordS e = w4 at hcs h4c h4l
  generalize hps : piecesL claim ds = ps at hpl hpe hpc hpj hcs
  refine Ex.asg (d := st (mailL 0 (streamL w4 ps ds 0))) (Ev.eq (Ev.itemLN (Ev.name At.i7) (Ev.nat (n := 4)) rfl (Nat.le_of_ble_eq_true rfl)) (by show st (wordS e) = _; rw [hw4]; rfl)) Put.i8 ?_
  have hds5 : (ds.map PyData.int).length = 5 := by rw [List.length_map, hdl]
  generalize hwd : (([a, b, c, d, e, f, g, h, i, total].filter fun _ => true).map fun z => st (wordS z)) = WD
  have hWD : WD = [st (wordS a), st (wordS b), st (wordS c), st (wordS d), st (wordS e), st (wordS f), st (wordS g), st (wordS h), st (wordS i), st (wordS total)] := hwd.symm
  generalize hsix : ((wayL.filter fun _ => true).map fun p => PyData.int ([a, b, c, d, e, f, g, h, i].getD p.1 0 * [a, b, c, d, e, f, g, h, i].getD p.2.1 0 * [a, b, c, d, e, f, g, h, i].getD p.2.2 0)) = SX
  refine Ex.for (ns := ["piece", "x"]) (Iter.zip (as := ps.map st) (bs := ds.map .int) (Ev.blt Mem.i1 (z_zip G)) (Ev.eq (Ev.call (Ev.glob Mem.i2 (G.g _ _ g_pieces)) (.fn rfl rfl) (.cons (Ev.call (Ev.glob Mem.i3 (G.g _ _ g_claim)) (.fn rfl rfl) (.cons (Ev.name At.i7) .nil) (hWD ▸ hcc) (Nat.le_of_ble_eq_true rfl)) (.cons (Ev.name At.i5) .nil)) (c_pieces G claim ds hdl (by omega)) (Nat.le_of_ble_eq_true rfl)) (by rw [hps])) (Ev.name At.i5))
    (fun k vs led => led = [.prd [136] (T0 136)] ∧ vs = [.val (.list (script.map .int)), .val (.list ([a, b, c, d, e, f, g, h, i].map .int)), .val (.list (wayL.map trpD)), .val (.list SX), .val (.int total), .val (.list (ds.map .int)), .val (.list (ends7.map st)), .val (.list WD), .val (st (mailL 0 (streamL w4 ps ds k))), .no, .no, .no, .no, .no, .no])
    (fun vs led => led = [.prd [136] (T0 136)] ∧ vs = [.val (.list (script.map .int)), .val (.list ([a, b, c, d, e, f, g, h, i].map .int)), .val (.list (wayL.map trpD)), .val (.list SX), .val (.int total), .val (.list (ds.map .int)), .val (.list (ends7.map st)), .val (.list WD), .val (st (mailL 0 (streamL w4 ps ds 5))), .no, .no, .no, .no, .no, .no]) ⟨rfl, rfl⟩ ?_ ?_ ?_ ?_
  · rintro k dd vs led hz' bad'' fp P hdd ⟨rfl, rfl⟩
    obtain ⟨u, v, hu, hv, rfl⟩ := zips_get hdd
    rw [List.getElem?_map] at hu hv
    cases hpk : ps[k]? with
    | none => rw [hpk] at hu; cases hu
    | some pc =>
    cases hxk : ds[k]? with
    | none => rw [hxk] at hv; cases hv
    | some x =>
    rw [hpk] at hu; cases hu
    rw [hxk] at hv; cases hv
    refine ⟨_, .names (.cons (.cons .nil)) (.inr rfl) (.cons Put.i9 (.cons Put.i10 .nil)), ?_⟩
    have hpcl := hpe pc (List.mem_of_getElem? hpk)
    have hg1 : ps.getD k [] = pc := by rw [List.getD_eq_getElem?_getD, hpk]; rfl
    have hg2 : ds.getD k 0 = x := by rw [List.getD_eq_getElem?_getD, hxk]; rfl
    have hk5 : k < 5 := by have := (List.getElem?_eq_some_iff.mp hxk).1; omega
    have hstep := page_step (ds := ds) h4c hpc k
    rw [hg1, hg2] at hstep
    have hpz := page_size (ds := ds) (t := k) (k := 0) h4l hpe (by omega) (by omega)
    have hpz2 := page_size (ds := ds) (t := k + 1) (k := 0) h4l hpe (by omega) (by omega)
    have hsl5 := streamL_len w4 ps ds k
    have hspl : spl (mailL 0 (streamL w4 ps ds k)) CRLF = (streamL w4 ps ds k).map (rowL 0) := spl_rows (fun q => by rw [q] at hsl5; simp at hsl5) (stream_ok h4c hpc k)
    have hkind := fmodNat (a := x) (n := 7) (by decide)
    have hk7 : kindS x < 7 := hkind.2
    have hE6 := ends7_len (kindS x)
    have hEg : (ends7.map st)[kindS x]? = some (st (ends7.getD (kindS x) [])) := by
      have : ∀ j : Nat, j < 7 → ends7[j]? = some (ends7.getD j []) := by decide
      rw [List.getElem?_map, this _ hk7]; rfl
    have hplace := fmodNat (a := x.fdiv 7) (n := (streamL w4 ps ds k).length) (by omega)
    have hrl : ((streamL w4 ps ds k).map (rowL 0)).length = (streamL w4 ps ds k).length := List.length_map ..
    have hjt := jn_take_len (ys := (streamL w4 ps ds k).map (rowL 0)) (placeS x (streamL w4 ps ds k).length)
    have hjd := jn_drop_len (ys := (streamL w4 ps ds k).map (rowL 0)) (placeS x (streamL w4 ps ds k).length)
    have hjz : (jn CRLF ((streamL w4 ps ds k).map (rowL 0))).length ≤ 2 ^ 16 := hpz
    have hdl1 := fun y (hy : y ∈ (streamL w4 ps ds k).map (rowL 0)) => Nat.le_trans (mem_le_jn hy) hpz
    generalize hE : ends7.getD (kindS x) [] = E at hstep hE6 hEg ⊢
    generalize hR : (streamL w4 ps ds k).map (rowL 0) = R at hstep hspl hrl hjt hjd hjz hdl1 ⊢
    generalize hN : (streamL w4 ps ds k).length = N at hsl5 hrl hplace hstep hjt hjd ⊢
    generalize hM : mailL 0 (streamL w4 ps ds k) = M at hspl hpz ⊢
    generalize hM2 : mailL 0 (streamL w4 ps ds (k + 1)) = M2 at hstep hpz2 ⊢
    refine Ex.asg (d := .list (R.map st)) (Ev.eq (Ev.split (Ev.name At.i8) (Ev.strE (l := CRLF)) (by decide) (by rw [sz]; omega)) (by rw [hspl])) Put.i11 ?_
    have hrm : (R.map st).length = N := by rw [List.length_map, hrl]
    have hrs : (R.map st).length ≤ sizeLine := by rw [hrm, sz]; omega
    have hpl2 : (x.fdiv 7).fmod (((R.map st).length : Nat) : Int) = ((placeS x N : Nat) : Int) := by rw [hrm]; exact hplace.1
    refine Ex.asg (d := nt (placeS x N)) (Ev.eq (Ev.fmod (b := ((R.map st).length : Int)) (Ev.fdiv (Ev.name At.i10) (Ev.int (i := 7)) (by decide) (by decide)) (Ev.call (Ev.blt Mem.i0 (z_len G)) (.builtin _) (.cons (Ev.name At.i11) .nil) (Fn.len_list (by rw [hrm]; omega)) (Nat.zero_le _)) (by rw [hrm]; omega)) (congrArg PyData.int hpl2)) Put.i12 ?_
    generalize hP0 : placeS x N = P0 at hstep hjt hjd ⊢
    have htk : ((R.take P0).map fun y => y ++ CRLF).length ≤ 2 ^ 12 := by rw [List.length_map, List.length_take]; omega
    have hjA : (jn [] ((R.take P0).map fun y => y ++ CRLF)).length ≤ 2 ^ 16 + 2 := by rw [jn_nil, List.length_flatten]; exact Nat.le_trans hjt (by omega)
    have hjB : (jn CRLF (R.drop P0)).length ≤ 2 ^ 16 + 4 := by
      have := jn_len CRLF (R.drop P0)
      have h2 : CRLF.length = 2 := rfl
      rw [h2] at this
      split at this <;> omega
    refine Ex.asg (d := st M2) (Ev.eq (Ev.call (Ev.glob Mem.i4 (G.g _ _ g_quote)) (.fn rfl rfl) (.cons (Ev.cat (Ev.cat (Ev.cat (Ev.cat (Ev.join (ys := (R.take P0).map fun y => y ++ CRLF) (Ev.strE (l := [])) (Ev.eq (Ev.comp1 (xs := R.take P0) (di := st) (g := fun y => st (y ++ CRLF)) (p := fun _ => true) (own := ["row"]) (fr := []) (gl := []) (ns := ["row"])
      (Iter.list (Ev.eq (Ev.takeL (Ev.name At.i11) (Ev.name At.i12) hrs) (by rw [List.map_take]))) rfl (by decide +kernel) .nil rfl rfl one_in (by rw [List.length_take, sz]; omega) (fun y hy C cs base hz bad led => ⟨_, .name .here, .drop .nil, .nil, fun _ => Ev.cat (Ev.name At.i0) (Ev.strE (l := CRLF)) (by have := hdl1 y (List.mem_of_mem_take hy); rw [sz]; show _ + 2 ≤ _; omega)⟩)) (by rw [map_true, List.map_map]; rfl)) ?hs1) (Ev.strE (l := [46])) ?hs7) (Ev.name At.i9) ?hs8) (Ev.itemLN (Ev.name At.i6) (Ev.eq (Ev.fmod (Ev.name At.i10) Ev.int (by decide)) (congrArg PyData.int hkind.1)) hEg hEl) ?hs2)
      (Ev.join (ys := R.drop P0) (Ev.strE (l := CRLF)) (Ev.eq (Ev.dropL (Ev.name At.i11) (Ev.name At.i12) hrs) (by rw [List.map_drop])) ?hs3) ?hs4) .nil) (c_quote G _ ?hs5) (Nat.le_of_ble_eq_true rfl)) ?hs6) Put.i8 ?_
    case hs1 => rw [sz, List.length_nil, Nat.mul_zero]; exact Nat.le_trans hjt (by omega)
    case hs7 => rw [sz, List.length_cons, List.length_nil]; omega
    case hs8 => rw [List.length_append, sz, List.length_cons, List.length_nil]; omega
    case hs2 => rw [List.length_append, List.length_append, List.length_cons, List.length_nil, sz]; omega
    case hs3 => rw [sz]; show _ + _ * 2 ≤ _; omega
    case hs4 => rw [List.length_append, List.length_append, List.length_append, List.length_cons, List.length_nil, sz]; omega
    case hs5 => rw [List.length_append, List.length_append, List.length_append, List.length_append, List.length_cons, List.length_nil]; omega
    case hs6 => exact congrArg (fun z => PyData.str (S z)) (by rw [jn_nil, dot5]; exact hstep)
    refine Ex.nil fun s' O => ⟨bad'', _, _, ⟨rfl, rfl⟩, ?_⟩
    exact O.forget (.keep (.keep (.keep (.keep (.keep (.keep (.keep (.keep (.keep (.drop (.drop (.drop (.drop (.drop (.drop .nil)))))))))))))))
  · rintro vs led ⟨rfl, rfl⟩
    refine ⟨rfl, ?_⟩
    have : (zips (ps.map st) (ds.map .int)).length = 5 := by unfold zips; rw [List.length_map, List.length_zip, List.length_map, List.length_map, hpl, hdl]; rfl
    rw [this]
  · rintro vs led bad ⟨rfl, rfl⟩
    have hpz := page_size (ds := ds) (t := 5) (k := 0) h4l hpe (by omega) (by omega)
    have hpz1 := page_size (ds := ds) (t := 5) (k := 1) h4l hpe (by omega) (by omega)
    have hsl5 := streamL_len w4 ps ds 5
    have hsz := stream_size (ds := ds) h4l hpe 5
    have hok := stream_ok (ds := ds) h4c hpc 5
    have hspl : spl (mailL 0 (streamL w4 ps ds 5)) CRLF = (streamL w4 ps ds 5).map (rowL 0) := spl_rows (fun q => by rw [q] at hsl5; simp at hsl5) hok
    refine Ex.asg (d := .list ((streamL w4 ps ds 5).map rowD)) (Ev.call (Ev.glob Mem.i5 (G.g _ _ g_stream)) (.fn rfl rfl) (.cons (Ev.eq (b := .list [st (wordS a), st (wordS b), st (wordS c), st (wordS d), st w4, st (wordS f), st (wordS g), st (wordS h), st (wordS i), st (wordS total)]) (Ev.comp1 (xs := [a, b, c, d, e, f, g, h, i, total]) (di := .int) (g := fun z => st (wordS z)) (p := fun _ => true) (own := ["x"]) (fr := []) (gl := ["_law_letters", "abs"]) (ns := ["x"])
      (Iter.list (Ev.eq (Ev.catL (Ev.name At.i1) (Ev.list (ds := [.int total]) (.cons (Ev.name At.i4) .nil) (Nat.le_of_ble_eq_true rfl)) (Nat.le_of_ble_eq_true rfl)) rfl)) rfl (by decide +kernel) .nil rfl rfl one_in (Nat.le_of_ble_eq_true rfl)
      (fun z hz' C cs base hz bad led => ⟨_, .name .here, .drop .nil, .nil, fun _ => ?_⟩)) (by rw [← hw4]; rfl)) (.cons (Ev.name At.i5) .nil)) hcs (Nat.le_of_ble_eq_true rfl)) Put.i13 ?_
    · refine Ev.eq (Ev.cat (Ev.iteS (da := [45]) (db := [43]) (Tst.cmp (EvC.lt (Ev.name At.i0) Ev.int)) Ev.strE Ev.strE) (Ev.call (Ev.glob Mem.i0 (G.g _ _ g_letters)) (.fn rfl rfl) (.cons (Ev.call (Ev.blt Mem.i1 (z_abs G)) (.builtin _) (.cons (Ev.name At.i0) .nil) Fn.abs (Nat.zero_le _)) .nil) (c_letters G z.natAbs) (Nat.le_of_ble_eq_true rfl)) ?y1) ?y2
      case y1 => have := lett_len z.natAbs 53; rw [sz]; split <;> simp only [List.length_cons, List.length_nil] <;> omega
      case y2 => unfold wordS; by_cases q : z < 0 <;> simp [q]
    have hk5 : script.length % 5 < 5 := Nat.mod_lt _ (by decide)
    have hsent : (decide (mailL 0 (streamL w4 ps ds 5) = mailL 0 (streamL w4 ps ds 5)) && decide (qd (mailL 0 (streamL w4 ps ds 5) ++ endsL.getD (script.length % 5) []) = mailL 1 (streamL w4 ps ds 5) ++ duesL.getD (script.length % 5) [])) = true := by
      rw [Bool.and_eq_true, decide_eq_true_eq, decide_eq_true_eq]
      exact ⟨rfl, qd_ends (fun q => by rw [q] at hsl5; simp at hsl5) hok _ hk5⟩
    have hsln : (script.map PyData.int).length = script.length := List.length_map ..
    refine Ex.ite (c := false) (Tst.eq (Tst.not (Tst.val (Ev.eq (Ev.call (Ev.glob Mem.i6 (G.g _ _ g_sent)) (.fn rfl rfl) (.cons (Ev.name At.i8) (.cons (Ev.name At.i13) (.cons (Ev.eq (Ev.fmodN (Ev.call (Ev.blt Mem.i0 (z_len G)) (.builtin _) (.cons (Ev.name At.i0) .nil) (Fn.len_list (by rw [hsln]; omega)) (Nat.zero_le _)) (Ev.nat (n := 5)) (by decide)) (by rw [hsln])) .nil)))
      (c_sent G _ _ _ hk5 (fun l hl => c_quote G l hl) (by omega) (by omega) (by omega) (fun r hr => by have := hsz r hr; omega) (by omega)) (Nat.le_of_ble_eq_true rfl)) (congrArg PyData.bool hsent)) trivial rfl)) rfl) (fun h => by cases h) (fun _ => Ex.next ?_)
    obtain ⟨out, hLx, hout⟩ := hcread
    generalize hF : ((streamL w4 ps ds 5).map (rowL 0)).filter (fun y => decide (y.take 1 = [46])) = FF
    obtain ⟨hra, hrb⟩ := read_all (ds := ds) h4c hpc hpl hF
    have hyl : ∀ y ∈ (streamL w4 ps ds 5).map (rowL 0), y.length ≤ 2008 := by
      intro y hy
      obtain ⟨r, hr, rfl⟩ := List.mem_map.mp hy
      have := hsz r hr
      have := row_len r
      omega
    have hFl : FF.length < 64 := by
      have : FF.length ≤ ((streamL w4 ps ds 5).map (rowL 0)).length := by rw [← hF]; exact List.length_filter_le _ _
      rw [List.length_map] at this
      omega
    have hFy : ∀ y ∈ FF, y.length ≤ 2008 := fun y hy => hyl y (List.mem_filter.mp (hF ▸ hy)).1
    have hsyl : (symF (pairsL a b c d e f g h i total)).length = 92 := by unfold symF; rw [List.length_cons, List.length_append, flat_len]; rfl
    have hol : out.length = 91 := by have := congrArg List.length hout; rw [hsyl, List.length_append] at this; simpa using this
    refine Ex.assignG (D := fun dd => dd = .list ((symF (pairsL a b c d e f g h i total)).map .int)) (vs' := fun dv => [.val (.list (script.map .int)), .val (.list ([a, b, c, d, e, f, g, h, i].map .int)), .val (.list (wayL.map trpD)), .val (.list SX), .val (.int total), .val (.list (ds.map .int)), .val (.list (ends7.map st)), .val (.list WD), .val (st (mailL 0 (streamL w4 ps ds 5))), .no, .no, .no, .no, .val (.list ((streamL w4 ps ds 5).map rowD)), .val dv])
      (EvG.mono (EvG.app (Ev.glob Mem.i7 (G.g _ _ g_symbols)) (.fn rfl rfl) (EvG.callT (d' := st claim) (Ev.glob Mem.i8 (G.g _ _ g_read)) (.fn rfl rfl) (Ev.name At.i8) (c_read G _ claim FF (fun y => cutT (undot y)) (by omega) (by rw [hspl]; exact hF) (by rw [hspl, List.length_map]; omega) hFl (by rw [hspl]; intro y hy; have := hyl y hy; omega)
        (fun y hy => by
          obtain ⟨a1, r1, r2, r3, r4, r5, r6⟩ := hra y hy
          have := hFy y hy
          exact ⟨a1, r1, r2, by omega, by omega, r5, r6⟩) (fun o p1 p2 => (hrb o p1 p2).trans hpj)) (fun u h' hu => by obtain ⟨t, rfl⟩ := hu; exact .str _ _) hbm (Nat.le_of_ble_eq_true rfl)) (c_symbols G claim out hLx (by omega) (by omega)) (Nat.le_of_ble_eq_true rfl)) (R' := fun hp vv => ∃ d', d' = .list ((symF (pairsL a b c d e f g h i total)).map .int) ∧ Rd (hideAll hp bad) vv d') fun h' v r => ⟨_, rfl, by rw [← hout]; exact r⟩) (fun d => Put.i14) (fun dd hD => ?_)
    subst hD
    have hsymL : (symF (pairsL a b c d e f g h i total)).length ≤ sizeLine := by unfold symF; rw [List.length_cons, List.length_append, flat_len]; simp only [pairsL, List.length_cons, List.length_nil]; decide
    refine Ex.ret (d := .bool true) (Ev.and2 (da := .bool true) (db := .bool true) (Ev.eq (Ev.call (Ev.glob Mem.i9 (G.g _ _ g_kinds)) (.fn rfl rfl) (.cons (Ev.name At.i14) .nil) (c_kinds G _ hsymL) (Nat.le_of_ble_eq_true rfl)) (congrArg PyData.bool (kinds_claim _ (pairs_good a b c d e f g h i total)))) trivial
      (fun _ => Ev.eq (Ev.cmp (EvC.eqD (a := .list (([total, 27, total, -1] : List Int).map .int)) (b := .list (([total, 27, total, -1] : List Int).map .int)) (Ev.call (Ev.glob Mem.i10 (G.g _ _ g_sides)) (.fn rfl rfl) (.cons (Ev.name At.i14) .nil) hsd (Nat.le_of_ble_eq_true rfl)) (Ev.list (.cons (Ev.name At.i4) (.cons Ev.int (.cons (Ev.name At.i4) (.cons (Ev.neg Ev.int) .nil)))) (Nat.le_of_ble_eq_true rfl)) (shaped_ints _) (shaped_ints _))) (congrArg PyData.bool (by rw [PyData.eqv]; exact eqv_ints _))) rfl) fun s v O r => O.retT r.bool_inv
  · intro n hn
    cases hn with
    | head => exact Mem.i9
    | tail _ h => cases h with
      | head => exact Mem.i10
      | tail _ h => cases h
end
end Mine
end
section
open PySem PySem.W PyProof.Rows
set_option Elab.async false
namespace Mine
set_option maxRecDepth 100000
set_option maxHeartbeats 8000000
noncomputable def As : List Addr := [2, 3, 32, 35, 37, 38, 40, 41, 42, 44, 45, 47, 48, 49, 51, 52, 54, 55, 56, 58, 59, 61, 62, 66, 67, 71, 72, 73, 75, 76, 78, 79, 80, 83, 84, 85, 87, 88, 90, 91, 92, 94, 95, 97, 98, 99, 101, 102, 104, 105, 106, 108, 109, 111, 112, 113, 116, 117, 118, 121, 122, 123, 125, 126, 128, 129, 130, 133, 134, 135, 138, 139, 140, 143, 144, 145, 147, 148, 150, 151, 152, 155, 156, 157, 160, 161]
noncomputable def Hk : Hook := kmHook hd.heap_39 As (fun _ => by kernel_rfl) [136]
theorem left_false : ∀ w : World, (openEnds treeTable PySem.Challenge.rw_ta0014_03.row.prog (w.withFollow "special-get-raises" false) 4478).map (fun s => (openSeen Q Lo (importedModules PySem.Challenge.rw_ta0014_03.row.prog.main.body) (fun s => xlAt Q [] s && recOk (RowW.records (OpenRow.toRowW (OpenLaw.row PySem.Challenge.rw_ta0014_03))) s) true s, Hook.obs Hk s)) = some (openGood Q Lo, Hook.val Hk (w.withFollow "special-get-raises" false)) := fun w => by kernel_rfl
theorem left_true : ∀ w : World, (openEnds treeTable PySem.Challenge.rw_ta0014_03.row.prog (w.withFollow "special-get-raises" true) 4478).map (fun s => (openSeen Q Lo (importedModules PySem.Challenge.rw_ta0014_03.row.prog.main.body) (fun s => xlAt Q [] s && recOk (RowW.records (OpenRow.toRowW (OpenLaw.row PySem.Challenge.rw_ta0014_03))) s) true s, Hook.obs Hk s)) = some (openGood Q Lo, Hook.val Hk (w.withFollow "special-get-raises" true)) := fun w => by kernel_rfl
theorem left : LeftO PySem.Challenge.rw_ta0014_03.row.prog Q Lo (fun s => xlAt Q [] s && recOk (RowW.records (OpenRow.toRowW (OpenLaw.row PySem.Challenge.rw_ta0014_03))) s) (Hook.obs Hk) (Hook.val Hk) 4478 := left_split "special-get-raises" left_false left_true
end Mine
end
section
open PySem PySem.W PyProof.Rows PySem.Spec
set_option Elab.async false
set_option linter.all false
set_option maxRecDepth 100000
set_option maxHeartbeats 8000000
open Mine in
set_option maxRecDepth 100000 in
set_option maxHeartbeats 8000000 in
theorem PySem.Challenge.cw_ta0014_03_holds : PySem.Challenge.rw_ta0014_03.Holds := by
  refine hd ⟨left, ?_⟩
  w_strict (
  k_fill
  intro w s₀ s₁ mg mb G Y fa o pm cd doc dV kV ho hd' hcd hD hmg hg args vals as hpre hlay hrd hwl hlo
  have KX := km_in_of Y
  have hT8 := km_tabs_of Y 136 (.head _)
  refine Ground.open G ?_
  intro T B D TE TW
  have O : (WL PySem.Challenge.rw_ta0014_03.row.prog w mg mb).Ok s₁.heap := ⟨KX, T.g, T.b, T.nolimit⟩
  have GG := Wd.Glob.of O T.builtins
  have hfa := GG.g _ _ g_law
  have hfa2 : fa = 161 := by
    have e : (some (Value.ref fa) : Option Value) = some (.ref 161) := hmg.symm.trans hfa
    injection e with e; injection e
  subst hfa2
  have hbm : Bmod (WL PySem.Challenge.rw_ta0014_03.row.prog w mg mb) s₁.heap := T.bmain
  have hC : CodeHd s₁.heap 138 136 := codeHd_of_K KX (by exact rfl)
  clear hd' hcd hD hmg ho
  wrow_args hpre hlay hrd hwl hlo
  rename_i ns hs _ _ _ _ _ _ a _ _ _ _ hwell _ _ _ hc _
  exact law_endT (W := WL PySem.Challenge.rw_ta0014_03.row.prog w mg mb) rfl rfl (c_law GG ns (by omega)) ⟨rfl, by decide, by decide⟩ O hbm hT8 hC (well_list hwell) hg (by kernel_rfl))
end
