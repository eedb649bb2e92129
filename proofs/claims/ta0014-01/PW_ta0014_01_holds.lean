import PyProof.Rows.All
import Wide.All
import OpenK.AllK
import Wide.FinOn
import KE.KxBytes
import KE.LcSums
import KE.KBytesCut
import KE.KFind
import KE.KSortKey
import KE.KRevSl
import KE.KSortTup
import KE.KTabLook
import KE.KTops
import KE.KxDecode
import Lean
import PySem.Challenge.RW_ta0014_01
section
open PySem PySem.W PyProof.Rows
set_option Elab.async false
namespace Mine
set_option maxRecDepth 100000
set_option maxHeartbeats 8000000
theorem left_split {p q : Program} {loose : List Str} {Xt : Shared → Bool} {α : Type} {Yf : Shared → α} {Ya : World → α} {N : Nat} {g0 : Bool} (row : String)
    (hf : ∀ w : World, (openEnds treeTable p (w.withFollow row false) N).map (fun s => (openSeen q loose (importedModules p.main.body) Xt g0 s, Yf s)) = some (openGood q loose, Ya (w.withFollow row false)))
    (ht : ∀ w : World, (openEnds treeTable p (w.withFollow row true) N).map (fun s => (openSeen q loose (importedModules p.main.body) Xt g0 s, Yf s)) = some (openGood q loose, Ya (w.withFollow row true))) : LeftO p q loose Xt Yf Ya N g0 := fun w => by
  have e := World.withFollow_self w row
  cases hb : w.params.followText row <;> rw [hb] at e
  · have := hf w; rw [e] at this; exact this
  · have := ht w; rw [e] at this; exact this
theorem head {r : OpenRow} {q : Program} {loose : List Str} {Xt : Shared → Bool} {XP : (Str → Option Value) → Heap → Prop} {H : Hook} {d : DefRec} {kwd : List (Str × Expr)} {N : Nat}
    (hX : ∀ s, Xt s = true → XP (s.heap.nsMap mainGlobals) s.heap) (hXk : ∀ mg h h', XP mg h → (∀ b o, h.get? b = some o → h'.get? b = some o) → XP mg h')
    (hdef : defOf q r.name = some (d, kwd)) (hp : r.prog.theDef r.name = some (d.params, d.body, d.scope)) (hk : kwWritten? d.params.kwonlyargs d.params.kw_defaults = some kwd) (hRf : ∀ s, Xt s = true → RecFacts r.records s.heap) (hwr : (!r.writes || r.records.isEmpty) = true)
    (k1 : r.wellSaid = true) (ok : (chainsOk q && opensWell r.prog && (frees r.toRowW && r.within.isEmpty)) = true) (hb : r.prog.bare) (hw : r.toRowW.promised)
    (hc : LeftO r.prog q loose Xt (Hook.obs H) (Hook.val H) N ∧ WalkO q loose XP (Hook.says H) r.toRowW d kwd fun f vs => PySem.call f vs) : r.Holds :=
  holds_open (Yf := Hook.obs H) (Ya := Hook.val H) (YP := Hook.says H) (N := N) hc.1 (Hook.of H) (Hook.keeps H) hX hXk hdef hp hk hRf hwr k1 ok hb hw hc.2
noncomputable def Q : Program := view PySem.Challenge.pw_ta0014_01 [0, 73]
noncomputable def Lo : List Str := ((PySem.Challenge.pw_ta0014_01.main.body.drop 1).take 72).flatMap fun s => match s with
  | .FunctionDef n .. => [n]
  | .Assign [.Name n _] _ _ => [n]
  | _ => []
local macro_rules
  | `(tactic| o_head $H) => `(tactic| (
      refine head (H := $H) (q := Q) (loose := Lo) (Xt := fun s => xlAt Q [] s && recOk (RowW.records (OpenRow.toRowW (OpenLaw.row PySem.Challenge.rw_ta0014_01))) s) (XP := XL Q []) (N := 4246) (fun s e => xl_of s (Bool.and_eq_true_iff.mp e).1) XL.keeps (by rfl) (by rfl) (by rfl) (fun s e => recFacts_of (Bool.and_eq_true_iff.mp e).2) (by rfl) (by first | assumption | decide +kernel) (by decide +kernel) ⟨rfl, rfl, rfl, rfl, rfl, by decide +kernel⟩ ?hw ?hc))
open_top hd for PySem.Challenge.rw_ta0014_01
end Mine
end
section
open PySem PySem.W PyProof.Rows PySem.Spec
set_option Elab.async false
set_option linter.all false
set_option maxRecDepth 100000
namespace Mine

noncomputable def Ext (h h' : Heap) : Prop := ∀ b o, h.get? b = some o → h'.get? b = some o
theorem Ext.rfl' {h : Heap} : Ext h h := fun _ _ e => e
theorem Ext.trans {a b c : Heap} (h : Ext a b) (k : Ext b c) : Ext a c := fun x o e => k x o (h x o e)

theorem hid_iff {h : Heap} {l : List Addr} {b : Addr} {o : Obj} : (hideAll h l).get? b = some o ↔ h.get? b = some o ∧ b ∉ l := by
  constructor
  · intro e
    refine ⟨of_hideAll l e, fun m => ?_⟩
    rw [hideAll_none l m] at e; cases e
  · rintro ⟨e, m⟩; exact hideAll_get l e m
theorem hid_ext {h h' : Heap} {l : List Addr} (k : Ext h h') : Ext (hideAll h l) (hideAll h' l) := fun b o e =>
  hid_iff.mpr ⟨k b o (hid_iff.mp e).1, (hid_iff.mp e).2⟩
theorem hid_sub {h : Heap} {l : List Addr} : Ext (hideAll h l) h := fun _ _ e => (hid_iff.mp e).1
theorem hid_anti {h : Heap} {l l' : List Addr} (k : ∀ b ∈ l', b ∈ l) : Ext (hideAll h l) (hideAll h l') := fun b o e =>
  hid_iff.mpr ⟨(hid_iff.mp e).1, fun m => (hid_iff.mp e).2 (k b m)⟩
theorem hid_but {h h' : Heap} {l : List Addr} (k : ∀ b o, b ∉ l → h.get? b = some o → h'.get? b = some o) : Ext (hideAll h l) (hideAll h' l) := fun b o e =>
  hid_iff.mpr ⟨k b o (hid_iff.mp e).2 (hid_iff.mp e).1, (hid_iff.mp e).2⟩

noncomputable abbrev PL (h : Heap) (a : Addr) (vs : List Value) (n : Nat) : Prop := h.get? a = some { cls := .type "list", data := .seq vs.toArray n }
noncomputable abbrev PT (h : Heap) (a : Addr) (vs : List Value) (n : Nat) : Prop := h.get? a = some { cls := .type "tuple", data := .seq vs.toArray n }
theorem PL.isList {h : Heap} {a : Addr} {vs : List Value} {n : Nat} (x : PL h a vs n) : h.IsList a vs.toArray := ⟨_, x, rfl, n, rfl⟩
theorem PT.isTup {h : Heap} {a : Addr} {vs : List Value} {n : Nat} (x : PT h a vs n) : IsTup h a vs.toArray := ⟨_, x, rfl, n, rfl⟩
mutual
inductive Rd (h : Heap) : Value → PyData → Prop
  | none : Rd h .none .none
  | bool (b : Bool) : Rd h (.bool b) (.bool b)
  | int (i : Int) (t : Tok) : Rd h (.int i t) (.int i)
  | str (x : Str) (t : Tok) : Rd h (.str x t) (.str x)
  | list {a : Addr} {vs : List Value} {n : Nat} {ds : List PyData} : PL h a vs n → RdAll h vs ds → Rd h (.ref a) (.list ds)
  | tuple {a : Addr} {vs : List Value} {n : Nat} {ds : List PyData} : PT h a vs n → RdAll h vs ds → Rd h (.ref a) (.tuple ds)
inductive RdAll (h : Heap) : List Value → List PyData → Prop
  | nil : RdAll h [] []
  | cons {v : Value} {d : PyData} {vs : List Value} {ds : List PyData} : Rd h v d → RdAll h vs ds → RdAll h (v :: vs) (d :: ds)
end
mutual
theorem Rd.ext {h h' : Heap} : ∀ {v : Value} {d : PyData}, Rd h v d → Ext h h' → Rd h' v d
  | _, _, .none, _ => .none
  | _, _, .bool b, _ => .bool b
  | _, _, .int i t, _ => .int i t
  | _, _, .str x t, _ => .str x t
  | _, _, .list e r, k => .list (k _ _ e) (RdAll.ext r k)
  | _, _, .tuple e r, k => .tuple (k _ _ e) (RdAll.ext r k)
theorem RdAll.ext {h h' : Heap} : ∀ {vs : List Value} {ds : List PyData}, RdAll h vs ds → Ext h h' → RdAll h' vs ds
  | _, _, .nil, _ => .nil
  | _, _, .cons a b, k => .cons (Rd.ext a k) (RdAll.ext b k)
end
mutual
theorem Rd.reads {h : Heap} : ∀ {v : Value} {d : PyData}, Rd h v d → ∃ as, Reads h v d as
  | _, _, .none => ⟨_, .none⟩
  | _, _, .bool b => ⟨_, .bool b⟩
  | _, _, .int i t => ⟨_, .int i t⟩
  | _, _, .str x t => ⟨_, .str x t⟩
  | _, _, .list e r => let ⟨_, y⟩ := RdAll.reads r; ⟨_, .list e rfl rfl (by simpa using y)⟩
  | _, _, .tuple e r => let ⟨_, y⟩ := RdAll.reads r; ⟨_, .tuple e rfl rfl (by simpa using y)⟩
theorem RdAll.reads {h : Heap} : ∀ {vs : List Value} {ds : List PyData}, RdAll h vs ds → ∃ as, ReadsAll h vs ds as
  | _, _, .nil => ⟨_, .nil⟩
  | _, _, .cons a b => let ⟨_, x⟩ := Rd.reads a; let ⟨_, y⟩ := RdAll.reads b; ⟨_, .cons x y⟩
end
theorem RdAll.one {h : Heap} {v : Value} {d : PyData} (a : Rd h v d) : RdAll h [v] [d] := .cons a .nil
theorem RdAll.nil_inv {h : Heap} {vs : List Value} (a : RdAll h vs []) : vs = [] := by cases a; rfl
theorem RdAll.cons_inv {h : Heap} {d : PyData} {vs : List Value} {ds : List PyData} (a : RdAll h vs (d :: ds)) : ∃ v r, vs = v :: r ∧ Rd h v d ∧ RdAll h r ds := by
  cases a with | cons x y => exact ⟨_, _, rfl, x, y⟩
theorem RdAll.length {h : Heap} : ∀ {vs : List Value} {ds : List PyData}, RdAll h vs ds → vs.length = ds.length
  | vs, [], a => by rw [a.nil_inv]; rfl
  | vs, d :: ds, a => by obtain ⟨v, r, rfl, _, b⟩ := a.cons_inv; rw [List.length_cons, List.length_cons, RdAll.length b]
theorem RdAll.append {h : Heap} : ∀ {vs : List Value} {ds : List PyData} {ws : List Value} {es : List PyData}, RdAll h vs ds → RdAll h ws es → RdAll h (vs ++ ws) (ds ++ es)
  | vs, [], ws, es, a, b => by rw [a.nil_inv]; exact b
  | vs, d :: ds, ws, es, a, b => by obtain ⟨v, r, rfl, x, y⟩ := a.cons_inv; exact .cons x (RdAll.append y b)
theorem RdAll.get {h : Heap} : ∀ {vs : List Value} {ds : List PyData} {i : Nat} {d : PyData}, RdAll h vs ds → ds[i]? = some d → ∃ v, vs[i]? = some v ∧ Rd h v d
  | vs, [], i, d, _, e => by simp at e
  | vs, d' :: ds, 0, d, a, e => by obtain ⟨v, r, rfl, x, y⟩ := a.cons_inv; simp at e; subst e; exact ⟨v, rfl, x⟩
  | vs, d' :: ds, i + 1, d, a, e => by obtain ⟨v, r, rfl, x, y⟩ := a.cons_inv; simp at e; simpa using y.get e
theorem RdAll.take {h : Heap} : ∀ {vs : List Value} {ds : List PyData} (n : Nat), RdAll h vs ds → RdAll h (vs.take n) (ds.take n)
  | vs, ds, 0, _ => by simpa using RdAll.nil
  | vs, [], n + 1, a => by rw [a.nil_inv]; simpa using RdAll.nil
  | vs, d :: ds, n + 1, a => by obtain ⟨v, r, rfl, x, y⟩ := a.cons_inv; simpa using RdAll.cons x (y.take n)
theorem RdAll.drop {h : Heap} : ∀ {vs : List Value} {ds : List PyData} (n : Nat), RdAll h vs ds → RdAll h (vs.drop n) (ds.drop n)
  | vs, ds, 0, a => by simpa using a
  | vs, [], n + 1, a => by rw [a.nil_inv]; simpa using RdAll.nil
  | vs, d :: ds, n + 1, a => by obtain ⟨v, r, rfl, x, y⟩ := a.cons_inv; simpa using y.drop n

theorem Rd.bool_inv {h : Heap} {v : Value} {b : Bool} (r : Rd h v (.bool b)) : v = .bool b := by cases r; rfl
theorem Rd.none_inv {h : Heap} {v : Value} (r : Rd h v .none) : v = .none := by cases r; rfl
theorem Rd.int_inv {h : Heap} {v : Value} {i : Int} (r : Rd h v (.int i)) : ∃ t, v = .int i t := by cases r; exact ⟨_, rfl⟩
theorem Rd.str_inv {h : Heap} {v : Value} {x : Str} (r : Rd h v (.str x)) : ∃ t, v = .str x t := by cases r; exact ⟨_, rfl⟩
theorem Rd.list_inv {h : Heap} {v : Value} {ds : List PyData} (r : Rd h v (.list ds)) : ∃ a vs n, v = .ref a ∧ PL h a vs n ∧ RdAll h vs ds := by
  cases r with | list e r => exact ⟨_, _, _, rfl, e, r⟩
theorem Rd.tuple_inv {h : Heap} {v : Value} {ds : List PyData} (r : Rd h v (.tuple ds)) : ∃ a vs n, v = .ref a ∧ PT h a vs n ∧ RdAll h vs ds := by
  cases r with | tuple e r => exact ⟨_, _, _, rfl, e, r⟩
theorem Rd.no_dict {h : Heap} {v : Value} {l : List (PyData × PyData)} (r : Rd h v (.dict l)) : False := by cases r

noncomputable def atom : PyData → Prop
  | .none | .bool _ | .int _ | .str _ => True
  | _ => False
theorem Rd.atom {h h' : Heap} {v : Value} {d : PyData} (r : Rd h v d) (k : atom d) : Rd h' v d := by
  cases r with
  | none => exact .none
  | bool b => exact .bool b
  | int i t => exact .int i t
  | str x t => exact .str x t
  | list => exact k.elim
  | tuple => exact k.elim

structure Wd where
  prog : Program
  w : World
  K : Frag
  mg : Str → Option Value
  mb : Str → Option Value
structure Wd.Ok (W : Wd) (h : Heap) : Prop where
  k : W.K.In h
  g : h.Ns mainGlobals W.mg
  b : h.Ns builtinsNs W.mb
  lim : h.NoLimit
theorem Wd.Ok.ext {W : Wd} {h h' : Heap} (x : W.Ok h) (k : Ext h h') : W.Ok h' := ⟨x.k.keeps k, x.g.keeps k, x.b.keeps k, x.lim.keeps k⟩

noncomputable abbrev Wd.M (W : Wd) : Model := model W.prog W.w
noncomputable abbrev No : Value → Shared → Prop := fun _ _ => False

structure Room (A : Around) (n : Nat) : Prop where
  hd : A.handled = none
  dep : A.depth + n < 900
  uni : A.units + 10 * n < 9000
theorem Room.le {A : Around} {n m : Nat} (r : Room A n) (h : m ≤ n) : Room A m := ⟨r.hd, by have := r.dep; omega, by have := r.uni; omega⟩
theorem Room.deeper {A : Around} {n : Nat} {env : Env} (r : Room A (n + 1)) : Room (A.deeper env) n := ⟨r.hd, by have := r.dep; show A.depth + 1 + n < _; omega, by have := r.uni; show A.units + 3 + _ < _; omega⟩
theorem Room.in1 {A : Around} {n : Nat} (r : Room A (n + 1)) : Room A.in1 n := ⟨r.hd, by have := r.dep; show A.depth + n < _; omega, by have := r.uni; show A.units + 1 + _ < _; omega⟩

noncomputable def Step (s s' : Shared) : Prop := ∃ h t, s' = { s with heap := h, toks := t } ∧ Ext s.heap h
theorem Step.rfl' {s : Shared} : Step s s := ⟨s.heap, s.toks, rfl, .rfl'⟩
theorem Step.tok {s : Shared} {t : Tok} : Step s { s with toks := t } := ⟨s.heap, t, rfl, .rfl'⟩
theorem Step.trans {a b c : Shared} (x : Step a b) (y : Step b c) : Step a c := by
  obtain ⟨h, t, rfl, e⟩ := x; obtain ⟨h', t', rfl, e'⟩ := y
  exact ⟨h', t', rfl, e.trans e'⟩
theorem Step.ext {s s' : Shared} (x : Step s s') : Ext s.heap s'.heap := by obtain ⟨h, t, rfl, e⟩ := x; exact e
theorem Step.mk' {s : Shared} {h : Heap} {t : Tok} (e : Ext s.heap h) : Step s { s with heap := h, toks := t } := ⟨h, t, rfl, e⟩
theorem Step.mkh {s : Shared} {h : Heap} (e : Ext s.heap h) : Step s { s with heap := h } := ⟨h, s.toks, rfl, e⟩

theorem ext_push {h : Heap} (o : Obj) : Ext h (h.push o) := fun _ _ e => Heap.get?_push_of_some _ e

inductive Slot where
  | no
  | val (d : PyData)
  | ptr (a : Addr)
  | is (P : Value → Prop)

inductive Res where
  | lst (a : Addr) (ds : List PyData)
  | prd (fp : List Addr) (P : Heap → Prop)
noncomputable def Res.fp : Res → List Addr
  | .lst a _ => [a]
  | .prd l _ => l
noncomputable def Res.Ok (bad : List Addr) (h : Heap) : Res → Prop
  | .lst a ds => ∃ (vs : List Value) (n : Nat), PL h a vs n ∧ RdAll (hideAll h bad) vs ds
  | .prd fp P => P h ∧ ∀ h h', P h → (∀ b ∈ fp, ∀ o, h.get? b = some o → h'.get? b = some o) → P h'

structure Fx where
  W : Wd
  A : Around
  rm : Nat
  env : Env
  base : Shared
  nm : List Str
  gl : List Str
  sto : List Str
  cb : List Addr

structure Sx where
  hz : Heap
  bad : List Addr
  led : List Res
  vs : List Slot

noncomputable def look (env : Env) (h : Heap) (m : Str → Option Value) (n : Str) (v : Value) : Prop :=
  (env.kindOf n = some .local ∧ m n = some v) ∨ (env.kindOf n = some .cell ∧ ∃ c, env.cells.lookup n = some c ∧ h.IsCell c (some v))

noncomputable def SlotOk (env : Env) (h : Heap) (bad : List Addr) (m : Str → Option Value) (n : Str) : Slot → Prop
  | .no => True
  | .val d => ∃ v, look env h m n v ∧ Rd (hideAll h bad) v d
  | .ptr a => look env h m n (.ref a)
  | .is P => ∃ v, look env h m n v ∧ P v

structure Ok (f : Fx) (x : Sx) (s : Shared) : Prop where
  kind : f.env.scope.kind = .function
  glo : f.env.globals = mainGlobals
  bui : f.env.builtins = builtinsNs
  room : Room f.A f.rm
  wok : f.W.Ok f.base.heap
  nd : f.nm.Nodup
  knd : ∀ n ∈ f.nm, (n == ("__debug__" : Str)) = false ∧ (f.env.kindOf n = some .local ∨ (f.env.kindOf n = some .cell ∧ (f.env.cells.lookup n).isSome))
  gk : ∀ n ∈ f.gl, (n == ("__debug__" : Str)) = false ∧ f.env.kindOf n = some .globalImplicit
  cellF : ∀ n ∈ f.sto, ∀ c, f.env.cells.lookup n = some c → f.base.heap.get? c = none
  cbB : ∀ b ∈ f.cb, b ∈ x.bad ∧ ∃ o, f.base.heap.get? b = some o
  same : Step f.base s
  hz : ∀ b o, x.hz.get? b = some o → s.heap.get? b = some o ∧ b ∉ x.bad
  live : ∀ b ∈ x.bad, ∃ o, s.heap.get? b = some o
  locF : f.base.heap.get? f.env.locals = none
  locB : f.env.locals ∈ x.bad
  cell : ∀ n c, f.env.cells.lookup n = some c → c ∈ x.bad ∧ c ≠ f.env.locals ∧ ∃ ov, s.heap.IsCell c ov
  inj : ∀ n n' c, f.env.cells.lookup n = some c → f.env.cells.lookup n' = some c → n = n'
  led : ∀ r ∈ x.led, Res.Ok x.bad s.heap r ∧ ∀ a ∈ r.fp, a ∈ x.bad ∧ f.base.heap.get? a = none ∧ a ≠ f.env.locals ∧ ∀ n, f.env.cells.lookup n ≠ some a
  ledNd : (x.led.flatMap Res.fp).Nodup
  vars : ∃ m, s.heap.Ns f.env.locals m ∧ ∀ (i : Nat) n sl, f.nm[i]? = some n → x.vs[i]? = some sl → SlotOk f.env s.heap x.bad m n sl

theorem look.ext {env : Env} {h h' : Heap} {m : Str → Option Value} {n : Str} {v : Value} (k : Ext h h') : look env h m n v → look env h' m n v
  | .inl e => .inl e
  | .inr ⟨e, c, hc, i⟩ => .inr ⟨e, c, hc, i.keeps k⟩
theorem SlotOk.ext {env : Env} {h h' : Heap} {bad : List Addr} {m : Str → Option Value} {n : Str} {sl : Slot} (k : Ext h h') (x : SlotOk env h bad m n sl) : SlotOk env h' bad m n sl := by
  cases sl with
  | no => trivial
  | val d => obtain ⟨v, a, b⟩ := x; exact ⟨v, a.ext k, b.ext (hid_ext k)⟩
  | is P => obtain ⟨v, a, b⟩ := x; exact ⟨v, a.ext k, b⟩
  | ptr a => exact look.ext k x
theorem Res.Ok.ext {bad : List Addr} {h h' : Heap} {r : Res} (k : Ext h h') (x : r.Ok bad h) : r.Ok bad h' := by
  cases r with
  | lst a ds => obtain ⟨vs, n, l, r⟩ := x; exact ⟨vs, n, k _ _ l, r.ext (hid_ext k)⟩
  | prd fp P => exact ⟨x.2 _ _ x.1 fun b _ o e => k b o e, x.2⟩
theorem Ok.step {f : Fx} {x : Sx} {s s' : Shared} (O : Ok f x s) (k : Step s s') : Ok f x s' where
  kind := O.kind
  glo := O.glo
  bui := O.bui
  room := O.room
  wok := O.wok
  nd := O.nd
  knd := O.knd
  gk := O.gk
  cellF := O.cellF
  cbB := O.cbB
  same := O.same.trans k
  hz := fun b o e => ⟨k.ext b o (O.hz b o e).1, (O.hz b o e).2⟩
  live := fun b hb => let ⟨o, e⟩ := O.live b hb; ⟨o, k.ext b o e⟩
  locF := O.locF
  locB := O.locB
  cell := fun n c e => let ⟨a, b, ov, i⟩ := O.cell n c e; ⟨a, b, ov, i.keeps k.ext⟩
  inj := O.inj
  led := fun r hr => ⟨(O.led r hr).1.ext k.ext, (O.led r hr).2⟩
  ledNd := O.ledNd
  vars := let ⟨m, a, b⟩ := O.vars; ⟨m, a.keeps k.ext, fun i n sl e1 e2 => (b i n sl e1 e2).ext k.ext⟩

end Mine
end
section
open PySem PySem.W PyProof.Rows PySem.Spec
set_option Elab.async false
set_option linter.all false
set_option maxRecDepth 100000
namespace Mine

inductive At : List Str → List Slot → Str → Slot → Prop
  | here {n nm sl vs} : At (n :: nm) (sl :: vs) n sl
  | there {m nm n o vs sl} : At nm vs n sl → At (m :: nm) (o :: vs) n sl
inductive Put : List Str → List Slot → Str → Slot → List Slot → Prop
  | here {n nm o sl vs} : Put (n :: nm) (o :: vs) n sl (sl :: vs)
  | there {m nm n o vs sl vs'} : Put nm vs n sl vs' → Put (m :: nm) (o :: vs) n sl (o :: vs')
theorem At.get {nm vs n sl} (a : At nm vs n sl) : ∃ i : Nat, nm[i]? = some n ∧ vs[i]? = some sl := by
  induction a with
  | here => exact ⟨0, rfl, rfl⟩
  | there _ ih => obtain ⟨i, a, b⟩ := ih; exact ⟨i + 1, by simpa using a, by simpa using b⟩
theorem Put.mem {nm vs n sl vs'} (a : Put nm vs n sl vs') : n ∈ nm := by
  induction a with
  | here => exact .head _
  | there _ ih => exact .tail _ ih
theorem Put.get {nm vs n sl vs'} (a : Put nm vs n sl vs') (nd : nm.Nodup) : ∀ (i : Nat) m sl', nm[i]? = some m → vs'[i]? = some sl' → (m = n ∧ sl' = sl) ∨ (m ≠ n ∧ vs[i]? = some sl') := by
  induction a with
  | here =>
    intro i m sl' e1 e2
    rename_i n nm o sl vs
    cases i with
    | zero => simp at e1 e2; exact .inl ⟨e1.symm, e2.symm⟩
    | succ i =>
      simp at e1 e2
      refine .inr ⟨fun q => ?_, by simpa using e2⟩
      subst q
      exact (List.nodup_cons.mp nd).1 (List.mem_of_getElem? e1)
  | there h ih =>
    intro i m sl' e1 e2
    rename_i k nm n o vs sl vs'
    cases i with
    | zero =>
      simp at e1 e2
      refine .inr ⟨fun q => ?_, by simpa using e2⟩
      subst e1; subst q
      exact (List.nodup_cons.mp nd).1 h.mem
    | succ i =>
      simp at e1 e2
      rcases ih (List.nodup_cons.mp nd).2 i m sl' e1 e2 with h | ⟨h1, h2⟩
      · exact .inl h
      · exact .inr ⟨h1, by simpa using h2⟩

theorem isCell_but {h h' : Heap} {a c : Addr} {ov : Option Value} (x : h.IsCell c ov) (hs : Heap.SameBut a h h') (n : c ≠ a) : h'.IsCell c ov := x.sameBut hs n
theorem hidBut {h h' : Heap} {a : Addr} {l : List Addr} (hs : Heap.SameBut a h h') (m : a ∈ l) : Ext (hideAll h l) (hideAll h' l) :=
  hid_but fun b o nb e => (hs.2 b fun q => nb (q ▸ m)).trans e
theorem res_but {h h' : Heap} {a : Addr} {l : List Addr} {r : Res} (hs : Heap.SameBut a h h') (m : a ∈ l) (x : r.Ok l h) (n : a ∉ r.fp) : r.Ok l h' := by
  cases r with
  | lst c ds =>
    obtain ⟨vs, k, x1, x2⟩ := x
    exact ⟨vs, k, (hs.2 c fun q => n (by rw [q]; exact .head _)).trans x1, x2.ext (hidBut hs m)⟩
  | prd fp P => exact ⟨x.2 _ _ x.1 fun b hb o e => (hs.2 b fun q => n (q ▸ hb)).trans e, x.2⟩

section
variable {f : Fx} {x : Sx} {s : Shared}

theorem Ok.turn (O : Ok f x s) {a : Addr} {h' : Heap} {t : Nat} (ha : a ∈ x.bad) (hb : f.base.heap.get? a = none) (hs : Heap.SameBut a s.heap h') :
    Step f.base { s with heap := h', toks := t } ∧ (∀ b o, x.hz.get? b = some o → h'.get? b = some o ∧ b ∉ x.bad) := by
  refine ⟨?_, fun b o e => ?_⟩
  · obtain ⟨h, t', e, k⟩ := O.same
    subst e
    exact ⟨h', t, rfl, fun b o e => (hs.2 b fun q => by rw [q, hb] at e; cases e).trans (k b o e)⟩
  · have := O.hz b o e
    exact ⟨(hs.2 b fun q => this.2 (q ▸ ha)).trans this.1, this.2⟩

theorem Ok.store (O : Ok f x s) {n : Str} {v : Value} {sl : Slot} {vs' : List Slot} (put : Put f.nm x.vs n sl vs')
    (hv : match sl with | .no => True | .val d => Rd (hideAll s.heap x.bad) v d | .ptr a => v = .ref a | .is P => P v) (hc : n ∈ f.sto) :
    wpAny f.W.M f.A (storeName f.env n v) (fun _ s' => Ok f { x with vs := vs' } s' ∧ Ext (hideAll s.heap x.bad) (hideAll s'.heap x.bad)) No s := by
  have hn := O.knd n put.mem
  obtain ⟨m, hns, hvars⟩ := O.vars
  rcases hn.2 with hl | ⟨hl, hcs⟩
  · refine wpAny_storeName_local hl hns (fun h' hn' hs' => ?_) (by rw [O.kind]; rfl)
    obtain ⟨t1, t2⟩ := O.turn (t := s.toks + 1) O.locB O.locF hs'
    have hx := hidBut hs' O.locB
    refine ⟨⟨O.kind, O.glo, O.bui, O.room, O.wok, O.nd, O.knd, O.gk, O.cellF, O.cbB, t1, t2, fun b hb => ?_, O.locF, O.locB, fun k c e => ?_, O.inj, fun r hr => ?_, O.ledNd, ⟨_, hn', fun i k sl' e1 e2 => ?_⟩⟩, hx⟩
    · obtain ⟨o, e⟩ := O.live b hb
      by_cases q : b = f.env.locals
      · obtain ⟨o', _, _, e', _⟩ := hn'; exact ⟨o', q ▸ e'⟩
      · exact ⟨o, (hs'.2 b q).trans e⟩
    · obtain ⟨a1, a2, ov, a3⟩ := O.cell k c e
      exact ⟨a1, a2, ov, isCell_but a3 hs' a2⟩
    · obtain ⟨r1, r2⟩ := O.led r hr
      exact ⟨res_but hs' O.locB r1 fun q => (r2 _ q).2.2.1 rfl, r2⟩
    · have lk : ∀ {u : Value}, k ≠ n → look f.env s.heap m k u → look f.env h' (fun y => if y = n then some v else m y) k u := by
        intro u hk e
        rcases e with ⟨e1, e2⟩ | ⟨e1, c, e2, e3⟩
        · exact .inl ⟨e1, by simp only [if_neg hk]; exact e2⟩
        · exact .inr ⟨e1, c, e2, isCell_but e3 hs' (O.cell k c e2).2.1⟩
      rcases put.get O.nd i k sl' e1 e2 with ⟨rfl, rfl⟩ | ⟨hk, e3⟩
      · cases sl' with
        | no => trivial
        | val d => exact ⟨v, .inl ⟨hl, by simp⟩, Rd.ext hv hx⟩
        | is P => exact ⟨v, .inl ⟨hl, by simp⟩, hv⟩
        | ptr a => subst hv; exact .inl ⟨hl, by simp⟩
      · have := hvars i k sl' e1 e3
        cases sl' with
        | no => trivial
        | val d => obtain ⟨u, a, b⟩ := this; exact ⟨u, lk hk a, b.ext hx⟩
        | is P => obtain ⟨u, a, b⟩ := this; exact ⟨u, lk hk a, b⟩
        | ptr a => exact lk hk this
  · obtain ⟨c, hcc⟩ := Option.isSome_iff_exists.mp hcs
    obtain ⟨c1, c2, ov, c3⟩ := O.cell n c hcc
    have cF := O.cellF n hc c hcc
    refine wpAny_storeName_cell O.kind hl hcc c3 fun h' hv' hs' => ?_
    obtain ⟨t1, t2⟩ := O.turn (t := s.toks) c1 cF hs'
    have hx := hidBut hs' c1
    refine ⟨⟨O.kind, O.glo, O.bui, O.room, O.wok, O.nd, O.knd, O.gk, O.cellF, O.cbB, t1, t2, fun b hb => ?_, O.locF, O.locB, fun k c' e => ?_, O.inj, fun r hr => ?_, O.ledNd, ⟨m, hns.sameBut hs' (Ne.symm c2), fun i k sl' e1 e2 => ?_⟩⟩, hx⟩
    · obtain ⟨o, e⟩ := O.live b hb
      by_cases q : b = c
      · obtain ⟨o', e', _⟩ := hv'; exact ⟨o', q ▸ e'⟩
      · exact ⟨o, (hs'.2 b q).trans e⟩
    · obtain ⟨a1, a2, ov, a3⟩ := O.cell k c' e
      by_cases q : c' = c
      · subst q; exact ⟨a1, a2, _, hv'⟩
      · exact ⟨a1, a2, ov, isCell_but a3 hs' q⟩
    · obtain ⟨r1, r2⟩ := O.led r hr
      exact ⟨res_but hs' c1 r1 fun q => (r2 _ q).2.2.2 n hcc, r2⟩
    · have lk : ∀ {u : Value}, k ≠ n → look f.env s.heap m k u → look f.env h' m k u := by
        intro u hk e
        rcases e with ⟨e1, e2⟩ | ⟨e1, c', e2, e3⟩
        · exact .inl ⟨e1, e2⟩
        · exact .inr ⟨e1, c', e2, isCell_but e3 hs' fun q => hk (O.inj k n c (q ▸ e2) hcc)⟩
      rcases put.get O.nd i k sl' e1 e2 with ⟨rfl, rfl⟩ | ⟨hk, e3⟩
      · cases sl' with
        | no => trivial
        | val d => exact ⟨v, .inr ⟨hl, c, hcc, hv'⟩, Rd.ext hv hx⟩
        | is P => exact ⟨v, .inr ⟨hl, c, hcc, hv'⟩, hv⟩
        | ptr a => subst hv; exact .inr ⟨hl, c, hcc, hv'⟩
      · have := hvars i k sl' e1 e3
        cases sl' with
        | no => trivial
        | val d => obtain ⟨u, a, b⟩ := this; exact ⟨u, lk hk a, b.ext hx⟩
        | is P => obtain ⟨u, a, b⟩ := this; exact ⟨u, lk hk a, b⟩
        | ptr a => exact lk hk this
end

structure Bx (p : Prop) : Prop where
  bx ::
  run : p
noncomputable def EvP (f : Fx) (x : Sx) (e : Expr) (P : Heap → Value → Prop) : Prop :=
  Bx (∀ s, Ok f x s → wpAny f.W.M f.A (eval e f.env) (fun v s' => Step s s' ∧ P s'.heap v) No s)
noncomputable def Ev (f : Fx) (x : Sx) (e : Expr) (d : PyData) : Prop := EvP f x e fun h v => Rd (hideAll h x.bad) v d
noncomputable def EvL (f : Fx) (x : Sx) (es : List Expr) (ds : List PyData) : Prop :=
  Bx (∀ s pos, Ok f x s → wpAny f.W.M f.A (spliced (backTo pos (starEach es f.env))) (fun vs s' => Step s s' ∧ RdAll (hideAll s'.heap x.bad) vs ds) No s)
noncomputable def Tst (f : Fx) (x : Sx) (e : Expr) (b : Bool) : Prop :=
  Bx (∀ s, Ok f x s → wpAny f.W.M f.A (isTrue e f.env (eval e f.env)) (fun c s' => Step s s' ∧ c = b) No s)

theorem wpN {α : Type} {M : Model} {A : Around} {t : Sem α} {Q Q' : α → Shared → Prop} {s : Shared} (h : wpAny M A t Q No s) (k : ∀ a s, Q a s → Q' a s) : wpAny M A t Q' No s :=
  wpAny_mono h k fun _ _ e => e
theorem wpE {α : Type} {M : Model} {A : Around} {t : Sem α} {Q Q' : α → Shared → Prop} {E : Value → Shared → Prop} {s : Shared} (h : wpAny M A t Q No s) (k : ∀ a s, Q a s → Q' a s) : wpAny M A t Q' E s :=
  wpAny_mono h k fun _ _ e => e.elim

section
variable {f : Fx} {x : Sx}

theorem EvP.mono {e : Expr} {P P' : Heap → Value → Prop} (h : EvP f x e P) (k : ∀ h v, P h v → P' h v) : EvP f x e P' :=
  .bx fun s O => wpN (h.run s O) fun v s' ⟨a, b⟩ => ⟨a, k _ _ b⟩

theorem Ev.int {i : Int} {k pos} : Ev f x (.Constant (.int i) k pos) (.int i) := .bx fun s O => wpAny_Constant_int ⟨.tok, .int _ _⟩
theorem Ev.str {y : Str} {k pos} : Ev f x (.Constant (.str y) k pos) (.str y) := .bx fun s O => wpAny_Constant_str ⟨.tok, .str _ _⟩
theorem Ev.bool {b : Bool} {k pos} : Ev f x (.Constant (.bool b) k pos) (.bool b) := .bx fun s O => wpAny_Constant_bool ⟨.rfl', .bool _⟩

theorem Ok.load {s : Shared} (O : Ok f x s) {n : Str} {v : Value} {m : Str → Option Value} (hm : s.heap.Ns f.env.locals m) (l : look f.env s.heap m n v) {Q : Value → Shared → Prop} {E : Value → Shared → Prop} (h : Q v s) :
    wpAny f.W.M f.A (loadName f.env n) Q E s := by
  rcases l with ⟨e1, e2⟩ | ⟨e1, c, e2, e3⟩
  · exact wpAny_loadName_local O.kind e1 hm e2 h
  · exact wpAny_loadName_cell O.kind e1 e2 e3 h

theorem Ok.read {s : Shared} (O : Ok f x s) {n : Str} {d : PyData} (a : At f.nm x.vs n (.val d)) {E : Value → Shared → Prop} :
    wpAny f.W.M f.A (loadName f.env n) (fun v s' => s' = s ∧ Rd (hideAll s.heap x.bad) v d) E s := by
  obtain ⟨m, hns, hv⟩ := O.vars
  obtain ⟨i, e1, e2⟩ := a.get
  obtain ⟨v, l, r⟩ := hv i n _ e1 e2
  exact O.load hns l ⟨rfl, r⟩

theorem Ev.name {n : Str} {pos} {d : PyData} (a : At f.nm x.vs n (.val d)) : Ev f x (.Name n pos) d := .bx fun s O => by
  have hn : n ∈ f.nm := by obtain ⟨i, e, _⟩ := a.get; exact List.mem_of_getElem? e
  exact wpAny_Name (wpAny_mono (O.read a (E := No)) (fun v s' ⟨e, r⟩ => by subst e; exact ⟨.rfl', r⟩) fun _ _ e => e) (O.knd n hn).1

theorem Ev.glob {n : Str} {pos} {v : Value} (hn : n ∈ f.gl) (h : f.W.mg n = some v) : EvP f x (.Name n pos) fun _ u => u = v := .bx fun s O => by
  have hg := (O.wok.ext O.same.ext).g
  exact PySem.Calls.Name_function_global O.kind (O.gk n hn).2 (PySem.Calls.loadGlobal_global (by rw [O.glo]; exact hg) h ⟨.rfl', rfl⟩) (O.gk n hn).1
theorem Ev.blt {n : Str} {pos} {v : Value} (hn : n ∈ f.gl) (h : f.W.mg n = none ∧ f.W.mb n = some v) : EvP f x (.Name n pos) fun _ u => u = v := .bx fun s O => by
  have W := O.wok.ext O.same.ext
  exact PySem.Calls.Name_function_global O.kind (O.gk n hn).2 (PySem.Calls.loadGlobal_builtin (by rw [O.glo]; exact W.g) h.1 (by rw [O.bui]; exact W.b) h.2 ⟨.rfl', rfl⟩) (O.gk n hn).1
theorem Ev.globI {n : Str} {pos} {i : Int} {t : Tok} (hn : n ∈ f.gl) (h : f.W.mg n = some (.int i t)) : Ev f x (.Name n pos) (.int i) :=
  (Ev.glob hn h).mono fun _ _ e => by subst e; exact .int _ _
theorem Ev.globS {n : Str} {pos} {y : Str} {t : Tok} (hn : n ∈ f.gl) (h : f.W.mg n = some (.str y t)) : Ev f x (.Name n pos) (.str y) :=
  (Ev.glob hn h).mono fun _ _ e => by subst e; exact .str _ _

theorem EvL.nil : EvL f x [] [] := .bx fun s pos O => PySem.Calls.spliced_nil ⟨.rfl', .nil⟩
theorem EvL.cons {e : Expr} {es : List Expr} {d : PyData} {ds : List PyData} (h1 : Ev f x e d) (h2 : EvL f x es ds)
    (he : starEach (e :: es) f.env = (false, eval e f.env) :: starEach es f.env := by exact rfl) : EvL f x (e :: es) (d :: ds) := .bx fun s pos O => by
  rw [he]
  show wpAny _ _ (spliced ((false, eval e f.env) :: backTo pos (starEach es f.env))) _ _ s
  refine PySem.Calls.spliced_cons (wpAny_mono (Q := fun v s' => Step s s' ∧ Rd (hideAll s'.heap x.bad) v d) ?_ (fun v s₁ ⟨k1, r1⟩ => ?_) fun _ _ e => e)
  · exact h1.run s O
  · exact wpN (h2.run s₁ pos (O.step k1)) fun vs s₂ ⟨k2, r2⟩ => ⟨k1.trans k2, .cons (r1.ext (hid_ext k2.ext)) r2⟩
end
end Mine
end
section
open PySem PySem.W PyProof.Rows PySem.Spec
set_option Elab.async false
set_option linter.all false
set_option maxRecDepth 100000
namespace Mine

noncomputable def S (l : List Nat) : Str := ⟨l.toArray⟩
theorem S_len (l : List Nat) : (S l).length = l.length := by simp [S, Str.length]
theorem S_toList (l : List Nat) : (S l).cps.toList = l := by simp [S]
theorem S_app (a b : List Nat) : S a ++ S b = S (a ++ b) := by
  show Str.append (S a) (S b) = _
  simp [Str.append, S]
theorem S_inj {a b : List Nat} (h : S a = S b) : a = b := by have := congrArg (fun x => x.cps.toList) h; simpa [S] using this
theorem S_of (x : Str) : S x.cps.toList = x := by cases x; simp [S]
noncomputable abbrev st (l : List Nat) : PyData := .str (S l)
noncomputable abbrev it (i : Int) : PyData := .int i

noncomputable def tr : PyData → Bool
  | .none => false
  | .bool b => b
  | .int i => i != 0
  | .str x => x.length != 0
  | .list l => !l.isEmpty
  | .tuple l => !l.isEmpty
  | .dict l => !l.isEmpty

noncomputable def slc {α : Type} (l : List α) (lo hi : Option Int) : List α := (l.drop (lo.elim 0 (clipAt l.length))).take (hi.elim l.length (clipAt l.length) - lo.elim 0 (clipAt l.length))

theorem slc_arr (items : Array Value) (lo hi : Option Int) : slicePick items lo hi none = (slc items.toList lo hi).toArray := by
  rw [slicePick_plain]; simp only [slc, Array.length_toList]
theorem slcIdx (n : Nat) (lo hi : Option Int) : Builtin.Str.strSliceIndices lo hi 1 n = (List.range (hi.elim n (clipAt n) - lo.elim 0 (clipAt n))).map (lo.elim 0 (clipAt n) + ·) := by
  have e : Builtin.Str.strSliceIndices lo hi 1 n = sliceRange ((lo.elim 0 (clipAt n) : Nat) : Int) ((hi.elim n (clipAt n) : Nat) : Int) 1 := by
    unfold Builtin.Str.strSliceIndices
    cases lo <;> cases hi <;> simp [clipAt_cast]
  rw [e, sliceRange_one]

theorem clipAt_le (n : Nat) (i : Int) : clipAt n i ≤ n := by have := clipAt_cast n i; omega
theorem txtSlice (l : List Nat) (lo hi : Option Int) : Txt.slice (S l) lo hi = S (slc l lo hi) := by
  have key : (Builtin.Str.strSliceIndices lo hi 1 (S l).length).filterMap ((S l).cps[·]?) = slc l lo hi := by
    rw [slcIdx, S_len]
    exact pick_run l.toArray _ _
  unfold Txt.slice
  rw [key]
  split
  · rename_i h
    simp only [slcIdx, List.length_map, List.length_range, S_len, beq_self_eq_true, Bool.true_and, beq_iff_eq] at h
    have h1 : hi.elim l.length (clipAt l.length) ≤ l.length := by cases hi <;> simp [clipAt_le]
    unfold slc
    have h2 : lo.elim 0 (clipAt l.length) = 0 ∨ l.length = 0 := by omega
    rcases h2 with h2 | h2
    · rw [h2] at h ⊢
      have : hi.elim l.length (clipAt l.length) = l.length := by omega
      rw [this]; simp
    · have : l = [] := List.length_eq_zero_iff.mp h2
      subst this; simp
  · rfl
theorem slc_le {α : Type} (l : List α) (lo hi : Option Int) : (slc l lo hi).length ≤ l.length := by
  unfold slc; rw [List.length_take, List.length_drop]; omega

section
variable {f : Fx} {x : Sx}

theorem Ok.nb {s : Shared} (O : Ok f x s) : s.heap.objs.size ∉ x.bad := fun m => by
  obtain ⟨o, e⟩ := O.live _ m
  exact Nat.lt_irrefl _ (Heap.lt_size e)

theorem Ev.bin2 {l r : Expr} {op : Operator} {pos} {da db dc : PyData} (h1 : Ev f x l da) (h2 : Ev f x r db)
    (H : ∀ s v w, Ok f x s → Rd (hideAll s.heap x.bad) v da → Rd (hideAll s.heap x.bad) w db →
      wpAny f.W.M f.A (binaryOp op v w) (fun u s' => Step s s' ∧ Rd (hideAll s'.heap x.bad) u dc) No s) : Ev f x (.BinOp l op r pos) dc := .bx fun s O =>
  wpAny_BinOp (wpN (h1.run s O) fun v s₁ ⟨k1, r1⟩ => wpN (h2.run s₁ (O.step k1)) fun w s₂ ⟨k2, r2⟩ =>
    wpN (H s₂ v w ((O.step k1).step k2) (r1.ext (hid_ext k2.ext)) r2) fun u s₃ ⟨k3, r3⟩ => ⟨(k1.trans k2).trans k3, r3⟩)

theorem Ev.add {l r : Expr} {pos} {a b : Int} (h1 : Ev f x l (.int a)) (h2 : Ev f x r (.int b)) : Ev f x (.BinOp l .Add r pos) (.int (a + b)) :=
  .bin2 h1 h2 fun s v w O r1 r2 => by
    obtain ⟨t, rfl⟩ := r1.int_inv; obtain ⟨u, rfl⟩ := r2.int_inv
    exact P.add_int ⟨.tok, .int _ _⟩
theorem Ev.sub {l r : Expr} {pos} {a b : Int} (h1 : Ev f x l (.int a)) (h2 : Ev f x r (.int b)) : Ev f x (.BinOp l .Sub r pos) (.int (a - b)) :=
  .bin2 h1 h2 fun s v w O r1 r2 => by
    obtain ⟨t, rfl⟩ := r1.int_inv; obtain ⟨u, rfl⟩ := r2.int_inv
    exact P.sub_int ⟨.tok, .int _ _⟩
theorem Ev.mul {l r : Expr} {pos} {a b : Int} (h1 : Ev f x l (.int a)) (h2 : Ev f x r (.int b)) (hm : IntMulOk a b) : Ev f x (.BinOp l .Mult r pos) (.int (a * b)) :=
  .bin2 h1 h2 fun s v w O r1 r2 => by
    obtain ⟨t, rfl⟩ := r1.int_inv; obtain ⟨u, rfl⟩ := r2.int_inv
    exact P.mul_int ⟨.tok, .int _ _⟩ hm
theorem Ev.fdiv {l r : Expr} {pos} {a b : Int} (h1 : Ev f x l (.int a)) (h2 : Ev f x r (.int b)) (hb : b ≠ 0) (hp : b.natAbs.log2 < 9000) : Ev f x (.BinOp l .FloorDiv r pos) (.int (a.fdiv b)) :=
  .bin2 h1 h2 fun s v w O r1 r2 => by
    obtain ⟨t, rfl⟩ := r1.int_inv; obtain ⟨u, rfl⟩ := r2.int_inv
    exact PyProof.Rows.floordiv_int hb ⟨.tok, .int _ _⟩ (.inl (PyProof.noPylong_of_log2 hp))
theorem Ev.fmod {l r : Expr} {pos} {a b : Int} (h1 : Ev f x l (.int a)) (h2 : Ev f x r (.int b)) (hb : b ≠ 0) : Ev f x (.BinOp l .Mod r pos) (.int (a.fmod b)) :=
  .bin2 h1 h2 fun s v w O r1 r2 => by
    obtain ⟨t, rfl⟩ := r1.int_inv; obtain ⟨u, rfl⟩ := r2.int_inv
    exact PyProof.Rows.mod_int' hb ⟨.tok, .int _ _⟩
theorem Ev.pow {l r : Expr} {pos} {a b : Int} (h1 : Ev f x l (.int a)) (h2 : Ev f x r (.int b)) (hn : 0 ≤ b) (hs : (Builtin.Int.intBits a : Int) * b ≤ 2 ^ 27) : Ev f x (.BinOp l .Pow r pos) (.int (a ^ b.toNat)) :=
  .bin2 h1 h2 fun s v w O r1 r2 => by
    obtain ⟨t, rfl⟩ := r1.int_inv; obtain ⟨u, rfl⟩ := r2.int_inv
    exact PyProof.Rows.pow_int hn hs ⟨.tok, .int _ _⟩
theorem Ev.cat {l r : Expr} {pos} {a b : List Nat} (h1 : Ev f x l (st a)) (h2 : Ev f x r (st b)) (hs : a.length + b.length ≤ sizeLine) : Ev f x (.BinOp l .Add r pos) (st (a ++ b)) :=
  .bin2 h1 h2 fun s v w O r1 r2 => by
    obtain ⟨t, rfl⟩ := r1.str_inv; obtain ⟨u, rfl⟩ := r2.str_inv
    refine PyProof.Rows.add_str (fun t' tk => ⟨.tok, ?_⟩) (by rw [S_len, S_len]; exact hs)
    rw [S_app]; exact .str _ _
theorem Ev.catL {l r : Expr} {pos} {a b : List PyData} (h1 : Ev f x l (.list a)) (h2 : Ev f x r (.list b)) (hs : a.length + b.length ≤ sizeLine) : Ev f x (.BinOp l .Add r pos) (.list (a ++ b)) :=
  .bin2 h1 h2 fun s v w O r1 r2 => by
    obtain ⟨la, vs, n, rfl, ho, r1⟩ := r1.list_inv; obtain ⟨lb, ws, n2, rfl, ho2, r2⟩ := r2.list_inv
    have e1 := r1.length; have e2 := r2.length
    refine concat_meets ⟨_, (hid_iff.mp ho).1, rfl⟩ ⟨_, (hid_iff.mp ho2).1, rfl⟩ noFill_list_add seq_list_add PySem.F.slot_list_add PySem.F.entry_list_add (PySem.F.args_list_add_2 _ _)
      (list_addW la lb vs.toArray ws.toArray n n2 none none #[] #[] (by simp only [List.size_toArray]; omega)) ⟨(hid_iff.mp ho).1, (hid_iff.mp ho2).1, .mkh (ext_push _), ?_⟩
    have k := ext_push (h := s.heap) { cls := .type "list", data := .seq (vs.toArray ++ ws.toArray) }
    refine Rd.list (vs := vs ++ ws) (n := 0) (hid_iff.mpr ⟨?_, O.nb⟩) ((r1.ext (hid_ext k)).append (r2.ext (hid_ext k)))
    rw [show (vs ++ ws).toArray = vs.toArray ++ ws.toArray by simp]
    exact Heap.get?_push_size _ rfl

theorem Ev.un2 {r : Expr} {op : UnaryOp} {pos} {da dc : PyData} (h1 : Ev f x r da)
    (H : ∀ s v, Ok f x s → Rd (hideAll s.heap x.bad) v da → wpAny f.W.M f.A (unaryOp op v) (fun u s' => Step s s' ∧ Rd (hideAll s'.heap x.bad) u dc) No s) : Ev f x (.UnaryOp op r pos) dc := .bx fun s O =>
  wpAny_UnaryOp (wpN (h1.run s O) fun v s₁ ⟨k1, r1⟩ => wpN (H s₁ v (O.step k1) r1) fun u s₃ ⟨k3, r3⟩ => ⟨k1.trans k3, r3⟩)
theorem Ev.neg {r : Expr} {pos} {a : Int} (h1 : Ev f x r (.int a)) : Ev f x (.UnaryOp .USub r pos) (.int (-a)) :=
  .un2 h1 fun s v O r1 => by
    obtain ⟨t, rfl⟩ := r1.int_inv
    exact P.neg_int ⟨.tok, .int _ _⟩

noncomputable def EvC (f : Fx) (x : Sx) (l : Expr) (op : CmpOp) (r : Expr) (c : Bool) : Prop := Bx (∀ s, Ok f x s →
  wpAny f.W.M f.A (eval l f.env) (fun a s₁ => wpAny f.W.M f.A (eval r f.env) (fun b s₂ => wpAny f.W.M f.A (compareOp op a b) (fun u s' => Step s s' ∧ u = .bool c) No s₂) No s₁) No s)
theorem Ev.cmp {l r : Expr} {op : CmpOp} {pos} {c : Bool} (h : EvC f x l op r c) (hm : behindInMarks op r = false := by with_unfolding_all rfl) : Ev f x (.Compare l [op] [r] pos) (.bool c) := .bx fun s O =>
  wpAny_Compare1 (wpN (h.run s O) fun a s₁ h => wpN h fun b s₂ h => wpN h fun u s' ⟨k, e⟩ => ⟨k, e ▸ .bool c⟩) hm
theorem Tst.cmp {l r : Expr} {op : CmpOp} {pos} {c : Bool} (h : EvC f x l op r c) (hm : behindInMarks op r = false := by with_unfolding_all rfl) : Tst f x (.Compare l [op] [r] pos) c := .bx fun s O =>
  wpAny_isTrue_Compare1 (wpN (h.run s O) fun a s₁ h => wpN h fun b s₂ h => wpN h fun u s' ⟨k, e⟩ => by subst e; exact wpAny_truthy_bool ⟨k, rfl⟩) hm

theorem EvC.of {l r : Expr} {op : CmpOp} {da db : PyData} {c : Bool} (h1 : Ev f x l da) (h2 : Ev f x r db)
    (H : ∀ s v w, Ok f x s → Rd (hideAll s.heap x.bad) v da → Rd (hideAll s.heap x.bad) w db →
      wpAny f.W.M f.A (compareOp op v w) (fun u s' => Step s s' ∧ u = .bool c) No s) : EvC f x l op r c := .bx fun s O =>
  wpN (h1.run s O) fun v s₁ ⟨k1, r1⟩ => wpN (h2.run s₁ (O.step k1)) fun w s₂ ⟨k2, r2⟩ =>
    wpN (H s₂ v w ((O.step k1).step k2) (r1.ext (hid_ext k2.ext)) r2) fun u s₃ ⟨k3, r3⟩ => ⟨(k1.trans k2).trans k3, r3⟩
theorem EvC.lt {l r : Expr} {a b : Int} (h1 : Ev f x l (.int a)) (h2 : Ev f x r (.int b)) : EvC f x l .Lt r (decide (a < b)) :=
  .of h1 h2 fun s v w O r1 r2 => by obtain ⟨t, rfl⟩ := r1.int_inv; obtain ⟨u, rfl⟩ := r2.int_inv; exact P.lt_int ⟨.rfl', rfl⟩
theorem EvC.gt {l r : Expr} {a b : Int} (h1 : Ev f x l (.int a)) (h2 : Ev f x r (.int b)) : EvC f x l .Gt r (decide (b < a)) :=
  .of h1 h2 fun s v w O r1 r2 => by obtain ⟨t, rfl⟩ := r1.int_inv; obtain ⟨u, rfl⟩ := r2.int_inv; exact P.gt_int ⟨.rfl', rfl⟩
theorem EvC.le {l r : Expr} {a b : Int} (h1 : Ev f x l (.int a)) (h2 : Ev f x r (.int b)) : EvC f x l .LtE r (decide (a ≤ b)) :=
  .of h1 h2 fun s v w O r1 r2 => by obtain ⟨t, rfl⟩ := r1.int_inv; obtain ⟨u, rfl⟩ := r2.int_inv; exact P.le_int ⟨.rfl', rfl⟩
theorem EvC.ge {l r : Expr} {a b : Int} (h1 : Ev f x l (.int a)) (h2 : Ev f x r (.int b)) : EvC f x l .GtE r (decide (b ≤ a)) :=
  .of h1 h2 fun s v w O r1 r2 => by obtain ⟨t, rfl⟩ := r1.int_inv; obtain ⟨u, rfl⟩ := r2.int_inv; exact P.ge_int ⟨.rfl', rfl⟩
theorem EvC.eq {l r : Expr} {a b : Int} (h1 : Ev f x l (.int a)) (h2 : Ev f x r (.int b)) : EvC f x l .Eq r (decide (a = b)) :=
  .of h1 h2 fun s v w O r1 r2 => by obtain ⟨t, rfl⟩ := r1.int_inv; obtain ⟨u, rfl⟩ := r2.int_inv; exact P.eq_int ⟨.rfl', by by_cases h : a = b <;> simp [h]⟩
theorem EvC.ne {l r : Expr} {a b : Int} (h1 : Ev f x l (.int a)) (h2 : Ev f x r (.int b)) : EvC f x l .NotEq r (decide (a ≠ b)) :=
  .of h1 h2 fun s v w O r1 r2 => by obtain ⟨t, rfl⟩ := r1.int_inv; obtain ⟨u, rfl⟩ := r2.int_inv; exact P.ne_int ⟨.rfl', by by_cases h : a = b <;> simp [h]⟩
theorem EvC.eqS {l r : Expr} {a b : List Nat} (h1 : Ev f x l (st a)) (h2 : Ev f x r (st b)) : EvC f x l .Eq r (decide (a = b)) :=
  .of h1 h2 fun s v w O r1 r2 => by
    obtain ⟨t, rfl⟩ := r1.str_inv; obtain ⟨u, rfl⟩ := r2.str_inv
    refine P.eq_str ⟨.rfl', ?_⟩
    rw [S_toList, S_toList]; congr 1; by_cases h : a = b <;> simp [h]
theorem EvC.eqD {l r : Expr} {a b : PyData} (h1 : Ev f x l a) (h2 : Ev f x r b) (ha : SeqAt.shaped a = true) (hb : SeqAt.shaped b = true) : EvC f x l .Eq r (PyData.eqv a b) :=
  .of h1 h2 fun s v w O r1 r2 => by
    obtain ⟨as, r1⟩ := r1.reads; obtain ⟨bs, r2⟩ := r2.reads
    exact eq_dataH (Reads.keeps hid_sub r1) (Reads.keeps hid_sub r2) ha hb (by have := O.room.uni; rw [show cLine = 9900 from rfl]; omega) ⟨.rfl', rfl⟩
theorem EvC.neD {l r : Expr} {a b : PyData} (h1 : Ev f x l a) (h2 : Ev f x r b) (ha : SeqAt.shaped a = true) (hb : SeqAt.shaped b = true) : EvC f x l .NotEq r (!PyData.eqv a b) :=
  .of h1 h2 fun s v w O r1 r2 => by
    obtain ⟨as, r1⟩ := r1.reads; obtain ⟨bs, r2⟩ := r2.reads
    exact ne_dataH (Reads.keeps hid_sub r1) (Reads.keeps hid_sub r2) ha hb (by have := O.room.uni; rw [show cLine = 9900 from rfl]; omega) ⟨.rfl', rfl⟩

end
end Mine
end
section
open PySem PySem.W PyProof.Rows PySem.Spec
set_option Elab.async false
set_option linter.all false
set_option maxRecDepth 100000
namespace Mine

noncomputable def sm : PyData → Prop
  | .str x => x.length ≤ sizeLine
  | .list l => l.length ≤ sizeLine
  | .tuple l => l.length ≤ sizeLine
  | .dict _ => False
  | _ => True

section
variable {f : Fx} {x : Sx}

theorem truthyOk {M : Wd} {A : Around} {s : Shared} {v : Value} {d : PyData} (r : Rd s.heap v d) (h : sm d) : wpAny M.M A (truthy v) (fun b s' => Step s s' ∧ b = tr d) No s := by
  cases d with
  | none => rw [r.none_inv]; exact fun _ _ _ => ⟨.rfl', rfl⟩
  | bool b => rw [r.bool_inv]; exact wpAny_truthy_bool ⟨.rfl', rfl⟩
  | int i => obtain ⟨t, rfl⟩ := r.int_inv; exact P.truthy_int ⟨.rfl', rfl⟩
  | str y =>
    obtain ⟨t, rfl⟩ := r.str_inv
    have h' : y.length ≤ sizeLine := h
    refine P.truthy_str (by rw [sizeLine_eq] at h'; omega) ⟨.tok, ?_⟩
    show ((y.length : Int) != 0) = (y.length != 0)
    rw [Bool.eq_iff_iff]; simp only [bne_iff_ne, ne_eq]; omega
  | list l =>
    obtain ⟨a, vs, n, rfl, l1, l2⟩ := r.list_inv
    have h' : l.length ≤ sizeLine := h
    have e := l2.length
    refine wpAny_truthy_list l1.isList (by rw [List.size_toArray, e]; rw [sizeLine_eq] at h'; omega) ⟨.tok, ?_⟩
    show (!vs.toArray.isEmpty) = !l.isEmpty
    cases vs <;> cases l <;> simp_all
  | tuple l =>
    obtain ⟨a, vs, n, rfl, l1, l2⟩ := r.tuple_inv
    have h' : l.length ≤ sizeLine := h
    have e := l2.length
    refine truthy_tuple l1.isTup (by rw [List.size_toArray, e]; rw [sizeLine_eq] at h'; omega) ⟨.tok, ?_⟩
    show (!vs.toArray.isEmpty) = !l.isEmpty
    cases vs <;> cases l <;> simp_all
  | dict _ => exact r.no_dict.elim

theorem Tst.val {e : Expr} {d : PyData} {b : Bool} (h : Ev f x e d) (hs : sm d) (hb : tr d = b)
    (he : ∀ whole, isTrue e f.env whole = (do let v ← whole; standAt e.pos; holding [v] (truthy v)) := by intro _; rfl) : Tst f x e b := .bx fun s O =>
  wpAny_isTrue_value (wpN (h.run s O) fun v s₁ ⟨k, r⟩ => wpN (truthyOk (r.ext hid_sub) hs) fun c s₂ ⟨k2, e⟩ => ⟨k.trans k2, e.trans hb⟩) (he _)
theorem Tst.not {e : Expr} {pos} {b : Bool} (h : Tst f x e b) : Tst f x (.UnaryOp .Not e pos) (!b) := .bx fun s O =>
  wpAny_isTrue_Not (wpN (h.run s O) fun c s₁ ⟨k, r⟩ => ⟨k, by rw [r]⟩)
theorem Tst.and {e : Expr} {es : List Expr} {pos} {a b : Bool} (h : Tst f x e a) (h2 : a = true → Tst f x (.BoolOp .And es pos) b) : Tst f x (.BoolOp .And (e :: es) pos) (a && b) := .bx fun s O =>
  isTrue_and (wpN (h.run s O) fun c s₁ ⟨k, r⟩ => by
    subst r
    cases c with
    | false => exact ⟨k, rfl⟩
    | true => exact wpN ((h2 rfl).run s₁ (O.step k)) fun c s₂ ⟨k2, r⟩ => ⟨k.trans k2, by simpa using r⟩)
theorem Tst.or {e : Expr} {es : List Expr} {pos} {a b : Bool} (h : Tst f x e a) (h2 : a = false → Tst f x (.BoolOp .Or es pos) b) : Tst f x (.BoolOp .Or (e :: es) pos) (a || b) := .bx fun s O =>
  isTrue_or (wpN (h.run s O) fun c s₁ ⟨k, r⟩ => by
    subst r
    cases c with
    | true => exact ⟨k, rfl⟩
    | false => exact wpN ((h2 rfl).run s₁ (O.step k)) fun c s₂ ⟨k2, r⟩ => ⟨k.trans k2, by simpa using r⟩)
theorem Tst.andN {pos} : Tst f x (.BoolOp .And [] pos) true := .bx fun s O => isTrue_and_nil ⟨.rfl', rfl⟩
theorem Tst.orN {pos} : Tst f x (.BoolOp .Or [] pos) false := .bx fun s O => isTrue_or_nil ⟨.rfl', rfl⟩
theorem Tst.eq {e : Expr} {a b : Bool} (h : Tst f x e a) (k : a = b) : Tst f x e b := k ▸ h
theorem Ev.eq {e : Expr} {a b : PyData} (h : Ev f x e a) (k : a = b) : Ev f x e b := k ▸ h

theorem Ev.and2 {a b : Expr} {pos} {da db dc : PyData} (h1 : Ev f x a da) (hs : sm da) (h2 : tr da = true → Ev f x b db) (hc : dc = if tr da then db else da) : Ev f x (.BoolOp .And [a, b] pos) dc := .bx fun s O =>
  wpAny_And2 (wpN (h1.run s O) fun v s₁ ⟨k, r⟩ => wpN (truthyOk (r.ext hid_sub) hs) fun c s₂ ⟨k2, e⟩ => by
    subst e; subst hc
    cases hd : tr da with
    | true => simp only [if_true]; exact wpN ((h2 hd).run s₂ ((O.step k).step k2)) fun w s₃ ⟨k3, r3⟩ => ⟨(k.trans k2).trans k3, r3⟩
    | false => exact ⟨k.trans k2, by simpa using r.ext (hid_ext k2.ext)⟩)
theorem Ev.ite {t a b : Expr} {pos} {c : Bool} {d : PyData} (h : Tst f x t c) (ha : c = true → Ev f x a d) (hb : c = false → Ev f x b d) : Ev f x (.IfExp t a b pos) d := .bx fun s O =>
  wpAny_IfExp (wpN (h.run s O) fun u s₁ ⟨k, r⟩ => by
    subst r
    cases u with
    | true => exact wpN ((ha rfl).run s₁ (O.step k)) fun w s₃ ⟨k3, r3⟩ => ⟨k.trans k3, r3⟩
    | false => exact wpN ((hb rfl).run s₁ (O.step k)) fun w s₃ ⟨k3, r3⟩ => ⟨k.trans k3, r3⟩)

theorem EvC.isNot {l r : Expr} {a b : Bool} (h1 : Ev f x l (.bool a)) (h2 : Ev f x r (.bool b)) : EvC f x l .IsNot r (a != b) :=
  .of h1 h2 fun s v w O r1 r2 => by
    rw [r1.bool_inv, r2.bool_inv]
    refine wpAny_isNot_plain rfl ⟨.rfl', ?_⟩
    cases a <;> cases b <;> rfl

theorem Rd.newList {s : Shared} {bad : List Addr} {vs : List Value} {ds : List PyData} (nb : s.heap.objs.size ∉ bad) (r : RdAll (hideAll s.heap bad) vs ds) :
    Rd (hideAll (s.heap.push { cls := .type "list", data := .seq vs.toArray }) bad) (.ref s.heap.objs.size) (.list ds) :=
  Rd.list (vs := vs) (n := 0) (hid_iff.mpr ⟨Heap.get?_push_size _ rfl, nb⟩) (r.ext (hid_ext (ext_push _)))
theorem Rd.newTuple {s : Shared} {bad : List Addr} {vs : List Value} {ds : List PyData} (nb : s.heap.objs.size ∉ bad) (r : RdAll (hideAll s.heap bad) vs ds) :
    Rd (hideAll (s.heap.push { cls := .type "tuple", data := .seq vs.toArray }) bad) (.ref s.heap.objs.size) (.tuple ds) :=
  Rd.tuple (vs := vs) (n := 0) (hid_iff.mpr ⟨Heap.get?_push_size _ rfl, nb⟩) (r.ext (hid_ext (ext_push _)))
theorem Ev.list {es : List Expr} {pos} {ds : List PyData} (h : EvL f x es ds) (hn : ds.length ≤ sizeLine) : Ev f x (.List es pos) (.list ds) := .bx fun s O =>
  List_ (wpN (h.run s pos O) fun vs s₁ ⟨k, r⟩ => wpAny_newList ⟨k.trans (.mkh (ext_push _)), Rd.newList (O.step k).nb r⟩ (by rw [r.length]; exact hn))
theorem Ev.tuple {es : List Expr} {c pos} {ds : List PyData} (h : EvL f x es ds) (hn : ds.length ≤ sizeLine) : Ev f x (.Tuple es c pos) (.tuple ds) := .bx fun s O =>
  Tuple_ (wpN (h.run s pos O) fun vs s₁ ⟨k, r⟩ => wpAny_newTuple ⟨k.trans (.mkh (ext_push _)), Rd.newTuple (O.step k).nb r⟩ (by rw [r.length]; exact hn))

noncomputable def idx (n : Nat) (i : Int) : Nat := if 0 ≤ i then i.toNat else (i + n).toNat

theorem Ev.itemL {v sl : Expr} {pos} {ds : List PyData} {i : Int} {d : PyData} (h1 : Ev f x v (.list ds)) (h2 : Ev f x sl (.int i)) (hd : ds[idx ds.length i]? = some d) (h0 : -(ds.length : Int) ≤ i) (hn : ds.length ≤ sizeLine)
    (hs : ∀ o j, subscripted sl false o j = operate [o, j] (getItem o j) := by intro _ _; with_unfolding_all rfl) : Ev f x (.Subscript v sl pos) d := .bx fun s O =>
  Subscript_ (wpN (h1.run s O) fun o s₁ ⟨k1, r1⟩ => wpN (h2.run s₁ (O.step k1)) fun j s₂ ⟨k2, r2⟩ => by
    obtain ⟨t, rfl⟩ := r2.int_inv
    obtain ⟨a, vs, n, rfl, l1, l2⟩ := (r1.ext (hid_ext k2.ext)).list_inv
    obtain ⟨u, hu, ru⟩ := l2.get hd
    have e := l2.length
    have l1' : s₂.heap.IsList a vs.toArray := PL.isList (n := n) (hid_iff.mp l1).1
    refine tail_any l1'.typeIs slot_list_getitem.lookup ?_ (hs _ _)
    have hlt : idx ds.length i < ds.length := (List.getElem?_eq_some_iff.mp hd).1
    rw [sizeLine_eq] at hn
    unfold idx at hu hlt
    by_cases h0' : 0 ≤ i
    · rw [if_pos h0'] at hu hlt
      exact wpAny_getItem_list l1' h0' (by omega) (by simpa using hu) ⟨k1.trans k2, ru⟩
    · rw [if_neg h0'] at hu hlt
      exact wpAny_getItem_list_neg l1' (by omega) (by rw [List.size_toArray, e]; exact h0) (by omega) (by rw [List.size_toArray, e]; simpa using hu) ⟨k1.trans k2, ru⟩)
theorem Ev.itemS {v sl : Expr} {pos} {ds : List Nat} {i : Int} {c : Nat} (h1 : Ev f x v (st ds)) (h2 : Ev f x sl (.int i)) (h0 : 0 ≤ i) (hd : ds[i.toNat]? = some c) (hn : ds.length ≤ sizeLine)
    (hs : ∀ o j, subscripted sl false o j = operate [o, j] (getItem o j) := by intro _ _; with_unfolding_all rfl) : Ev f x (.Subscript v sl pos) (st [c]) := .bx fun s O =>
  Subscript_ (wpN (h1.run s O) fun o s₁ ⟨k1, r1⟩ => wpN (h2.run s₁ (O.step k1)) fun j s₂ ⟨k2, r2⟩ => by
    obtain ⟨t, rfl⟩ := r2.int_inv
    obtain ⟨u, rfl⟩ := r1.str_inv
    have hlt : i.toNat < ds.length := (List.getElem?_eq_some_iff.mp hd).1
    rw [sizeLine_eq] at hn
    refine tail_any (typeIs_str s₂ _ u) F.slot_str_getitem.lookup (PyProof.Rows.getItem_str (c := c) ?_ ?_ ⟨(k1.trans k2).trans .tok, .str _ _⟩) (hs _ _)
    · simp; omega
    · have : seqIndex? i (S ds).length = some i.toNat := by
        unfold seqIndex?
        rw [S_len]
        simp only [show ¬ i < 0 by omega, if_false]
        simp; omega
      rw [this]; simpa [S] using hd)

noncomputable def EvO (f : Fx) (x : Sx) (e : Option Expr) (i : Option Int) : Prop := Bx (∀ s, Ok f x s →
  wpAny f.W.M f.A (evalPart e f.env) (fun v s' => Step s s' ∧ ∃ p : Option (Int × Tok), v = partValue p ∧ p.map (·.1) = i) No s)
theorem EvO.none : EvO f x .none .none := .bx fun s O => wpAny_evalPart_none ⟨.rfl', .none, rfl, rfl⟩
theorem EvO.some {e : Expr} {i : Int} (h : Ev f x e (.int i)) : EvO f x (.some e) (.some i) := .bx fun s O =>
  wpAny_evalPart_some (wpN (h.run s O) fun v s' ⟨k, r⟩ => by obtain ⟨t, rfl⟩ := r.int_inv; exact ⟨k, .some (i, t), rfl, rfl⟩)
theorem isPart_of (p : Option (Int × Tok)) : IsPart (partValue p) (p.map (·.1)) := by cases p with | none => exact .none | some q => exact .int _ _

theorem Ev.sliceL {v : Expr} {lo hi : Option Expr} {p pos} {ds : List PyData} {a b : Option Int} (h1 : Ev f x v (.list ds)) (h2 : EvO f x lo a) (h3 : EvO f x hi b) (hn : ds.length ≤ sizeLine) :
    Ev f x (.Subscript v (.Slice lo hi .none p) pos) (.list (slc ds a b)) := .bx fun s O =>
  Subscript_ (wpN (h1.run s O) fun o s₁ ⟨k1, r1⟩ => wpAny_Slice (wpN (h2.run s₁ (O.step k1)) fun l s₂ ⟨k2, pa, e1, e2⟩ => wpN (h3.run s₂ ((O.step k1).step k2)) fun u s₃ ⟨k3, pb, e3, e4⟩ => wpAny_evalPart_none (by
    subst e1 e2 e3 e4
    have k := (k1.trans k2).trans k3
    have O₃ := O.step k
    obtain ⟨c, vs, n, rfl, l1, l2⟩ := (r1.ext (hid_ext (k2.trans k3).ext)).list_inv
    have e := l2.length
    have l1' : s₃.heap.IsList c vs.toArray := PL.isList (n := n) (hid_iff.mp l1).1
    refine tail_any (l1'.push _).typeIs slot_list_getitem.lookup (wpAny_getItem_list_slice (l1'.push _) (Heap.IsSliceOf.new ..) (isPart_of pa) (isPart_of pb) .none (by simp) ⟨?_, ?_⟩ (by rw [List.size_toArray, e]; exact hn)) rfl
    · exact k.trans ((Step.mkh (ext_push _)).trans (.mkh (ext_push _)))
    · rw [slc_arr]
      have e2 : slc vs (pa.map (·.1)) (pb.map (·.1)) = (vs.drop ((pa.map (·.1)).elim 0 (clipAt ds.length))).take ((pb.map (·.1)).elim ds.length (clipAt ds.length) - (pa.map (·.1)).elim 0 (clipAt ds.length)) := by unfold slc; rw [e]
      have O₄ := O₃.step (.mkh (ext_push { cls := .type "slice", data := .fields #[partValue pa, partValue pb, .none] }))
      refine Rd.newList (s := { s₃ with heap := s₃.heap.push { cls := .type "slice", data := .fields #[partValue pa, partValue pb, .none] } }) O₄.nb ?_
      show RdAll _ (slc vs _ _) _
      rw [e2]
      exact ((l2.drop _).take _).ext (hid_ext (ext_push _)))))

theorem Ev.sliceS {v : Expr} {lo hi : Option Expr} {p pos} {ds : List Nat} {a b : Option Int} (h1 : Ev f x v (st ds)) (h2 : EvO f x lo a) (h3 : EvO f x hi b) (hn : ds.length ≤ sizeLine) :
    Ev f x (.Subscript v (.Slice lo hi .none p) pos) (st (slc ds a b)) := .bx fun s O =>
  Subscript_ (wpN (h1.run s O) fun o s₁ ⟨k1, r1⟩ => wpAny_Slice (wpN (h2.run s₁ (O.step k1)) fun l s₂ ⟨k2, pa, e1, e2⟩ => wpN (h3.run s₂ ((O.step k1).step k2)) fun u s₃ ⟨k3, pb, e3, e4⟩ => wpAny_evalPart_none (by
    subst e1 e2 e3 e4
    have k := (k1.trans k2).trans k3
    obtain ⟨t, rfl⟩ := r1.str_inv
    refine tail_any (typeIs_str _ _ t) F.slot_str_getitem.lookup (wpAny_getItem_str_slice (l := pa) (u := pb) (st := .none) ⟨_, Heap.get?_push_size _ rfl, rfl, rfl⟩ rfl ?_) rfl
    have key := txtSlice ds (pa.map (·.1)) (pb.map (·.1))
    refine post_val_or_str ?_
    show (Txt.slice (S ds) (pa.map (·.1)) (pb.map (·.1))).length ≤ sizeLine ∧ ∀ t' k', Step s { s₃ with heap := _, toks := k' } ∧ Rd (hideAll _ x.bad) (.str (Txt.slice (S ds) (pa.map (·.1)) (pb.map (·.1))) t') _
    rw [key]
    refine ⟨by rw [S_len]; exact Nat.le_trans (slc_le _ _ _) hn, fun t' k' => ⟨k.trans (.mk' (ext_push _)), .str _ _⟩⟩)))
end
end Mine
end
section
open PySem PySem.W PyProof.Rows PySem.Spec
set_option Elab.async false
set_option linter.all false
set_option maxRecDepth 100000
namespace Mine

noncomputable def FnP (W : Wd) (cv : Value) (n : Nat) (ds : List PyData) (P : List Addr → Heap → Value → Prop) : Prop :=
  ∀ A s bad vs, Room A n → W.Ok s.heap → (∀ b ∈ bad, ∃ o, s.heap.get? b = some o) → RdAll (hideAll s.heap bad) vs ds →
    wpAny W.M A (PySem.call cv vs) (fun v s' => Step s s' ∧ P bad s'.heap v) No s
noncomputable def Fn (W : Wd) (cv : Value) (n : Nat) (ds : List PyData) (d : PyData) : Prop := FnP W cv n ds fun bad h v => Rd (hideAll h bad) v d

section
variable {f : Fx} {x : Sx}


inductive Callee (W : Wd) : Value → Prop
  | builtin (id : String) : Callee W (.builtin id)
  | type (T : String) : Callee W (.type T)
  | fn {a : Addr} {o : Obj} {fd : FuncData} : W.K.lookup a = some o → o.data = .func fd → Callee W (.ref a)

theorem callWith_any {W : Wd} {A : Around} {s : Shared} {pos : Pos} {cv : Value} {e : Expr} {es : List Expr} {env : Env} {Q : Value → Shared → Prop} (c : Callee W cv)
    (h : wpAny W.M A (spliced (backTo pos (starEach (e :: es) env))) (fun vs s₁ => W.Ok s₁.heap ∧ wpAny W.M A (PySem.call cv vs) Q No s₁) No s)
    (he : starEach (e :: es) env = (false, eval e env) :: starEach es env) (hp : (backTo pos (starEach es env)).any (·.1) = false) :
    wpAny W.M A (callWith pos cv [] (backTo pos (starEach (e :: es) env)) []) Q No s := by
  cases c with
  | builtin id => exact callWith_builtin1 (wpN h fun vs s₁ ⟨_, k⟩ => k) he hp
  | type T => exact PyProof.Rows.callWith_type1 (wpN h fun vs s₁ ⟨_, k⟩ => k) he hp
  | fn hk hd => exact callWith_def hd (wpN h fun vs s₁ ⟨k1, k⟩ => ⟨k1.k _ _ hk, k⟩) he

theorem EvP.call {n : Str} {p pos} {e : Expr} {es : List Expr} {cv : Value} {ds : List PyData} {m : Nat} {P : List Addr → Heap → Value → Prop}
    (hc : EvP f x (.Name n p) fun _ u => u = cv) (c : Callee f.W cv) (ha : EvL f x (e :: es) ds) (F : FnP f.W cv m ds P) (hm : m ≤ f.rm)
    (he : starEach (e :: es) f.env = (false, eval e f.env) :: starEach es f.env := by exact rfl) (hp : (backTo pos (starEach es f.env)).any (·.1) = false := by exact rfl) :
    EvP f x (.Call (.Name n p) (e :: es) [] pos) (P x.bad) := .bx fun s O =>
  PyProof.Rows.Call_Name rfl (wpN (hc.run s O) fun u s₁ ⟨k1, e1⟩ => by
    subst e1
    refine callWith_any c (wpN (ha.run s₁ pos (O.step k1)) fun vs s₂ ⟨k2, r⟩ => ?_) he hp
    have O₂ := O.step (k1.trans k2)
    have W₂ := O.wok.ext O₂.same.ext
    exact ⟨W₂, wpN (F f.A s₂ x.bad vs (O.room.le hm) W₂ O₂.live r) fun v s₃ ⟨k3, r3⟩ => ⟨(k1.trans k2).trans k3, r3⟩⟩)
theorem Ev.call {n : Str} {p pos} {e : Expr} {es : List Expr} {cv : Value} {ds : List PyData} {d : PyData} {m : Nat}
    (hc : EvP f x (.Name n p) fun _ u => u = cv) (c : Callee f.W cv) (ha : EvL f x (e :: es) ds) (F : Fn f.W cv m ds d) (hm : m ≤ f.rm)
    (he : starEach (e :: es) f.env = (false, eval e f.env) :: starEach es f.env := by exact rfl) (hp : (backTo pos (starEach es f.env)).any (·.1) = false := by exact rfl) :
    Ev f x (.Call (.Name n p) (e :: es) [] pos) d := EvP.call hc c ha F hm he hp
noncomputable def Recv (T : String) (h : Heap) (v : Value) : Prop := (∀ s : Shared, s.heap = h → s.TypeIs v T) ∧ ∀ a, v = .ref a → ∃ ob, h.get? a = some ob ∧ ob.dict = none

theorem EvP.meth {o : Expr} {name : Str} {apos pos} {e : Expr} {es : List Expr} {T id : String} {P0 : Heap → Value → Prop} {ds : List PyData} {P : Heap → Value → Prop}
    (h0 : EvP f x o P0) (pa : PlainAttrs T) (slot : PySem.Slot T name id) (hty : typeOf (Value.builtin id) = pure (Value.type "method_descriptor"))
    (hr : ∀ h v, P0 h v → Recv T h v) (hk : ∀ h h' v, P0 h v → Ext h h' → P0 h' v) (ha : EvL f x (e :: es) ds)
    (F : ∀ s v vs, Ok f x s → P0 s.heap v → RdAll (hideAll s.heap x.bad) vs ds → wpAny f.W.M f.A (PySem.call (Value.builtin id) (v :: vs)) (fun u s' => Step s s' ∧ P s'.heap u) No s)
    (hbase : attributeBase o name f.env (eval o f.env) = eval o f.env := by exact rfl)
    (hfew : ((backTo pos (starEach (e :: es) f.env)).all (fun x => !x.1) && (backToKw pos (keywordEach [] f.env)).all (fun x => x.1.isSome)
      && decide ((e :: es).length + ([] : List Keyword).length + (if ([] : List Keyword).isEmpty then 0 else 1) < 30)) = true := by exact rfl)
    (hline : (apos.endLine == pos.line) = true := by exact rfl)
    (he : starEach (e :: es) f.env = (false, eval e f.env) :: starEach es f.env := by exact rfl) (hp : (backTo pos (starEach es f.env)).any (·.1) = false := by exact rfl) :
    EvP f x (.Call (.Attribute o name apos) (e :: es) [] pos) P := .bx fun s O =>
  wpAny_Call_method hbase hfew hline pa slot hty (wpN (h0.run s O) fun v s₁ ⟨k1, r1⟩ => by
    refine ⟨(hr _ _ r1).1 _ rfl, (hr _ _ r1).2, ?_⟩
    have O₁ := O.step k1
    refine callWith_method1 (wpN (ha.run s₁ pos O₁) fun vs s₂ ⟨k2, r2⟩ => ?_) he hp
    exact wpN (F s₂ v vs (O₁.step k2) (hk _ _ _ r1 k2.ext) r2) fun u s₃ ⟨k3, r3⟩ => ⟨(k1.trans k2).trans k3, r3⟩)
end
end Mine
end
section
open PySem PySem.W PyProof.Rows PySem.Spec
set_option Elab.async false
set_option linter.all false
set_option maxRecDepth 100000
namespace Mine

section
variable {f : Fx} {x : Sx}

noncomputable def Ex (f : Fx) (x : Sx) (ss : List Stmt) (Q : Flow → Shared → Prop) : Prop := Bx (∀ s, Ok f x s → wpAny f.W.M f.A (execs ss f.env) Q No s)
noncomputable def Then (f : Fx) (rest : List Stmt) (Q : Flow → Shared → Prop) : Flow → Shared → Prop
  | .next, s => wpAny f.W.M f.A (execs rest f.env) Q No s
  | fl, s => Q fl s

theorem Ex.nil {Q : Flow → Shared → Prop} (h : ∀ s, Ok f x s → Q .next s) : Ex f x [] Q := .bx fun s O => wpAny_execs_nil (h s O)
theorem Ex.cons {st : Stmt} {rest : List Stmt} {Q : Flow → Shared → Prop} (h : ∀ s, Ok f x s → wpAny f.W.M f.A (exec st f.env) (Then f rest Q) No s) : Ex f x (st :: rest) Q := .bx fun s O =>
  wpAny_execs_cons (wpN (h s O) fun fl s' h' => by cases fl <;> exact h')

inductive Puts : List Str → List Slot → List Str → List PyData → List Slot → Prop
  | nil {nm vs} : Puts nm vs [] [] vs
  | cons {nm vs n d vs' ns ds vs''} : Put nm vs n (.val d) vs' → Puts nm vs' ns ds vs'' → Puts nm vs (n :: ns) (d :: ds) vs''

theorem Ex.assign {n : Str} {p : Pos} {e : Expr} {pos : Pos} {rest : List Stmt} {d : PyData} {vs' : List Slot} {Q : Flow → Shared → Prop} (h : Ev f x e d) (put : Put f.nm x.vs n (.val d) vs')
    (hr : Ex f { x with vs := vs' } rest Q) (hc : f.sto = f.nm := by exact rfl)
    (hs : swapsWith e (some (.Name n p)) pos.line f.env = pure false := by exact rfl) : Ex f x (.Assign [.Name n p] e pos :: rest) Q := .cons fun s O =>
  wpAny_Assign_Name (wpN (h.run s O) fun v s₁ ⟨k, r⟩ => wpN ((O.step k).store put r (hc ▸ put.mem)) fun _ s₂ O₂ => hr.run s₂ O₂.1) hs

theorem Ex.ret {e : Expr} {pos : Pos} {rest : List Stmt} {d : PyData} {Q : Flow → Shared → Prop} (h : Ev f x e d) (hq : ∀ s v, Ok f x s → Rd (hideAll s.heap x.bad) v d → Q (.ret v) s) :
    Ex f x (.Return (some e) pos :: rest) Q := .cons fun s O =>
  wpAny_Return_some (wpN (h.run s O) fun v s₁ ⟨k, r⟩ => hq s₁ v (O.step k) r)
theorem Ex.retP {e : Expr} {pos : Pos} {rest : List Stmt} {P : Heap → Value → Prop} {Q : Flow → Shared → Prop} (h : EvP f x e P) (hq : ∀ s v, Ok f x s → P s.heap v → Q (.ret v) s) :
    Ex f x (.Return (some e) pos :: rest) Q := .cons fun s O =>
  wpAny_Return_some (wpN (h.run s O) fun v s₁ ⟨k, r⟩ => hq s₁ v (O.step k) r)

theorem Ex.ite {t : Expr} {b o : List Stmt} {pos : Pos} {rest : List Stmt} {c : Bool} {Q : Flow → Shared → Prop} (ht : Tst f x t c) (h1 : c = true → Ex f x b (Then f rest Q)) (h2 : c = false → Ex f x o (Then f rest Q)) :
    Ex f x (.If t b o pos :: rest) Q := .cons fun s O =>
  wpAny_If (wpN (ht.run s O) fun u s₁ ⟨k, e⟩ => by
    subst e
    cases u with
    | true => exact (h1 rfl).run s₁ (O.step k)
    | false => exact (h2 rfl).run s₁ (O.step k))
theorem Ex.brk {pos : Pos} {rest : List Stmt} {Q : Flow → Shared → Prop} (h : ∀ s, Ok f x s → Q .brk s) : Ex f x (.Break pos :: rest) Q := .cons fun s O => wpAny_Break (h s O)
theorem Ex.next {rest : List Stmt} {Q : Flow → Shared → Prop} (h : Ex f x rest Q) : Ex f x [] (Then f rest Q) := .nil fun s O => h.run s O
theorem unpackOk {W : Wd} {A : Around} {s : Shared} {bad : List Addr} {v : Value} {ds : List PyData} {d : PyData} (hh : A.handled = none) (hd : d = .list ds ∨ d = .tuple ds) (r : Rd (hideAll s.heap bad) v d) (nb : ∀ b ∈ bad, ∃ o, s.heap.get? b = some o) :
    wpAny W.M A (unpackItems v ds.length none) (fun vs s' => Step s s' ∧ RdAll (hideAll s'.heap bad) vs ds) No s := by
  have ex : ∀ h', Heap.ExtBut s.heap.objs.size s.heap h' → Ext s.heap h' := fun h' he b o e => he b o (Nat.ne_of_lt (Heap.lt_size e)) e
  rcases hd with rfl | rfl
  · obtain ⟨a, vs, n, rfl, l1, l2⟩ := r.list_inv
    have := kun_itemsOf (prog := W.prog) (w := W.w) (E := No) (Q := fun vs s' => Step s s' ∧ RdAll (hideAll s'.heap bad) vs ds) hh (PL.isList (n := n) (hid_iff.mp l1).1)
      (fun h' he => ⟨.mkh (ex h' he), by simpa using l2.ext (hid_ext (ex h' he))⟩)
    rw [List.size_toArray, l2.length] at this
    exact this
  · obtain ⟨a, vs, n, rfl, l1, l2⟩ := r.tuple_inv
    have := unpackItems_tuple (prog := W.prog) (w := W.w) (E := No) (Q := fun vs s' => Step s s' ∧ RdAll (hideAll s'.heap bad) vs ds) hh (PT.isTup (n := n) (hid_iff.mp l1).1)
      (fun h' he => ⟨.mkh (ex h' he), by simpa using l2.ext (hid_ext (ex h' he))⟩)
    rw [List.size_toArray, l2.length] at this
    exact this

inductive Names : List Expr → List Str → Prop
  | nil : Names [] []
  | cons {n p es ns} : Names es ns → Names (.Name n p :: es) (n :: ns)

theorem storesOk {ns : List Str} : ∀ {es : List Expr} {x : Sx} {s : Shared} {vals : List Value} {ds : List PyData} {vs' : List Slot}, Names es ns → Ok f x s → RdAll (hideAll s.heap x.bad) vals ds → Puts f.nm x.vs ns ds vs' →
    (∀ n ∈ ns, n ∈ f.sto) →
    wpAny f.W.M f.A (assignInOrder ((assignEach es f.env).map (·.2)) vals) (fun _ s' => Ok f { x with vs := vs' } s') No s := by
  induction ns with
  | nil =>
    intro es x s vals ds vs' hn O r hp hc
    cases hn; cases hp
    rw [r.nil_inv]
    exact wpAny_pure O
  | cons n ns ih =>
    intro es x s vals ds vs' hn O r hp hc
    cases hn with
    | cons hn =>
    cases hp with
    | cons put hp =>
    obtain ⟨v, vals, rfl, r1, r2⟩ := r.cons_inv
    show wpAny _ _ (do holding vals (assign (.Name n _) f.env v); assignInOrder ((assignEach _ f.env).map (·.2)) vals) _ _ s
    refine wpAny_bind (wpAny_holding (wpAny_assign_Name (wpN (O.store put r1 (hc n (.head _))) fun _ s₁ ⟨O₁, k⟩ => ?_)))
    have q := ih hn O₁ (r2.ext k) hp fun m hm => hc m (.tail _ hm)
    exact q

theorem Names.each {es : List Expr} {ns : List Str} (h : Names es ns) (env : Env) : (assignEach es env).length = ns.length ∧ (assignEach es env).findIdx? (·.1) = none := by
  induction h with
  | nil => exact ⟨rfl, rfl⟩
  | cons h ih =>
    rename_i n p es ns
    show (((false, assign (.Name n p) env) :: assignEach es env).length = _) ∧ _
    refine ⟨by rw [List.length_cons, ih.1, List.length_cons], ?_⟩
    show List.findIdx? _ ((false, assign (.Name n p) env) :: assignEach es env) = none
    rw [List.findIdx?_cons, ih.2]; rfl
theorem Puts.mem {nm vs ns ds vs'} (h : Puts nm vs ns ds vs') : ∀ n ∈ ns, n ∈ nm := by
  induction h with
  | nil => intro n hn; cases hn
  | cons p _ ih =>
    intro n hn
    rcases List.mem_cons.mp hn with rfl | hn
    · exact p.mem
    · exact ih n hn
theorem Puts.len {nm vs ns ds vs'} (h : Puts nm vs ns ds vs') : ns.length = ds.length := by
  induction h with
  | nil => rfl
  | cons _ _ ih => simp [ih]

theorem unpackNames {es : List Expr} {k : Nat} {p : Pos} {ns : List Str} {s : Shared} {v : Value} {d : PyData} {ds : List PyData} {vs' : List Slot} (hn : Names es ns) (O : Ok f x s) (hd : d = .list ds ∨ d = .tuple ds) (r : Rd (hideAll s.heap x.bad) v d)
    (put : Puts f.nm x.vs ns ds vs') (hc : ∀ n ∈ ns, n ∈ f.sto) :
    wpAny f.W.M f.A (assign (.Tuple es k p) f.env v) (fun _ s' => Ok f { x with vs := vs' } s') No s := by
  rw [arm_assign_Tuple]
  refine wpAny_bind (wpAny_standAt ?_)
  unfold unpack
  rw [(hn.each f.env).1, (hn.each f.env).2, put.len]
  exact wpAny_bind (wpAny_holding (wpN (unpackOk O.room.hd hd r O.live) fun vals s₁ ⟨k, r⟩ => storesOk hn (O.step k) r put hc))

theorem Ex.unpack {es : List Expr} {k : Nat} {p : Pos} {e : Expr} {pos : Pos} {rest : List Stmt} {d : PyData} {ds : List PyData} {ns : List Str} {vs' : List Slot} {Q : Flow → Shared → Prop} (h : Ev f x e d) (hn : Names es ns) (hd : d = .list ds ∨ d = .tuple ds)
    (put : Puts f.nm x.vs ns ds vs') (hr : Ex f { x with vs := vs' } rest Q) (hc : f.sto = f.nm := by exact rfl)
    (hs : swapsWithSole [.Tuple es k p] e pos.line f.env = pure false := by exact rfl) (hw : swappedStores [.Tuple es k p] e f.env = pure none := by exact rfl) : Ex f x (.Assign [.Tuple es k p] e pos :: rest) Q := .cons fun s O =>
  PyProof.Rows.Assign_Tuple (wpN (h.run s O) fun v s₁ ⟨k, r⟩ => wpN (unpackNames hn (O.step k) hd r put (hc ▸ put.mem)) fun _ s₂ O₂ => hr.run s₂ O₂) hs hw

theorem Ex.unpackSw {es : List Expr} {k : Nat} {p : Pos} {e : Expr} {pos : Pos} {rest : List Stmt} {d : PyData} {ds : List PyData} {ns : List Str} {vs' : List Slot} {Q : Flow → Shared → Prop} (h : Ev f x e d) (hd : d = .list ds ∨ d = .tuple ds)
    (put : Puts f.nm x.vs ns.reverse ds.reverse vs') (hr : Ex f { x with vs := vs' } rest Q) (hc : f.sto = f.nm := by exact rfl)
    (hs : swapsWithSole [.Tuple es k p] e pos.line f.env = pure false := by exact rfl) (hw : swappedStores [.Tuple es k p] e f.env = pure (some ns) := by exact rfl) : Ex f x (.Assign [.Tuple es k p] e pos :: rest) Q := .cons fun s O =>
  PyProof.Rows.Assign_Tuple_swapped (wpN (h.run s O) fun v s₁ ⟨k, r⟩ => by
    have hl : ns.length = ds.length := by have := put.len; simpa using this
    rw [hl]
    refine wpN (unpackOk (O.step k).room.hd hd r (O.step k).live) fun vals s₂ ⟨k2, r2⟩ => ?_
    have O₂ := (O.step k).step k2
    have r3 : RdAll (hideAll s₂.heap x.bad) vals.reverse ds.reverse := by
      have : ∀ (ds : List PyData) (vals : List Value), RdAll (hideAll s₂.heap x.bad) vals ds → RdAll (hideAll s₂.heap x.bad) vals.reverse ds.reverse := by
        intro ds
        induction ds with
        | nil => intro vals r; rw [r.nil_inv]; exact .nil
        | cons d ds ih => intro vals r; obtain ⟨v, vals, rfl, a, b⟩ := r.cons_inv; simpa using (ih _ b).append (.one a)
      exact this _ _ r2
    refine wpN ?_ fun _ s₃ O₃ => hr.run s₃ O₃
    have key : ∀ (ns : List Str) (x : Sx) (s : Shared) (vals : List Value) (ds : List PyData) (vs' : List Slot), Ok f x s → RdAll (hideAll s.heap x.bad) vals ds → Puts f.nm x.vs ns ds vs' →
        wpAny f.W.M f.A (assignInOrder (ns.map fun n => bindName f.env n) vals) (fun _ s' => Ok f { x with vs := vs' } s') No s := by
      intro ns
      induction ns with
      | nil => intro x s vals ds vs' O r hp; cases hp; rw [r.nil_inv]; exact wpAny_pure O
      | cons n ns ih =>
        intro x s vals ds vs' O r hp
        cases hp with
        | cons put hp =>
        obtain ⟨v, vals, rfl, r1, r2⟩ := r.cons_inv
        show wpAny _ _ (do holding vals (bindName f.env n v); assignInOrder (ns.map fun n => bindName f.env n) vals) _ _ s
        refine wpAny_bind (wpAny_holding (wpAny_bindName (wpN (O.store put r1 (hc ▸ put.mem)) fun _ s₁ ⟨O₁, k⟩ => ?_)))
        have q := ih _ s₁ _ _ _ O₁ (r2.ext k) hp
        exact q
    exact key ns.reverse x s₂ _ _ _ O₂ r3 put) hs hw

theorem Ex.aug {n : Str} {p : Pos} {op : Operator} {e : Expr} {pos : Pos} {rest : List Stmt} {d0 d d' : PyData} {vs' : List Slot} {Q : Flow → Shared → Prop} (h0 : At f.nm x.vs n (.val d0)) (h : Ev f x e d)
    (H : ∀ s v w, Ok f x s → Rd (hideAll s.heap x.bad) v d0 → Rd (hideAll s.heap x.bad) w d → wpAny f.W.M f.A (inplaceOp op v w) (fun u s' => Step s s' ∧ Rd (hideAll s'.heap x.bad) u d') No s)
    (put : Put f.nm x.vs n (.val d') vs') (hr : Ex f { x with vs := vs' } rest Q) (hc : f.sto = f.nm := by exact rfl) : Ex f x (.AugAssign (.Name n p) op e pos :: rest) Q := .cons fun s O =>
  wpAny_AugAssign_Name (wpN (O.read h0) fun v s₁ ⟨e1, r1⟩ => by
    subst e1
    exact wpN (h.run _ O) fun w s₂ ⟨k2, r2⟩ => wpN (H s₂ v w (O.step k2) (r1.ext (hid_ext k2.ext)) r2) fun u s₃ ⟨k3, r3⟩ =>
      wpN (((O.step k2).step k3).store put r3 (hc ▸ put.mem)) fun _ s₄ O₄ => hr.run s₄ O₄.1)
end
end Mine
end
section
open PySem PySem.W PyProof.Rows PySem.Spec
set_option Elab.async false
set_option linter.all false
set_option maxRecDepth 100000
namespace Mine

inductive LPut (a : Addr) (ds ds' : List PyData) : List Res → List Res → Prop
  | here {l} : LPut a ds ds' (.lst a ds :: l) (.lst a ds' :: l)
  | there {r l l'} : LPut a ds ds' l l' → LPut a ds ds' (r :: l) (r :: l')
inductive LDel (a : Addr) (ds : List PyData) : List Res → List Res → Prop
  | here {l} : LDel a ds (.lst a ds :: l) l
  | there {r l l'} : LDel a ds l l' → LDel a ds (r :: l) (r :: l')

theorem LPut.mem {a ds ds' l l'} (h : LPut a ds ds' l l') : Res.lst a ds ∈ l := by
  induction h with
  | here => exact .head _
  | there _ ih => exact .tail _ ih
theorem LPut.fps {a ds ds' l l'} (h : LPut a ds ds' l l') : l'.flatMap Res.fp = l.flatMap Res.fp := by
  induction h with
  | here => rfl
  | there _ ih => simp only [List.flatMap_cons, ih]
theorem LPut.get {a ds ds' l l'} (h : LPut a ds ds' l l') (nd : (l.flatMap Res.fp).Nodup) : ∀ r ∈ l', r = .lst a ds' ∨ (r ∈ l ∧ a ∉ r.fp) := by
  induction h with
  | here =>
    intro r hr
    rcases List.mem_cons.mp hr with rfl | hr
    · exact .inl rfl
    · refine .inr ⟨.tail _ hr, fun m => ?_⟩
      rw [List.flatMap_cons] at nd
      exact (List.nodup_append.mp nd).2.2 a (.head _) a (List.mem_flatMap.mpr ⟨r, hr, m⟩) rfl
  | there h ih =>
    rename_i r0 l l'
    intro r hr
    rw [List.flatMap_cons] at nd
    rcases List.mem_cons.mp hr with rfl | hr
    · refine .inr ⟨.head _, fun m => ?_⟩
      exact (List.nodup_append.mp nd).2.2 a m a (List.mem_flatMap.mpr ⟨_, h.mem, .head _⟩) rfl
    · rcases ih (List.nodup_append.mp nd).2.1 r hr with e | ⟨e, n⟩
      · exact .inl e
      · exact .inr ⟨.tail _ e, n⟩
theorem LDel.mem {a ds l l'} (h : LDel a ds l l') : Res.lst a ds ∈ l := by
  induction h with
  | here => exact .head _
  | there _ ih => exact .tail _ ih
theorem LDel.sub {a ds l l'} (h : LDel a ds l l') : (l'.flatMap Res.fp).Sublist (l.flatMap Res.fp) := by
  induction h with
  | here => simp only [List.flatMap_cons]; exact List.sublist_append_right _ _
  | there _ ih => simp only [List.flatMap_cons]; exact List.Sublist.append_left ih _
theorem LDel.get {a ds l l'} (h : LDel a ds l l') (nd : (l.flatMap Res.fp).Nodup) : ∀ r ∈ l', r ∈ l ∧ a ∉ r.fp := by
  induction h with
  | here =>
    intro r hr
    refine ⟨.tail _ hr, fun m => ?_⟩
    rw [List.flatMap_cons] at nd
    exact (List.nodup_append.mp nd).2.2 a (.head _) a (List.mem_flatMap.mpr ⟨r, hr, m⟩) rfl
  | there h ih =>
    rename_i r0 l l'
    intro r hr
    rw [List.flatMap_cons] at nd
    rcases List.mem_cons.mp hr with rfl | hr
    · exact ⟨.head _, fun m => (List.nodup_append.mp nd).2.2 a m a (List.mem_flatMap.mpr ⟨_, h.mem, .head _⟩) rfl⟩
    · obtain ⟨e, n⟩ := ih (List.nodup_append.mp nd).2.1 r hr; exact ⟨.tail _ e, n⟩

section
variable {f : Fx} {x : Sx} {s : Shared}

theorem Ok.mut (O : Ok f x s) {a : Addr} {ds ds' : List PyData} {l' : List Res} {h' : Heap} {vs : List Value} {k : Nat} (hl : LPut a ds ds' x.led l') (hs : Heap.SameBut a s.heap h') (hp : PL h' a vs k)
    (hr : RdAll (hideAll s.heap x.bad) vs ds') : Ok f { x with led := l' } { s with heap := h' } := by
  obtain ⟨_, r2⟩ := O.led _ hl.mem
  obtain ⟨a1, a2, a3, a4⟩ := r2 a (.head _)
  obtain ⟨t1, t2⟩ := O.turn (t := s.toks) a1 a2 hs
  have hx := hidBut hs a1
  obtain ⟨m, hns, hv⟩ := O.vars
  refine ⟨O.kind, O.glo, O.bui, O.room, O.wok, O.nd, O.knd, O.gk, O.cellF, O.cbB, t1, t2, fun b hb => ?_, O.locF, O.locB, fun n c e => ?_, O.inj, fun r hr' => ?_, by rw [hl.fps]; exact O.ledNd, m, hns.sameBut hs (Ne.symm a3), fun i n sl e1 e2 => ?_⟩
  · obtain ⟨o, e⟩ := O.live b hb
    by_cases q : b = a
    · exact ⟨_, q ▸ hp⟩
    · exact ⟨o, (hs.2 b q).trans e⟩
  · obtain ⟨b1, b2, ov, b3⟩ := O.cell n c e
    exact ⟨b1, b2, ov, isCell_but b3 hs fun q => a4 n (q ▸ e)⟩
  · rcases hl.get O.ledNd r hr' with rfl | ⟨e, n⟩
    · exact ⟨⟨vs, k, hp, hr.ext hx⟩, r2⟩
    · obtain ⟨r1, r3⟩ := O.led r e
      exact ⟨res_but hs a1 r1 n, r3⟩
  · have lk : ∀ {u : Value}, look f.env s.heap m n u → look f.env h' m n u := by
      intro u e
      rcases e with ⟨e1, e2⟩ | ⟨e1, c, e2, e3⟩
      · exact .inl ⟨e1, e2⟩
      · exact .inr ⟨e1, c, e2, isCell_but e3 hs fun q => a4 n (q ▸ e2)⟩
    have := hv i n sl e1 e2
    cases sl with
    | no => trivial
    | val d => obtain ⟨u, b1, b2⟩ := this; exact ⟨u, lk b1, b2.ext hx⟩
    | is P => obtain ⟨u, b1, b2⟩ := this; exact ⟨u, lk b1, b2⟩
    | ptr b => exact lk this

theorem Ok.own (O : Ok f x s) {s' : Shared} {a : Addr} {vs : List Value} {k : Nat} {ds : List PyData} (st : Step s s') (hn : s.heap.get? a = none) (hp : PL s'.heap a vs k) (hr : RdAll (hideAll s'.heap (a :: x.bad)) vs ds) :
    Ok f { x with bad := a :: x.bad, led := .lst a ds :: x.led } s' := by
  have hnb : f.base.heap.get? a = none := by
    cases q : f.base.heap.get? a with
    | none => rfl
    | some o => have := O.same.ext a o q; rw [hn] at this; cases this
  have hnloc : a ≠ f.env.locals := fun q => by obtain ⟨o, e⟩ := O.live _ O.locB; rw [← q, hn] at e; cases e
  have hncell : ∀ n, f.env.cells.lookup n ≠ some a := fun n e => by obtain ⟨_, _, ov, o, e', _⟩ := O.cell n a e; rw [hn] at e'; cases e'
  have hnled : ∀ r ∈ x.led, a ∉ r.fp := fun r hr m => by obtain ⟨o, e⟩ := O.live a ((O.led r hr).2 a m).1; rw [hn] at e; cases e
  have hx : Ext (hideAll s.heap x.bad) (hideAll s'.heap (a :: x.bad)) := fun b o e => by
    obtain ⟨e1, e2⟩ := hid_iff.mp e
    refine hid_iff.mpr ⟨st.ext b o e1, fun m => ?_⟩
    rcases List.mem_cons.mp m with q | q
    · rw [q, hn] at e1; cases e1
    · exact e2 q
  obtain ⟨m, hns, hv⟩ := O.vars
  refine ⟨O.kind, O.glo, O.bui, O.room, O.wok, O.nd, O.knd, O.gk, O.cellF, fun b hb => ⟨.tail _ (O.cbB b hb).1, (O.cbB b hb).2⟩, O.same.trans st, fun b o e => ?_, fun b hb => ?_, O.locF, .tail _ O.locB, fun n c e => ?_, O.inj, fun r hr' => ?_, ?_, m, hns.keeps st.ext, fun i n sl e1 e2 => ?_⟩
  · obtain ⟨e1, e2⟩ := O.hz b o e
    refine ⟨st.ext b o e1, fun m => ?_⟩
    rcases List.mem_cons.mp m with q | q
    · rw [q, hn] at e1; cases e1
    · exact e2 q
  · rcases List.mem_cons.mp hb with rfl | hb
    · exact ⟨_, hp⟩
    · obtain ⟨o, e⟩ := O.live b hb; exact ⟨o, st.ext b o e⟩
  · obtain ⟨b1, b2, ov, b3⟩ := O.cell n c e; exact ⟨.tail _ b1, b2, ov, b3.keeps st.ext⟩
  · rcases List.mem_cons.mp hr' with rfl | hr'
    · refine ⟨⟨vs, k, hp, hr⟩, fun b hb => ?_⟩
      rcases List.mem_cons.mp hb with rfl | hb
      · exact ⟨.head _, hnb, hnloc, hncell⟩
      · cases hb
    · obtain ⟨r1, r2⟩ := O.led r hr'
      refine ⟨?_, fun b hb => ⟨.tail _ (r2 b hb).1, (r2 b hb).2⟩⟩
      cases r with
      | lst c es => obtain ⟨vs', k', q1, q2⟩ := r1; exact ⟨vs', k', st.ext _ _ q1, q2.ext hx⟩
      | prd fp P => exact ⟨r1.2 _ _ r1.1 fun b _ o e => st.ext b o e, r1.2⟩
  · show ([a] ++ x.led.flatMap Res.fp).Nodup
    rw [List.singleton_append, List.nodup_cons]
    exact ⟨fun hc => by obtain ⟨r, hr, hm⟩ := List.mem_flatMap.mp hc; exact hnled r hr hm, O.ledNd⟩
  · have := hv i n sl e1 e2
    cases sl with
    | no => trivial
    | val d => obtain ⟨u, b1, b2⟩ := this; exact ⟨u, b1.ext st.ext, b2.ext hx⟩
    | is P => obtain ⟨u, b1, b2⟩ := this; exact ⟨u, b1.ext st.ext, b2⟩
    | ptr b => exact look.ext st.ext this

theorem Ok.freeze (O : Ok f x s) {n : Str} {a : Addr} {ds : List PyData} {l' : List Res} {vs' : List Slot} (hat : At f.nm x.vs n (.ptr a)) (hd : LDel a ds x.led l') (put : Put f.nm x.vs n (.val (.list ds)) vs') :
    Ok f ⟨x.hz, x.bad.filter (· != a), l', vs'⟩ s := by
  obtain ⟨⟨vs, k, hp, hr⟩, r2⟩ := O.led _ hd.mem
  obtain ⟨a1, a2, a3, a4⟩ := r2 a (.head _)
  have hb : ∀ b, b ∈ x.bad.filter (· != a) ↔ b ∈ x.bad ∧ b ≠ a := fun b => by simp [List.mem_filter]
  have hx : Ext (hideAll s.heap x.bad) (hideAll s.heap (x.bad.filter (· != a))) := hid_anti fun b m => ((hb b).mp m).1
  obtain ⟨m, hns, hv⟩ := O.vars
  refine ⟨O.kind, O.glo, O.bui, O.room, O.wok, O.nd, O.knd, O.gk, O.cellF, fun b hm => ⟨(hb b).mpr ⟨(O.cbB b hm).1, fun q => by obtain ⟨o, e⟩ := (O.cbB b hm).2; rw [q, a2] at e; cases e⟩, (O.cbB b hm).2⟩, O.same, fun b o e => ?_, fun b m => O.live b ((hb b).mp m).1, O.locF, (hb _).mpr ⟨O.locB, Ne.symm a3⟩, fun n' c e => ?_, O.inj, fun r hr' => ?_, O.ledNd.sublist hd.sub, m, hns, fun i n' sl e1 e2 => ?_⟩
  · exact ⟨(O.hz b o e).1, fun m => (O.hz b o e).2 ((hb b).mp m).1⟩
  · obtain ⟨b1, b2, ov, b3⟩ := O.cell n' c e; exact ⟨(hb _).mpr ⟨b1, fun q => a4 n' (q ▸ e)⟩, b2, ov, b3⟩
  · obtain ⟨e, ne⟩ := hd.get O.ledNd r hr'
    obtain ⟨r1, r3⟩ := O.led r e
    refine ⟨?_, fun b hm => ⟨(hb _).mpr ⟨(r3 b hm).1, fun q => ne (q ▸ hm)⟩, (r3 b hm).2⟩⟩
    cases r with
    | lst c es => obtain ⟨vs', k', q1, q2⟩ := r1; exact ⟨vs', k', q1, q2.ext hx⟩
    | prd fp P => exact r1
  · obtain ⟨j, g1, g2⟩ := hat.get
    rcases put.get O.nd i n' sl e1 e2 with ⟨rfl, rfl⟩ | ⟨hk, e3⟩
    · have := hv j n' _ g1 g2
      exact ⟨.ref a, this, .list (hid_iff.mpr ⟨hp, fun m => ((hb a).mp m).2 rfl⟩) (hr.ext hx)⟩
    · have := hv i n' sl e1 e3
      cases sl with
      | no => trivial
      | val d => obtain ⟨u, b1, b2⟩ := this; exact ⟨u, b1, b2.ext hx⟩
      | is P => obtain ⟨u, b1, b2⟩ := this; exact ⟨u, b1, b2⟩
      | ptr b => exact this
end

section
variable {f : Fx} {x : Sx}
theorem Ex.freeze {ss : List Stmt} {Q : Flow → Shared → Prop} {n : Str} {a : Addr} {ds : List PyData} {l' : List Res} {vs' : List Slot} (hat : At f.nm x.vs n (.ptr a)) (hd : LDel a ds x.led l') (put : Put f.nm x.vs n (.val (.list ds)) vs')
    (h : Ex f ⟨x.hz, x.bad.filter (· != a), l', vs'⟩ ss Q) : Ex f x ss Q := .bx fun s O => h.run s (O.freeze hat hd put)
theorem Ev.thaw {e : Expr} {d : PyData} {n : Str} {a : Addr} {ds : List PyData} {l' : List Res} {vs' : List Slot} (hat : At f.nm x.vs n (.ptr a)) (hd : LDel a ds x.led l') (put : Put f.nm x.vs n (.val (.list ds)) vs')
    (h : Ev f ⟨x.hz, x.bad.filter (· != a), l', vs'⟩ e d) (ha : atom d) : Ev f x e d := .bx fun s O => wpN (h.run s (O.freeze hat hd put)) fun v s' ⟨k, r⟩ => ⟨k, r.atom ha⟩
theorem Tst.thaw {e : Expr} {b : Bool} {n : Str} {a : Addr} {ds : List PyData} {l' : List Res} {vs' : List Slot} (hat : At f.nm x.vs n (.ptr a)) (hd : LDel a ds x.led l') (put : Put f.nm x.vs n (.val (.list ds)) vs')
    (h : Tst f ⟨x.hz, x.bad.filter (· != a), l', vs'⟩ e b) : Tst f x e b := .bx fun s O => h.run s (O.freeze hat hd put)

noncomputable def EvN (f : Fx) (x : Sx) (e : Expr) (ds : List PyData) : Prop := Bx (∀ s, Ok f x s →
  wpAny f.W.M f.A (eval e f.env) (fun v s' => Step s s' ∧ ∃ a vs k, v = .ref a ∧ s.heap.get? a = none ∧ PL s'.heap a vs k ∧ RdAll (hideAll s'.heap (a :: x.bad)) vs ds) No s)
theorem EvN.list {es : List Expr} {pos} {ds : List PyData} (h : EvL f x es ds) (hn : ds.length ≤ sizeLine) : EvN f x (.List es pos) ds := .bx fun s O =>
  List_ (wpN (h.run s pos O) fun vs s₁ ⟨k, r⟩ => wpAny_newList ⟨k.trans (.mkh (ext_push _)), s₁.heap.objs.size, vs, 0, rfl, by
    cases q : s.heap.get? s₁.heap.objs.size with
    | none => rfl
    | some o => exact absurd (Heap.lt_size (k.ext _ o q)) (Nat.lt_irrefl _), Heap.get?_push_size _ rfl, r.ext fun b o e => by
      obtain ⟨e1, e2⟩ := hid_iff.mp e
      refine hid_iff.mpr ⟨ext_push _ _ _ e1, fun m => ?_⟩
      rcases List.mem_cons.mp m with q | q
      · exact absurd (Heap.lt_size e1) (by rw [q]; exact Nat.lt_irrefl _)
      · exact e2 q⟩ (by rw [r.length]; exact hn))
theorem EvN.ev {e : Expr} {ds : List PyData} (h : EvN f x e ds) : Ev f x e (.list ds) := .bx fun s O => wpN (h.run s O) fun v s' ⟨k, a, vs, n, e, hn, hp, hr⟩ => by
  subst e
  refine ⟨k, .list (hid_iff.mpr ⟨hp, fun m => ?_⟩) (hr.ext (hid_anti fun b m => .tail _ m))⟩
  obtain ⟨o, e⟩ := O.live a m; rw [hn] at e; cases e

theorem Ex.own {n : Str} {p : Pos} {e : Expr} {pos : Pos} {rest : List Stmt} {ds : List PyData} {vs' : Addr → List Slot} {Q : Flow → Shared → Prop} (h : EvN f x e ds) (put : ∀ a, Put f.nm x.vs n (.ptr a) (vs' a))
    (hr : ∀ a, Ex f ⟨x.hz, a :: x.bad, .lst a ds :: x.led, vs' a⟩ rest Q) (hc : f.sto = f.nm := by exact rfl)
    (hs : swapsWith e (some (.Name n p)) pos.line f.env = pure false := by exact rfl) : Ex f x (.Assign [.Name n p] e pos :: rest) Q := .cons fun s O =>
  wpAny_Assign_Name (wpN (h.run s O) fun v s₁ ⟨k, a, vs, j, e, hn, hp, hd⟩ => by
    subst e
    have O₁ := O.own k hn hp hd
    exact wpN (O₁.store (put a) rfl (hc ▸ (put a).mem)) fun _ s₂ O₂ => (hr a).run s₂ O₂.1) hs

theorem Ok.readP {s : Shared} (O : Ok f x s) {n : Str} {a : Addr} (h : At f.nm x.vs n (.ptr a)) {pos} : wpAny f.W.M f.A (eval (.Name n pos) f.env) (fun v s' => s' = s ∧ v = .ref a) No s := by
  obtain ⟨m, hns, hv⟩ := O.vars
  obtain ⟨i, e1, e2⟩ := h.get
  have l := hv i n _ e1 e2
  exact wpAny_Name (O.load hns l ⟨rfl, rfl⟩) (O.knd n (List.mem_of_getElem? e1)).1

theorem upd_PL {s : Shared} {a : Addr} {vs ws : List Value} {k : Nat} {g : Array Value → Array Value} (hp : PL s.heap a vs k) (hg : g vs.toArray = ws.toArray) : ∃ k', PL (s.heap.update a (Obj.mapSeq g)) a ws k' := by
  have := Heap.get?_update_self (Obj.mapSeq g) hp (by rfl)
  refine ⟨if (g vs.toArray).size == vs.toArray.size then k else k + 1, ?_⟩
  rw [PL, this, ← hg]
  rfl

theorem Ex.append {n : Str} {p apos pos spos : Pos} {e : Expr} {rest : List Stmt} {a : Addr} {ds : List PyData} {d : PyData} {l' : List Res} {Q : Flow → Shared → Prop} (hat : At f.nm x.vs n (.ptr a)) (hl : LPut a ds (ds ++ [d]) x.led l')
    (h : Ev f x e d) (hn : ds.length ≤ sizeLine) (hr : Ex f { x with led := l' } rest Q)
    (hi : interactive f.env = false := by exact rfl) (hs : swapsWith (.Call (.Attribute (.Name n p) (Str.ofString "append") apos) [e] [] pos) none spos.line f.env = pure false := by exact rfl)
    (hbase : attributeBase (.Name n p) (Str.ofString "append") f.env (eval (.Name n p) f.env) = eval (.Name n p) f.env := by exact rfl)
    (hline : (apos.endLine == pos.line) = true := by exact rfl) (he : starEach [e] f.env = [(false, eval e f.env)] := by exact rfl) :
    Ex f x (.Expr (.Call (.Attribute (.Name n p) (Str.ofString "append") apos) [e] [] pos) spos :: rest) Q := .cons fun s O =>
  wpAny_Expr_any (wpAny_Call_method hbase (by rw [he]; rfl) hline PySem.F.plainAttrs_list PySem.F.slot_list_append PySem.F.type_list_append (wpN (O.readP hat) fun v s₁ ⟨e1, e2⟩ => by
    subst e1 e2
    obtain ⟨⟨vs, k, hp, hd⟩, _⟩ := O.led _ hl.mem
    refine ⟨⟨_, hp, rfl⟩, fun b e => by cases e; exact ⟨_, hp, rfl⟩, ?_⟩
    rw [he]
    refine PySem.P.append_list (wpN (h.run _ O) fun w s₂ ⟨k2, r2⟩ => ?_)
    have O₂ := O.step k2
    obtain ⟨⟨vs, k, hp, hd⟩, _⟩ := O₂.led _ hl.mem
    refine ⟨vs.toArray, k, by rw [List.size_toArray, hd.length]; exact hn, hp, ?_⟩
    obtain ⟨k', hp'⟩ := upd_PL (ws := vs ++ [w]) (g := fun xs => xs.push w) hp (by simp)
    exact hr.run _ (O₂.mut hl (Heap.SameBut.update ..) hp' (hd.append (.one r2))))) hi hs

theorem Ex.extend {n : Str} {p apos pos spos : Pos} {e : Expr} {rest : List Stmt} {a : Addr} {ds es : List PyData} {l' : List Res} {Q : Flow → Shared → Prop} (hat : At f.nm x.vs n (.ptr a)) (hl : LPut a ds (ds ++ es) x.led l')
    (h : Ev f x e (.list es)) (hn : ds.length + es.length ≤ sizeLine) (hr : Ex f { x with led := l' } rest Q)
    (hi : interactive f.env = false := by exact rfl) (hs : swapsWith (.Call (.Attribute (.Name n p) (Str.ofString "extend") apos) [e] [] pos) none spos.line f.env = pure false := by exact rfl)
    (hbase : attributeBase (.Name n p) (Str.ofString "extend") f.env (eval (.Name n p) f.env) = eval (.Name n p) f.env := by exact rfl)
    (hline : (apos.endLine == pos.line) = true := by exact rfl) (he : starEach [e] f.env = [(false, eval e f.env)] := by exact rfl) :
    Ex f x (.Expr (.Call (.Attribute (.Name n p) (Str.ofString "extend") apos) [e] [] pos) spos :: rest) Q := .cons fun s O =>
  wpAny_Expr_any (wpAny_Call_method hbase (by rw [he]; rfl) hline PySem.F.plainAttrs_list PySem.F.slot_list_extend PySem.F.type_list_extend (wpN (O.readP hat) fun v s₁ ⟨e1, e2⟩ => by
    subst e1 e2
    obtain ⟨⟨vs, k, hp, hd⟩, _⟩ := O.led _ hl.mem
    refine ⟨⟨_, hp, rfl⟩, fun b e => by cases e; exact ⟨_, hp, rfl⟩, ?_⟩
    rw [he]
    refine PySem.P.extend_list (wpN (h.run _ O) fun w s₂ ⟨k2, r2⟩ => ?_)
    have O₂ := O.step k2
    obtain ⟨⟨vs, k, hp, hd⟩, _⟩ := O₂.led _ hl.mem
    obtain ⟨b, ws, j, rfl, l1, l2⟩ := r2.list_inv
    have e1 := hd.length
    have e2 := l2.length
    refine ⟨b, vs.toArray, ws.toArray, k, j, by rw [List.size_toArray, e1]; omega, by rw [List.size_toArray, List.size_toArray, e1, e2]; omega, ?_, rfl, hp, (hid_iff.mp l1).1, ?_⟩
    · have : Builtin.List.listTooLong (vs.toArray.size + ws.toArray.size) = false := by
        unfold Builtin.List.listTooLong
        rw [List.size_toArray, List.size_toArray, e1, e2]
        simp; omega
      rw [this]; simp
    · obtain ⟨k', hp'⟩ := upd_PL (ws := vs ++ ws) (g := fun xs => xs ++ ws.toArray) hp (by simp)
      exact hr.run _ (O₂.mut hl (Heap.SameBut.update ..) hp' (hd.append l2)))) hi hs

theorem RdAll.dropLast {h : Heap} {vs : List Value} {ds : List PyData} (r : RdAll h vs ds) : RdAll h vs.dropLast ds.dropLast := by
  rw [List.dropLast_eq_take, List.dropLast_eq_take, r.length]; exact r.take _

theorem Ex.pop {n : Str} {p apos pos spos : Pos} {rest : List Stmt} {a : Addr} {ds : List PyData} {l' : List Res} {Q : Flow → Shared → Prop} (hat : At f.nm x.vs n (.ptr a)) (hl : LPut a ds ds.dropLast x.led l')
    (hne : ds ≠ []) (hn : ds.length ≤ sizeLine) (hr : Ex f { x with led := l' } rest Q)
    (hi : interactive f.env = false := by exact rfl) (hs : swapsWith (.Call (.Attribute (.Name n p) (Str.ofString "pop") apos) [] [] pos) none spos.line f.env = pure false := by exact rfl)
    (hbase : attributeBase (.Name n p) (Str.ofString "pop") f.env (eval (.Name n p) f.env) = eval (.Name n p) f.env := by exact rfl)
    (hline : (apos.endLine == pos.line) = true := by exact rfl) :
    Ex f x (.Expr (.Call (.Attribute (.Name n p) (Str.ofString "pop") apos) [] [] pos) spos :: rest) Q := .cons fun s O =>
  wpAny_Expr_any (wpAny_Call_method hbase rfl hline PySem.F.plainAttrs_list PySem.F.slot_list_pop PySem.F.type_list_pop (wpN (O.readP hat) fun v s₁ ⟨e1, e2⟩ => by
    subst e1 e2
    obtain ⟨⟨vs, k, hp, hd⟩, _⟩ := O.led _ hl.mem
    refine ⟨⟨_, hp, rfl⟩, fun b e => by cases e; exact ⟨_, hp, rfl⟩, ?_⟩
    have e1 := hd.length
    have hpos : 0 < vs.length := by rw [e1]; exact List.length_pos_iff.mpr hne
    refine PySem.P.pop_list (y := vs[vs.length - 1]) hp (by simp) ?_ (by rw [List.size_toArray, e1]; exact hn)
    obtain ⟨k', hp'⟩ := upd_PL (ws := vs.dropLast) (g := fun xs => xs.eraseIdxIfInBounds (vs.toArray.size - 1)) hp (by
      rw [List.size_toArray, Array.eraseIdxIfInBounds, dif_pos (by rw [List.size_toArray]; omega)]
      apply Array.ext'
      simp [List.eraseIdx_length_sub_one])
    exact hr.run _ (O.mut hl (Heap.SameBut.update ..) hp' hd.dropLast))) hi hs

theorem set_last {α : Type} : ∀ (vs : List α) (v : α), vs ≠ [] → vs.set (vs.length - 1) v = vs.dropLast ++ [v]
  | [], _, h => absurd rfl h
  | [a], v, _ => rfl
  | a :: b :: r, v, _ => by
    have := set_last (b :: r) v (by simp)
    simp only [List.length_cons, Nat.add_sub_cancel, List.dropLast_cons₂, List.cons_append] at this ⊢
    rw [List.set_cons_succ, this]
theorem setItem_last {W : Wd} {A : Around} {s : Shared} {l : Addr} {vs : List Value} {k : Nat} {t : Tok} {v : Value} {Q : Unit → Shared → Prop} (hp : PL s.heap l vs k) (hne : vs ≠ []) (hn : vs.length ≤ sizeLine)
    (hQ : Q () { s with heap := s.heap.update l (Obj.mapSeq (·.setIfInBounds (vs.length - 1) v)) }) : wpAny W.M A (setItem (.ref l) (.int (-1) t) v) Q No s := by
  have hl := hp.isList
  have hpos : 0 < vs.length := List.length_pos_iff.mpr hne
  rw [sizeLine_eq] at hn
  unfold setItem
  try with_reducible refine wpAny_holding ?_
  first | refine wpAny_bind (wpAny_pure ?_) | skip
  refine wpAny_bind (wpAny_sequenceKey hl.typeIs (by decide) ?_)
  refine wpAny_bind (wpAny_callSpecial?_slot (name := Str.ofString "__setitem__") hl.typeIs slot_list_setitem
    (wpAny_call_entry slot_list_setitem hl.typeIs entry_list_setitem ?_ (args_list_setitem _ _ _)))
  show wpAny _ _ (Builtin.List.listSubscript? (.int (-1) t) >>= _) _ _ s
  refine wpAny_bind (wpAny_listSubscript_int (fitsIndex_neg (by decide) (by decide)) ?_)
  have hidx := seqIndex_neg (k := -1) (n := vs.toArray.size) (by decide) (by rw [List.size_toArray]; omega)
  show wpAny _ _ ((Builtin.List.listItems (.ref l) >>= fun xs => pure ((seqIndex? (Int.negSucc 0) xs.size).bind fun i => xs[i]?.map (i, ·))) >>= _) _ _ s
  refine wpAny_bind (wpAny_bind ?_)
  show wpAny _ _ (seqItems? (.ref l) >>= _) _ _ s
  refine wpAny_bind (wpAny_seqItems hp rfl (wpAny_pure (wpAny_pure ?_)))
  rw [show (Int.negSucc 0) = -1 from rfl, hidx]
  have e : ((-1 : Int) + vs.toArray.size).toNat = vs.length - 1 := by rw [List.size_toArray]; omega
  have hx : vs.toArray[vs.length - 1]? = some vs[vs.length - 1] := by simp
  simp only [Option.bind_some, e, hx, Option.map_some]
  show wpAny _ _ (setSeqItemAt l (vs.length - 1) v >>= _) _ _ s
  refine wpAny_bind (wpAny_setSeqItemAt hp rfl ?_)
  first
    | exact wpAny_bind (wpAny_pure (wpAny_pure ⟨.none, rfl, wpAny_pure hQ⟩))
    | exact wpAny_pure ⟨.none, rfl, wpAny_pure hQ⟩

theorem Ex.setLast {n : Str} {p p1 p2 ps pos : Pos} {c : Nat} {e : Expr} {rest : List Stmt} {a : Addr} {ds : List PyData} {d : PyData} {l' : List Res} {Q : Flow → Shared → Prop} (hat : At f.nm x.vs n (.ptr a)) (hl : LPut a ds (ds.dropLast ++ [d]) x.led l')
    (h : Ev f x e d) (hne : ds ≠ []) (hn : ds.length ≤ sizeLine) (hr : Ex f { x with led := l' } rest Q)
    (hs : swapsWith e (some (.Subscript (.Name n p) (.UnaryOp .USub (.Constant (.int 1) c p1) p2) ps)) pos.line f.env = pure false := by exact rfl) :
    Ex f x (.Assign [.Subscript (.Name n p) (.UnaryOp .USub (.Constant (.int 1) c p1) p2) ps] e pos :: rest) Q := .cons fun s O =>
  wpAny_Assign_Subscript (wpN (h.run s O) fun v s₁ ⟨k1, r1⟩ => wpN ((O.step k1).readP hat) fun o s₂ ⟨e1, e2⟩ => by
    subst e1 e2
    have O₁ := O.step k1
    refine wpN ((Ev.neg (Ev.int (i := 1))).run _ O₁) fun i s₂ ⟨k2, r2⟩ => ?_
    obtain ⟨t, rfl⟩ := r2.int_inv
    have O₂ := O₁.step k2
    obtain ⟨⟨vs, k, hp, hd⟩, _⟩ := O₂.led _ hl.mem
    have e1 := hd.length
    have hv : vs ≠ [] := fun q => hne (by rw [q] at e1; exact List.length_eq_zero_iff.mp e1.symm)
    refine setItem_last hp hv (by rw [e1]; exact hn) ?_
    obtain ⟨k', hp'⟩ := upd_PL (ws := vs.dropLast ++ [v]) (g := fun xs => xs.setIfInBounds (vs.length - 1) v) hp (by
      apply Array.ext'
      have : 0 < vs.length := List.length_pos_iff.mpr hv
      rw [Array.toList_setIfInBounds]
      simp only []
      exact set_last vs v hv)
    exact hr.run _ (O₂.mut hl (Heap.SameBut.update ..) hp' (hd.dropLast.append (.one (r1.ext (hid_ext k2.ext)))))) hs
end
end Mine
end
section
open PySem PySem.W PyProof.Rows PySem.Spec
set_option Elab.async false
set_option linter.all false
set_option maxRecDepth 100000
namespace Mine

structure Itr (W : Wd) (tgt : Expr) (hz : Heap) (I : Addr) (fp : List Addr) (ds : List PyData) (St : Nat → Heap → Prop) : Prop where
  frame : ∀ k h h', St k h → (∀ b ∈ fp, ∀ o, h.get? b = some o → h'.get? b = some o) → St k h'
  live : ∀ k h, St k h → ∀ b ∈ fp, ∃ o, h.get? b = some o
  next : ∀ A k s bad d, A.handled = none → ds[k]? = some d → St k s.heap → (∀ b o, hz.get? b = some o → s.heap.get? b = some o ∧ b ∉ bad) → (∀ b ∈ fp, b ∈ bad) → (∀ b ∈ bad, ∃ o, s.heap.get? b = some o) →
    wpAny W.M A (pyNext (.ref I)) (fun r s₁ => ∃ v, r = some v ∧ wpAny W.M A (letOwnedTupleGo tgt (.ref I) v) (fun _ s' => ∃ h t, s' = { s with heap := h, toks := t } ∧
      (∀ b o, b ∉ fp → s.heap.get? b = some o → h.get? b = some o) ∧ St (k + 1) h ∧ Rd (hideAll h bad) v d) No s₁) No s
  stop : ∀ A s, A.handled = none → St ds.length s.heap → (∀ b o, hz.get? b = some o → s.heap.get? b = some o) →
    wpAny W.M A (pyNext (.ref I)) (fun r s' => ∃ h t, r = none ∧ s' = { s with heap := h, toks := t } ∧ (∀ b o, b ∉ fp → s.heap.get? b = some o → h.get? b = some o)) No s
  self : ∀ A k s, St k s.heap → wpAny W.M A (pyIter (.ref I)) (fun v s' => v = .ref I ∧ s' = s) No s

noncomputable def Iter (f : Fx) (x : Sx) (tgt e : Expr) (ds : List PyData) : Prop := Bx (∀ s, Ok f x s →
  wpAny f.W.M f.A (eval e f.env) (fun v s₁ => wpAny f.W.M f.A (pyIter v) (fun it s₂ => ∃ I fp St, it = .ref I ∧ Step s s₂ ∧ (∀ b ∈ fp, s.heap.get? b = none) ∧ fp.Nodup ∧
    Itr f.W tgt (hideAll s₂.heap (fp ++ x.bad)) I fp ds St ∧ St 0 s₂.heap) No s₁) No s)

section
variable {f : Fx} {x : Sx} {s : Shared}

theorem Ok.weakHz (O : Ok f x s) {hz : Heap} (k : Ext hz x.hz) : Ok f { x with hz := hz } s :=
  ⟨O.kind, O.glo, O.bui, O.room, O.wok, O.nd, O.knd, O.gk, O.cellF, O.cbB, O.same, fun b o e => O.hz b o (k b o e), O.live, O.locF, O.locB, O.cell, O.inj, O.led, O.ledNd, O.vars⟩
theorem Ok.hzSub (O : Ok f x s) : Ext x.hz (hideAll s.heap x.bad) := fun b o e => hid_iff.mpr (O.hz b o e)

inductive Forget : List Slot → List Slot → Prop
  | nil {vs} : Forget vs []
  | keep {sl vs ws} : Forget vs ws → Forget (sl :: vs) (sl :: ws)
  | drop {sl vs ws} : Forget vs ws → Forget (sl :: vs) (.no :: ws)
theorem Forget.get {vs ws : List Slot} (h : Forget vs ws) : ∀ (i : Nat) sl, ws[i]? = some sl → sl = .no ∨ vs[i]? = some sl := by
  induction h with
  | nil => intro i sl e; simp at e
  | keep _ ih =>
    intro i sl e
    cases i with
    | zero => exact .inr e
    | succ i => exact ih i sl (by simpa using e)
  | drop _ ih =>
    intro i sl e
    cases i with
    | zero => simp at e; exact .inl e.symm
    | succ i => exact ih i sl (by simpa using e)
theorem Ok.forget (O : Ok f x s) {vs : List Slot} (h : Forget x.vs vs) : Ok f { x with vs := vs } s := by
  obtain ⟨m, a, b⟩ := O.vars
  refine ⟨O.kind, O.glo, O.bui, O.room, O.wok, O.nd, O.knd, O.gk, O.cellF, O.cbB, O.same, O.hz, O.live, O.locF, O.locB, O.cell, O.inj, O.led, O.ledNd, m, a, fun i n sl e1 e2 => ?_⟩
  rcases h.get i sl e2 with rfl | e
  · trivial
  · exact b i n sl e1 e
theorem fresh_base (O : Ok f x s) {b : Addr} (h : s.heap.get? b = none) : f.base.heap.get? b = none := by
  cases q : f.base.heap.get? b with
  | none => rfl
  | some o => have := O.same.ext b o q; rw [h] at this; cases this

theorem Ok.enter (O : Ok f x s) {s' : Shared} {fp : List Addr} {P : Heap → Prop} (k : Step s s') (hf : ∀ b ∈ fp, s.heap.get? b = none) (nd : fp.Nodup) (hp : P s'.heap)
    (hc : ∀ h h', P h → (∀ b ∈ fp, ∀ o, h.get? b = some o → h'.get? b = some o) → P h') (hl : ∀ b ∈ fp, ∃ o, s'.heap.get? b = some o) :
    Ok f ⟨hideAll s'.heap (fp ++ x.bad), fp ++ x.bad, .prd fp P :: x.led, x.vs⟩ s' := by
  have nl : ∀ {b : Addr}, (∃ o, s.heap.get? b = some o) → b ∉ fp := fun ⟨o, e⟩ m => by rw [hf _ m] at e; cases e
  have hx : Ext (hideAll s.heap x.bad) (hideAll s'.heap (fp ++ x.bad)) := fun b o e => by
    obtain ⟨e1, e2⟩ := hid_iff.mp e
    exact hid_iff.mpr ⟨k.ext b o e1, fun m => (List.mem_append.mp m).elim (nl ⟨o, e1⟩) e2⟩
  obtain ⟨m, hns, hv⟩ := O.vars
  refine ⟨O.kind, O.glo, O.bui, O.room, O.wok, O.nd, O.knd, O.gk, O.cellF, fun b hb => ⟨List.mem_append_right _ (O.cbB b hb).1, (O.cbB b hb).2⟩, O.same.trans k, fun b o e => hid_iff.mp e, fun b hb => ?_, O.locF,
    List.mem_append_right _ O.locB, fun n c e => ?_, O.inj, fun r hr => ?_, ?_, m, hns.keeps k.ext, fun i n sl e1 e2 => ?_⟩
  · rcases List.mem_append.mp hb with h | h
    · exact hl b h
    · obtain ⟨o, e⟩ := O.live b h; exact ⟨o, k.ext b o e⟩
  · obtain ⟨b1, b2, ov, b3⟩ := O.cell n c e; exact ⟨List.mem_append_right _ b1, b2, ov, b3.keeps k.ext⟩
  · rcases List.mem_cons.mp hr with rfl | hr
    · refine ⟨⟨hp, hc⟩, fun b hb => ⟨List.mem_append_left _ hb, fresh_base O (hf b hb), fun q => ?_, fun n e => ?_⟩⟩
      · exact nl (O.live _ O.locB) (q ▸ hb)
      · obtain ⟨_, _, ov, o, e', _⟩ := O.cell n b e; exact nl ⟨o, e'⟩ hb
    · obtain ⟨r1, r2⟩ := O.led r hr
      refine ⟨?_, fun b hb => ⟨List.mem_append_right _ (r2 b hb).1, (r2 b hb).2⟩⟩
      cases r with
      | lst c es => obtain ⟨vs', k', q1, q2⟩ := r1; exact ⟨vs', k', k.ext _ _ q1, q2.ext hx⟩
      | prd fp' P' => exact ⟨r1.2 _ _ r1.1 fun b _ o e => k.ext b o e, r1.2⟩
  · rw [List.flatMap_cons]
    refine List.nodup_append.mpr ⟨nd, O.ledNd, fun a ha b hb e => ?_⟩
    subst e
    obtain ⟨r, hr, hm⟩ := List.mem_flatMap.mp hb
    exact nl (O.live a ((O.led r hr).2 a hm).1) ha
  · have := hv i n sl e1 e2
    cases sl with
    | no => trivial
    | val d => obtain ⟨u, b1, b2⟩ := this; exact ⟨u, b1.ext k.ext, b2.ext hx⟩
    | is P => obtain ⟨u, b1, b2⟩ := this; exact ⟨u, b1.ext k.ext, b2⟩
    | ptr b => exact look.ext k.ext this

theorem Ok.prd {hz : Heap} {bad fp : List Addr} {led : List Res} {vs : List Slot} {P P' : Heap → Prop} (O : Ok f ⟨hz, bad, .prd fp P :: led, vs⟩ s) {h : Heap} {t : Nat} (hx : ∀ b o, b ∉ fp → s.heap.get? b = some o → h.get? b = some o)
    (hl : ∀ b ∈ fp, ∃ o, h.get? b = some o) (hp : P' h) (hc : ∀ h h', P' h → (∀ b ∈ fp, ∀ o, h.get? b = some o → h'.get? b = some o) → P' h') : Ok f ⟨hz, bad, .prd fp P' :: led, vs⟩ { s with heap := h, toks := t } := by
  obtain ⟨_, r2⟩ := O.led _ (.head _)
  have r2' : ∀ a ∈ fp, a ∈ bad ∧ f.base.heap.get? a = none ∧ a ≠ f.env.locals ∧ ∀ n, f.env.cells.lookup n ≠ some a := r2
  have hxb : Ext (hideAll s.heap bad) (hideAll h bad) := hid_but fun b o nb e => hx b o (fun m => nb (r2' b m).1) e
  obtain ⟨m, hns, hv⟩ := O.vars
  have nd := O.ledNd
  simp only [List.flatMap_cons] at nd
  refine ⟨O.kind, O.glo, O.bui, O.room, O.wok, O.nd, O.knd, O.gk, O.cellF, O.cbB, ?_, fun b o e => ?_, fun b hb => ?_, O.locF, O.locB, fun n c e => ?_, O.inj, fun r hr => ?_, ?_, m, ?_, fun i n sl e1 e2 => ?_⟩
  · obtain ⟨h0, t0, e, k⟩ := O.same
    subst e
    exact ⟨h, t, rfl, fun b o e => hx b o (fun q => by rw [(r2' b q).2.1] at e; cases e) (k b o e)⟩
  · obtain ⟨e1, e2⟩ := O.hz b o e; exact ⟨hx b o (fun q => e2 (r2' b q).1) e1, e2⟩
  · by_cases q : b ∈ fp
    · exact hl b q
    · obtain ⟨o, e⟩ := O.live b hb; exact ⟨o, hx b o q e⟩
  · obtain ⟨b1, b2, ov, o, b3, b4⟩ := O.cell n c e; exact ⟨b1, b2, ov, o, hx c o (fun q => (r2' c q).2.2.2 n e) b3, b4⟩
  · rcases List.mem_cons.mp hr with rfl | hr
    · exact ⟨⟨hp, hc⟩, r2⟩
    · obtain ⟨r1, r3⟩ := O.led r (.tail _ hr)
      have dis : ∀ b ∈ r.fp, b ∉ fp := fun b hb q => (List.nodup_append.mp nd).2.2 b q b (List.mem_flatMap.mpr ⟨r, hr, hb⟩) rfl
      refine ⟨?_, r3⟩
      cases r with
      | lst c es => obtain ⟨vs', k', q1, q2⟩ := r1; exact ⟨vs', k', hx _ _ (dis c (.head _)) q1, q2.ext hxb⟩
      | prd fp' P'' => exact ⟨r1.2 _ _ r1.1 fun b hb o e => hx b o (dis b hb) e, r1.2⟩
  · simp only [List.flatMap_cons]; exact nd
  · obtain ⟨o, es, ep, e, r⟩ := hns
    exact ⟨o, es, ep, hx _ _ (fun q => (r2' _ q).2.2.1 rfl) e, r⟩
  · have lk : ∀ {u : Value}, look f.env s.heap m n u → look f.env h m n u := by
      intro u e
      rcases e with ⟨e1, e2⟩ | ⟨e1, c, e2, o, e3, e4⟩
      · exact .inl ⟨e1, e2⟩
      · exact .inr ⟨e1, c, e2, o, hx c o (fun q => (r2' c q).2.2.2 n e2) e3, e4⟩
    have := hv i n sl e1 e2
    cases sl with
    | no => trivial
    | val d => obtain ⟨u, b1, b2⟩ := this; exact ⟨u, lk b1, b2.ext hxb⟩
    | is P => obtain ⟨u, b1, b2⟩ := this; exact ⟨u, lk b1, b2⟩
    | ptr b => exact lk this

theorem Ok.leave {hz : Heap} {bad fp : List Addr} {led : List Res} {vs : List Slot} {P : Heap → Prop} (O : Ok f ⟨hz, bad, .prd fp P :: led, vs⟩ s) {h : Heap} {t : Nat} (hx : ∀ b o, b ∉ fp → s.heap.get? b = some o → h.get? b = some o) :
    Ok f ⟨hz, bad.filter (fun b => !fp.contains b), led, vs⟩ { s with heap := h, toks := t } := by
  obtain ⟨_, r2⟩ := O.led _ (.head _)
  have r2' : ∀ a ∈ fp, a ∈ bad ∧ f.base.heap.get? a = none ∧ a ≠ f.env.locals ∧ ∀ n, f.env.cells.lookup n ≠ some a := r2
  have hb : ∀ b, b ∈ bad.filter (fun b => !fp.contains b) ↔ b ∈ bad ∧ b ∉ fp := fun b => by simp [List.mem_filter]
  have hxb : Ext (hideAll s.heap bad) (hideAll h (bad.filter fun b => !fp.contains b)) := fun b o e => by
    obtain ⟨e1, e2⟩ := hid_iff.mp e
    exact hid_iff.mpr ⟨hx b o (fun m => e2 (r2' b m).1) e1, fun m => e2 ((hb b).mp m).1⟩
  obtain ⟨m, hns, hv⟩ := O.vars
  have nd := O.ledNd
  simp only [List.flatMap_cons] at nd
  refine ⟨O.kind, O.glo, O.bui, O.room, O.wok, O.nd, O.knd, O.gk, O.cellF, fun b hm => ⟨(hb b).mpr ⟨(O.cbB b hm).1, fun q => ?_⟩, (O.cbB b hm).2⟩, ?_, fun b o e => ?_, fun b hm => ?_, O.locF, (hb _).mpr ⟨O.locB, fun q => (r2' _ q).2.2.1 rfl⟩, fun n c e => ?_, O.inj, fun r hr => ?_, (List.nodup_append.mp nd).2.1, m, ?_, fun i n sl e1 e2 => ?_⟩
  · obtain ⟨o, e⟩ := (O.cbB b hm).2; rw [(r2' b q).2.1] at e; cases e
  · obtain ⟨h0, t0, e, k⟩ := O.same
    subst e
    exact ⟨h, t, rfl, fun b o e => hx b o (fun q => by rw [(r2' b q).2.1] at e; cases e) (k b o e)⟩
  · obtain ⟨e1, e2⟩ := O.hz b o e; exact ⟨hx b o (fun q => e2 (r2' b q).1) e1, fun m => e2 ((hb b).mp m).1⟩
  · obtain ⟨q1, q2⟩ := (hb b).mp hm
    obtain ⟨o, e⟩ := O.live b q1; exact ⟨o, hx b o q2 e⟩
  · obtain ⟨b1, b2, ov, o, b3, b4⟩ := O.cell n c e
    have nq : c ∉ fp := fun q => (r2' c q).2.2.2 n e
    exact ⟨(hb c).mpr ⟨b1, nq⟩, b2, ov, o, hx c o nq b3, b4⟩
  · obtain ⟨r1, r3⟩ := O.led r (.tail _ hr)
    have dis : ∀ b ∈ r.fp, b ∉ fp := fun b hb q => (List.nodup_append.mp nd).2.2 b q b (List.mem_flatMap.mpr ⟨r, hr, hb⟩) rfl
    refine ⟨?_, fun b hm => ⟨(hb b).mpr ⟨(r3 b hm).1, dis b hm⟩, (r3 b hm).2⟩⟩
    cases r with
    | lst c es => obtain ⟨vs', k', q1, q2⟩ := r1; exact ⟨vs', k', hx _ _ (dis c (.head _)) q1, q2.ext hxb⟩
    | prd fp' P'' => exact ⟨r1.2 _ _ r1.1 fun b hb o e => hx b o (dis b hb) e, r1.2⟩
  · obtain ⟨o, es, ep, e, r⟩ := hns
    exact ⟨o, es, ep, hx _ _ (fun q => (r2' _ q).2.2.1 rfl) e, r⟩
  · have lk : ∀ {u : Value}, look f.env s.heap m n u → look f.env h m n u := by
      intro u e
      rcases e with ⟨e1, e2⟩ | ⟨e1, c, e2, o, e3, e4⟩
      · exact .inl ⟨e1, e2⟩
      · exact .inr ⟨e1, c, e2, o, hx c o (fun q => (r2' c q).2.2.2 n e2) e3, e4⟩
    have := hv i n sl e1 e2
    cases sl with
    | no => trivial
    | val d => obtain ⟨u, b1, b2⟩ := this; exact ⟨u, lk b1, b2.ext hxb⟩
    | is P => obtain ⟨u, b1, b2⟩ := this; exact ⟨u, lk b1, b2⟩
    | ptr b => exact lk this

inductive Tgt (nm : List Str) (vs : List Slot) : Expr → PyData → List Str → List Slot → Prop
  | name {n p d vs'} : Put nm vs n (.val d) vs' → Tgt nm vs (.Name n p) d [n] vs'
  | names {es ns d ds k p vs'} : Names es ns → (d = .list ds ∨ d = .tuple ds) → Puts nm vs ns ds vs' → Tgt nm vs (.Tuple es k p) d ns vs'
theorem Tgt.ok {tgt : Expr} {d : PyData} {ns : List Str} {vs' : List Slot} {v : Value} (h : Tgt f.nm x.vs tgt d ns vs') (O : Ok f x s) (r : Rd (hideAll s.heap x.bad) v d) (hc : ∀ n ∈ ns, n ∈ f.sto) :
    wpAny f.W.M f.A (assign tgt f.env v) (fun _ s' => Ok f { x with vs := vs' } s') No s := by
  cases h with
  | name put => exact wpAny_assign_Name (wpN (O.store put r (hc _ (.head _))) fun _ s' h => h.1)
  | names hn hd put => exact unpackNames hn O hd r put hc
end
end Mine
end
section
open PySem PySem.W PyProof.Rows PySem.Spec
set_option Elab.async false
set_option linter.all false
set_option maxRecDepth 100000
namespace Mine

section
variable {f : Fx} {x : Sx}

theorem Ex.for {tgt e : Expr} {body rest : List Stmt} {pos : Pos} {ds : List PyData} {ns : List Str} {Q : Flow → Shared → Prop} (h : Iter f x tgt e ds) (J : Nat → List Slot → List Res → Prop) (D : List Slot → List Res → Prop)
    (h0 : J 0 x.vs x.led)
    (turn : ∀ k d vs led hz bad fp P, ds[k]? = some d → J k vs led → ∃ vs', Tgt f.nm vs tgt d ns vs' ∧ Ex f ⟨hz, bad, .prd fp P :: led, vs'⟩ body (fun fl s' => match fl with
      | .next | .cont => ∃ bad' vs'' led', J (k + 1) vs'' led' ∧ Ok f ⟨hz, bad', .prd fp P :: led', vs''⟩ s'
      | .brk => ∃ bad' vs'' led', D vs'' led' ∧ Ok f ⟨hz, bad', .prd fp P :: led', vs''⟩ s'
      | .ret v => Q (.ret v) s'))
    (stop : ∀ vs led, J ds.length vs led → D vs led)
    (after : ∀ vs led bad, D vs led → Ex f ⟨x.hz, bad, led, vs⟩ rest Q)
    (hns : ∀ n ∈ ns, n ∈ f.sto)
    (hs : ∀ v, foldedSetIterable e f.env v = pure v := by intro _; rfl) : Ex f x (.For tgt e body [] pos :: rest) Q := .cons fun s O =>
  wpAny_For (wpN (h.run s O) fun v s₁ h => wpN h fun it s₂ ⟨I, fp, St, e1, k, hf, nd, T, st0⟩ => by
    subst e1
    have O₂ := O.enter (P := St 0) k hf nd st0 (fun h h' a b => T.frame 0 h h' a b) (T.live 0 _ st0)
    have zsub : Ext x.hz (hideAll s₂.heap (fp ++ x.bad)) := fun b o e => by
      obtain ⟨e1, e2⟩ := O.hz b o e
      exact hid_iff.mpr ⟨k.ext b o e1, fun m => (List.mem_append.mp m).elim (fun m => by rw [hf b m] at e1; cases e1) e2⟩
    -- the loop
    refine codeAny_loop' rfl (fun n s' => ∃ i bad vs led, i ≤ ds.length ∧ n = ds.length - i ∧ J i vs led ∧ Ok f ⟨hideAll s₂.heap (fp ++ x.bad), bad, .prd fp (St i) :: led, vs⟩ s') ?_ ds.length
      ⟨0, fp ++ x.bad, x.vs, x.led, Nat.zero_le _, rfl, h0, O₂⟩
    rintro n s' ⟨i, bad, vs, led, hi, rfl, hJ, O'⟩
    show wpAny _ _ ((forTurn tgt (.ref I) body [] f.env).onRaise (fun x => do noteFrame x f.env; theTreesLotGoes x)) _ _ s'
    refine wpAny_noted ?_
    simp only [forTurn]
    have fpb : ∀ b ∈ fp, b ∈ bad := fun b hb => ((O'.led _ (.head _)).2 b hb).1
    refine wpAny_bind (wpAny_standAt (wpAny_bind (wpAny_onRaise ?_)))
    cases hd : ds[i]? with
    | none =>
      have hlen : i = ds.length := by have := List.getElem?_eq_none_iff.mp hd; omega
      subst hlen
      refine wpE (T.stop f.A s' O'.room.hd (O'.led _ (.head _)).1.1 fun b o e => (O'.hz b o e).1) fun r s₃ ⟨h', t', e1, e2, hx⟩ => ?_
      subst e1 e2
      refine wpAny_pure (.inr ⟨rfl, codeAny_block ?_⟩)
      exact wpAny_execs_nil ((after vs led _ (stop vs led hJ)).run _ ((O'.leave hx).weakHz zsub))
    | some d =>
      have hlt : i < ds.length := (List.getElem?_eq_some_iff.mp hd).1
      refine wpE (T.next f.A i s' bad d O'.room.hd hd (O'.led _ (.head _)).1.1 (fun b o e => O'.hz b o e) fpb O'.live) fun r s₃ ⟨v, e1, hg⟩ => ?_
      subst e1
      refine wpAny_bind (wpE hg fun _ s₄ ⟨h', t', e2, hx, hst, hr⟩ => ?_)
      subst e2
      obtain ⟨vs', tg, hb⟩ := turn i d vs led (hideAll s₂.heap (fp ++ x.bad)) bad fp (St (i + 1)) hd hJ
      have O₄ := O'.prd (h := h') (t := t') hx (T.live _ _ hst) hst (T.frame (i + 1))
      refine wpAny_bind (wpE (tg.ok (x := ⟨_, bad, _, vs⟩) O₄ hr hns) fun _ s₅ O₅ => ?_)
      refine wpAny_bind (wpE (hb.run s₅ O₅) fun fl s₆ hfl => ?_)
      cases fl with
      | next => obtain ⟨bad', vs'', led', j1, j2⟩ := hfl; exact wpAny_pure (.inl ⟨rfl, _, by omega, i + 1, bad', vs'', led', by omega, rfl, j1, j2⟩)
      | cont => obtain ⟨bad', vs'', led', j1, j2⟩ := hfl; exact wpAny_pure (.inl ⟨rfl, _, by omega, i + 1, bad', vs'', led', by omega, rfl, j1, j2⟩)
      | brk =>
        obtain ⟨bad', vs'', led', j1, j2⟩ := hfl
        exact wpAny_pure ((after vs'' led' _ j1).run _ ((j2.leave (h := s₆.heap) (t := s₆.toks) fun _ _ _ e => e).weakHz zsub))
      | ret u => exact wpAny_pure hfl) hs

theorem Ex.while {t : Expr} {body rest : List Stmt} {pos : Pos} {Q : Flow → Shared → Prop} (J : Nat → Sx → Prop) (D : Sx → Prop) (n : Nat) (h0 : J n x)
    (turn : ∀ n y, J n y → ∃ c, Tst f y t c ∧ (c = false → D y) ∧ (c = true → Ex f y body (fun fl s' => match fl with
      | .next | .cont => ∃ m y', m < n ∧ J m y' ∧ Ok f y' s'
      | .brk => ∃ y', D y' ∧ Ok f y' s'
      | .ret v => Q (.ret v) s')))
    (after : ∀ y, D y → Ex f y rest Q) : Ex f x (.While t body [] pos :: rest) Q := .cons fun s O =>
  wpAny_While (codeAny_whileLoop (fun n s' => ∃ y, J n y ∧ Ok f y s') (by
    rintro n s' ⟨y, hJ, O'⟩
    obtain ⟨c, ht, hf, hb⟩ := turn n y hJ
    refine wpE (ht.run s' O') fun u s₁ ⟨k, e⟩ => ?_
    subst e
    have O₁ := O'.step k
    cases u with
    | false => 
      simp only [Bool.false_eq_true, if_false]
      exact wpAny_execs_nil ((after y (hf rfl)).run s₁ O₁)
    | true =>
      simp only [if_true]
      refine wpE ((hb rfl).run s₁ O₁) fun fl s₂ h => ?_
      cases fl with
      | next => obtain ⟨m, y', a, b, c⟩ := h; exact ⟨m, a, y', b, c⟩
      | cont => obtain ⟨m, y', a, b, c⟩ := h; exact ⟨m, a, y', b, c⟩
      | brk => obtain ⟨y', a, b⟩ := h; exact (after y' a).run s₂ b
      | ret v => exact h) n ⟨x, h0, O⟩)
end
end Mine
end
section
open PySem PySem.W PyProof.Rows PySem.Spec
set_option Elab.async false
set_option linter.all false
set_option maxRecDepth 100000
namespace Mine

theorem szN {h : Heap} {a : Nat} {o : Obj} (e : h.get? a = some o) : @LT.lt Nat _ a h.objs.size := Heap.lt_size e
theorem letGo_plain {W : Wd} {A : Around} {s : Shared} {tgt : Expr} {I : Addr} {o : Obj} {T : String} {v : Value} {Q : Unit → Shared → Prop} (ho : s.heap.get? I = some o) (hc : o.cls = .type T)
    (hT : (["enumerate", "zip", "dict_itemiterator", "dict_reverseitemiterator", "odict_iterator", "itertools.zip_longest", "itertools.pairwise"].contains T) = false) (h : Q () s) : wpAny W.M A (letOwnedTupleGo tgt (.ref I) v) Q No s := by
  have key : ∀ a, wpAny W.M A (do
      let o ← load I
      match o.cls, o.data with
      | .type n, .fields vs =>
        if ["enumerate", "zip", "dict_itemiterator", "dict_reverseitemiterator", "odict_iterator", "itertools.zip_longest", "itertools.pairwise"].contains n && vs[0]? == some (rawInt a) then do
          rule "for.unpacks-the-owned-tuple"
          updateField I 0 .none
        else pure ()
      | _, _ => pure ()) Q No s := by
    intro a
    refine wpAny_bind (wpAny_load ho ?_)
    rw [hc]
    cases o.data with
    | fields vs =>
      show wpAny _ _ (if (_ && _) = true then _ else _) _ _ _
      rw [hT]
      exact wpAny_pure h
    | _ => exact wpAny_pure h
  cases tgt with
  | Tuple => cases v with
    | ref a => exact key a
    | _ => exact wpAny_pure h
  | List => cases v with
    | ref a => exact key a
    | _ => exact wpAny_pure h
  | _ => exact wpAny_pure h

section
variable {f : Fx} {x : Sx}

theorem Iter.list {tgt e : Expr} {ds : List PyData} (h : Ev f x e (.list ds)) : Iter f x tgt e ds := .bx fun s O =>
  wpN (h.run s O) fun v s₁ ⟨k, r⟩ => by
    obtain ⟨l, vs, n, rfl, hl, hr⟩ := r.list_inv
    have hl' : PL s₁.heap l vs n := (hid_iff.mp hl).1
    have O₁ := O.step k
    refine wpAny_pyIter_list hl'.isList ?_
    have kk := k.trans (.mkh (ext_push { cls := .type "list_iterator", data := .fields #[.ref l, .int 0 0] }))
    have lI : l ≠ s₁.heap.objs.size := Nat.ne_of_lt (Heap.lt_size hl')
    refine ⟨s₁.heap.objs.size, [s₁.heap.objs.size], fun i h => h.IsListIter s₁.heap.objs.size l i, rfl, kk, ?_, by simp, ?_, ⟨_, Heap.get?_push_size _ rfl, rfl, rfl⟩⟩
    · intro b hb
      rw [List.mem_singleton.mp hb]
      cases q : s.heap.get? s₁.heap.objs.size with
      | none => rfl
      | some o => exact absurd (Heap.lt_size (k.ext _ o q)) (Nat.lt_irrefl _)
    · have hz : ∀ b o, (hideAll s₁.heap x.bad).get? b = some o → (hideAll (s₁.heap.push { cls := .type "list_iterator", data := .fields #[.ref l, .int 0 0] }) ([s₁.heap.objs.size] ++ x.bad)).get? b = some o := fun b o e => by
        obtain ⟨e1, e2⟩ := hid_iff.mp e
        refine hid_iff.mpr ⟨ext_push _ b o e1, fun m => ?_⟩
        rcases List.mem_append.mp m with q | q
        · rw [List.mem_singleton.mp q] at e1; exact Nat.lt_irrefl _ (Heap.lt_size e1)
        · exact e2 q
      refine ⟨fun k h h' a b => a.at fun o e => b _ (.head _) o e, fun k h a b hb => ?_, ?_, ?_, ?_⟩
      · rw [List.mem_singleton.mp hb]; obtain ⟨o, e, _⟩ := a; exact ⟨o, e⟩
      · intro A k s' bad d hA hd hst hzb hfp hlv
        obtain ⟨u, hu, ru⟩ := hr.get hd
        have hl₂ : PL s'.heap l vs n := (hzb _ _ (hz _ _ hl)).1
        refine wpAny_pyNext_list_item hst hl₂.isList (x := u) (by simpa using hu) fun h' hit' hs' => ⟨u, rfl, ?_⟩
        obtain ⟨o, eo, ec, _⟩ := id hit'
        refine letGo_plain eo ec (by decide +kernel) ⟨h', s'.toks, rfl, fun b o nb e => (hs'.2 b fun q => nb (by simp [q])).trans e, hit', ?_⟩
        refine (ru.ext hz).ext fun b o e => ?_
        obtain ⟨e1, e2⟩ := hzb b o e
        exact hid_iff.mpr ⟨(hs'.2 b fun q => e2 (q ▸ hfp _ (.head _))).trans e1, e2⟩
      · intro A s' hA hst hzb
        have hl₂ : PL s'.heap l vs n := hzb _ _ (hz _ _ hl)
        refine wpAny_pyNext_list_end hA hst hl₂.isList (by simp [hr.length]) fun h' he' => ⟨h', s'.toks, rfl, rfl, fun b o nb e => he' b o (fun q => nb (by simp [q])) e⟩
      · intro A k s' hst
        exact wpAny_pyIter_listiter hst ⟨rfl, rfl⟩

theorem Iter.tuple {tgt e : Expr} {ds : List PyData} (h : Ev f x e (.tuple ds)) : Iter f x tgt e ds := .bx fun s O =>
  wpN (h.run s O) fun v s₁ ⟨k, r⟩ => by
    obtain ⟨l, vs, n, rfl, hl, hr⟩ := r.tuple_inv
    have hl' : PT s₁.heap l vs n := (hid_iff.mp hl).1
    have O₁ := O.step k
    refine iter_tuple hl'.isTup ?_
    have kk := k.trans (.mkh (ext_push { cls := .type "tuple_iterator", data := .fields #[.ref l, .int 0 0] }))
    have lI : l ≠ s₁.heap.objs.size := Nat.ne_of_lt (Heap.lt_size hl')
    refine ⟨s₁.heap.objs.size, [s₁.heap.objs.size], fun i h => IsTupIter h s₁.heap.objs.size l i, rfl, kk, ?_, by simp, ?_, ⟨_, Heap.get?_push_size _ rfl, rfl, rfl⟩⟩
    · intro b hb
      rw [List.mem_singleton.mp hb]
      cases q : s.heap.get? s₁.heap.objs.size with
      | none => rfl
      | some o => exact absurd (Heap.lt_size (k.ext _ o q)) (Nat.lt_irrefl _)
    · have hz : ∀ b o, (hideAll s₁.heap x.bad).get? b = some o → (hideAll (s₁.heap.push { cls := .type "tuple_iterator", data := .fields #[.ref l, .int 0 0] }) ([s₁.heap.objs.size] ++ x.bad)).get? b = some o := fun b o e => by
        obtain ⟨e1, e2⟩ := hid_iff.mp e
        refine hid_iff.mpr ⟨ext_push _ b o e1, fun m => ?_⟩
        rcases List.mem_append.mp m with q | q
        · rw [List.mem_singleton.mp q] at e1; exact Nat.lt_irrefl _ (Heap.lt_size e1)
        · exact e2 q
      refine ⟨fun k h h' a b => ?_, fun k h a b hb => ?_, ?_, ?_, ?_⟩
      · obtain ⟨o, e, r⟩ := a; exact ⟨o, b _ (.head _) o e, r⟩
      · rw [List.mem_singleton.mp hb]; obtain ⟨o, e, _⟩ := a; exact ⟨o, e⟩
      · intro A k s' bad d hA hd hst hzb hfp hlv
        obtain ⟨u, hu, ru⟩ := hr.get hd
        have hl₂ : PT s'.heap l vs n := (hzb _ _ (hz _ _ hl)).1
        refine next_tuple_item hst hl₂.isTup (x := u) (by simpa using hu) fun h' hit' hs' => ⟨u, rfl, ?_⟩
        obtain ⟨o, eo, ec, _⟩ := id hit'
        refine letGo_plain eo ec (by decide +kernel) ⟨h', s'.toks, rfl, fun b o nb e => (hs'.2 b fun q => nb (by simp [q])).trans e, hit', ?_⟩
        refine (ru.ext hz).ext fun b o e => ?_
        obtain ⟨e1, e2⟩ := hzb b o e
        exact hid_iff.mpr ⟨(hs'.2 b fun q => e2 (q ▸ hfp _ (.head _))).trans e1, e2⟩
      · intro A s' hA hst hzb
        have hl₂ : PT s'.heap l vs n := hzb _ _ (hz _ _ hl)
        refine next_tuple_end hA hst hl₂.isTup (by simp [hr.length]) fun h' he' => ⟨h', s'.toks, rfl, rfl, fun b o nb e => he' b o (fun q => nb (by simp [q])) e⟩
      · intro A k s' hst
        exact wpAny_pyIter_tupleiter hst ⟨rfl, rfl⟩

noncomputable def EvR (f : Fx) (x : Sx) (e : Expr) (a b c : Int) : Prop := Bx (∀ s, Ok f x s →
  wpAny f.W.M f.A (eval e f.env) (fun v s' => Step s s' ∧ ∃ r t u w, v = .ref r ∧ IsRange s'.heap r a b c t u w) No s)
noncomputable def rng (a c : Int) (n : Nat) : List PyData := (List.range n).map fun i : Nat => .int (a + (i : Int) * c)
theorem rng_get {a c : Int} {n i : Nat} {d : PyData} (h : (rng a c n)[i]? = some d) : i < n ∧ d = .int (a + i * c) := by
  unfold rng at h
  rw [List.getElem?_map] at h
  cases q : (List.range n)[i]? with
  | none => rw [q] at h; cases h
  | some j =>
    rw [q] at h
    obtain ⟨h1, h2⟩ := List.getElem?_eq_some_iff.mp q
    simp at h1 h2 h
    subst h2; exact ⟨h1, h.symm⟩
theorem rng_len {a c : Int} {n : Nat} : (rng a c n).length = n := by simp [rng]

theorem EvR.one {n : Str} {p pos} {e : Expr} {b : Int} (hc : EvP f x (.Name n p) fun _ u => u = .type "range") (h : Ev f x e (.int b))
    (he : starEach [e] f.env = [(false, eval e f.env)] := by exact rfl) : EvR f x (.Call (.Name n p) [e] [] pos) 0 b 1 := .bx fun s O =>
  PyProof.Rows.Call_Name rfl (wpN (hc.run s O) fun u s₁ ⟨k1, e1⟩ => by
    subst e1
    refine PyProof.Rows.callWith_type1 (wpN ((EvL.cons h .nil he).run s₁ pos (O.step k1)) fun vs s₂ ⟨k2, r⟩ => ?_) he rfl
    obtain ⟨v, vs, rfl, r1, r2⟩ := r.cons_inv
    rw [r2.nil_inv]
    obtain ⟨t, rfl⟩ := r1.int_inv
    exact call_range_1 ⟨(k1.trans k2).trans (.mk' (ext_push _)), _, _, _, _, rfl, IsRange.new ..⟩)
theorem EvR.three {n : Str} {p pos} {e1 e2 e3 : Expr} {a b c : Int} (hc : EvP f x (.Name n p) fun _ u => u = .type "range") (h1 : Ev f x e1 (.int a)) (h2 : Ev f x e2 (.int b)) (h3 : Ev f x e3 (.int c)) (h0 : c ≠ 0) (hl : c.natAbs.log2 < 9000)
    (he : starEach [e1, e2, e3] f.env = [(false, eval e1 f.env), (false, eval e2 f.env), (false, eval e3 f.env)] := by exact rfl) (he2 : starEach [e2, e3] f.env = [(false, eval e2 f.env), (false, eval e3 f.env)] := by exact rfl) (he3 : starEach [e3] f.env = [(false, eval e3 f.env)] := by exact rfl) : EvR f x (.Call (.Name n p) [e1, e2, e3] [] pos) a b c := .bx fun s O =>
  PyProof.Rows.Call_Name rfl (wpN (hc.run s O) fun u s₁ ⟨k1, e1⟩ => by
    subst e1
    refine PyProof.Rows.callWith_type1 (wpN ((EvL.cons h1 (.cons h2 (.cons h3 .nil he3) (by rw [he2, he3])) (by rw [he, he2])).run s₁ pos (O.step k1)) fun vs s₂ ⟨k2, r⟩ => ?_) (by rw [he, he2]) (by rw [he2]; rfl)
    obtain ⟨v, vs, rfl, r1, r2⟩ := r.cons_inv
    obtain ⟨v2, vs, rfl, r3, r4⟩ := r2.cons_inv
    obtain ⟨v3, vs, rfl, r5, r6⟩ := r4.cons_inv
    rw [r6.nil_inv]
    obtain ⟨t, rfl⟩ := r1.int_inv
    obtain ⟨t2, rfl⟩ := r3.int_inv
    obtain ⟨t3, rfl⟩ := r5.int_inv
    exact call_range_3 h0 ⟨(k1.trans k2).trans (.mk' (ext_push _)), _, _, _, _, rfl, IsRange.new ..⟩ (.inl (PyProof.noPylong_of_log2 hl)))

theorem Iter.range {tgt e : Expr} {a b c : Int} {n : Nat} (h : EvR f x e a b c) (hsm : Builtin.Range.small a b c = true) (hn : Builtin.Range.rangeSize a b c = n) : Iter f x tgt e (rng a c n) := .bx fun s O =>
  wpN (h.run s O) fun v s₁ ⟨k, r, t, u, w, e, hr⟩ => by
    subst e
    refine wpAny_pyIter_range hr hsm ?_
    have kk := k.trans (.mkh (ext_push { cls := .type "range_iterator", data := .fields #[rawInt a, rawInt (Builtin.Range.rangeSize a b c), rawInt c] }))
    refine ⟨s₁.heap.objs.size, [s₁.heap.objs.size], fun i h => IsRangeIter h s₁.heap.objs.size (a + i * c) (n - i) c, rfl, kk, ?_, by simp, ?_, ?_⟩
    · intro b' hb
      rw [List.mem_singleton.mp hb]
      cases q : s.heap.get? s₁.heap.objs.size with
      | none => rfl
      | some o => exact absurd (Heap.lt_size (k.ext _ o q)) (Nat.lt_irrefl _)
    · refine ⟨fun k h h' a b => b _ (.head _) _ a, fun k h a b hb => ?_, ?_, ?_, ?_⟩
      · rw [List.mem_singleton.mp hb]; exact ⟨_, a⟩
      · intro A k s' bad d hA hd hst hzb hfp hlv
        obtain ⟨hk, rfl⟩ := rng_get hd
        refine wpAny_pyNext_range_item hst (by omega) fun h' hit' hs' => ⟨_, rfl, ?_⟩
        refine letGo_plain hit' rfl (by decide +kernel) ⟨h', s'.toks + 1, rfl, fun b o nb e => (hs'.2 b fun q => nb (by simp [q])).trans e, ?_, .int _ _⟩
        have e1 : a + (k : Int) * c + c = a + ((k + 1 : Nat) : Int) * c := by rw [Int.natCast_add, Int.add_mul]; omega
        have e2 : ((n : Int) - k) - 1 = n - ((k + 1 : Nat) : Int) := by omega
        rw [e1, e2] at hit'
        exact hit'
      · intro A s' hA hst hzb
        rw [rng_len] at hst
        refine wpAny_pyNext_range_end hA hst (by omega) fun h' he' => ⟨h', s'.toks, rfl, rfl, fun b o nb e => he' b o (fun q => nb (by simp [q])) e⟩
      · intro A k s' hst
        exact wpAny_pyIter_rangeiter hst ⟨rfl, rfl⟩
    · have : IsRangeIter (s₁.heap.push { cls := .type "range_iterator", data := .fields #[rawInt a, rawInt (Builtin.Range.rangeSize a b c), rawInt c] }) s₁.heap.objs.size a (Builtin.Range.rangeSize a b c) c := Heap.get?_push_size _ rfl
      show IsRangeIter _ _ (a + (0 : Nat) * c) ((n : Int) - (0 : Nat)) c
      rw [show a + ((0 : Nat) : Int) * c = a by simp, show (n : Int) - ((0 : Nat) : Int) = Builtin.Range.rangeSize a b c by rw [hn]; simp]
      exact this

noncomputable def enum (ds : List PyData) : List PyData := ds.zipIdx.map fun p => .tuple [.int p.2, p.1]
theorem enum_get {ds : List PyData} {i : Nat} {d : PyData} (h : (enum ds)[i]? = some d) : ∃ e, ds[i]? = some e ∧ d = .tuple [.int i, e] := by
  unfold enum at h
  rw [List.getElem?_map, List.getElem?_zipIdx] at h
  cases q : ds[i]? with
  | none => rw [q] at h; cases h
  | some e => rw [q] at h; simp at h; exact ⟨e, rfl, h.symm⟩
theorem Iter.enum {es : List Expr} {k0 : Nat} {tp : Pos} {n : Str} {p pos} {e : Expr} {ds : List PyData} (hc : EvP f x (.Name n p) fun _ u => u = .type "enumerate") (h : Ev f x e (.list ds))
    (he : starEach [e] f.env = [(false, eval e f.env)] := by exact rfl) : Iter f x (.Tuple es k0 tp) (.Call (.Name n p) [e] [] pos) (enum ds) := .bx fun s O =>
  PyProof.Rows.Call_Name rfl (wpN (hc.run s O) fun u s₁ ⟨k1, e1⟩ => by
    subst e1
    refine PyProof.Rows.callWith_type1 (wpN ((EvL.cons h .nil he).run s₁ pos (O.step k1)) fun vs s₂ ⟨k2, r⟩ => ?_) he rfl
    obtain ⟨v, vs, rfl, r1, r2⟩ := r.cons_inv
    rw [r2.nil_inv]
    obtain ⟨l, vs, n, rfl, hl, hr⟩ := r1.list_inv
    have hl' : PL s₂.heap l vs n := (hid_iff.mp hl).1
    refine call_enumerate_list hl'.isList fun h₁ hen hit hsz hk => ?_
    refine wpAny_pyIter_enum hen ?_
    have k3 := k1.trans k2
    have kk : Step s { s₂ with heap := h₁ } := k3.trans (.mkh hk)
    have fr : ∀ j, s.heap.get? (s₂.heap.objs.size + j) = none := fun j => by
      cases q : s.heap.get? (s₂.heap.objs.size + j) with
      | none => rfl
      | some o => have := szN (k3.ext _ o q); omega
    generalize hE : s₂.heap.objs.size + 1 = en at *
    generalize hI : s₂.heap.objs.size = ti at *
    have ne : en ≠ ti := neN (by omega)
    refine ⟨en, [en, ti], fun i h => (∃ old, IsEnum h en ti i old) ∧ h.IsListIter ti l i, rfl, kk, ?_, by simp [ne], ?_, ⟨_, hen⟩, hit⟩
    · intro b hb
      rcases List.mem_cons.mp hb with rfl | hb
      · rw [← hE]; exact fr 1
      · rw [List.mem_singleton.mp hb]; exact fr 0
    · have hz : ∀ b o, (hideAll s₂.heap x.bad).get? b = some o → (hideAll h₁ ([en, ti] ++ x.bad)).get? b = some o := fun b o e => by
        obtain ⟨e1, e2⟩ := hid_iff.mp e
        have := szN e1
        refine hid_iff.mpr ⟨hk b o e1, fun m => ?_⟩
        rcases List.mem_append.mp m with q | q
        · simp only [List.mem_cons, List.not_mem_nil, or_false] at q
          have q' : ∀ j, b = s₂.heap.objs.size + j → False := fun j q => by rw [q] at this; omega
          first
            | (rcases q with q | q
               · exact q' 1 (q.trans (hE.symm.trans (by rw [hI])))
               · exact q' 0 (q.trans hI.symm))
            | (rcases q with q | q | q | q | q
               · exact q' 4 q
               · exact q' 2 q
               · exact q' 3 q
               · exact q' 0 q
               · exact q' 1 q)
        · exact e2 q
      refine ⟨fun k h h' a b => ?_, fun k h a b hb => ?_, ?_, ?_, ?_⟩
      · obtain ⟨⟨old, a⟩, c⟩ := a; exact ⟨⟨old, b _ (by simp) _ a⟩, c.at fun o e => b _ (by simp) o e⟩
      · obtain ⟨⟨old, a⟩, o, e, _⟩ := a
        rcases List.mem_cons.mp hb with rfl | hb
        · exact ⟨_, a⟩
        · rw [List.mem_singleton.mp hb]; exact ⟨o, e⟩
      · intro A k s' bad d hA hd hst hzb hfp hlv
        obtain ⟨d', hd', rfl⟩ := enum_get hd
        obtain ⟨u, hu, ru⟩ := hr.get hd'
        obtain ⟨⟨old, st1⟩, st2⟩ := hst
        have hl₂ : PL s'.heap l vs n := (hzb _ _ (hz _ _ hl)).1
        refine wpAny_pyNext_enum_item st1 st2 hl₂.isList (x := u) (by simpa using hu) ne fun h' ho hit' ht hsz' hx => ⟨_, rfl, ?_⟩
        refine wpAny_letOwnedTupleGo_enum ho fun h'' ho' hs' => ⟨h'', s'.toks + 1, rfl, fun b o nb e => ?_, ⟨⟨u, ?_⟩, ?_⟩, ?_⟩
        · exact (hs'.2 b fun q => nb (by simp [q])).trans (hx b o (fun q => nb (by simp [q])) (fun q => nb (by simp [q])) e)
        · rw [show ((k : Int) + 1) = ((k + 1 : Nat) : Int) by omega] at ho'; exact ho'
        · exact hit'.at fun o e => (hs'.2 ti (Ne.symm ne)).trans e
        · have nb : s'.heap.objs.size ∉ bad := fun m => by obtain ⟨o, e⟩ := hlv _ m; exact Nat.lt_irrefl _ (Heap.lt_size e)
          have e1 : en < s'.heap.objs.size := Heap.lt_size st1
          refine .tuple (vs := [.int k s'.toks, u]) (n := 0) (hid_iff.mpr ⟨(hs'.2 _ (Nat.ne_of_gt e1)).trans ht, nb⟩) (.cons (.int _ _) (.one ?_))
          refine (ru.ext hz).ext fun b o e => ?_
          obtain ⟨e2, e3⟩ := hzb b o e
          exact hid_iff.mpr ⟨(hs'.2 b fun q => e3 (q ▸ hfp _ (by simp))).trans (hx b o (fun q => e3 (q ▸ hfp _ (by simp))) (fun q => e3 (q ▸ hfp _ (by simp))) e2), e3⟩
      · intro A s' hA hst hzb
        obtain ⟨⟨old, st1⟩, st2⟩ := hst
        have hl₂ : PL s'.heap l vs n := hzb _ _ (hz _ _ hl)
        refine wpAny_pyNext_enum_end hA st1 st2 hl₂.isList (by simp [hr.length, Mine.enum]) fun h' he' => ⟨h', s'.toks, rfl, rfl, fun b o nb e => he' b o (fun q => nb (by simp [q])) e⟩
      · intro A k s' hst
        exact wpAny_pyIter_enum hst.1.choose_spec ⟨rfl, rfl⟩)

noncomputable def zips (as bs : List PyData) : List PyData := (as.zip bs).map fun p => .tuple [p.1, p.2]
theorem zips_get {as bs : List PyData} {i : Nat} {d : PyData} (h : (zips as bs)[i]? = some d) : ∃ a b, as[i]? = some a ∧ bs[i]? = some b ∧ d = .tuple [a, b] := by
  unfold zips at h
  rw [List.getElem?_map] at h
  cases q : (as.zip bs)[i]? with
  | none => rw [q] at h; cases h
  | some p =>
    rw [q] at h
    obtain ⟨a, b⟩ := p
    have := List.getElem?_zip_eq_some.mp q
    simp at h
    exact ⟨a, b, this.1, this.2, h.symm⟩
theorem Iter.zip {es : List Expr} {k0 : Nat} {tp : Pos} {n : Str} {p pos} {e1 e2 : Expr} {as bs : List PyData} (hc : EvP f x (.Name n p) fun _ u => u = .type "zip") (h1 : Ev f x e1 (.list as)) (h2 : Ev f x e2 (.list bs))
    (he : starEach [e1, e2] f.env = [(false, eval e1 f.env), (false, eval e2 f.env)] := by exact rfl) (he2 : starEach [e2] f.env = [(false, eval e2 f.env)] := by exact rfl) : Iter f x (.Tuple es k0 tp) (.Call (.Name n p) [e1, e2] [] pos) (zips as bs) := .bx fun s O =>
  PyProof.Rows.Call_Name rfl (wpN (hc.run s O) fun u s₁ ⟨k1, e1⟩ => by
    subst e1
    refine PyProof.Rows.callWith_type1 (wpN ((EvL.cons h1 (.cons h2 .nil he2) (by rw [he, he2])).run s₁ pos (O.step k1)) fun vs s₂ ⟨k2, r⟩ => ?_) (by rw [he, he2]) (by rw [he2]; rfl)
    obtain ⟨v, vs, rfl, r1, r2⟩ := r.cons_inv
    obtain ⟨v2, vs, rfl, r3, r4⟩ := r2.cons_inv
    rw [r4.nil_inv]
    obtain ⟨l1, us, n1, rfl, hl1, hr1⟩ := r1.list_inv
    obtain ⟨l2, ws, n2, rfl, hl2, hr2⟩ := r3.list_inv
    have hl1' : PL s₂.heap l1 us n1 := (hid_iff.mp hl1).1
    have hl2' : PL s₂.heap l2 ws n2 := (hid_iff.mp hl2).1
    refine call_zip_2 hl1'.isList hl2'.isList fun h₁ hzp hTI hTO hi1 hi2 hsz hk => ?_
    refine wpAny_pyIter_zip hzp ?_
    have k3 := k1.trans k2
    have kk : Step s { s₂ with heap := h₁ } := k3.trans (.mkh hk)
    have fr : ∀ j, s.heap.get? (s₂.heap.objs.size + j) = none := fun j => by
      cases q : s.heap.get? (s₂.heap.objs.size + j) with
      | none => rfl
      | some o => have := szN (k3.ext _ o q); omega
    have b1 := szN hl1'
    have b2 := szN hl2'
    have D : ZipApart (s₂.heap.objs.size + 4) (s₂.heap.objs.size + 2) (s₂.heap.objs.size + 3) s₂.heap.objs.size (s₂.heap.objs.size + 1) l1 l2 := by constructor <;> (refine neN ?_; omega)
    refine ⟨s₂.heap.objs.size + 4, [s₂.heap.objs.size + 4, s₂.heap.objs.size + 2, s₂.heap.objs.size + 3, s₂.heap.objs.size, s₂.heap.objs.size + 1],
      fun i h => IsZip h (s₂.heap.objs.size + 4) (s₂.heap.objs.size + 2) (s₂.heap.objs.size + 3) .none ∧ IsPair h (s₂.heap.objs.size + 2) (.ref s₂.heap.objs.size) (.ref (s₂.heap.objs.size + 1)) ∧
        (∃ a b, IsPair h (s₂.heap.objs.size + 3) a b) ∧ h.IsListIter s₂.heap.objs.size l1 i ∧ h.IsListIter (s₂.heap.objs.size + 1) l2 i, rfl, kk, ?_, by simp, ?_, hzp, hTI, ⟨_, _, hTO⟩, hi1, hi2⟩
    · intro b hb
      simp only [List.mem_cons, List.not_mem_nil, or_false] at hb
      rcases hb with rfl | rfl | rfl | rfl | rfl
      · exact fr 4
      · exact fr 2
      · exact fr 3
      · exact fr 0
      · exact fr 1
    · have hz : ∀ b o, (hideAll s₂.heap x.bad).get? b = some o → (hideAll h₁ ([s₂.heap.objs.size + 4, s₂.heap.objs.size + 2, s₂.heap.objs.size + 3, s₂.heap.objs.size, s₂.heap.objs.size + 1] ++ x.bad)).get? b = some o := fun b o e => by
        obtain ⟨e1, e2⟩ := hid_iff.mp e
        have := szN e1
        refine hid_iff.mpr ⟨hk b o e1, fun m => ?_⟩
        rcases List.mem_append.mp m with q | q
        · simp only [List.mem_cons, List.not_mem_nil, or_false] at q
          have q' : ∀ j, b = s₂.heap.objs.size + j → False := fun j q => by rw [q] at this; omega
          first
            | (rcases q with q | q
               · exact q' 1 (q.trans (hE.symm.trans (by rw [hI])))
               · exact q' 0 (q.trans hI.symm))
            | (rcases q with q | q | q | q | q
               · exact q' 4 q
               · exact q' 2 q
               · exact q' 3 q
               · exact q' 0 q
               · exact q' 1 q)
        · exact e2 q
      refine ⟨fun k h h' a b => ?_, fun k h a b hb => ?_, ?_, ?_, ?_⟩
      · obtain ⟨q1, q2, ⟨c, d, q3⟩, q4, q5⟩ := a
        exact ⟨b _ (by simp) _ q1, b _ (by simp) _ q2, ⟨c, d, b _ (by simp) _ q3⟩, q4.at fun o e => b _ (by simp) o e, q5.at fun o e => b _ (by simp) o e⟩
      · obtain ⟨q1, q2, ⟨c, d, q3⟩, ⟨o4, q4, _⟩, ⟨o5, q5, _⟩⟩ := a
        simp only [List.mem_cons, List.not_mem_nil, or_false] at hb
        rcases hb with rfl | rfl | rfl | rfl | rfl
        · exact ⟨_, q1⟩
        · exact ⟨_, q2⟩
        · exact ⟨_, q3⟩
        · exact ⟨_, q4⟩
        · exact ⟨_, q5⟩
      · intro A k s' bad d hA hd hst hzb hfp hlv
        obtain ⟨a, b, ha, hb, rfl⟩ := zips_get hd
        obtain ⟨u, hu, ru⟩ := hr1.get ha
        obtain ⟨v, hv, rv⟩ := hr2.get hb
        obtain ⟨q1, q2, ⟨c, d, q3⟩, q4, q5⟩ := hst
        have hl₁ : PL s'.heap l1 us n1 := (hzb _ _ (hz _ _ hl1)).1
        have hl₂ : PL s'.heap l2 ws n2 := (hzb _ _ (hz _ _ hl2)).1
        refine wpAny_pyNext_zip_item D q1 q2 q3 q4 q5 hl₁.isList hl₂.isList (x := u) (y := v) (by simpa using hu) (by simpa using hv) fun h' w1 w2 w3 w4 w5 w6 hx => ⟨_, rfl, ?_⟩
        have lt : ∀ {c o}, s'.heap.get? c = some o → s'.heap.objs.size ≠ c := fun e => Nat.ne_of_gt (Heap.lt_size e)
        refine wpAny_letOwnedTupleGo_zip w1 fun h'' ho' hs' => ⟨h'', s'.toks, rfl, fun b o nb e => ?_, ⟨ho', hs'.extBut _ _ D.TIz (hx _ _ D.TIz D.TITO D.TIi1 D.TIi2 q2), ⟨_, _, hs'.extBut _ _ D.TOz w2⟩, w3.extBut hs'.extBut D.i1z, w4.extBut hs'.extBut D.i2z⟩, ?_⟩
        · exact (hs'.2 b fun q => nb (by simp [q])).trans (hx b o (fun q => nb (by simp [q])) (fun q => nb (by simp [q])) (fun q => nb (by simp [q])) (fun q => nb (by simp [q])) e)
        · have nb : s'.heap.objs.size ∉ bad := fun m => by obtain ⟨o, e⟩ := hlv _ m; exact Nat.lt_irrefl _ (Heap.lt_size e)
          have up : Ext (hideAll s'.heap bad) (hideAll h'' bad) := fun b o e => by
            obtain ⟨e2, e3⟩ := hid_iff.mp e
            exact hid_iff.mpr ⟨(hs'.2 b fun q => e3 (q ▸ hfp _ (by simp))).trans (hx b o (fun q => e3 (q ▸ hfp _ (by simp))) (fun q => e3 (q ▸ hfp _ (by simp))) (fun q => e3 (q ▸ hfp _ (by simp))) (fun q => e3 (q ▸ hfp _ (by simp))) e2), e3⟩
          have up2 : Ext (hideAll s₂.heap x.bad) (hideAll s'.heap bad) := fun b o e => hid_iff.mpr (hzb b o (hz b o e))
          exact .tuple (vs := [u, v]) (n := 0) (hid_iff.mpr ⟨(hs'.2 _ (lt q1)).trans w5, nb⟩) (.cons ((ru.ext up2).ext up) (.one ((rv.ext up2).ext up)))
      · intro A s' hA hst hzb
        obtain ⟨q1, q2, ⟨c, d, q3⟩, q4, q5⟩ := hst
        have hl₁ : PL s'.heap l1 us n1 := hzb _ _ (hz _ _ hl1)
        have hl₂ : PL s'.heap l2 ws n2 := hzb _ _ (hz _ _ hl2)
        have e1 := hr1.length
        have e2 := hr2.length
        have hlen : (zips as bs).length = min as.length bs.length := by simp [zips]
        rw [hlen] at q4 q5
        refine wpAny_pyNext_zip_end hA D q1 q2 q3 q4 q5 hl₁.isList hl₂.isList ?_ fun h' he' => ⟨h', s'.toks, rfl, rfl, fun b o nb e => he' b o (fun q => nb (by simp [q])) (fun q => nb (by simp [q])) (fun q => nb (by simp [q])) (fun q => nb (by simp [q])) e⟩
        rcases Nat.le_total as.length bs.length with h | h
        · exact .inl (by simp [Nat.min_eq_left h, e1])
        · exact .inr (by simp [Nat.min_eq_right h, e2])
      · intro A k s' hst
        exact wpAny_pyIter_zip hst.1 ⟨rfl, rfl⟩)
end
end Mine
end
section
open PySem PySem.W PyProof.Rows PySem.Spec
set_option Elab.async false
set_option linter.all false
set_option maxRecDepth 100000
namespace Mine

inductive Ifs (f : Fx) (x : Sx) : List Expr → Bool → Prop
  | nil : Ifs f x [] true
  | one {c b} : Tst f x c b → Ifs f x [c] b

noncomputable def compEmit (elt : Expr) (gens : List Comprehension) (scope : Scope) (pos : Pos) (dep : Nat) (acc : Value) (env : Env) : Sem Unit :=
  match gens[dep + 1]? with
  | some g' => do
    let x ← eval g'.iter env
    standAt g'.iter.pos
    let x ← if g'.is_async != 0 then foldedIterable g'.iter x else foldedSetIterable g'.iter env x
    let _ ← runOwn (.compStart (.ListComp elt gens scope pos) (dep + 1) (← holding [x] (if g'.is_async != 0 then asyncIter x else pyIter x)) acc env) env
  | none => do let _ ← PySem.call (.builtin "list.append") [acc, ← eval elt env]

noncomputable def compTurnL (elt : Expr) (gens : List Comprehension) (scope : Scope) (pos : Pos) (dep : Nat) (tgt iter : Expr) (ifs : List Expr) (it acc : Value) (env : Env) : Sem Fin := do
  standAt iter.pos
  match ← pyNext it with
  | none => pure (.done .next)
  | some v =>
    letOwnedTupleGo tgt it v
    assign tgt env v
    let mut ok := true
    for c in ifs do
      if ok then ok ← isTrue c env (eval c env)
    if ok then compEmit elt gens scope pos dep acc env
    again (.compLoop (.ListComp elt gens scope pos) dep it acc env)

example (elt tgt iter : Expr) (ifs : List Expr) (scope pos it acc env) : compTurn (.ListComp elt [⟨tgt, iter, ifs, 0⟩] scope pos) 0 it acc env = compTurnL elt [⟨tgt, iter, ifs, 0⟩] scope pos 0 tgt iter ifs it acc env := by rfl
example (elt tgt iter tgt2 iter2 : Expr) (ifs ifs2 : List Expr) (scope pos it acc env) : compTurn (.ListComp elt [⟨tgt, iter, ifs, 0⟩, ⟨tgt2, iter2, ifs2, 0⟩] scope pos) 1 it acc env = compTurnL elt [⟨tgt, iter, ifs, 0⟩, ⟨tgt2, iter2, ifs2, 0⟩] scope pos 1 tgt2 iter2 ifs2 it acc env := by rfl

section
variable {f : Fx}
theorem ifs_ok {x : Sx} {s : Shared} {ifs : List Expr} {b : Bool} (h : Ifs f x ifs b) (O : Ok f x s) :
    wpAny f.W.M f.A (forIn ifs true fun c r => if r = true then do let ok ← isTrue c f.env (eval c f.env); pure (ForInStep.yield ok) else pure (ForInStep.yield r)) (fun c s' => Step s s' ∧ c = b) No s := by
  cases h with
  | nil => exact wpAny_tests_nil ⟨.rfl', rfl⟩
  | one h => exact wpAny_tests_one (h.run s O)

theorem compLoop_ok {elt : Expr} {gens : List Comprehension} {scope : Scope} {pos : Pos} {dep : Nat} {tgt iter : Expr} {ifs : List Expr} {D I : Addr} {fp : List Addr} {St : Nat → Heap → Prop} {hz : Heap} {rest : List Res}
    {ds : List PyData} {ns : List Str} {vs₀ : List Slot} {o : Nat → List PyData} {acc₀ : List PyData} {R : Result → Shared → Prop}
    (hturn : ∀ it acc env, compTurn (.ListComp elt gens scope pos) dep it acc env = compTurnL elt gens scope pos dep tgt iter ifs it acc env)
    (T : Itr f.W tgt hz I fp ds St) (hns : ∀ n ∈ ns, n ∈ f.sto)
    (turn : ∀ k d bad, ds[k]? = some d → ∃ vs' b, Tgt f.nm vs₀ tgt d ns vs' ∧ Forget vs' vs₀ ∧ Ifs f ⟨hz, bad, .prd fp (St (k + 1)) :: .lst D (acc₀ ++ (List.range k).flatMap o) :: rest, vs'⟩ ifs b ∧ (b = false → o k = []) ∧
      (b = true → ∀ s, Ok f ⟨hz, bad, .prd fp (St (k + 1)) :: .lst D (acc₀ ++ (List.range k).flatMap o) :: rest, vs'⟩ s →
        wpAny f.W.M f.A (compEmit elt gens scope pos dep (.ref D) f.env) (fun _ s' => ∃ bad', Ok f ⟨hz, bad', .prd fp (St (k + 1)) :: .lst D (acc₀ ++ (List.range k).flatMap o ++ o k) :: rest, vs'⟩ s') No s))
    {s : Shared} {bad : List Addr} (O : Ok f ⟨hz, bad, .prd fp (St 0) :: .lst D acc₀ :: rest, vs₀⟩ s)
    (hR : ∀ s' bad', Ok f ⟨hz, bad', .lst D (acc₀ ++ (List.range ds.length).flatMap o) :: rest, vs₀⟩ s' → R (.ok .next) s') :
    codeAny f.W.M f.A (.compLoop (.ListComp elt gens scope pos) dep (.ref I) (.ref D) f.env) R s := by
  refine codeAny_loop rfl (fun n s' => ∃ i bad, i ≤ ds.length ∧ n = ds.length - i ∧ Ok f ⟨hz, bad, .prd fp (St i) :: .lst D (acc₀ ++ (List.range i).flatMap o) :: rest, vs₀⟩ s') ?_ ds.length
    ⟨0, bad, Nat.zero_le _, rfl, by simpa using O⟩
  rintro n s' ⟨i, bad, hi, rfl, O'⟩
  show wpAny _ _ ((compTurn (.ListComp elt gens scope pos) dep (.ref I) (.ref D) f.env).onRaise (fun x => do noteFrame x f.env; theTreesLotGoes x)) _ _ s'
  refine wpAny_noted ?_
  rw [hturn]
  unfold compTurnL
  have fpb : ∀ b ∈ fp, b ∈ bad := fun b hb => ((O'.led _ (.head _)).2 b hb).1
  refine wpAny_bind (wpAny_standAt (wpAny_bind ?_))
  cases hd : ds[i]? with
  | none =>
    have hlen : i = ds.length := by have := List.getElem?_eq_none_iff.mp hd; omega
    subst hlen
    refine wpE (T.stop f.A s' O'.room.hd (O'.led _ (.head _)).1.1 fun b o e => (O'.hz b o e).1) fun r s₃ ⟨h', t', e1, e2, hx⟩ => ?_
    subst e1 e2
    exact wpAny_pure (hR _ _ (O'.leave hx))
  | some d =>
    have hlt : i < ds.length := (List.getElem?_eq_some_iff.mp hd).1
    refine wpE (T.next f.A i s' bad d O'.room.hd hd (O'.led _ (.head _)).1.1 (fun b o e => O'.hz b o e) fpb O'.live) fun r s₃ ⟨v, e1, hg⟩ => ?_
    subst e1
    refine wpAny_bind (wpE hg fun _ s₄ ⟨h', t', e2, hx, hst, hr⟩ => ?_)
    subst e2
    obtain ⟨vs', b, tg, fg, hi', hb0, hb⟩ := turn i d bad hd
    have O₄ := O'.prd (h := h') (t := t') hx (T.live _ _ hst) hst (T.frame (i + 1))
    refine wpAny_bind (wpE (tg.ok (x := ⟨_, bad, _, vs₀⟩) O₄ hr hns) fun _ s₅ O₅ => ?_)
    refine wpAny_bind (wpE (ifs_ok hi' O₅) fun c s₆ ⟨k6, e6⟩ => ?_)
    have O₆ := O₅.step k6
    subst e6
    have nx : (List.range (i + 1)).flatMap o = (List.range i).flatMap o ++ o i := by rw [List.range_succ, List.flatMap_append]; simp
    cases c with
    | false =>
      simp only [Bool.false_eq_true, if_false]
      refine wpAny_pure ⟨rfl, _, by omega, i + 1, bad, by omega, rfl, ?_⟩
      rw [nx, hb0 rfl, List.append_nil]
      exact O₆.forget fg
    | true =>
      simp only [if_true]
      refine wpAny_bind (wpE (hb rfl s₆ O₆) fun _ s₇ ⟨bad', O₇⟩ => ?_)
      refine wpAny_pure ⟨rfl, _, by omega, i + 1, bad', by omega, rfl, ?_⟩
      rw [nx, ← List.append_assoc]
      exact O₇.forget fg
end

theorem closure_aux {env : Env} (f : Str × NameKind → List (Str × Addr) → Sem (ForInStep (List (Str × Addr))))
    (hf : ∀ name kind cs, f (name, kind) cs = if kind == .free then (do let a ← cellOf env name; pure (.yield ((name, a) :: cs))) else pure (.yield cs)) :
    ∀ (names : List (Str × NameKind)) (acc : List (Str × Addr)), (∀ n, (n, NameKind.free) ∈ names → (env.cells.lookup n).isSome) →
      ∃ cl, forIn names acc f = pure cl ∧ (∀ n c, cl.lookup n = some c → acc.lookup n = some c ∨ ((n, NameKind.free) ∈ names ∧ env.cells.lookup n = some c)) ∧
        (∀ n, (n, NameKind.free) ∈ names → cl.lookup n = env.cells.lookup n) ∧ (∀ n, (n, NameKind.free) ∉ names → cl.lookup n = acc.lookup n)
  | [], acc, _ => ⟨acc, List.forIn_nil .., fun _ _ h => .inl h, fun _ h => (nomatch h), fun _ _ => rfl⟩
  | (name, kind) :: r, acc, h => by
    rw [List.forIn_cons, hf]
    by_cases hk : kind = .free
    · subst hk
      obtain ⟨c, hc⟩ := Option.isSome_iff_exists.mp (h name (.head _))
      obtain ⟨cl, e, p1, p2, p3⟩ := closure_aux f hf r ((name, c) :: acc) fun n hn => h n (.tail _ hn)
      have e0 : cellOf env name = pure c := by unfold cellOf; rw [hc]
      refine ⟨cl, ?_, fun n c' hl => ?_, fun n hn => ?_, fun n hn => ?_⟩
      · rw [e0]; exact e
      · rcases p1 n c' hl with q | ⟨q1, q2⟩
        · rw [List.lookup_cons] at q
          cases hb : n == name with
          | true => rw [hb] at q; cases q; have := beq_iff_eq.mp hb; subst this; exact .inr ⟨.head _, hc⟩
          | false => rw [hb] at q; exact .inl q
        · exact .inr ⟨.tail _ q1, q2⟩
      · by_cases hm : (n, NameKind.free) ∈ r
        · exact p2 n hm
        · rcases List.mem_cons.mp hn with q | q
          · cases q
            rw [p3 name hm, List.lookup_cons]; simp [hc]
          · exact absurd q hm
      · have hm : (n, NameKind.free) ∉ r := fun m => hn (.tail _ m)
        have hnn : n ≠ name := fun q => hn (by rw [q]; exact .head _)
        rw [p3 n hm, List.lookup_cons]
        have : (n == name) = false := by simpa using hnn
        rw [this]
    · have hb : (kind == NameKind.free) = false := by cases kind <;> first | rfl | exact absurd rfl hk
      obtain ⟨cl, e, p1, p2, p3⟩ := closure_aux f hf r acc fun n hn => h n (.tail _ hn)
      refine ⟨cl, ?_, fun n c' hl => ?_, fun n hn => ?_, fun n hn => ?_⟩
      · rw [hb]; exact e
      · rcases p1 n c' hl with q | ⟨q1, q2⟩
        · exact .inl q
        · exact .inr ⟨.tail _ q1, q2⟩
      · rcases List.mem_cons.mp hn with q | q
        · cases q; exact absurd rfl hk
        · exact p2 n q
      · exact p3 n fun m => hn (.tail _ m)

theorem closure_ok {scope : Scope} {env : Env} (h : ∀ n, (n, NameKind.free) ∈ scope.names → (env.cells.lookup n).isSome) :
    ∃ cl, closureFor scope env = pure cl ∧ (∀ n, (n, NameKind.free) ∈ scope.names → cl.lookup n = env.cells.lookup n) ∧ (∀ n, (n, NameKind.free) ∉ scope.names → cl.lookup n = none) := by
  obtain ⟨cl, e, _, p2, p3⟩ := closure_aux (env := env) (fun x cs => if x.2 == .free then (do let a ← cellOf env x.1; pure (.yield ((x.1, a) :: cs))) else pure (.yield cs)) (fun _ _ _ => rfl) scope.names [] h
  refine ⟨cl, ?_, p2, p3⟩
  rw [← e]
  simp only [closureFor, bind_pure]

end Mine
end
section
open PySem PySem.W PyProof.Rows PySem.Spec
set_option Elab.async false
set_option linter.all false
set_option maxRecDepth 100000
namespace Mine

noncomputable def nodupS : List (Str × NameKind) → Bool
  | [] => true
  | p :: r => r.all (fun q => q.1 != p.1) && nodupS r
theorem lookup_nodup : ∀ {l : List (Str × NameKind)}, nodupS l = true → ∀ {n k}, (n, k) ∈ l → l.lookup n = some k
  | p :: r, h, n, k, hm => by
    simp only [nodupS, Bool.and_eq_true] at h
    rcases List.mem_cons.mp hm with rfl | hm
    · simp [List.lookup_cons]
    · have : (n == p.1) = false := by
        have := List.all_eq_true.mp h.1 _ hm
        simpa using this
      rw [List.lookup_cons, this]
      exact lookup_nodup h.2 hm
theorem mem_lookup {l : List (Str × NameKind)} {n k} (h : l.lookup n = some k) : (n, k) ∈ l := by
  induction l with
  | nil => simp at h
  | cons p r ih =>
    rw [List.lookup_cons] at h
    cases hb : n == p.1 with
    | true => rw [hb] at h; cases h; have := beq_iff_eq.mp hb; subst this; exact .head _
    | false => rw [hb] at h; exact .tail _ (ih h)

noncomputable def dbg (n : Str) : Bool := n != ("__debug__" : Str)
noncomputable def compChk (scope sc : Scope) (own fr gl : List Str) : Bool :=
  (scope.kind == .function) && (sc.kind == .function) && nodupS scope.names && scope.names.all (fun p => p.2 != .free || (sc.names.lookup p.1 == some .cell && fr.contains p.1))
  && own.all (fun n => dbg n && (scope.names.lookup n == some .local || scope.names.lookup n == some .cell)) && fr.all (fun n => dbg n && scope.names.lookup n == some .free) && decide (own ++ fr).Nodup
  && gl.all (fun n => dbg n && scope.names.lookup n == some .globalImplicit)
structure CompChk (scope sc : Scope) (own fr gl : List Str) : Prop where
  k1 : scope.kind = .function
  k2 : sc.kind = .function
  nd : nodupS scope.names = true
  free : ∀ n, (n, NameKind.free) ∈ scope.names → sc.names.lookup n = some .cell
  cov : ∀ n, (n, NameKind.free) ∈ scope.names → n ∈ fr
  ownk : ∀ n ∈ own, (n == ("__debug__" : Str)) = false ∧ (scope.names.lookup n = some .local ∨ scope.names.lookup n = some .cell)
  frk : ∀ n ∈ fr, (n == ("__debug__" : Str)) = false ∧ scope.names.lookup n = some .free
  ndn : (own ++ fr).Nodup
  glk : ∀ n ∈ gl, (n == ("__debug__" : Str)) = false ∧ scope.names.lookup n = some .globalImplicit
theorem compChk_iff {scope sc : Scope} {own fr gl : List Str} (h : compChk scope sc own fr gl = true) : CompChk scope sc own fr gl := by
  simp only [compChk, dbg, Bool.and_eq_true, List.all_eq_true, Bool.or_eq_true, beq_iff_eq, bne_iff_ne, decide_eq_true_eq] at h
  obtain ⟨⟨⟨⟨⟨⟨⟨h1, h2⟩, h3⟩, h4⟩, h5⟩, h6⟩, h7⟩, h8⟩ := h
  exact ⟨h1, h2, h3, fun n hn => ((h4 _ hn).resolve_left fun q => q rfl).1, fun n hn => by simpa using ((h4 _ hn).resolve_left fun q => q rfl).2, fun n hn => ⟨by simpa using (h5 n hn).1, (h5 n hn).2⟩, fun n hn => ⟨by simpa using (h6 n hn).1, (h6 n hn).2⟩, h7, fun n hn => ⟨by simpa using (h8 n hn).1, (h8 n hn).2⟩⟩

theorem relabel_lookup {scope : Scope} {env : Env} {n : Str} {k : NameKind} (nd : nodupS scope.names = true) (h : scope.names.lookup n = some k) :
    (relabel scope env).names.lookup n = some (if (k == .free && env.scope.kind == .function && env.kindOf n == some .cell) then .cell else k) := by
  have key : ∀ (l : List (Str × NameKind)), l.lookup n = some k → (l.map fun (n, k) => if (k == NameKind.free && env.scope.kind == .function && env.kindOf n == some .cell) then (n, NameKind.cell) else (n, k)).lookup n =
      some (if (k == .free && env.scope.kind == .function && env.kindOf n == some .cell) then .cell else k) := by
    intro l
    induction l with
    | nil => intro h; simp at h
    | cons p r ih =>
      intro h
      obtain ⟨m, k'⟩ := p
      rw [List.map_cons]
      rw [List.lookup_cons] at h
      cases hb : n == m with
      | true =>
        rw [hb] at h; cases h
        have := beq_iff_eq.mp hb; subst this
        dsimp only
        split <;> simp [List.lookup_cons]
      | false =>
        rw [hb] at h
        dsimp only
        split
        · rw [List.lookup_cons, hb]; exact ih h
        · rw [List.lookup_cons, hb]; exact ih h
  exact key _ h

theorem cellsFrom_app : ∀ (names : List (Str × NameKind)) (n : Nat) (acc : List (Str × Addr)), cellsFrom n names acc = cellsFrom n names [] ++ acc
  | [], _, _ => rfl
  | (m, k) :: r, n, acc => by
    unfold cellsFrom
    split
    · rw [cellsFrom_app r _ ((m, n) :: acc), cellsFrom_app r _ [(m, n)]]; simp
    · exact cellsFrom_app r n acc
theorem cellsFrom_mem : ∀ (names : List (Str × NameKind)) (n : Nat) {m : Str} {c : Addr}, (m, c) ∈ cellsFrom n names [] → (m, NameKind.cell) ∈ names
  | [], _, _, _, h => nomatch h
  | (m', k) :: r, n, m, c, h => by
    unfold cellsFrom at h
    by_cases hk : k = .cell
    · subst hk
      rw [if_pos (by rfl), cellsFrom_app] at h
      rcases List.mem_append.mp h with h | h
      · exact .tail _ (cellsFrom_mem r _ h)
      · cases h with
        | head => exact .head _
        | tail _ h => cases h
    · have hb : ¬ (k == NameKind.cell) = true := by simpa using hk
      rw [if_neg hb] at h
      exact .tail _ (cellsFrom_mem r _ h)
theorem cellsFrom_has : ∀ (names : List (Str × NameKind)) (n : Nat) {m : Str}, (m, NameKind.cell) ∈ names → ∃ c, (m, c) ∈ cellsFrom n names []
  | (m', k) :: r, n, m, h => by
    unfold cellsFrom
    rcases List.mem_cons.mp h with e | h
    · cases e
      rw [if_pos (by rfl), cellsFrom_app]
      exact ⟨n, List.mem_append_right _ (.head _)⟩
    · split
      · rw [cellsFrom_app]
        obtain ⟨c, hc⟩ := cellsFrom_has r (n + 1) h
        exact ⟨c, List.mem_append_left _ hc⟩
      · exact cellsFrom_has r n h
theorem lookup_app {l r : List (Str × Addr)} {n : Str} : (l ++ r).lookup n = (l.lookup n).or (r.lookup n) := by
  induction l with
  | nil => simp
  | cons p l ih =>
    rw [List.cons_append, List.lookup_cons, List.lookup_cons]
    cases n == p.1 <;> simp [ih]
theorem lookup_isSome {l : List (Str × Addr)} {n : Str} {c : Addr} (h : (n, c) ∈ l) : (l.lookup n).isSome = true := by
  induction l with
  | nil => cases h
  | cons p l ih =>
    rw [List.lookup_cons]
    cases hb : n == p.1 with
    | true => rfl
    | false =>
      rcases List.mem_cons.mp h with e | h
      · rw [← e] at hb; simp at hb
      · exact ih h
theorem lookup_none {l : List (Str × Addr)} {n : Str} (h : ∀ c, (n, c) ∉ l) : l.lookup n = none := by
  cases q : l.lookup n with
  | none => rfl
  | some c => exact absurd (mem_of_lookup q) (h c)

theorem newEnv_comp {M : Model} {A : Around} {s : Shared} {scope : Scope} {env : Env} {cl : List (Str × Addr)} {Q : Env → Shared → Prop} {E : Value → Shared → Prop}
    (h : Q { scope, locals := s.heap.objs.size, globals := env.globals, cells := cellsFrom (s.heap.objs.size + 1) scope.names cl, qual := env.qual, func := none, code := env.code, frame := env.frame, builtins := env.builtins }
      { s with heap := pushCells (s.heap.push { cls := .type "dict", data := .dict #[] }) scope.names }) :
    wpAny M A (newFunctionEnv scope env.globals cl [] env.qual none .none (some env)) Q E s := by
  simp only [newFunctionEnv, Option.isSome_some, if_true]
  refine wpAny_bind (wpAny_alloc ?_)
  refine wpAny_bind (wpAny_layCells _ (fun name kind cells => by cases hkc : kind == NameKind.cell <;> simp [hkc]) _ _ _ _ ?_)
  rw [show ({ s with heap := s.heap.push { cls := .type "dict", data := .dict #[] } } : Shared).heap.objs.size = s.heap.objs.size + 1 from Heap.size_push ..]
  exact wpAny_bind (wpAny_pure (wpAny_pure h))

inductive Ats (nm : List Str) (vs : List Slot) : List Str → List Slot → Prop
  | nil : Ats nm vs [] []
  | cons {n sl ns sls} : At nm vs n sl → Ats nm vs ns sls → Ats nm vs (n :: ns) (sl :: sls)
theorem Ats.get {nm vs ns sls} (h : Ats nm vs ns sls) : ∀ (i : Nat) n sl, ns[i]? = some n → sls[i]? = some sl → At nm vs n sl := by
  induction h with
  | nil => intro i n sl e; simp at e
  | cons a _ ih =>
    intro i n sl e1 e2
    cases i with
    | zero => simp at e1 e2; subst e1 e2; exact a
    | succ i => exact ih i n sl (by simpa using e1) (by simpa using e2)
theorem Ats.len {nm vs ns sls} (h : Ats nm vs ns sls) : ns.length = sls.length := by
  induction h with
  | nil => rfl
  | cons _ _ ih => simp [ih]

@[reducible] noncomputable def compF (f : Fx) (scope : Scope) (C : Addr) (cs : List (Str × Addr)) (base : Shared) (nm gl sto : List Str) (cb : List Addr) : Fx :=
  { W := f.W, A := f.A, rm := f.rm, env := compEnvC scope cs C f.env, base := base, nm := nm, gl := gl, sto := sto, cb := cb }

section
variable {f : Fx} {x : Sx} {s s₂ : Shared}

theorem Ok.free (O : Ok f x s) {scope sc : Scope} {own fr gl : List Str} {slots : List Slot} (hsc : f.env.scope = sc) (hchk : CompChk scope sc own fr gl) (ats : Ats f.nm x.vs fr slots) {n : Str} (hn : n ∈ fr) :
    ∃ c, f.env.cells.lookup n = some c ∧ f.env.kindOf n = some .cell := by
  have hc := hchk.free n (mem_lookup (hchk.frk n hn).2)
  have hk : f.env.kindOf n = some .cell := by simp only [Env.kindOf, hsc, hc]
  obtain ⟨i, hi⟩ := List.getElem?_of_mem hn
  have hlen : i < slots.length := by rw [← ats.len]; exact (List.getElem?_eq_some_iff.mp hi).1
  obtain ⟨j, e1, _⟩ := (ats.get i n _ hi (List.getElem?_eq_getElem hlen)).get
  rcases (O.knd n (List.mem_of_getElem? e1)).2 with q | ⟨_, q⟩
  · rw [hk] at q; cases q
  · obtain ⟨c, hc⟩ := Option.isSome_iff_exists.mp q; exact ⟨c, hc, hk⟩
theorem Ok.inner (O : Ok f x s) (k : Step s s₂) {fp : List Addr} {P : Heap → Prop} (hf : ∀ b ∈ fp, s.heap.get? b = none) (nd : fp.Nodup) (hl : ∀ b ∈ fp, ∃ o, s₂.heap.get? b = some o)
    (hP : P s₂.heap) (hPc : ∀ h h', P h → (∀ b ∈ fp, ∀ o, h.get? b = some o → h'.get? b = some o) → P h')
    {scope sc : Scope} {own fr gl : List Str} {slots : List Slot} {cl : List (Str × Addr)} (hsc : f.env.scope = sc) (hchk : CompChk scope sc own fr gl) (ats : Ats f.nm x.vs fr slots)
    (hc1 : ∀ n, (n, NameKind.free) ∈ scope.names → cl.lookup n = f.env.cells.lookup n) (hc2 : ∀ n, (n, NameKind.free) ∉ scope.names → cl.lookup n = none)
    {D : Addr} (hD : D = s₂.heap.objs.size) {H : Heap} (hH : H = s₂.heap.push { cls := .type "list", data := .seq #[] }) :
    ∃ bad', Ok (compF f scope H.objs.size (cellsFrom (H.objs.size + 1) scope.names cl) s (own ++ fr) gl own x.bad)
      ⟨hideAll s₂.heap (fp ++ x.bad), bad', [.prd fp P, .lst D []], own.map (fun _ => .no) ++ slots⟩ { s₂ with heap := pushCells (H.push { cls := .type "dict", data := .dict #[] }) scope.names } := by
  have hDH : ∀ b o, s₂.heap.get? b = some o → H.get? b = some o := fun b o e => by rw [hH]; exact Heap.get?_push_of_some _ e
  have hDN : @Eq Nat D s₂.heap.objs.size := hD
  have hsz : H.objs.size = s₂.heap.objs.size + 1 := by rw [hH, Heap.size_push]
  generalize hH4 : pushCells (H.push { cls := .type "dict", data := .dict #[] }) scope.names = H4
  have hH2 : ∀ b o, H.get? b = some o → H4.get? b = some o := fun b o e => by rw [← hH4]; exact pushCells_keeps _ _ b o (Heap.get?_push_of_some _ e)
  have k4 : Ext s₂.heap H4 := fun b o e => hH2 b o (hDH b o e)
  have hDl : PL H4 D [] 0 := hH2 _ _ (by rw [hH, hD]; exact Heap.get?_push_size _ rfl)
  have hns : H4.Ns H.objs.size (fun _ => none) := by rw [← hH4]; exact (Heap.Ns.new H (.type "dict")).keeps (pushCells_keeps _ _)
  have ok := cellsFrom_ok scope.names (H.push { cls := .type "dict", data := .dict #[] }) (H.objs.size + 1) [] ⟨fun _ _ hm => (nomatch hm), List.Pairwise.nil⟩ (by rw [Heap.size_push]; exact Nat.le_refl _)
  rw [Heap.size_push, hH4] at ok
  generalize hoc : cellsFrom (H.objs.size + 1) scope.names [] = oc at ok
  have hcs : cellsFrom (H.objs.size + 1) scope.names cl = oc ++ cl := by rw [cellsFrom_app, hoc]
  rw [hcs]
  have ocm : ∀ {n c}, (n, c) ∈ oc → (n, NameKind.cell) ∈ scope.names := fun h => cellsFrom_mem _ _ (hoc ▸ h)
  have oca : ∀ {n : Str} {c : Nat}, (n, c) ∈ oc → s₂.heap.objs.size + 2 ≤ c := fun h => by have := (ok.empty _ _ h).2; omega
  have lt2 : ∀ {b : Nat} {o : Obj}, s₂.heap.get? b = some o → @LT.lt Nat _ b s₂.heap.objs.size := fun e => szN e
  have clE : ∀ {n c}, cl.lookup n = some c → (n, NameKind.free) ∈ scope.names ∧ f.env.cells.lookup n = some c := fun {n c} h => by
    by_cases hm : (n, NameKind.free) ∈ scope.names
    · exact ⟨hm, hc1 n hm ▸ h⟩
    · rw [hc2 n hm] at h; cases h
  have clL : ∀ {n : Str} {c : Nat}, cl.lookup n = some c → c ∈ x.bad ∧ @LT.lt Nat _ c s₂.heap.objs.size ∧ ∃ ov, H4.IsCell c ov := fun {n c} h => by
    obtain ⟨b1, b2, ov, b3⟩ := O.cell n c (clE h).2
    obtain ⟨o, ho⟩ := O.live c b1
    exact ⟨b1, lt2 (k.ext _ _ ho), ov, b3.keeps fun b o e => k4 b o (k.ext b o e)⟩
  have csE : ∀ {n c}, (oc ++ cl).lookup n = some c → (n, c) ∈ oc ∨ cl.lookup n = some c := fun {n c} h => by
    rw [lookup_app] at h
    cases q : oc.lookup n with
    | none => rw [q] at h; exact .inr h
    | some c' => rw [q] at h; cases h; exact .inl (mem_of_lookup q)
  have fpl : ∀ {b : Nat}, b ∈ fp → @LT.lt Nat _ b s₂.heap.objs.size := fun hb => by obtain ⟨o, e⟩ := hl _ hb; exact lt2 e
  have bdl : ∀ {b : Nat}, b ∈ x.bad → @LT.lt Nat _ b s₂.heap.objs.size := fun hb => by obtain ⟨o, e⟩ := O.live _ hb; exact lt2 (k.ext _ _ e)
  have nlive : ∀ {b : Nat}, s₂.heap.objs.size ≤ b → s.heap.get? b = none := fun {b} hb => by
    cases q : s.heap.get? b with
    | none => rfl
    | some o => have := lt2 (k.ext _ _ q); omega
  have bmem : ∀ {b : Nat}, b ∈ H.objs.size :: (oc.map (·.2) ++ (D :: (fp ++ x.bad))) → @LT.lt Nat _ b s₂.heap.objs.size → b ∈ fp ++ x.bad := fun {b} hb hlt => by
    rcases List.mem_cons.mp hb with e | hb
    · rw [e, hsz] at hlt; omega
    · rcases List.mem_append.mp hb with hb | hb
      · obtain ⟨p, hp, rfl⟩ := List.mem_map.mp hb
        have := oca (n := p.1) (c := p.2) hp; omega
      · rcases List.mem_cons.mp hb with e | hb
        · rw [e, hD] at hlt; omega
        · exact hb
  have hx : Ext (hideAll s.heap x.bad) (hideAll H4 (H.objs.size :: (oc.map (·.2) ++ (D :: (fp ++ x.bad))))) := fun b o e => by
    obtain ⟨e1, e2⟩ := hid_iff.mp e
    refine hid_iff.mpr ⟨k4 b o (k.ext b o e1), fun m => ?_⟩
    rcases List.mem_append.mp (bmem m (lt2 (k.ext _ _ e1))) with m | m
    · rw [hf b m] at e1; cases e1
    · exact e2 m
  obtain ⟨m, hns0, hv⟩ := O.vars
  have fkind : ∀ {n}, scope.names.lookup n = some .free → (compEnvC scope (oc ++ cl) H.objs.size f.env).kindOf n = some .cell := fun {n} h => by
    have hc := hchk.free n (mem_lookup h)
    have := relabel_lookup (env := f.env) hchk.nd h
    rw [if_pos (by rw [hsc, hchk.k2]; simp only [Env.kindOf, hsc, hc]; rfl)] at this
    exact this
  have fat : ∀ {n}, n ∈ fr → ∃ c, f.env.cells.lookup n = some c ∧ f.env.kindOf n = some .cell := fun {n} hn => O.free hsc hchk ats hn
  have nocell : ∀ {n}, scope.names.lookup n = some .free → oc.lookup n = none := fun {n} h => lookup_none fun c hc => by
    have := lookup_nodup hchk.nd (ocm hc); rw [h] at this; cases this
  refine ⟨H.objs.size :: (oc.map (·.2) ++ (D :: (fp ++ x.bad))), hchk.k1, O.glo, O.bui, O.room, O.wok.ext O.same.ext, hchk.ndn, ?_, ?_, ?_, ?_, ?_, ?_, ?_, ?_, .head _, ?_, ?_, ?_, ?_, _, hns, ?_⟩
  · intro n hn
    rcases List.mem_append.mp hn with hn | hn
    · refine ⟨(hchk.ownk n hn).1, ?_⟩
      rcases (hchk.ownk n hn).2 with h | h
      · left
        have := relabel_lookup (env := f.env) hchk.nd h
        rw [if_neg (by simp)] at this
        exact this
      · right
        have := relabel_lookup (env := f.env) hchk.nd h
        rw [if_neg (by simp)] at this
        obtain ⟨c, hc⟩ := cellsFrom_has scope.names (H.objs.size + 1) (mem_lookup h)
        rw [hoc] at hc
        refine ⟨this, ?_⟩
        show ((oc ++ cl).lookup n).isSome = true
        exact lookup_isSome (List.mem_append_left _ hc)
    · have hfr := (hchk.frk n hn).2
      refine ⟨(hchk.frk n hn).1, .inr ⟨fkind hfr, ?_⟩⟩
      show ((oc ++ cl).lookup n).isSome = true
      obtain ⟨c, hc, _⟩ := fat hn
      rw [lookup_app, nocell hfr, hc1 n (mem_lookup hfr), hc]; rfl
  · intro n hn
    refine ⟨(hchk.glk n hn).1, ?_⟩
    have := relabel_lookup (env := f.env) hchk.nd (hchk.glk n hn).2
    rw [if_neg (by simp)] at this
    exact this
  · intro n hn c hc
    rcases csE hc with h | h
    · exact nlive (Nat.le_trans (Nat.le_add_right _ 2) (oca h))
    · have h1 := lookup_nodup hchk.nd (clE h).1
      rcases (hchk.ownk n hn).2 with h2 | h2 <;> (rw [h1] at h2; cases h2)
  · intro b hb
    exact ⟨List.mem_cons_of_mem _ (List.mem_append_right _ (List.mem_cons_of_mem _ (List.mem_append_right _ hb))), O.live b hb⟩
  · exact k.trans (.mkh k4)
  · intro b o e
    obtain ⟨e1, e2⟩ := hid_iff.mp e
    exact ⟨k4 b o e1, fun m => e2 (bmem m (lt2 e1))⟩
  · intro b hb
    rcases List.mem_cons.mp hb with e | hb
    · obtain ⟨o, _, _, e', _⟩ := hns; exact ⟨o, e ▸ e'⟩
    · rcases List.mem_append.mp hb with hb | hb
      · obtain ⟨p, hp, rfl⟩ := List.mem_map.mp hb
        obtain ⟨o, e, _⟩ := (ok.empty p.1 p.2 hp).1; exact ⟨o, e⟩
      · rcases List.mem_cons.mp hb with e | hb
        · exact ⟨_, e ▸ hDl⟩
        · rcases List.mem_append.mp hb with hb | hb
          · obtain ⟨o, e⟩ := hl b hb; exact ⟨o, k4 b o e⟩
          · obtain ⟨o, e⟩ := O.live b hb; exact ⟨o, k4 b o (k.ext b o e)⟩
  · exact nlive (b := H.objs.size) (by omega)
  · intro n c hc
    rcases csE hc with h | h
    · exact ⟨List.mem_cons_of_mem _ (List.mem_append_left _ (List.mem_map.mpr ⟨_, h, rfl⟩)), by have := oca h; intro q; have q' : @Eq Nat c H.objs.size := q; omega, none, (ok.empty _ _ h).1⟩
    · obtain ⟨a1, a2, a3⟩ := clL h
      exact ⟨List.mem_cons_of_mem _ (List.mem_append_right _ (List.mem_cons_of_mem _ (List.mem_append_right _ a1))), by intro q; have q' : @Eq Nat c H.objs.size := q; omega, a3⟩
  · intro n n' c h h'
    rcases csE h with h | h <;> rcases csE h' with h' | h'
    · exact name_of_addr ok.apart h h'
    · have := oca h; have := (clL h').2.1; omega
    · have := oca h'; have := (clL h).2.1; omega
    · exact O.inj n n' c (clE h).2 (clE h').2
  · intro r hr
    have ncell : ∀ {b : Nat}, b ∉ x.bad → @LT.lt Nat _ b (s₂.heap.objs.size + 2) → ∀ n, (oc ++ cl).lookup n ≠ some b := fun {b} hb hlt n hn => by
      rcases csE hn with h | h
      · have := oca h; omega
      · exact hb (clL h).1
    rcases List.mem_cons.mp hr with rfl | hr
    · refine ⟨⟨hPc _ _ hP fun b _ o e => k4 b o e, hPc⟩, fun b hb => ?_⟩
      have hlt := fpl hb
      exact ⟨List.mem_cons_of_mem _ (List.mem_append_right _ (List.mem_cons_of_mem _ (List.mem_append_left _ hb))), hf b hb, by intro q; have q' : @Eq Nat b H.objs.size := q; omega,
        ncell (fun q => by obtain ⟨o, e⟩ := O.live b q; rw [hf b hb] at e; cases e) (show @LT.lt Nat _ b _ by omega)⟩
    · cases hr with
      | tail _ hr => cases hr
      | head =>
        refine ⟨⟨[], 0, hDl, .nil⟩, fun b hb => ?_⟩
        cases hb with
        | tail _ hb => cases hb
        | head =>
          exact ⟨List.mem_cons_of_mem _ (List.mem_append_right _ (.head _)), nlive (b := D) (Nat.le_of_eq hDN.symm), by intro q; have q' : @Eq Nat D H.objs.size := q; omega,
            ncell (fun q => by have : @LT.lt Nat _ D s₂.heap.objs.size := bdl q; omega) (show @LT.lt Nat _ D _ by omega)⟩
  · simp only [List.flatMap_cons, List.flatMap_nil, List.append_nil]
    refine List.nodup_append.mpr ⟨nd, by simp [Res.fp], fun a ha b hb e => ?_⟩
    cases hb with
    | tail _ hb => cases hb
    | head => have : @LT.lt Nat _ a s₂.heap.objs.size := fpl ha; have e' : @Eq Nat a D := e; omega
  · intro i n sl e1 e2
    by_cases hi : i < own.length
    · have : sl = .no := by
        rw [List.getElem?_append_left (by simpa using hi)] at e2
        simp at e2; exact e2.2.symm
      subst this; trivial
    · rw [List.getElem?_append_right (by omega)] at e1
      rw [List.getElem?_append_right (by simp; omega)] at e2
      have at' := ats.get (i - own.length) n sl e1 (by simpa using e2)
      have hn : n ∈ fr := List.mem_of_getElem? e1
      obtain ⟨j, g1, g2⟩ := at'.get
      have ho := hv j n sl g1 g2
      obtain ⟨c, hc, hk⟩ := fat hn
      have hfr := (hchk.frk n hn).2
      have lk : ∀ {u : Value}, look f.env s.heap m n u → look (compEnvC scope (oc ++ cl) H.objs.size f.env) H4 (fun _ => none) n u := by
        intro u e
        rcases e with ⟨e1, _⟩ | ⟨e1, c', e2, e3⟩
        · rw [hk] at e1; cases e1
        · refine .inr ⟨fkind hfr, c', ?_, e3.keeps fun b o e => k4 b o (k.ext b o e)⟩
          show (oc ++ cl).lookup n = some c'
          rw [lookup_app, nocell hfr, hc1 n (mem_lookup hfr), e2]; rfl
      cases sl with
      | no => trivial
      | val d => obtain ⟨u, b1, b2⟩ := ho; exact ⟨u, lk b1, b2.ext hx⟩
      | is P => obtain ⟨u, b1, b2⟩ := ho; exact ⟨u, lk b1, b2⟩
      | ptr b => exact lk ho
end
end Mine
end
section
open PySem PySem.W PyProof.Rows PySem.Spec
set_option Elab.async false
set_option linter.all false
set_option maxRecDepth 100000
namespace Mine

structure CompP (x : Sx) (s : Shared) (ds : List PyData) (D C : Addr) (s' : Shared) : Prop where
  st : Step s s'
  d : s.heap.get? D = none
  c : s.heap.get? C = none
  n : D ≠ C
  ns : ∃ m, s'.heap.Ns C m
  l : ∃ vs k bad, PL s'.heap D vs k ∧ RdAll (hideAll s'.heap bad) vs ds ∧ C ∈ bad ∧ D ∈ bad ∧ ∀ b ∈ x.bad, b ∈ bad

noncomputable def CompR (f : Fx) (x : Sx) (e : Expr) (scope : Scope) (first : Sem Value) (ds : List PyData) : Prop := ∀ s, Ok f x s → ∃ cl, closureFor scope f.env = pure cl ∧
  wpAny f.W.M f.A first (fun xv s₁ => wpAny f.W.M f.A (pyIter xv) (fun it s₂ => wpAny f.W.M f.A (newList []) (fun acc s₃ =>
    wpAny f.W.M f.A (newFunctionEnv scope f.env.globals cl [] f.env.qual none .none (some f.env)) (fun cenv s₄ =>
      codeAny f.W.M f.A (.compStart e 0 it acc { cenv with scope := relabel scope f.env }) (fun r s' => r = .ok .next ∧ ∃ D, acc = .ref D ∧ CompP x s ds D cenv.locals s') s₄) No s₃) No s₂) No s₁) No s

section
variable {f : Fx} {x : Sx}

theorem CompR.imp {e : Expr} {scope : Scope} {first : Sem Value} {ds : List PyData} (h : CompR f x e scope first ds) {s : Shared} (O : Ok f x s) {R : Value → Addr → Result → Shared → Prop}
    (hR : ∀ D C s', CompP x s ds D C s' → R (.ref D) C (.ok .next) s') : ∃ cl, closureFor scope f.env = pure cl ∧
  wpAny f.W.M f.A first (fun xv s₁ => wpAny f.W.M f.A (pyIter xv) (fun it s₂ => wpAny f.W.M f.A (newList []) (fun acc s₃ =>
    wpAny f.W.M f.A (newFunctionEnv scope f.env.globals cl [] f.env.qual none .none (some f.env)) (fun cenv s₄ =>
      codeAny f.W.M f.A (.compStart e 0 it acc { cenv with scope := relabel scope f.env }) (R acc cenv.locals) s₄) No s₃) No s₂) No s₁) No s := by
  obtain ⟨cl, hcl, hw⟩ := h s O
  refine ⟨cl, hcl, wpN hw fun xv s₁ h1 => wpN h1 fun it s₂ h2 => wpN h2 fun acc s₃ h3 => wpN h3 fun cenv s₄ h4 => codeAny_mono h4 fun r s' h5 => ?_⟩
  obtain ⟨e1, D, e2, h6⟩ := h5
  subst e1 e2
  exact hR D _ s' h6

theorem names_local {scope : Scope} (h : nodupS scope.names = true) : ∀ x ∈ scope.names, x.2 = .local → scope.names.lookup x.1 = some .local := fun x hx hl => by
  have := lookup_nodup h (n := x.1) (k := x.2) hx; rw [hl] at this; exact this

theorem EvN.comp {elt : Expr} {g : Comprehension} {gs : List Comprehension} {scope : Scope} {pos : Pos} {ds : List PyData} (h : CompR f x (.ListComp elt (g :: gs) scope pos) scope (firstIter (g :: gs) f.env) ds)
    (hkind : scope.kind = .function) (hnd : nodupS scope.names = true) (hs : ∀ v, foldedSetIterable g.iter f.env v = pure v) (ha : firstAsync (g :: gs) = false) : EvN f x (.ListComp elt (g :: gs) scope pos) ds := .bx fun s O => by
  obtain ⟨cl, hcl, hw⟩ := h.imp O (R := fun acc C => compPost f.W.M f.A No none (fun v s' => Step s s' ∧ ∃ a vs k, v = .ref a ∧ s.heap.get? a = none ∧ PL s'.heap a vs k ∧ RdAll (hideAll s'.heap (a :: x.bad)) vs ds) acc C) (by
    intro D C s' P
    obtain ⟨m, hm⟩ := P.ns
    refine ⟨m, hm, fun h' hs' => ?_⟩
    obtain ⟨vs, k, bad, p1, p2, p3, p4, p5⟩ := P.l
    have hx := hidBut hs' p3
    refine ⟨?_, D, vs, k, rfl, P.d, (hs'.2 D P.n).trans p1, p2.ext (hx.trans (hid_anti fun b hb => ?_))⟩
    · obtain ⟨h0, t0, e, ke⟩ := P.st
      subst e
      exact ⟨h', t0, rfl, fun b o e => (hs'.2 b fun q => by rw [q, P.c] at e; cases e).trans (ke b o e)⟩
    · rcases List.mem_cons.mp hb with rfl | hb
      · exact p4
      · exact p5 b hb)
  rw [eval_ListComp, ha]
  exact wpAny_comprehension_free rfl hs hcl hkind (names_local hnd) hw

theorem Ex.assignC {n : Str} {p : Pos} {elt : Expr} {g : Comprehension} {gs : List Comprehension} {scope : Scope} {cpos pos : Pos} {rest : List Stmt} {ds : List PyData} {vs' : List Slot} {Q : Flow → Shared → Prop}
    (h : CompR f x (.ListComp elt (g :: gs) scope cpos) scope (firstIter (g :: gs) f.env) ds) (put : Put f.nm x.vs n (.val (.list ds)) vs') (hr : Ex f { x with vs := vs' } rest Q) (hc : f.sto = f.nm := by exact rfl)
    (hkind : scope.kind = .function) (hnd : nodupS scope.names = true) (hs : ∀ v, foldedSetIterable g.iter f.env v = pure v) (ha : firstAsync (g :: gs) = false)
    (hsw : swapsWith (.ListComp elt (g :: gs) scope cpos) (some (.Name n p)) pos.line f.env = pure true) : Ex f x (.Assign [.Name n p] (.ListComp elt (g :: gs) scope cpos) pos :: rest) Q := .cons fun s O => by
  obtain ⟨cl, hcl, hw⟩ := h.imp O (R := fun acc C => compPost f.W.M f.A No (some (PySem.assign (.Name n p) f.env)) (fun _ s' => Then f rest Q .next s') acc C) (by
    intro D C s' P
    obtain ⟨m, hm⟩ := P.ns
    obtain ⟨vs, k, bad, p1, p2, p3, p4, p5⟩ := P.l
    have cb : C ∉ x.bad := fun q => by obtain ⟨o, e⟩ := O.live C q; rw [P.c] at e; cases e
    have O1 := O.enter (fp := [C]) (P := fun h => ∃ m, h.Ns C m) P.st (fun b hb => by cases hb with | head => exact P.c | tail _ h => cases h) (by simp) ⟨m, hm⟩
      (fun h h' ⟨m, o, es, ep, e, r⟩ k => ⟨m, o, es, ep, k C (.head _) o e, r⟩) (fun b hb => by
        cases hb with
        | head => obtain ⟨o, es, ep, e, r⟩ := hm; exact ⟨o, e⟩
        | tail _ h => cases h)
    have rd : Rd (hideAll s'.heap ([C] ++ x.bad)) (.ref D) (.list ds) := by
      refine .list (hid_iff.mpr ⟨p1, fun q => ?_⟩) (p2.ext (hid_anti fun b hb => ?_))
      · rcases List.mem_append.mp q with q | q
        · cases q with
          | head => exact P.n rfl
          | tail _ h => cases h
        · obtain ⟨o, e⟩ := O.live D q; rw [P.d] at e; cases e
      · rcases List.mem_append.mp hb with q | q
        · cases q with
          | head => exact p3
          | tail _ h => cases h
        · exact p5 b q
    show wpAny _ _ (PySem.assign (.Name n p) f.env (.ref D)) _ _ s'
    refine wpAny_assign_Name (wpN (O1.store put rd (hc ▸ put.mem)) fun _ s'' ⟨O2, _⟩ => ?_)
    obtain ⟨⟨m2, hm2⟩, _⟩ := (O2.led _ (.head _)).1
    refine ⟨m2, hm2, fun h' hs' => ?_⟩
    have O3 := O2.leave (h := h') (t := s''.toks) fun b o nb e => (hs'.2 b fun q => nb (by rw [q]; exact .head _)).trans e
    have ef : ([C] ++ x.bad).filter (fun b => !([C] : List Addr).contains b) = x.bad := by
      have e1 : ([C] : List Addr).filter (fun b => !([C] : List Addr).contains b) = [] := by simp
      have e2 : x.bad.filter (fun b => !([C] : List Addr).contains b) = x.bad := List.filter_eq_self.mpr fun b hb => by
        have : b ≠ C := fun q => cb (q ▸ hb)
        simp [this]
      rw [List.filter_append, e1, e2, List.nil_append]
    rw [ef] at O3
    have zsub : Ext x.hz (hideAll s'.heap ([C] ++ x.bad)) := fun b o e => by
      obtain ⟨e1, e2⟩ := O.hz b o e
      exact hid_iff.mpr ⟨P.st.ext b o e1, fun q => by
        rcases List.mem_append.mp q with q | q
        · cases q with
          | head => rw [P.c] at e1; cases e1
          | tail _ h => cases h
        · exact e2 q⟩
    exact hr.run _ (O3.weakHz zsub))
  rw [exec_Assign_Name_used _ _ _ _ hsw]
  refine wpAny_bind (wpAny_standAt (wpAny_bind ?_))
  show wpAny _ _ (do let _ ← comprehension (.ListComp elt (g :: gs) scope cpos) scope f.env _ (newList []) (firstAsync (g :: gs)) (firstIter (g :: gs) f.env) (some (PySem.assign (.Name n p) f.env))) _ _ s
  rw [ha]
  exact wpAny_bind (wpN (wpAny_comprehension_free (use := some (PySem.assign (.Name n p) f.env)) (Q := fun _ s' => Then f rest Q .next s') rfl hs hcl hkind (names_local hnd) hw) fun _ s' hq => wpAny_pure (wpAny_pure hq))

theorem CompP.of {scope : Scope} {C D : Addr} {cs : List (Str × Addr)} {s s' : Shared} {nm gl sto : List Str} {hz : Heap} {bad : List Addr} {ds : List PyData} {vs : List Slot}
    (O : Ok (compF f scope C cs s nm gl sto x.bad) ⟨hz, bad, [.lst D ds], vs⟩ s') : CompP x s ds D C s' := by
  obtain ⟨⟨ws, k, p1, p2⟩, r2⟩ := O.led _ (.head _)
  obtain ⟨a1, a2, a3, a4⟩ := r2 D (.head _)
  obtain ⟨m, hm, _⟩ := O.vars
  exact ⟨O.same, a2, O.locF, a3, ⟨m, hm⟩, ws, k, bad, p1, p2, O.locB, a1, fun b hb => (O.cbB b hb).1⟩

theorem range_flat {α : Type} {xs : List α} {p : α → Bool} {g : α → PyData} : ∀ k ≤ xs.length, (List.range k).flatMap (fun i => match xs[i]? with | some a => if p a then [g a] else [] | none => []) = ((xs.take k).filter p).map g := by
  intro k
  induction k with
  | zero => intro _; simp
  | succ k ih =>
    intro h
    rw [List.range_succ, List.flatMap_append, ih (by omega), List.take_add_one, List.filter_append, List.map_append]
    have : xs[k]? = some xs[k] := List.getElem?_eq_getElem (by omega)
    simp only [List.flatMap_cons, List.flatMap_nil, List.append_nil, this, Option.toList_some]
    cases hp : p xs[k] <;> simp [hp]

theorem CompR.one {elt tgt iter : Expr} {ifs : List Expr} {scope sc : Scope} {pos : Pos} {α : Type} {xs : List α} {di g : α → PyData} {p : α → Bool} {own fr gl ns nm : List Str} {slots vs₀ : List Slot}
    (hI : Iter f x tgt iter (xs.map di)) (hsc : f.env.scope = sc) (hchk : CompChk scope sc own fr gl) (ats : Ats f.nm x.vs fr slots) (hnm : nm = own ++ fr) (hvs : vs₀ = own.map (fun _ => Slot.no) ++ slots)
    (hns : ∀ n ∈ ns, n ∈ own) (hsz : xs.length ≤ sizeLine)
    (turn : ∀ a ∈ xs, ∀ C cs base hz bad led, ∃ vs', Tgt nm vs₀ tgt (di a) ns vs' ∧ Forget vs' vs₀ ∧ Ifs (compF f scope C cs base nm gl own x.bad) ⟨hz, bad, led, vs'⟩ ifs (p a) ∧
      (p a = true → Ev (compF f scope C cs base nm gl own x.bad) ⟨hz, bad, led, vs'⟩ elt (g a))) :
    CompR f x (.ListComp elt [⟨tgt, iter, ifs, 0⟩] scope pos) scope (firstIter [⟨tgt, iter, ifs, 0⟩] f.env) ((xs.filter p).map g) := fun s O => by
  subst hnm hvs
  have hfree : ∀ n, (n, NameKind.free) ∈ scope.names → f.env.kindOf n = some .cell := fun n hn => by have := hchk.free n hn; simp only [Env.kindOf, hsc, this]
  obtain ⟨cl, hcl, hc1, hc2⟩ : ∃ cl, closureFor scope f.env = pure cl ∧ (∀ n, (n, NameKind.free) ∈ scope.names → cl.lookup n = f.env.cells.lookup n) ∧ (∀ n, (n, NameKind.free) ∉ scope.names → cl.lookup n = none) := by
    refine closure_ok fun n hn => ?_
    obtain ⟨c, hc, _⟩ := O.free hsc hchk ats (hchk.cov n hn)
    rw [hc]; rfl
  refine ⟨cl, hcl, wpN (hI.run s O) fun xv s₁ h1 => wpN h1 fun it s₂ h2 => ?_⟩
  obtain ⟨I, fp, St, e1, k, hf, nd, T, st0⟩ := h2
  subst e1
  refine wpAny_newList (newEnv_comp ?_)
  generalize hH : s₂.heap.push { cls := .type "list", data := .seq ([] : List Value).toArray } = H
  obtain ⟨bad', O4⟩ := O.inner k hf nd (T.live 0 _ st0) st0 (fun h h' a b => T.frame 0 h h' a b) hsc hchk ats hc1 hc2 rfl hH.symm
  have lens : (xs.map di).length = xs.length := List.length_map ..
  have loop : ∀ s', s' = { s₂ with heap := pushCells (H.push { cls := .type "dict", data := .dict #[] }) scope.names } →
      codeAny f.W.M f.A (.compLoop (.ListComp elt [⟨tgt, iter, ifs, 0⟩] scope pos) 0 (.ref I) (.ref s₂.heap.objs.size) (compEnvC scope (cellsFrom (H.objs.size + 1) scope.names cl) H.objs.size f.env))
        (fun r s' => r = .ok .next ∧ ∃ D, Value.ref s₂.heap.objs.size = .ref D ∧ CompP x s ((xs.filter p).map g) D H.objs.size s') s' := by
    rintro s' rfl
    refine compLoop_ok (f := compF f scope H.objs.size (cellsFrom (H.objs.size + 1) scope.names cl) s (own ++ fr) gl own x.bad) (acc₀ := []) (rest := [])
      (o := fun i => match xs[i]? with | some a => if p a then [g a] else [] | none => []) (fun _ _ _ => rfl) T hns (fun i d bad hd => ?_) O4 fun s' bad' O5 => ⟨rfl, _, rfl, ?_⟩
    · rw [List.getElem?_map] at hd
      cases ha : xs[i]? with
      | none => rw [ha] at hd; cases hd
      | some a =>
        rw [ha] at hd; cases hd
        have hi : i < xs.length := (List.getElem?_eq_some_iff.mp ha).1
        obtain ⟨vs', t1, t2, t3, t4⟩ := turn a (List.mem_of_getElem? ha) H.objs.size (cellsFrom (H.objs.size + 1) scope.names cl) s (hideAll s₂.heap (fp ++ x.bad)) bad
          (.prd fp (St (i + 1)) :: .lst s₂.heap.objs.size ([] ++ (List.range i).flatMap (fun i => match xs[i]? with | some a => if p a then [g a] else [] | none => [])) :: [])
        refine ⟨vs', p a, t1, t2, t3, fun e => ?_, fun e s₅ O5 => ?_⟩
        · simp only [ha, e]; rfl
        · show wpAny _ _ (do let _ ← PySem.call (.builtin "list.append") [.ref s₂.heap.objs.size, ← eval elt _]) _ _ s₅
          refine wpAny_bind (wpN ((t4 e).run s₅ O5) fun v s₆ ⟨k6, r6⟩ => ?_)
          have O6 := O5.step k6
          obtain ⟨⟨vs, k, hp, hr⟩, _⟩ := O6.led _ (.tail _ (.head _))
          have hsmall : vs.toArray.size ≤ sizeLine := by
            rw [List.size_toArray, hr.length, List.nil_append, range_flat i (by omega), List.length_map]
            have := List.length_filter_le p (xs.take i)
            have := List.length_take_le' i xs
            omega
          refine wpAny_bind (wpAny_list_append_plain ⟨k, hp⟩ (fun h' hp' hs' => wpAny_pure ⟨bad, ?_⟩) hsmall)
          obtain ⟨k', hp'⟩ := hp'
          have := O6.mut (ds' := [] ++ (List.range i).flatMap (fun i => match xs[i]? with | some a => if p a then [g a] else [] | none => []) ++ [g a]) (.there .here) hs' (vs := vs ++ [v]) (k := k') (by rw [PL, hp']; simp) (hr.append (.one r6))
          simp only [ha, e, if_true]
          exact this
    · rw [lens, range_flat _ (Nat.le_refl _), List.take_length, List.nil_append] at O5
      exact CompP.of O5
  exact codeAny_compStart_list (loop _ rfl) (wpE (T.self f.A 0 { s₂ with heap := pushCells (H.push { cls := .type "dict", data := .dict #[] }) scope.names } (O4.led _ (.head _)).1.1) fun v s' ⟨e1, e2⟩ => by subst e1 e2; exact loop _ rfl)
end
end Mine
end
section
open PySem PySem.W PyProof.Rows PySem.Spec
set_option Elab.async false
set_option linter.all false
set_option maxRecDepth 100000
namespace Mine

noncomputable def fnChk (scope : Scope) (nm gl ps : List Str) : Bool :=
  (scope.kind == .function) && !scope.isCoroutine && !scope.isGenerator && nodupS scope.names
  && nm.all (fun n => dbg n && (scope.names.lookup n == some .local || scope.names.lookup n == some .cell)) && decide nm.Nodup
  && gl.all (fun n => dbg n && scope.names.lookup n == some .globalImplicit) && ps.all (fun n => nm.contains n)
structure FnChk (scope : Scope) (nm gl ps : List Str) : Prop where
  kind : scope.kind = .function
  co : scope.isCoroutine = false
  gen : scope.isGenerator = false
  nd : nodupS scope.names = true
  nmk : ∀ n ∈ nm, (n == ("__debug__" : Str)) = false ∧ (scope.names.lookup n = some .local ∨ scope.names.lookup n = some .cell)
  ndn : nm.Nodup
  glk : ∀ n ∈ gl, (n == ("__debug__" : Str)) = false ∧ scope.names.lookup n = some .globalImplicit
  psk : ∀ n ∈ ps, n ∈ nm
theorem fnChk_iff {scope : Scope} {nm gl ps : List Str} (h : fnChk scope nm gl ps = true) : FnChk scope nm gl ps := by
  simp only [fnChk, dbg, Bool.and_eq_true, List.all_eq_true, Bool.or_eq_true, beq_iff_eq, bne_iff_ne, decide_eq_true_eq, Bool.not_eq_true'] at h
  obtain ⟨⟨⟨⟨⟨⟨⟨h1, h2⟩, h3⟩, h4⟩, h5⟩, h6⟩, h7⟩, h8⟩ := h
  exact ⟨h1, h2, h3, h4, fun n hn => ⟨by simpa using (h5 n hn).1, (h5 n hn).2⟩, h6, fun n hn => ⟨by simpa using (h7 n hn).1, (h7 n hn).2⟩, fun n hn => by simpa using h8 n hn⟩

@[reducible] noncomputable def fnF (W : Wd) (A : Around) (rm : Nat) (fd : FuncData) (a L : Addr) (base : Shared) (nm gl : List Str) (cb : List Addr) : Fx :=
  { W := W, A := A.deeper (callEnvC fd L a), rm := rm, env := callEnvC fd L a, base := base, nm := nm, gl := gl, sto := nm, cb := cb }

theorem Ok.entry {W : Wd} {A : Around} {rm : Nat} {s : Shared} {bad : List Addr} (hA : Room A (rm + 1)) (w : W.Ok s.heap) (hb : ∀ b ∈ bad, ∃ o, s.heap.get? b = some o) {fd : FuncData} {a : Addr} {nm gl ps : List Str} (hchk : FnChk fd.scope nm gl ps)
    (hg : fd.globals = mainGlobals) (hbi : fd.builtins = builtinsNs) :
    ∃ bad', Ok (fnF W A rm fd a s.heap.objs.size s nm gl bad) ⟨hideAll s.heap bad, bad', [], nm.map fun _ => .no⟩ { s with heap := pushCells (s.heap.push { cls := .type "frame", data := .dict #[] }) fd.scope.names } ∧
      Ext (hideAll s.heap bad) (hideAll (pushCells (s.heap.push { cls := .type "frame", data := .dict #[] }) fd.scope.names) bad') := by
  have lt2 : ∀ {b : Nat} {o : Obj}, s.heap.get? b = some o → @LT.lt Nat _ b s.heap.objs.size := fun e => szN e
  generalize hH4 : pushCells (s.heap.push { cls := .type "frame", data := .dict #[] }) fd.scope.names = H4
  have k4 : Ext s.heap H4 := fun b o e => by rw [← hH4]; exact pushCells_keeps _ _ b o (Heap.get?_push_of_some _ e)
  have hns : H4.Ns s.heap.objs.size (fun _ => none) := by rw [← hH4]; exact (Heap.Ns.new s.heap (.type "frame")).keeps (pushCells_keeps _ _)
  have ok := cellsFrom_ok fd.scope.names (s.heap.push { cls := .type "frame", data := .dict #[] }) (s.heap.objs.size + 1) [] ⟨fun _ _ hm => (nomatch hm), List.Pairwise.nil⟩ (by rw [Heap.size_push]; exact Nat.le_refl _)
  rw [Heap.size_push, hH4] at ok
  generalize hoc : cellsFrom (s.heap.objs.size + 1) fd.scope.names [] = oc at ok
  have hcs : (callEnvC fd s.heap.objs.size a).cells = oc := hoc
  have hkd : ∀ n, (callEnvC fd s.heap.objs.size a).kindOf n = fd.scope.names.lookup n := fun _ => rfl
  have oca : ∀ {n : Str} {c : Nat}, (n, c) ∈ oc → s.heap.objs.size + 1 ≤ c := fun h => (ok.empty _ _ h).2
  have nlive : ∀ {b : Nat}, s.heap.objs.size ≤ b → s.heap.get? b = none := fun {b} hb => by
    cases q : s.heap.get? b with
    | none => rfl
    | some o => have := lt2 q; omega
  have bmem : ∀ {b : Nat}, b ∈ s.heap.objs.size :: (oc.map (·.2) ++ bad) → @LT.lt Nat _ b s.heap.objs.size → b ∈ bad := fun {b} hb hlt => by
    rcases List.mem_cons.mp hb with e | hb
    · rw [e] at hlt; omega
    · rcases List.mem_append.mp hb with hb | hb
      · obtain ⟨p, hp, rfl⟩ := List.mem_map.mp hb
        have := oca (n := p.1) (c := p.2) hp; omega
      · exact hb
  have hx : Ext (hideAll s.heap bad) (hideAll H4 (s.heap.objs.size :: (oc.map (·.2) ++ bad))) := fun b o e => by
    obtain ⟨e1, e2⟩ := hid_iff.mp e
    exact hid_iff.mpr ⟨k4 b o e1, fun m => e2 (bmem m (lt2 e1))⟩
  refine ⟨s.heap.objs.size :: (oc.map (·.2) ++ bad), ⟨hchk.kind, hg, hbi, hA.deeper, w, hchk.ndn, ?_, ?_, ?_, ?_, .mkh k4, ?_, ?_, nlive (Nat.le_refl _), .head _, ?_, ?_, fun r hr => (nomatch hr), List.nodup_nil, _, hns, ?_⟩, hx⟩
  · intro n hn
    refine ⟨(hchk.nmk n hn).1, ?_⟩
    rcases (hchk.nmk n hn).2 with h | h
    · exact .inl h
    · refine .inr ⟨h, ?_⟩
      obtain ⟨c, hc⟩ := cellsFrom_has fd.scope.names (s.heap.objs.size + 1) (mem_lookup h)
      exact lookup_isSome hc
  · intro n hn; exact hchk.glk n hn
  · intro n hn c hc
    have hc' : oc.lookup n = some c := hcs ▸ hc
    exact nlive (Nat.le_trans (Nat.le_add_right _ 1) (oca (mem_of_lookup hc')))
  · intro b h; exact ⟨List.mem_cons_of_mem _ (List.mem_append_right _ h), hb b h⟩
  · intro b o e
    obtain ⟨e1, e2⟩ := hid_iff.mp e
    exact ⟨k4 b o e1, fun m => e2 (bmem m (lt2 e1))⟩
  · intro b h
    rcases List.mem_cons.mp h with e | h
    · obtain ⟨o, _, _, e', _⟩ := hns; exact ⟨o, e ▸ e'⟩
    · rcases List.mem_append.mp h with h | h
      · obtain ⟨p, hp, rfl⟩ := List.mem_map.mp h
        obtain ⟨o, e, _⟩ := (ok.empty p.1 p.2 hp).1; exact ⟨o, e⟩
      · obtain ⟨o, e⟩ := hb b h; exact ⟨o, k4 b o e⟩
  · intro n c hc
    have hm : (n, c) ∈ oc := mem_of_lookup (hcs ▸ hc : oc.lookup n = some c)
    exact ⟨List.mem_cons_of_mem _ (List.mem_append_left _ (List.mem_map.mpr ⟨_, hm, rfl⟩)), by have := oca hm; intro q; have q' : @Eq Nat c s.heap.objs.size := q; omega, none, (ok.empty _ _ hm).1⟩
  · intro n n' c h h'
    exact name_of_addr ok.apart (mem_of_lookup (hcs ▸ h : oc.lookup n = some c)) (mem_of_lookup (hcs ▸ h' : oc.lookup n' = some c))
  · intro i n sl e1 e2
    have : sl = .no := by simp at e2; exact e2.2.symm
    subst this; trivial

theorem bindOk {f : Fx} (fn : Str × Value → PUnit → Sem (ForInStep PUnit)) (hf : ∀ n v u, fn (n, v) u = (do storeName f.env n v; pure (.yield ⟨⟩))) :
    ∀ (ps : List Str) (vals : List Value) (ds : List PyData) (x : Sx) (s : Shared) (vs' : List Slot) (Q : PUnit → Shared → Prop), Ok f x s → RdAll (hideAll s.heap x.bad) vals ds → Puts f.nm x.vs ps ds vs' → (∀ n ∈ ps, n ∈ f.sto) →
      (∀ s', Ok f { x with vs := vs' } s' → Q ⟨⟩ s') → wpAny f.W.M f.A (forIn (ps.zip vals) PUnit.unit fn) Q No s := by
  intro ps
  induction ps with
  | nil =>
    intro vals ds x s vs' Q O r hp hc h
    cases hp
    exact wpAny_pure (h s O)
  | cons n ps ih =>
    intro vals ds x s vs' Q O r hp hc h
    cases hp with
    | cons put hp =>
    obtain ⟨v, vals, rfl, r1, r2⟩ := r.cons_inv
    rw [List.zip_cons_cons, List.forIn_cons, hf]
    refine wpAny_bind (wpAny_bind (wpN (O.store put r1 (hc n (.head _))) fun _ s' ⟨O', k⟩ => wpAny_pure ?_))
    have q := ih vals _ _ s' vs' Q O' (r2.ext k) hp (fun m hm => hc m (.tail _ hm)) h
    exact q

noncomputable def RetP (f : Fx) (P : List Addr → Heap → Value → Prop) : Flow → Shared → Prop
  | .ret v, s' => Step f.base s' ∧ P f.cb s'.heap v
  | _, _ => False
noncomputable def RetD (f : Fx) (d : PyData) : Flow → Shared → Prop := RetP f fun bad h v => Rd (hideAll h bad) v d
theorem Ok.retD {f : Fx} {x : Sx} {s : Shared} {v : Value} {d : PyData} (O : Ok f x s) (r : Rd (hideAll s.heap x.bad) v d) : RetD f d (.ret v) s :=
  ⟨O.same, r.ext (hid_anti fun b hb => (O.cbB b hb).1)⟩

theorem Ok.around {f : Fx} {x : Sx} {s : Shared} (O : Ok f x s) {A : Around} (h : Room A f.rm) : Ok { f with A := A } x s :=
  ⟨O.kind, O.glo, O.bui, h, O.wok, O.nd, O.knd, O.gk, O.cellF, O.cbB, O.same, O.hz, O.live, O.locF, O.locB, O.cell, O.inj, O.led, O.ledNd, O.vars⟩

theorem FnP.of_body {W : Wd} {a : Addr} {o : Obj} {fd : FuncData} {body : List Stmt} {nm gl ps : List Str} {ds : List PyData} {vs₀ : List Slot} {n : Nat} {P : List Addr → Heap → Value → Prop}
    (hk : W.K.lookup a = some o) (hd : o.data = .func fd) (hcd : codeIn W.K fd.code fd.qualname = true) (hbody : fd.body = .stmts body) (hclo : fd.closure = []) (hg : fd.globals = mainGlobals) (hbi : fd.builtins = builtinsNs)
    (hchk : FnChk fd.scope nm gl ps) (hbind : ∀ vs : List Value, vs.length = ds.length → bindArgs fd ⟨vs, []⟩ = pure (ps.zip vs)) (puts : Puts nm (nm.map fun _ => Slot.no) ps ds vs₀)
    (h : ∀ A s L hz bad bad', Ex (fnF W A n fd a L s nm gl bad) ⟨hz, bad', [], vs₀⟩ body (RetP (fnF W A n fd a L s nm gl bad) P)) : FnP W (.ref a) (n + 1) ds P := fun A s bad vs hA w hb r => by
  refine wpAny_call ?_
  refine codeAny_call_function (Nat.lt_trans (Nat.lt_of_le_of_lt (Nat.le_add_right _ _) hA.dep) (by decide)) (w.k _ _ hk) hd hchk.co hchk.gen hbody (codeRec_of w.k hcd) ?_
  rw [hbind vs r.length, hclo]
  refine wpAny_pure ?_
  simp only [newFunctionEnv, Option.isSome_none, Bool.false_eq_true, if_false]
  refine wpAny_bind (wpAny_alloc ?_)
  refine wpAny_bind (wpAny_layCells _ (fun name kind cells => by cases hkc : kind == NameKind.cell <;> simp [hkc]) _ _ _ _ ?_)
  rw [show ({ s with heap := s.heap.push { cls := .type "frame", data := .dict #[] } } : Shared).heap.objs.size = s.heap.objs.size + 1 from Heap.size_push ..]
  obtain ⟨bad', O, kx⟩ := Ok.entry hA w hb (a := a) hchk hg hbi
  have O' : Ok { fnF W A n fd a s.heap.objs.size s nm gl bad with A := A.in1 } _ _ := O.around hA.in1
  have q := bindOk (f := { fnF W A n fd a s.heap.objs.size s nm gl bad with A := A.in1 }) (fun x _ => do storeName (callEnvC fd s.heap.objs.size a) x.1 x.2; pure (.yield ⟨⟩)) (fun _ _ _ => rfl) ps vs ds _ _ vs₀
    (fun _ s₂ => wpAny (model W.prog W.w) A.in1 (pure (callEnvC fd s.heap.objs.size a)) (fun env s₂ => s₂.heap.NoLimit ∧ codeAny (model W.prog W.w) A (.func body env) (fun r s' => match r with | .ok (.ret v) => Step s s' ∧ P bad s'.heap v | .ok _ => False | .error e => No e s') s₂) No s₂)
    O' (r.ext kx) puts hchk.psk (fun s₂ O₂ => wpAny_pure ⟨(w.ext O₂.same.ext).lim, codeAny_func (wpE ((h A s s.heap.objs.size (hideAll s.heap bad) bad bad').run s₂ (O₂.around hA.deeper)) fun fl s₃ hfl => ?_)⟩)
  · exact wpAny_bind (wpE q fun _ _ h => h)
  · cases fl with
    | ret v => exact hfl
    | _ => exact hfl.elim

end Mine
end
section
open PySem PySem.W PyProof.Rows PySem.Spec
set_option Elab.async false
set_option linter.all false
set_option maxRecDepth 100000
namespace Mine
structure Wd.Glob (W : Wd) : Prop where
  g : ∀ n v, nsIn W.K mainGlobals n = some (some v) → W.mg n = some v
  gn : ∀ n, nsIn W.K mainGlobals n = some none → W.mg n = none
  b : ∀ n : Str, n ≠ ("__name__" : Str) → W.mb n = bootBuiltins n
theorem Wd.Glob.of {W : Wd} {h : Heap} (x : W.Ok h) (b : ∀ n : Str, n ≠ ("__name__" : Str) → W.mb n = bootBuiltins n) : W.Glob :=
  ⟨fun n v e => mg_of x.k x.g e, fun n e => mg_none_of x.k x.g e, b⟩

theorem RdAll.ints {h : Heap} : ∀ {ns : List Int} {vs : List Value}, RdAll h vs (ns.map .int) → IntsAre vs ns
  | [], vs, r => by rw [r.nil_inv]; exact .nil
  | n :: ns, vs, r => by
    obtain ⟨v, r', rfl, a, b⟩ := r.cons_inv
    obtain ⟨t, rfl⟩ := a.int_inv
    exact .cons _ _ (RdAll.ints b)
theorem RdAll.of_ints {h : Heap} : ∀ {ns : List Int} {vs : List Value}, IntsAre vs ns → RdAll h vs (ns.map .int)
  | _, _, .nil => .nil
  | _, _, .cons _ _ r => .cons (.int _ _) (RdAll.of_ints r)

section
variable {W : Wd} {n : Nat}
theorem Fn.len_list {ds : List PyData} (h : (ds.length : Int) < 2 ^ 63) : Fn W (.builtin "len") n [.list ds] (.int ds.length) := fun A s bad vs hA w hb r => by
  obtain ⟨v, _, rfl, r, r'⟩ := r.cons_inv; rw [r'.nil_inv]
  obtain ⟨a, vs, k, rfl, p, q⟩ := r.list_inv
  refine PySem.Calls.call_len_list (PL.isList (hid_iff.mp p).1) (by rw [List.size_toArray, q.length]; exact h) ⟨.tok, ?_⟩
  rw [List.size_toArray, q.length]; exact .int _ _
theorem Fn.len_str {l : List Nat} (h : (l.length : Int) < 2 ^ 63) : Fn W (.builtin "len") n [st l] (.int l.length) := fun A s bad vs hA w hb r => by
  obtain ⟨v, _, rfl, r, r'⟩ := r.cons_inv; rw [r'.nil_inv]
  obtain ⟨t, rfl⟩ := r.str_inv
  refine PySem.P.len_str (by rw [S_len]; omega) ⟨.tok, ?_⟩
  rw [S_len]; exact .int _ _
theorem Fn.abs {i : Int} : Fn W (.builtin "abs") n [.int i] (.int (i.natAbs : Int)) := fun A s bad vs hA w hb r => by
  obtain ⟨v, _, rfl, r, r'⟩ := r.cons_inv; rw [r'.nil_inv]
  obtain ⟨t, rfl⟩ := r.int_inv
  refine call_abs_int fun u tk => ⟨.tok, ?_⟩
  have : (if i < 0 then -i else i) = (i.natAbs : Int) := by split <;> omega
  rw [this]; exact .int _ _
theorem Fn.int {i : Int} : Fn W (.type "int") n [.int i] (.int i) := fun A s bad vs hA w hb r => by
  obtain ⟨v, _, rfl, r, r'⟩ := r.cons_inv; rw [r'.nil_inv]
  obtain ⟨t, rfl⟩ := r.int_inv
  exact call_int_int ⟨.rfl', .int _ _⟩
theorem Fn.divmod {a b : Int} (hb0 : b ≠ 0) (hp : b.natAbs.log2 < 9000) : Fn W (.builtin "divmod") n [.int a, .int b] (.tuple [.int (a.fdiv b), .int (a.fmod b)]) := fun A s bad vs hA w hb r => by
  obtain ⟨v, _, rfl, q1, r'⟩ := r.cons_inv
  obtain ⟨v', _, rfl, q2, r''⟩ := r'.cons_inv; rw [r''.nil_inv]
  obtain ⟨t, rfl⟩ := q1.int_inv; obtain ⟨u, rfl⟩ := q2.int_inv
  refine divmod_int hb0 ⟨.mk' (ext_push _), .tuple (vs := [_, _]) (n := 0) (hid_iff.mpr ⟨Heap.get?_push_size _ rfl, fun m => ?_⟩) (.cons (.int _ _) (.cons (.int _ _) .nil))⟩ (.inl (PyProof.noPylong_of_log2 hp))
  obtain ⟨o, e⟩ := hb _ m; exact Nat.lt_irrefl _ (Heap.lt_size e)
theorem Fn.ord {c : Nat} : Fn W (.builtin "ord") n [st [c]] (.int c) := fun A s bad vs hA w hb r => by
  obtain ⟨v, _, rfl, r, r'⟩ := r.cons_inv; rw [r'.nil_inv]
  obtain ⟨t, rfl⟩ := r.str_inv
  exact PySem.P.ord_of_char ⟨.tok, .int _ _⟩
theorem Fn.sum {ns : List Int} : Fn W (.builtin "sum") n [.list (ns.map .int)] (.int ns.sum) := fun A s bad vs hA w hb r => by
  obtain ⟨v, _, rfl, r, r'⟩ := r.cons_inv; rw [r'.nil_inv]
  obtain ⟨a, vs, k, rfl, p, q⟩ := r.list_inv
  have hi := q.ints
  obtain ⟨xs, hx⟩ := hi.allInts.items
  refine sum_intListG hA.hd (hx ▸ PL.isList (hid_iff.mp p).1) fun h' tk t' hk => ⟨.mk' hk, ?_⟩
  have e1 : ns = xs.toList.map (·.1) := by
    rw [← nums_intItems, ← hx]
    exact (show numsOf vs.toArray.toList = ns from hi.numsOf).symm
  have e2 : preSum (numAt xs) xs.size = ns.sum := by
    rw [preSum_eq, List.take_of_length_le (by simp), e1]
  rw [e2]; exact .int _ _
end
end Mine
end
section
open PySem PySem.W PyProof.Rows PySem.Spec
set_option Elab.async false
set_option linter.all false
set_option maxRecDepth 100000
namespace Mine
open Builtin

noncomputable def B (l : List UInt8) : Value → Prop := fun v => ∃ t, v = .bytes l.toArray t
theorem ascii_loop {F : Type} (l : List UInt8) (h : ∀ c ∈ l, c.toNat < 128) (hs : l.length ≤ sizeLine) (g : Nat → Nat × Array Nat × F → Sem (ForInStep (Nat × Array Nat × F)))
    (hg : ∀ x p (out : Array Nat) st (c : UInt8), l[p]? = some c → out.size ≤ sizeLine → g x (p, out, st) = pure (.yield (p + 1, out ++ #[c.toNat], st))) :
    ∀ (xs : List Nat) (p : Nat) (out : Array Nat) (st : F), xs.length + p = l.length → out.size = p → forIn xs (p, out, st) g = pure (l.length, out ++ ((l.drop p).map UInt8.toNat).toArray, st)
  | [], p, out, st, e, _ => by
    have : p = l.length := by simpa using e
    subst this
    simp
  | x :: xs, p, out, st, e, e2 => by
    have hp : p < l.length := by simp at e; omega
    rw [List.forIn_cons, hg x p out st l[p] (List.getElem?_eq_getElem hp) (by omega)]
    have := ascii_loop l h hs g hg xs (p + 1) (out ++ #[l[p].toNat]) st (by simp at e; omega) (by simp [e2])
    rw [pure_bind]
    dsimp only
    have e3 : l.drop p = l[p] :: l.drop (p + 1) := List.drop_eq_getElem_cons hp
    rw [this, e3]
    generalize l.drop (p + 1) = q
    simp
theorem ascii_run (id : String) (l : List UInt8) (h : ∀ c ∈ l, c.toNat < 128) (hs : l.length ≤ sizeLine) : _codecs.runDecoder id _codecs.asciiDecoder none true l.toArray 0 [] = pure ((l.map UInt8.toNat).toArray, l.length) := by
  unfold _codecs.runDecoder
  simp only [List.size_toArray, Std.Legacy.Range.forIn_eq_forIn_range', Std.Legacy.Range.size, Nat.sub_zero, Nat.add_sub_cancel, Nat.div_one]
  rw [ascii_loop (F := _codecs.Faults) l h hs _ ?_ (List.range' 0 l.length) 0 #[] {} (by simp) (by simp)]
  · simp
  · intro x p out st c hc ho
    have hp : p < l.length := (List.getElem?_eq_some_iff.mp hc).1
    have hc' : (l.toArray.getD p 0) = c := by
      have := (List.getElem?_eq_some_iff.mp hc).2
      simp [Array.getD, hp, this]
    have h128 := h c (List.mem_of_getElem? hc)
    rw [if_neg (by dsimp only; omega), if_neg (by dsimp only; omega)]
    have : _codecs.asciiDecoder.find true l.toArray p = .char c.toNat (p + 1) := by
      show (let c := (l.toArray.getD p 0).toNat; if c < 128 then _codecs.Found.char c (p + 1) else _) = _
      rw [hc']
      exact if_pos h128
    dsimp only
    rw [this]
    rfl

theorem ascii_road {id : String} {b : Array UInt8} : _codecs.decodeRoad id b (Str.ofString "ascii") none [] = (_codecs.runDecoder id _codecs.asciiDecoder none true b 0 [] >>= fun r => mkStr ⟨r.1⟩) := by kernel_rfl
theorem ascii_tree (c : UInt8) (cs : List UInt8) (t u : Tok) : Builtin.«bytes.decode» ⟨[.bytes (c :: cs).toArray t, .str (Str.ofString "ascii") u], []⟩ = (mkStr (Str.ofString "utf-8") >>= fun _ => mkStr (Str.ofString "ascii") >>= fun e => mkStr (Str.ofString "bytes.decode") >>= fun d =>
    PySem.call (.builtin "_codecs.decode.text") [.bytes (c :: cs).toArray t, e, .none, d] >>= fun v => ret v) := by kernel_rfl
theorem ascii_tree0 (t u : Tok) : Builtin.«bytes.decode» ⟨[.bytes (([] : List UInt8)).toArray t, .str (Str.ofString "ascii") u], []⟩ = (rule "bytes.decode.empty" >>= fun _ => retStr Str.empty) := by kernel_rfl
theorem ascii_args (a b : Value) : argsOk "bytes.decode" ⟨[a, b], []⟩ := by unfold argsOk; kernel_rfl

theorem meets_ascii (l : List UInt8) (t u : Tok) (h : ∀ c ∈ l, c.toNat < 128) : Meets (Builtin.«bytes.decode» ⟨[.bytes l.toArray t, .str (Str.ofString "ascii") u], []⟩) (fun _ R s => l.length ≤ sizeLine ∧ ∀ t' k, R (.ok (.ret (.str (S (l.map UInt8.toNat)) t'))) { s with toks := k }) := by
  refine .of_wp fun prog w A R s hS => ?_
  obtain ⟨hsz, hR⟩ := hS
  cases l with
  | nil =>
    rw [ascii_tree0]
    exact wpAny_bind (wpAny_rule (wpAny_bind (wpAny_mkStr (wpAny_pure ⟨_, rfl, hR _ _⟩) (by decide))))
  | cons c cs =>
    rw [ascii_tree]
    refine wpAny_bind (wpAny_mkStr ?_ (by decide))
    refine wpAny_bind (wpAny_mkStr ?_ (by decide))
    refine wpAny_bind (wpAny_mkStr ?_ (by decide))
    refine wpAny_bind (PySem.Calls.call_function_entry KBd.kind_text KBd.plain_text KBd.entry_text (KBd.args_text _ _ _ _) ?_)
    show wpAny _ _ (Bytes.bytesLike _ (.bytes (c :: cs).toArray t) >>= fun r => _) _ _ _
    refine wpAny_bind (wpAny_of_eq KBd.like_eq ?_)
    refine wpAny_bind (wpAny_of_eq KBd.held_eq ?_)
    show wpAny _ _ (_codecs.decodeRoad _ (c :: cs).toArray (PySem.Str.ofString "ascii") none [] >>= fun v => _) _ _ _
    rw [ascii_road, ascii_run _ _ h hsz]
    refine wpAny_bind (wpAny_bind (wpAny_pure ?_))
    exact wpAny_mkStr (wpAny_pure ⟨_, rfl, wpAny_pure ⟨_, rfl, hR _ _⟩⟩) (by show ((c :: cs).map UInt8.toNat).toArray.size ≤ sizeLine; simpa using hsz)
end Mine
end
section
open PySem PySem.W PyProof.Rows PySem.Spec
set_option Elab.async false
set_option linter.all false
set_option maxRecDepth 100000
namespace Mine
section
variable {f : Fx} {x : Sx}
noncomputable abbrev EvB (f : Fx) (x : Sx) (e : Expr) (l : List UInt8) : Prop := EvP f x e fun _ v => B l v
theorem EvB.const {l : List UInt8} {k pos} : EvB f x (.Constant (.bytes l) k pos) l := .bx fun s O => fun _ _ _ => ⟨.tok, ⟨_, rfl⟩⟩
theorem EvP.nameIs {n : Str} {pos} {P : Value → Prop} (a : At f.nm x.vs n (.is P)) : EvP f x (.Name n pos) fun _ v => P v := .bx fun s O => by
  obtain ⟨m, hns, hv⟩ := O.vars
  obtain ⟨i, e1, e2⟩ := a.get
  obtain ⟨v, l, r⟩ := hv i n _ e1 e2
  exact wpAny_Name (O.load hns l ⟨.rfl', r⟩) (O.knd n (List.mem_of_getElem? e1)).1
theorem EvB.add {l r : Expr} {pos} {a b : List UInt8} (h1 : EvB f x l a) (h2 : EvB f x r b) (hn : a.length + b.length ≤ 16777216) : EvB f x (.BinOp l .Add r pos) (a ++ b) := .bx fun s O =>
  wpAny_BinOp (wpN (h1.run s O) fun v s₁ ⟨k1, r1⟩ => wpN (h2.run s₁ (O.step k1)) fun w s₂ ⟨k2, r2⟩ => by
    obtain ⟨t, rfl⟩ := r1; obtain ⟨u, rfl⟩ := r2
    exact KBy.add_bytes (by simpa using hn) fun t' k => ⟨(k1.trans k2).trans .tok, ⟨t', by simp⟩⟩)
theorem EvB.slice {v : Expr} {lo hi : Option Expr} {p pos} {ds : List UInt8} {a b : Option Int} (h1 : EvB f x v ds) (h2 : EvO f x lo a) (h3 : EvO f x hi b) (hn : ds.length ≤ sizeLine) :
    EvB f x (.Subscript v (.Slice lo hi .none p) pos) (slc ds a b) := .bx fun s O =>
  Subscript_ (wpN (h1.run s O) fun o s₁ ⟨k1, r1⟩ => wpAny_Slice (wpN (h2.run s₁ (O.step k1)) fun l s₂ ⟨k2, pa, e1, e2⟩ => wpN (h3.run s₂ ((O.step k1).step k2)) fun u s₃ ⟨k3, pb, e3, e4⟩ => wpAny_evalPart_none (by
    subst e1 e2 e3 e4
    have k := (k1.trans k2).trans k3
    obtain ⟨t, rfl⟩ := r1
    refine tail_any (typeIs_bytes _ _ t) FB.slot_bytes_getitem.lookup (getItem_meets (typeIs_bytes _ _ _) (by decide) FB.slot_bytes_getitem FB.entry_bytes_getitem (FB.args_bytes_getitem_2 _ _) (KBc.meets_slice2 ds.toArray t _ (isPart_of pa) (isPart_of pb))
      ⟨Heap.IsSliceOf.new _ _ _ _, Nat.le_trans (KBc.size_picked_le _ _ _) (by simpa using hn), fun t' k' => ?_⟩) rfl
    refine ⟨k.trans (.mk' (ext_push _)), t', ?_⟩
    rw [KBc.picked_eq]
    show Value.bytes _ _ = .bytes (slc ds _ _).toArray t'
    simp [slc])))
theorem Ex.assignIs {n : Str} {p : Pos} {e : Expr} {pos : Pos} {rest : List Stmt} {P : Value → Prop} {vs' : List Slot} {Q : Flow → Shared → Prop} (h : EvP f x e fun _ v => P v) (put : Put f.nm x.vs n (.is P) vs')
    (hr : Ex f { x with vs := vs' } rest Q) (hc : f.sto = f.nm := by exact rfl)
    (hs : swapsWith e (some (.Name n p)) pos.line f.env = pure false := by exact rfl) : Ex f x (.Assign [.Name n p] e pos :: rest) Q := .cons fun s O =>
  wpAny_Assign_Name (wpN (h.run s O) fun v s₁ ⟨k, r⟩ => wpN ((O.step k).store put r (hc ▸ put.mem)) fun _ s₂ O₂ => hr.run s₂ O₂.1) hs

theorem Ev.decode {o : Expr} {apos pos k p2} {l : List UInt8} (h0 : EvB f x o l) (h : ∀ c ∈ l, c.toNat < 128) (hn : l.length ≤ sizeLine)
    (hbase : attributeBase o (Str.ofString "decode") f.env (eval o f.env) = eval o f.env := by exact rfl)
    (hline : (apos.endLine == pos.line) = true := by exact rfl) :
    Ev f x (.Call (.Attribute o (Str.ofString "decode") apos) [.Constant (.str (Str.ofString "ascii")) k p2] [] pos) (st (l.map UInt8.toNat)) :=
  EvP.meth (P0 := fun _ v => B l v) (ds := [.str (Str.ofString "ascii")]) h0 FB.plainAttrs_bytes FB.slot_bytes_decode FB.type_bytes_decode
    (fun h v ⟨t, e⟩ => by subst e; exact ⟨fun s _ => typeIs_bytes _ _ _, fun _ e => nomatch e⟩) (fun _ _ _ b _ => b) (.cons .str .nil)
    (fun s v vs O ⟨t, e⟩ r => by
      subst e
      obtain ⟨v', _, rfl, r1, r2⟩ := r.cons_inv; rw [r2.nil_inv]
      obtain ⟨u, rfl⟩ := r1.str_inv
      exact call_meets FB.slot_bytes_decode (typeIs_bytes _ _ _) FB.entry_bytes_decode (ascii_args _ _) (meets_ascii l t u h) ⟨hn, fun t' k => ⟨.tok, .str _ _⟩⟩)
    hbase rfl hline rfl rfl
end
end Mine
end
section
open PySem PySem.W PyProof.Rows PySem.Spec
set_option Elab.async false
set_option linter.all false
set_option maxRecDepth 100000
namespace Mine
theorem At.i0 {n0 : Str} {nm : List Str} {s0 : Slot} {vs : List Slot} : At (n0 :: nm) (s0 :: vs) n0 s0 := .here
theorem Put.i0 {n0 : Str} {nm : List Str} {s0 s : Slot} {vs : List Slot} : Put (n0 :: nm) (s0 :: vs) n0 s (s :: vs) := .here
theorem Mem.i0 {n0 : Str} {nm : List Str} : n0 ∈ n0 :: nm := .head _
theorem At.i1 {n0 n1 : Str} {nm : List Str} {s0 s1 : Slot} {vs : List Slot} : At (n0 :: n1 :: nm) (s0 :: s1 :: vs) n1 s1 := .there At.i0
theorem Put.i1 {n0 n1 : Str} {nm : List Str} {s0 s1 s : Slot} {vs : List Slot} : Put (n0 :: n1 :: nm) (s0 :: s1 :: vs) n1 s (s0 :: s :: vs) := .there Put.i0
theorem Mem.i1 {n0 n1 : Str} {nm : List Str} : n1 ∈ n0 :: n1 :: nm := .tail _ Mem.i0
theorem At.i2 {n0 n1 n2 : Str} {nm : List Str} {s0 s1 s2 : Slot} {vs : List Slot} : At (n0 :: n1 :: n2 :: nm) (s0 :: s1 :: s2 :: vs) n2 s2 := .there At.i1
theorem Put.i2 {n0 n1 n2 : Str} {nm : List Str} {s0 s1 s2 s : Slot} {vs : List Slot} : Put (n0 :: n1 :: n2 :: nm) (s0 :: s1 :: s2 :: vs) n2 s (s0 :: s1 :: s :: vs) := .there Put.i1
theorem Mem.i2 {n0 n1 n2 : Str} {nm : List Str} : n2 ∈ n0 :: n1 :: n2 :: nm := .tail _ Mem.i1
theorem At.i3 {n0 n1 n2 n3 : Str} {nm : List Str} {s0 s1 s2 s3 : Slot} {vs : List Slot} : At (n0 :: n1 :: n2 :: n3 :: nm) (s0 :: s1 :: s2 :: s3 :: vs) n3 s3 := .there At.i2
theorem Put.i3 {n0 n1 n2 n3 : Str} {nm : List Str} {s0 s1 s2 s3 s : Slot} {vs : List Slot} : Put (n0 :: n1 :: n2 :: n3 :: nm) (s0 :: s1 :: s2 :: s3 :: vs) n3 s (s0 :: s1 :: s2 :: s :: vs) := .there Put.i2
theorem Mem.i3 {n0 n1 n2 n3 : Str} {nm : List Str} : n3 ∈ n0 :: n1 :: n2 :: n3 :: nm := .tail _ Mem.i2
theorem At.i4 {n0 n1 n2 n3 n4 : Str} {nm : List Str} {s0 s1 s2 s3 s4 : Slot} {vs : List Slot} : At (n0 :: n1 :: n2 :: n3 :: n4 :: nm) (s0 :: s1 :: s2 :: s3 :: s4 :: vs) n4 s4 := .there At.i3
theorem Put.i4 {n0 n1 n2 n3 n4 : Str} {nm : List Str} {s0 s1 s2 s3 s4 s : Slot} {vs : List Slot} : Put (n0 :: n1 :: n2 :: n3 :: n4 :: nm) (s0 :: s1 :: s2 :: s3 :: s4 :: vs) n4 s (s0 :: s1 :: s2 :: s3 :: s :: vs) := .there Put.i3
theorem Mem.i4 {n0 n1 n2 n3 n4 : Str} {nm : List Str} : n4 ∈ n0 :: n1 :: n2 :: n3 :: n4 :: nm := .tail _ Mem.i3
theorem At.i5 {n0 n1 n2 n3 n4 n5 : Str} {nm : List Str} {s0 s1 s2 s3 s4 s5 : Slot} {vs : List Slot} : At (n0 :: n1 :: n2 :: n3 :: n4 :: n5 :: nm) (s0 :: s1 :: s2 :: s3 :: s4 :: s5 :: vs) n5 s5 := .there At.i4
theorem Put.i5 {n0 n1 n2 n3 n4 n5 : Str} {nm : List Str} {s0 s1 s2 s3 s4 s5 s : Slot} {vs : List Slot} : Put (n0 :: n1 :: n2 :: n3 :: n4 :: n5 :: nm) (s0 :: s1 :: s2 :: s3 :: s4 :: s5 :: vs) n5 s (s0 :: s1 :: s2 :: s3 :: s4 :: s :: vs) := .there Put.i4
theorem Mem.i5 {n0 n1 n2 n3 n4 n5 : Str} {nm : List Str} : n5 ∈ n0 :: n1 :: n2 :: n3 :: n4 :: n5 :: nm := .tail _ Mem.i4
theorem At.i6 {n0 n1 n2 n3 n4 n5 n6 : Str} {nm : List Str} {s0 s1 s2 s3 s4 s5 s6 : Slot} {vs : List Slot} : At (n0 :: n1 :: n2 :: n3 :: n4 :: n5 :: n6 :: nm) (s0 :: s1 :: s2 :: s3 :: s4 :: s5 :: s6 :: vs) n6 s6 := .there At.i5
theorem Put.i6 {n0 n1 n2 n3 n4 n5 n6 : Str} {nm : List Str} {s0 s1 s2 s3 s4 s5 s6 s : Slot} {vs : List Slot} : Put (n0 :: n1 :: n2 :: n3 :: n4 :: n5 :: n6 :: nm) (s0 :: s1 :: s2 :: s3 :: s4 :: s5 :: s6 :: vs) n6 s (s0 :: s1 :: s2 :: s3 :: s4 :: s5 :: s :: vs) := .there Put.i5
theorem Mem.i6 {n0 n1 n2 n3 n4 n5 n6 : Str} {nm : List Str} : n6 ∈ n0 :: n1 :: n2 :: n3 :: n4 :: n5 :: n6 :: nm := .tail _ Mem.i5
theorem At.i7 {n0 n1 n2 n3 n4 n5 n6 n7 : Str} {nm : List Str} {s0 s1 s2 s3 s4 s5 s6 s7 : Slot} {vs : List Slot} : At (n0 :: n1 :: n2 :: n3 :: n4 :: n5 :: n6 :: n7 :: nm) (s0 :: s1 :: s2 :: s3 :: s4 :: s5 :: s6 :: s7 :: vs) n7 s7 := .there At.i6
theorem Put.i7 {n0 n1 n2 n3 n4 n5 n6 n7 : Str} {nm : List Str} {s0 s1 s2 s3 s4 s5 s6 s7 s : Slot} {vs : List Slot} : Put (n0 :: n1 :: n2 :: n3 :: n4 :: n5 :: n6 :: n7 :: nm) (s0 :: s1 :: s2 :: s3 :: s4 :: s5 :: s6 :: s7 :: vs) n7 s (s0 :: s1 :: s2 :: s3 :: s4 :: s5 :: s6 :: s :: vs) := .there Put.i6
theorem Mem.i7 {n0 n1 n2 n3 n4 n5 n6 n7 : Str} {nm : List Str} : n7 ∈ n0 :: n1 :: n2 :: n3 :: n4 :: n5 :: n6 :: n7 :: nm := .tail _ Mem.i6
theorem At.i8 {n0 n1 n2 n3 n4 n5 n6 n7 n8 : Str} {nm : List Str} {s0 s1 s2 s3 s4 s5 s6 s7 s8 : Slot} {vs : List Slot} : At (n0 :: n1 :: n2 :: n3 :: n4 :: n5 :: n6 :: n7 :: n8 :: nm) (s0 :: s1 :: s2 :: s3 :: s4 :: s5 :: s6 :: s7 :: s8 :: vs) n8 s8 := .there At.i7
theorem Put.i8 {n0 n1 n2 n3 n4 n5 n6 n7 n8 : Str} {nm : List Str} {s0 s1 s2 s3 s4 s5 s6 s7 s8 s : Slot} {vs : List Slot} : Put (n0 :: n1 :: n2 :: n3 :: n4 :: n5 :: n6 :: n7 :: n8 :: nm) (s0 :: s1 :: s2 :: s3 :: s4 :: s5 :: s6 :: s7 :: s8 :: vs) n8 s (s0 :: s1 :: s2 :: s3 :: s4 :: s5 :: s6 :: s7 :: s :: vs) := .there Put.i7
theorem Mem.i8 {n0 n1 n2 n3 n4 n5 n6 n7 n8 : Str} {nm : List Str} : n8 ∈ n0 :: n1 :: n2 :: n3 :: n4 :: n5 :: n6 :: n7 :: n8 :: nm := .tail _ Mem.i7
theorem At.i9 {n0 n1 n2 n3 n4 n5 n6 n7 n8 n9 : Str} {nm : List Str} {s0 s1 s2 s3 s4 s5 s6 s7 s8 s9 : Slot} {vs : List Slot} : At (n0 :: n1 :: n2 :: n3 :: n4 :: n5 :: n6 :: n7 :: n8 :: n9 :: nm) (s0 :: s1 :: s2 :: s3 :: s4 :: s5 :: s6 :: s7 :: s8 :: s9 :: vs) n9 s9 := .there At.i8
theorem Put.i9 {n0 n1 n2 n3 n4 n5 n6 n7 n8 n9 : Str} {nm : List Str} {s0 s1 s2 s3 s4 s5 s6 s7 s8 s9 s : Slot} {vs : List Slot} : Put (n0 :: n1 :: n2 :: n3 :: n4 :: n5 :: n6 :: n7 :: n8 :: n9 :: nm) (s0 :: s1 :: s2 :: s3 :: s4 :: s5 :: s6 :: s7 :: s8 :: s9 :: vs) n9 s (s0 :: s1 :: s2 :: s3 :: s4 :: s5 :: s6 :: s7 :: s8 :: s :: vs) := .there Put.i8
theorem Mem.i9 {n0 n1 n2 n3 n4 n5 n6 n7 n8 n9 : Str} {nm : List Str} : n9 ∈ n0 :: n1 :: n2 :: n3 :: n4 :: n5 :: n6 :: n7 :: n8 :: n9 :: nm := .tail _ Mem.i8
theorem At.i10 {n0 n1 n2 n3 n4 n5 n6 n7 n8 n9 n10 : Str} {nm : List Str} {s0 s1 s2 s3 s4 s5 s6 s7 s8 s9 s10 : Slot} {vs : List Slot} : At (n0 :: n1 :: n2 :: n3 :: n4 :: n5 :: n6 :: n7 :: n8 :: n9 :: n10 :: nm) (s0 :: s1 :: s2 :: s3 :: s4 :: s5 :: s6 :: s7 :: s8 :: s9 :: s10 :: vs) n10 s10 := .there At.i9
theorem Put.i10 {n0 n1 n2 n3 n4 n5 n6 n7 n8 n9 n10 : Str} {nm : List Str} {s0 s1 s2 s3 s4 s5 s6 s7 s8 s9 s10 s : Slot} {vs : List Slot} : Put (n0 :: n1 :: n2 :: n3 :: n4 :: n5 :: n6 :: n7 :: n8 :: n9 :: n10 :: nm) (s0 :: s1 :: s2 :: s3 :: s4 :: s5 :: s6 :: s7 :: s8 :: s9 :: s10 :: vs) n10 s (s0 :: s1 :: s2 :: s3 :: s4 :: s5 :: s6 :: s7 :: s8 :: s9 :: s :: vs) := .there Put.i9
theorem Mem.i10 {n0 n1 n2 n3 n4 n5 n6 n7 n8 n9 n10 : Str} {nm : List Str} : n10 ∈ n0 :: n1 :: n2 :: n3 :: n4 :: n5 :: n6 :: n7 :: n8 :: n9 :: n10 :: nm := .tail _ Mem.i9
theorem At.i11 {n0 n1 n2 n3 n4 n5 n6 n7 n8 n9 n10 n11 : Str} {nm : List Str} {s0 s1 s2 s3 s4 s5 s6 s7 s8 s9 s10 s11 : Slot} {vs : List Slot} : At (n0 :: n1 :: n2 :: n3 :: n4 :: n5 :: n6 :: n7 :: n8 :: n9 :: n10 :: n11 :: nm) (s0 :: s1 :: s2 :: s3 :: s4 :: s5 :: s6 :: s7 :: s8 :: s9 :: s10 :: s11 :: vs) n11 s11 := .there At.i10
theorem Put.i11 {n0 n1 n2 n3 n4 n5 n6 n7 n8 n9 n10 n11 : Str} {nm : List Str} {s0 s1 s2 s3 s4 s5 s6 s7 s8 s9 s10 s11 s : Slot} {vs : List Slot} : Put (n0 :: n1 :: n2 :: n3 :: n4 :: n5 :: n6 :: n7 :: n8 :: n9 :: n10 :: n11 :: nm) (s0 :: s1 :: s2 :: s3 :: s4 :: s5 :: s6 :: s7 :: s8 :: s9 :: s10 :: s11 :: vs) n11 s (s0 :: s1 :: s2 :: s3 :: s4 :: s5 :: s6 :: s7 :: s8 :: s9 :: s10 :: s :: vs) := .there Put.i10
theorem Mem.i11 {n0 n1 n2 n3 n4 n5 n6 n7 n8 n9 n10 n11 : Str} {nm : List Str} : n11 ∈ n0 :: n1 :: n2 :: n3 :: n4 :: n5 :: n6 :: n7 :: n8 :: n9 :: n10 :: n11 :: nm := .tail _ Mem.i10
theorem At.i12 {n0 n1 n2 n3 n4 n5 n6 n7 n8 n9 n10 n11 n12 : Str} {nm : List Str} {s0 s1 s2 s3 s4 s5 s6 s7 s8 s9 s10 s11 s12 : Slot} {vs : List Slot} : At (n0 :: n1 :: n2 :: n3 :: n4 :: n5 :: n6 :: n7 :: n8 :: n9 :: n10 :: n11 :: n12 :: nm) (s0 :: s1 :: s2 :: s3 :: s4 :: s5 :: s6 :: s7 :: s8 :: s9 :: s10 :: s11 :: s12 :: vs) n12 s12 := .there At.i11
theorem Put.i12 {n0 n1 n2 n3 n4 n5 n6 n7 n8 n9 n10 n11 n12 : Str} {nm : List Str} {s0 s1 s2 s3 s4 s5 s6 s7 s8 s9 s10 s11 s12 s : Slot} {vs : List Slot} : Put (n0 :: n1 :: n2 :: n3 :: n4 :: n5 :: n6 :: n7 :: n8 :: n9 :: n10 :: n11 :: n12 :: nm) (s0 :: s1 :: s2 :: s3 :: s4 :: s5 :: s6 :: s7 :: s8 :: s9 :: s10 :: s11 :: s12 :: vs) n12 s (s0 :: s1 :: s2 :: s3 :: s4 :: s5 :: s6 :: s7 :: s8 :: s9 :: s10 :: s11 :: s :: vs) := .there Put.i11
theorem Mem.i12 {n0 n1 n2 n3 n4 n5 n6 n7 n8 n9 n10 n11 n12 : Str} {nm : List Str} : n12 ∈ n0 :: n1 :: n2 :: n3 :: n4 :: n5 :: n6 :: n7 :: n8 :: n9 :: n10 :: n11 :: n12 :: nm := .tail _ Mem.i11
theorem At.i13 {n0 n1 n2 n3 n4 n5 n6 n7 n8 n9 n10 n11 n12 n13 : Str} {nm : List Str} {s0 s1 s2 s3 s4 s5 s6 s7 s8 s9 s10 s11 s12 s13 : Slot} {vs : List Slot} : At (n0 :: n1 :: n2 :: n3 :: n4 :: n5 :: n6 :: n7 :: n8 :: n9 :: n10 :: n11 :: n12 :: n13 :: nm) (s0 :: s1 :: s2 :: s3 :: s4 :: s5 :: s6 :: s7 :: s8 :: s9 :: s10 :: s11 :: s12 :: s13 :: vs) n13 s13 := .there At.i12
theorem Put.i13 {n0 n1 n2 n3 n4 n5 n6 n7 n8 n9 n10 n11 n12 n13 : Str} {nm : List Str} {s0 s1 s2 s3 s4 s5 s6 s7 s8 s9 s10 s11 s12 s13 s : Slot} {vs : List Slot} : Put (n0 :: n1 :: n2 :: n3 :: n4 :: n5 :: n6 :: n7 :: n8 :: n9 :: n10 :: n11 :: n12 :: n13 :: nm) (s0 :: s1 :: s2 :: s3 :: s4 :: s5 :: s6 :: s7 :: s8 :: s9 :: s10 :: s11 :: s12 :: s13 :: vs) n13 s (s0 :: s1 :: s2 :: s3 :: s4 :: s5 :: s6 :: s7 :: s8 :: s9 :: s10 :: s11 :: s12 :: s :: vs) := .there Put.i12
theorem Mem.i13 {n0 n1 n2 n3 n4 n5 n6 n7 n8 n9 n10 n11 n12 n13 : Str} {nm : List Str} : n13 ∈ n0 :: n1 :: n2 :: n3 :: n4 :: n5 :: n6 :: n7 :: n8 :: n9 :: n10 :: n11 :: n12 :: n13 :: nm := .tail _ Mem.i12
theorem At.i14 {n0 n1 n2 n3 n4 n5 n6 n7 n8 n9 n10 n11 n12 n13 n14 : Str} {nm : List Str} {s0 s1 s2 s3 s4 s5 s6 s7 s8 s9 s10 s11 s12 s13 s14 : Slot} {vs : List Slot} : At (n0 :: n1 :: n2 :: n3 :: n4 :: n5 :: n6 :: n7 :: n8 :: n9 :: n10 :: n11 :: n12 :: n13 :: n14 :: nm) (s0 :: s1 :: s2 :: s3 :: s4 :: s5 :: s6 :: s7 :: s8 :: s9 :: s10 :: s11 :: s12 :: s13 :: s14 :: vs) n14 s14 := .there At.i13
theorem Put.i14 {n0 n1 n2 n3 n4 n5 n6 n7 n8 n9 n10 n11 n12 n13 n14 : Str} {nm : List Str} {s0 s1 s2 s3 s4 s5 s6 s7 s8 s9 s10 s11 s12 s13 s14 s : Slot} {vs : List Slot} : Put (n0 :: n1 :: n2 :: n3 :: n4 :: n5 :: n6 :: n7 :: n8 :: n9 :: n10 :: n11 :: n12 :: n13 :: n14 :: nm) (s0 :: s1 :: s2 :: s3 :: s4 :: s5 :: s6 :: s7 :: s8 :: s9 :: s10 :: s11 :: s12 :: s13 :: s14 :: vs) n14 s (s0 :: s1 :: s2 :: s3 :: s4 :: s5 :: s6 :: s7 :: s8 :: s9 :: s10 :: s11 :: s12 :: s13 :: s :: vs) := .there Put.i13
theorem Mem.i14 {n0 n1 n2 n3 n4 n5 n6 n7 n8 n9 n10 n11 n12 n13 n14 : Str} {nm : List Str} : n14 ∈ n0 :: n1 :: n2 :: n3 :: n4 :: n5 :: n6 :: n7 :: n8 :: n9 :: n10 :: n11 :: n12 :: n13 :: n14 :: nm := .tail _ Mem.i13
theorem At.i15 {n0 n1 n2 n3 n4 n5 n6 n7 n8 n9 n10 n11 n12 n13 n14 n15 : Str} {nm : List Str} {s0 s1 s2 s3 s4 s5 s6 s7 s8 s9 s10 s11 s12 s13 s14 s15 : Slot} {vs : List Slot} : At (n0 :: n1 :: n2 :: n3 :: n4 :: n5 :: n6 :: n7 :: n8 :: n9 :: n10 :: n11 :: n12 :: n13 :: n14 :: n15 :: nm) (s0 :: s1 :: s2 :: s3 :: s4 :: s5 :: s6 :: s7 :: s8 :: s9 :: s10 :: s11 :: s12 :: s13 :: s14 :: s15 :: vs) n15 s15 := .there At.i14
theorem Put.i15 {n0 n1 n2 n3 n4 n5 n6 n7 n8 n9 n10 n11 n12 n13 n14 n15 : Str} {nm : List Str} {s0 s1 s2 s3 s4 s5 s6 s7 s8 s9 s10 s11 s12 s13 s14 s15 s : Slot} {vs : List Slot} : Put (n0 :: n1 :: n2 :: n3 :: n4 :: n5 :: n6 :: n7 :: n8 :: n9 :: n10 :: n11 :: n12 :: n13 :: n14 :: n15 :: nm) (s0 :: s1 :: s2 :: s3 :: s4 :: s5 :: s6 :: s7 :: s8 :: s9 :: s10 :: s11 :: s12 :: s13 :: s14 :: s15 :: vs) n15 s (s0 :: s1 :: s2 :: s3 :: s4 :: s5 :: s6 :: s7 :: s8 :: s9 :: s10 :: s11 :: s12 :: s13 :: s14 :: s :: vs) := .there Put.i14
theorem Mem.i15 {n0 n1 n2 n3 n4 n5 n6 n7 n8 n9 n10 n11 n12 n13 n14 n15 : Str} {nm : List Str} : n15 ∈ n0 :: n1 :: n2 :: n3 :: n4 :: n5 :: n6 :: n7 :: n8 :: n9 :: n10 :: n11 :: n12 :: n13 :: n14 :: n15 :: nm := .tail _ Mem.i14
theorem At.i16 {n0 n1 n2 n3 n4 n5 n6 n7 n8 n9 n10 n11 n12 n13 n14 n15 n16 : Str} {nm : List Str} {s0 s1 s2 s3 s4 s5 s6 s7 s8 s9 s10 s11 s12 s13 s14 s15 s16 : Slot} {vs : List Slot} : At (n0 :: n1 :: n2 :: n3 :: n4 :: n5 :: n6 :: n7 :: n8 :: n9 :: n10 :: n11 :: n12 :: n13 :: n14 :: n15 :: n16 :: nm) (s0 :: s1 :: s2 :: s3 :: s4 :: s5 :: s6 :: s7 :: s8 :: s9 :: s10 :: s11 :: s12 :: s13 :: s14 :: s15 :: s16 :: vs) n16 s16 := .there At.i15
theorem Put.i16 {n0 n1 n2 n3 n4 n5 n6 n7 n8 n9 n10 n11 n12 n13 n14 n15 n16 : Str} {nm : List Str} {s0 s1 s2 s3 s4 s5 s6 s7 s8 s9 s10 s11 s12 s13 s14 s15 s16 s : Slot} {vs : List Slot} : Put (n0 :: n1 :: n2 :: n3 :: n4 :: n5 :: n6 :: n7 :: n8 :: n9 :: n10 :: n11 :: n12 :: n13 :: n14 :: n15 :: n16 :: nm) (s0 :: s1 :: s2 :: s3 :: s4 :: s5 :: s6 :: s7 :: s8 :: s9 :: s10 :: s11 :: s12 :: s13 :: s14 :: s15 :: s16 :: vs) n16 s (s0 :: s1 :: s2 :: s3 :: s4 :: s5 :: s6 :: s7 :: s8 :: s9 :: s10 :: s11 :: s12 :: s13 :: s14 :: s15 :: s :: vs) := .there Put.i15
theorem Mem.i16 {n0 n1 n2 n3 n4 n5 n6 n7 n8 n9 n10 n11 n12 n13 n14 n15 n16 : Str} {nm : List Str} : n16 ∈ n0 :: n1 :: n2 :: n3 :: n4 :: n5 :: n6 :: n7 :: n8 :: n9 :: n10 :: n11 :: n12 :: n13 :: n14 :: n15 :: n16 :: nm := .tail _ Mem.i15
theorem At.i17 {n0 n1 n2 n3 n4 n5 n6 n7 n8 n9 n10 n11 n12 n13 n14 n15 n16 n17 : Str} {nm : List Str} {s0 s1 s2 s3 s4 s5 s6 s7 s8 s9 s10 s11 s12 s13 s14 s15 s16 s17 : Slot} {vs : List Slot} : At (n0 :: n1 :: n2 :: n3 :: n4 :: n5 :: n6 :: n7 :: n8 :: n9 :: n10 :: n11 :: n12 :: n13 :: n14 :: n15 :: n16 :: n17 :: nm) (s0 :: s1 :: s2 :: s3 :: s4 :: s5 :: s6 :: s7 :: s8 :: s9 :: s10 :: s11 :: s12 :: s13 :: s14 :: s15 :: s16 :: s17 :: vs) n17 s17 := .there At.i16
theorem Put.i17 {n0 n1 n2 n3 n4 n5 n6 n7 n8 n9 n10 n11 n12 n13 n14 n15 n16 n17 : Str} {nm : List Str} {s0 s1 s2 s3 s4 s5 s6 s7 s8 s9 s10 s11 s12 s13 s14 s15 s16 s17 s : Slot} {vs : List Slot} : Put (n0 :: n1 :: n2 :: n3 :: n4 :: n5 :: n6 :: n7 :: n8 :: n9 :: n10 :: n11 :: n12 :: n13 :: n14 :: n15 :: n16 :: n17 :: nm) (s0 :: s1 :: s2 :: s3 :: s4 :: s5 :: s6 :: s7 :: s8 :: s9 :: s10 :: s11 :: s12 :: s13 :: s14 :: s15 :: s16 :: s17 :: vs) n17 s (s0 :: s1 :: s2 :: s3 :: s4 :: s5 :: s6 :: s7 :: s8 :: s9 :: s10 :: s11 :: s12 :: s13 :: s14 :: s15 :: s16 :: s :: vs) := .there Put.i16
theorem Mem.i17 {n0 n1 n2 n3 n4 n5 n6 n7 n8 n9 n10 n11 n12 n13 n14 n15 n16 n17 : Str} {nm : List Str} : n17 ∈ n0 :: n1 :: n2 :: n3 :: n4 :: n5 :: n6 :: n7 :: n8 :: n9 :: n10 :: n11 :: n12 :: n13 :: n14 :: n15 :: n16 :: n17 :: nm := .tail _ Mem.i16
theorem At.i18 {n0 n1 n2 n3 n4 n5 n6 n7 n8 n9 n10 n11 n12 n13 n14 n15 n16 n17 n18 : Str} {nm : List Str} {s0 s1 s2 s3 s4 s5 s6 s7 s8 s9 s10 s11 s12 s13 s14 s15 s16 s17 s18 : Slot} {vs : List Slot} : At (n0 :: n1 :: n2 :: n3 :: n4 :: n5 :: n6 :: n7 :: n8 :: n9 :: n10 :: n11 :: n12 :: n13 :: n14 :: n15 :: n16 :: n17 :: n18 :: nm) (s0 :: s1 :: s2 :: s3 :: s4 :: s5 :: s6 :: s7 :: s8 :: s9 :: s10 :: s11 :: s12 :: s13 :: s14 :: s15 :: s16 :: s17 :: s18 :: vs) n18 s18 := .there At.i17
theorem Put.i18 {n0 n1 n2 n3 n4 n5 n6 n7 n8 n9 n10 n11 n12 n13 n14 n15 n16 n17 n18 : Str} {nm : List Str} {s0 s1 s2 s3 s4 s5 s6 s7 s8 s9 s10 s11 s12 s13 s14 s15 s16 s17 s18 s : Slot} {vs : List Slot} : Put (n0 :: n1 :: n2 :: n3 :: n4 :: n5 :: n6 :: n7 :: n8 :: n9 :: n10 :: n11 :: n12 :: n13 :: n14 :: n15 :: n16 :: n17 :: n18 :: nm) (s0 :: s1 :: s2 :: s3 :: s4 :: s5 :: s6 :: s7 :: s8 :: s9 :: s10 :: s11 :: s12 :: s13 :: s14 :: s15 :: s16 :: s17 :: s18 :: vs) n18 s (s0 :: s1 :: s2 :: s3 :: s4 :: s5 :: s6 :: s7 :: s8 :: s9 :: s10 :: s11 :: s12 :: s13 :: s14 :: s15 :: s16 :: s17 :: s :: vs) := .there Put.i17
theorem Mem.i18 {n0 n1 n2 n3 n4 n5 n6 n7 n8 n9 n10 n11 n12 n13 n14 n15 n16 n17 n18 : Str} {nm : List Str} : n18 ∈ n0 :: n1 :: n2 :: n3 :: n4 :: n5 :: n6 :: n7 :: n8 :: n9 :: n10 :: n11 :: n12 :: n13 :: n14 :: n15 :: n16 :: n17 :: n18 :: nm := .tail _ Mem.i17
theorem At.i19 {n0 n1 n2 n3 n4 n5 n6 n7 n8 n9 n10 n11 n12 n13 n14 n15 n16 n17 n18 n19 : Str} {nm : List Str} {s0 s1 s2 s3 s4 s5 s6 s7 s8 s9 s10 s11 s12 s13 s14 s15 s16 s17 s18 s19 : Slot} {vs : List Slot} : At (n0 :: n1 :: n2 :: n3 :: n4 :: n5 :: n6 :: n7 :: n8 :: n9 :: n10 :: n11 :: n12 :: n13 :: n14 :: n15 :: n16 :: n17 :: n18 :: n19 :: nm) (s0 :: s1 :: s2 :: s3 :: s4 :: s5 :: s6 :: s7 :: s8 :: s9 :: s10 :: s11 :: s12 :: s13 :: s14 :: s15 :: s16 :: s17 :: s18 :: s19 :: vs) n19 s19 := .there At.i18
theorem Put.i19 {n0 n1 n2 n3 n4 n5 n6 n7 n8 n9 n10 n11 n12 n13 n14 n15 n16 n17 n18 n19 : Str} {nm : List Str} {s0 s1 s2 s3 s4 s5 s6 s7 s8 s9 s10 s11 s12 s13 s14 s15 s16 s17 s18 s19 s : Slot} {vs : List Slot} : Put (n0 :: n1 :: n2 :: n3 :: n4 :: n5 :: n6 :: n7 :: n8 :: n9 :: n10 :: n11 :: n12 :: n13 :: n14 :: n15 :: n16 :: n17 :: n18 :: n19 :: nm) (s0 :: s1 :: s2 :: s3 :: s4 :: s5 :: s6 :: s7 :: s8 :: s9 :: s10 :: s11 :: s12 :: s13 :: s14 :: s15 :: s16 :: s17 :: s18 :: s19 :: vs) n19 s (s0 :: s1 :: s2 :: s3 :: s4 :: s5 :: s6 :: s7 :: s8 :: s9 :: s10 :: s11 :: s12 :: s13 :: s14 :: s15 :: s16 :: s17 :: s18 :: s :: vs) := .there Put.i18
theorem Mem.i19 {n0 n1 n2 n3 n4 n5 n6 n7 n8 n9 n10 n11 n12 n13 n14 n15 n16 n17 n18 n19 : Str} {nm : List Str} : n19 ∈ n0 :: n1 :: n2 :: n3 :: n4 :: n5 :: n6 :: n7 :: n8 :: n9 :: n10 :: n11 :: n12 :: n13 :: n14 :: n15 :: n16 :: n17 :: n18 :: n19 :: nm := .tail _ Mem.i18
theorem At.i20 {n0 n1 n2 n3 n4 n5 n6 n7 n8 n9 n10 n11 n12 n13 n14 n15 n16 n17 n18 n19 n20 : Str} {nm : List Str} {s0 s1 s2 s3 s4 s5 s6 s7 s8 s9 s10 s11 s12 s13 s14 s15 s16 s17 s18 s19 s20 : Slot} {vs : List Slot} : At (n0 :: n1 :: n2 :: n3 :: n4 :: n5 :: n6 :: n7 :: n8 :: n9 :: n10 :: n11 :: n12 :: n13 :: n14 :: n15 :: n16 :: n17 :: n18 :: n19 :: n20 :: nm) (s0 :: s1 :: s2 :: s3 :: s4 :: s5 :: s6 :: s7 :: s8 :: s9 :: s10 :: s11 :: s12 :: s13 :: s14 :: s15 :: s16 :: s17 :: s18 :: s19 :: s20 :: vs) n20 s20 := .there At.i19
theorem Put.i20 {n0 n1 n2 n3 n4 n5 n6 n7 n8 n9 n10 n11 n12 n13 n14 n15 n16 n17 n18 n19 n20 : Str} {nm : List Str} {s0 s1 s2 s3 s4 s5 s6 s7 s8 s9 s10 s11 s12 s13 s14 s15 s16 s17 s18 s19 s20 s : Slot} {vs : List Slot} : Put (n0 :: n1 :: n2 :: n3 :: n4 :: n5 :: n6 :: n7 :: n8 :: n9 :: n10 :: n11 :: n12 :: n13 :: n14 :: n15 :: n16 :: n17 :: n18 :: n19 :: n20 :: nm) (s0 :: s1 :: s2 :: s3 :: s4 :: s5 :: s6 :: s7 :: s8 :: s9 :: s10 :: s11 :: s12 :: s13 :: s14 :: s15 :: s16 :: s17 :: s18 :: s19 :: s20 :: vs) n20 s (s0 :: s1 :: s2 :: s3 :: s4 :: s5 :: s6 :: s7 :: s8 :: s9 :: s10 :: s11 :: s12 :: s13 :: s14 :: s15 :: s16 :: s17 :: s18 :: s19 :: s :: vs) := .there Put.i19
theorem Mem.i20 {n0 n1 n2 n3 n4 n5 n6 n7 n8 n9 n10 n11 n12 n13 n14 n15 n16 n17 n18 n19 n20 : Str} {nm : List Str} : n20 ∈ n0 :: n1 :: n2 :: n3 :: n4 :: n5 :: n6 :: n7 :: n8 :: n9 :: n10 :: n11 :: n12 :: n13 :: n14 :: n15 :: n16 :: n17 :: n18 :: n19 :: n20 :: nm := .tail _ Mem.i19
theorem At.i21 {n0 n1 n2 n3 n4 n5 n6 n7 n8 n9 n10 n11 n12 n13 n14 n15 n16 n17 n18 n19 n20 n21 : Str} {nm : List Str} {s0 s1 s2 s3 s4 s5 s6 s7 s8 s9 s10 s11 s12 s13 s14 s15 s16 s17 s18 s19 s20 s21 : Slot} {vs : List Slot} : At (n0 :: n1 :: n2 :: n3 :: n4 :: n5 :: n6 :: n7 :: n8 :: n9 :: n10 :: n11 :: n12 :: n13 :: n14 :: n15 :: n16 :: n17 :: n18 :: n19 :: n20 :: n21 :: nm) (s0 :: s1 :: s2 :: s3 :: s4 :: s5 :: s6 :: s7 :: s8 :: s9 :: s10 :: s11 :: s12 :: s13 :: s14 :: s15 :: s16 :: s17 :: s18 :: s19 :: s20 :: s21 :: vs) n21 s21 := .there At.i20
theorem Put.i21 {n0 n1 n2 n3 n4 n5 n6 n7 n8 n9 n10 n11 n12 n13 n14 n15 n16 n17 n18 n19 n20 n21 : Str} {nm : List Str} {s0 s1 s2 s3 s4 s5 s6 s7 s8 s9 s10 s11 s12 s13 s14 s15 s16 s17 s18 s19 s20 s21 s : Slot} {vs : List Slot} : Put (n0 :: n1 :: n2 :: n3 :: n4 :: n5 :: n6 :: n7 :: n8 :: n9 :: n10 :: n11 :: n12 :: n13 :: n14 :: n15 :: n16 :: n17 :: n18 :: n19 :: n20 :: n21 :: nm) (s0 :: s1 :: s2 :: s3 :: s4 :: s5 :: s6 :: s7 :: s8 :: s9 :: s10 :: s11 :: s12 :: s13 :: s14 :: s15 :: s16 :: s17 :: s18 :: s19 :: s20 :: s21 :: vs) n21 s (s0 :: s1 :: s2 :: s3 :: s4 :: s5 :: s6 :: s7 :: s8 :: s9 :: s10 :: s11 :: s12 :: s13 :: s14 :: s15 :: s16 :: s17 :: s18 :: s19 :: s20 :: s :: vs) := .there Put.i20
theorem Mem.i21 {n0 n1 n2 n3 n4 n5 n6 n7 n8 n9 n10 n11 n12 n13 n14 n15 n16 n17 n18 n19 n20 n21 : Str} {nm : List Str} : n21 ∈ n0 :: n1 :: n2 :: n3 :: n4 :: n5 :: n6 :: n7 :: n8 :: n9 :: n10 :: n11 :: n12 :: n13 :: n14 :: n15 :: n16 :: n17 :: n18 :: n19 :: n20 :: n21 :: nm := .tail _ Mem.i20
theorem At.i22 {n0 n1 n2 n3 n4 n5 n6 n7 n8 n9 n10 n11 n12 n13 n14 n15 n16 n17 n18 n19 n20 n21 n22 : Str} {nm : List Str} {s0 s1 s2 s3 s4 s5 s6 s7 s8 s9 s10 s11 s12 s13 s14 s15 s16 s17 s18 s19 s20 s21 s22 : Slot} {vs : List Slot} : At (n0 :: n1 :: n2 :: n3 :: n4 :: n5 :: n6 :: n7 :: n8 :: n9 :: n10 :: n11 :: n12 :: n13 :: n14 :: n15 :: n16 :: n17 :: n18 :: n19 :: n20 :: n21 :: n22 :: nm) (s0 :: s1 :: s2 :: s3 :: s4 :: s5 :: s6 :: s7 :: s8 :: s9 :: s10 :: s11 :: s12 :: s13 :: s14 :: s15 :: s16 :: s17 :: s18 :: s19 :: s20 :: s21 :: s22 :: vs) n22 s22 := .there At.i21
theorem Put.i22 {n0 n1 n2 n3 n4 n5 n6 n7 n8 n9 n10 n11 n12 n13 n14 n15 n16 n17 n18 n19 n20 n21 n22 : Str} {nm : List Str} {s0 s1 s2 s3 s4 s5 s6 s7 s8 s9 s10 s11 s12 s13 s14 s15 s16 s17 s18 s19 s20 s21 s22 s : Slot} {vs : List Slot} : Put (n0 :: n1 :: n2 :: n3 :: n4 :: n5 :: n6 :: n7 :: n8 :: n9 :: n10 :: n11 :: n12 :: n13 :: n14 :: n15 :: n16 :: n17 :: n18 :: n19 :: n20 :: n21 :: n22 :: nm) (s0 :: s1 :: s2 :: s3 :: s4 :: s5 :: s6 :: s7 :: s8 :: s9 :: s10 :: s11 :: s12 :: s13 :: s14 :: s15 :: s16 :: s17 :: s18 :: s19 :: s20 :: s21 :: s22 :: vs) n22 s (s0 :: s1 :: s2 :: s3 :: s4 :: s5 :: s6 :: s7 :: s8 :: s9 :: s10 :: s11 :: s12 :: s13 :: s14 :: s15 :: s16 :: s17 :: s18 :: s19 :: s20 :: s21 :: s :: vs) := .there Put.i21
theorem At.i23 {n0 n1 n2 n3 n4 n5 n6 n7 n8 n9 n10 n11 n12 n13 n14 n15 n16 n17 n18 n19 n20 n21 n22 n23 : Str} {nm : List Str} {s0 s1 s2 s3 s4 s5 s6 s7 s8 s9 s10 s11 s12 s13 s14 s15 s16 s17 s18 s19 s20 s21 s22 s23 : Slot} {vs : List Slot} : At (n0 :: n1 :: n2 :: n3 :: n4 :: n5 :: n6 :: n7 :: n8 :: n9 :: n10 :: n11 :: n12 :: n13 :: n14 :: n15 :: n16 :: n17 :: n18 :: n19 :: n20 :: n21 :: n22 :: n23 :: nm) (s0 :: s1 :: s2 :: s3 :: s4 :: s5 :: s6 :: s7 :: s8 :: s9 :: s10 :: s11 :: s12 :: s13 :: s14 :: s15 :: s16 :: s17 :: s18 :: s19 :: s20 :: s21 :: s22 :: s23 :: vs) n23 s23 := .there At.i22
theorem Put.i23 {n0 n1 n2 n3 n4 n5 n6 n7 n8 n9 n10 n11 n12 n13 n14 n15 n16 n17 n18 n19 n20 n21 n22 n23 : Str} {nm : List Str} {s0 s1 s2 s3 s4 s5 s6 s7 s8 s9 s10 s11 s12 s13 s14 s15 s16 s17 s18 s19 s20 s21 s22 s23 s : Slot} {vs : List Slot} : Put (n0 :: n1 :: n2 :: n3 :: n4 :: n5 :: n6 :: n7 :: n8 :: n9 :: n10 :: n11 :: n12 :: n13 :: n14 :: n15 :: n16 :: n17 :: n18 :: n19 :: n20 :: n21 :: n22 :: n23 :: nm) (s0 :: s1 :: s2 :: s3 :: s4 :: s5 :: s6 :: s7 :: s8 :: s9 :: s10 :: s11 :: s12 :: s13 :: s14 :: s15 :: s16 :: s17 :: s18 :: s19 :: s20 :: s21 :: s22 :: s23 :: vs) n23 s (s0 :: s1 :: s2 :: s3 :: s4 :: s5 :: s6 :: s7 :: s8 :: s9 :: s10 :: s11 :: s12 :: s13 :: s14 :: s15 :: s16 :: s17 :: s18 :: s19 :: s20 :: s21 :: s22 :: s :: vs) := .there Put.i22
noncomputable def fdAt (K : Frag) (a : Addr) : FuncData := match K.lookup a with
  | some ⟨_, _, .func fd, _⟩ => fd
  | _ => default
@[reducible] noncomputable def fnG (W : Wd) (A : Around) (rm : Nat) (sc : Scope) (fd : FuncData) (a L : Addr) (base : Shared) (nm gl : List Str) (cb : List Addr) : Fx :=
  { W := W, A := A.deeper (callEnvC fd L a), rm := rm, env := { callEnvC fd L a with scope := sc }, base := base, nm := nm, gl := gl, sto := nm, cb := cb }
theorem FnP.of_at {W : Wd} {a : Addr} {oc : Value} {od : Option Addr} {osl : Array (Option Value)} {fd : FuncData} {sc : Scope} {body : List Stmt} {nm gl ps : List Str} {ds : List PyData} {vs₀ : List Slot} {n : Nat} {P : List Addr → Heap → Value → Prop}
    (hk : W.K.lookup a = some ⟨oc, od, .func fd, osl⟩) (hcd : codeIn W.K fd.code fd.qualname = true) (hbody : fd.body = .stmts body) (hclo : fd.closure = []) (hg : fd.globals = mainGlobals) (hbi : fd.builtins = builtinsNs) (hsc : fd.scope = sc)
    (hchk : fnChk sc nm gl ps = true) (hbind : ∀ vs : List Value, vs.length = ds.length → bindArgs fd ⟨vs, []⟩ = pure (ps.zip vs)) (puts : Puts nm (nm.map fun _ => Slot.no) ps ds vs₀)
    (h : ∀ A s L hz bad bad', Ex (fnG W A n sc (fdAt W.K a) a L s nm gl bad) ⟨hz, bad', [], vs₀⟩ body (RetP (fnG W A n sc (fdAt W.K a) a L s nm gl bad) P)) : FnP W (.ref a) (n + 1) ds P := by
  have e : fdAt W.K a = fd := by unfold fdAt; rw [hk]
  rw [e] at h
  subst hsc
  exact FnP.of_body hk rfl hcd hbody hclo hg hbi (fnChk_iff hchk) hbind puts h
theorem Fn.of_at {W : Wd} {a : Addr} {oc : Value} {od : Option Addr} {osl : Array (Option Value)} {fd : FuncData} {sc : Scope} {body : List Stmt} {nm gl ps : List Str} {ds : List PyData} {vs₀ : List Slot} {n : Nat} {d : PyData}
    (hk : W.K.lookup a = some ⟨oc, od, .func fd, osl⟩) (hcd : codeIn W.K fd.code fd.qualname = true) (hbody : fd.body = .stmts body) (hclo : fd.closure = []) (hg : fd.globals = mainGlobals) (hbi : fd.builtins = builtinsNs) (hsc : fd.scope = sc)
    (hchk : fnChk sc nm gl ps = true) (hbind : ∀ vs : List Value, vs.length = ds.length → bindArgs fd ⟨vs, []⟩ = pure (ps.zip vs)) (puts : Puts nm (nm.map fun _ => Slot.no) ps ds vs₀)
    (h : ∀ A s L hz bad bad', Ex (fnG W A n sc (fdAt W.K a) a L s nm gl bad) ⟨hz, bad', [], vs₀⟩ body (RetD (fnG W A n sc (fdAt W.K a) a L s nm gl bad) d)) : Fn W (.ref a) (n + 1) ds d :=
  FnP.of_at hk hcd hbody hclo hg hbi hsc hchk hbind puts h
theorem bind1 {fd : FuncData} {p : Str} (h : ∀ a, bindArgs fd ⟨[a], []⟩ = pure [(p, a)]) : ∀ vs : List Value, vs.length = 1 → bindArgs fd ⟨vs, []⟩ = pure ([p].zip vs)
  | [a], _ => h a
theorem bind2 {fd : FuncData} {p q : Str} (h : ∀ a b, bindArgs fd ⟨[a, b], []⟩ = pure [(p, a), (q, b)]) : ∀ vs : List Value, vs.length = 2 → bindArgs fd ⟨vs, []⟩ = pure ([p, q].zip vs)
  | [a, b], _ => h a b
theorem bind3 {fd : FuncData} {p q r : Str} (h : ∀ a b c, bindArgs fd ⟨[a, b, c], []⟩ = pure [(p, a), (q, b), (r, c)]) : ∀ vs : List Value, vs.length = 3 → bindArgs fd ⟨vs, []⟩ = pure ([p, q, r].zip vs)
  | [a, b, c], _ => h a b c
theorem Wd.Glob.blt {W : Wd} (G : W.Glob) {n : Str} {v : Value} (e : nsIn W.K mainGlobals n = some none) (hb : bootBuiltins n = some v) (hn : (n == ("__name__" : Str)) = false) : W.mg n = none ∧ W.mb n = some v :=
  ⟨G.gn n e, (G.b n (by simpa using hn)).trans hb⟩

noncomputable def ap (n : Nat) : List Nat := if n = 0 then [] else ap (n / 16) ++ [65 + n % 16]
termination_by n
decreasing_by omega
theorem ap_zero : ap 0 = [] := by rw [ap]; simp
theorem ap_pos {n : Nat} (h : n ≠ 0) : ap n = ap (n / 16) ++ [65 + n % 16] := by rw [ap]; simp [h]
noncomputable def apB (n : Nat) : List UInt8 := (ap n).map fun c => UInt8.ofNat c
theorem ap_lt : ∀ (n : Nat), ∀ c ∈ ap n, 65 ≤ c ∧ c < 81 := by
  intro n
  induction n using Nat.strongRecOn with
  | ind n ih =>
    intro c hc
    by_cases h : n = 0
    · subst h; rw [ap_zero] at hc; cases hc
    · rw [ap_pos h] at hc
      rcases List.mem_append.mp hc with hc | hc
      · exact ih _ (by omega) c hc
      · cases hc with
        | head => omega
        | tail _ h => cases h
theorem apB_nat (n : Nat) : (apB n).map UInt8.toNat = ap n := by
  unfold apB
  rw [List.map_map]
  conv => rhs; rw [← List.map_id (ap n)]
  refine List.map_congr_left fun c hc => ?_
  have := ap_lt n c hc
  simp [UInt8.toNat_ofNat']; omega
theorem apB_lt (n : Nat) : ∀ c ∈ apB n, c.toNat < 128 := by
  intro c hc
  have : c.toNat ∈ ap n := by rw [← apB_nat]; exact List.mem_map.mpr ⟨c, hc, rfl⟩
  have := ap_lt n _ this; omega
noncomputable def apAll : List UInt8 := [65, 66, 67, 68, 69, 70, 71, 72, 73, 74, 75, 76, 77, 78, 79, 80]
theorem ap_slice {n : Nat} : slc apAll (some ((n : Int).fmod 16)) (some ((n : Int).fmod 16 + 1)) = [UInt8.ofNat (65 + n % 16)] := by
  have e : (n : Int).fmod 16 = ((n % 16 : Nat) : Int) := by rw [Int.fmod_eq_emod_of_nonneg _ (by omega)]; omega
  rw [e]
  have h : n % 16 < 16 := by omega
  generalize n % 16 = k at h
  have : ∀ k : Nat, k < 16 → slc apAll (some (k : Int)) (some ((k : Int) + 1)) = [UInt8.ofNat (65 + k)] := by decide +kernel
  exact this k h
end Mine
end
section
open PySem PySem.W PyProof.Rows PySem.Spec
set_option Elab.async false
set_option linter.all false
set_option maxRecDepth 100000
namespace Mine
open Builtin Builtin.Str

section
variable {W : Wd} {n : Nat}
theorem Fn.max {ns : List Int} {M : Int} (hm : M ∈ ns) (hM : ∀ a ∈ ns, a ≤ M) : Fn W (.builtin "max") n [.list (ns.map .int)] (.int M) := fun A s bad vs hA w hb r => by
  obtain ⟨v, _, rfl, r, r'⟩ := r.cons_inv; rw [r'.nil_inv]
  obtain ⟨a, vs, k, rfl, p, q⟩ := r.list_inv
  have hi := q.ints
  obtain ⟨xs, hx⟩ := hi.allInts.items
  have e1 : ns = xs.toList.map (·.1) := by
    rw [← nums_intItems, ← hx]
    exact (show numsOf vs.toArray.toList = ns from hi.numsOf).symm
  have hsz : 0 < xs.size := by
    have : 0 < ns.length := List.length_pos_of_mem hm
    rw [e1, List.length_map, Array.length_toList] at this; exact this
  refine max_intList hA.hd (hx ▸ PL.isList (hid_iff.mp p).1) hsz fun v h' tk hv hk => ⟨.mk' hk, ?_⟩
  obtain ⟨t, rfl⟩ := intItems_at hv
  obtain ⟨h1, h2⟩ := argBest_gt (numAt xs) (xs.size - 1)
  have e : numAt xs (argBest (fun i j => decide (numAt xs i > numAt xs j)) (xs.size - 1)) = M := by
    refine Int.le_antisymm (hM _ ?_) ?_
    · rw [e1, numAt_eq]; exact getD_mem (by rw [List.length_map, Array.length_toList]; omega)
    · rw [e1] at hm
      obtain ⟨j, hj, rfl⟩ := mem_getD hm
      rw [List.length_map, Array.length_toList] at hj
      rw [← numAt_eq]; exact h2 j (by omega)
  rw [e]; exact .int _ _
end

theorem RdAll.strs {h : Heap} : ∀ {xs : List Str} {vs : List Value}, RdAll h vs (xs.map .str) → ∃ l : List (Str × Tok), vs = strValues l ∧ l.map (·.1) = xs
  | [], vs, r => ⟨[], by rw [r.nil_inv]; rfl, rfl⟩
  | x :: xs, vs, r => by
    obtain ⟨v, r', rfl, a, b⟩ := r.cons_inv
    obtain ⟨t, rfl⟩ := a.str_inv
    obtain ⟨l, rfl, e⟩ := RdAll.strs b
    exact ⟨(x, t) :: l, rfl, by simp [e]⟩
theorem RdAll.of_strs {h : Heap} : ∀ (l : List (Str × Tok)), RdAll h (strValues l) ((l.map (·.1)).map .str)
  | [] => .nil
  | (x, t) :: l => .cons (.str _ _) (RdAll.of_strs l)

theorem split_call {prog : Program} {w : World} {A : Around} {E : Value → Shared → Prop} {s : Shared} {x : Str} {t : Tok} {Q : Value → Shared → Prop} {y : Str} {u : Tok} (hy : (y.length == 0) = false)
    (hq : ∀ l k, l.map (·.1) = Txt.split x y → Q (.ref s.heap.objs.size) { s with toks := k, heap := s.heap.push { cls := .type "list", data := .seq (strValues l).toArray } })
    (hsz : x.length ≤ sizeLine) (hsz2 : (partsBetween x (occurrences x y 0 x.length (x.length + 1)) y.length).length ≤ sizeLine) :
    wpAny (model prog w) A (PySem.call (.builtin "str.split") [.str x t, .str y u]) Q E s := by
  cases h1 : (decide (x.length < y.length) || decide (strKind x < strKind y))
  · cases hf : (occurrences x y 0 x.length (x.length + 1)).isEmpty
    · refine call_meets F.slot_str_split (typeIs_str _ _ _) F.entry_str_split (F.args_str_split_2 _ _) (meets_str_split_sep x y t u h1 hy hf hsz hsz2) ?_
      show wants Q E _ { s with toks := _, heap := s.heap.push { cls := .type "list", data := .seq (strsFrom s.toks (partsBetween x (occurrences x y 0 x.length (x.length + 1)) y.length)).toArray } }
      rw [strsFrom_eq]
      exact hq (numbered s.toks _) _ ((numbered_texts _ _).trans ((if_neg (ne_true_of_eq_false h1)).trans (if_neg (ne_true_of_eq_false hf))).symm)
    · exact call_meets F.slot_str_split (typeIs_str _ _ _) F.entry_str_split (F.args_str_split_2 _ _) (meets_str_split_not_found x y t u h1 hy hf)
        (hq [(x, t)] _ ((if_neg (ne_true_of_eq_false h1)).trans (if_pos hf)).symm)
  · exact call_meets F.slot_str_split (typeIs_str _ _ _) F.entry_str_split (F.args_str_split_2 _ _) (meets_str_split_cannot_occur x y t u h1)
      (hq [(x, t)] _ (if_pos h1).symm)

noncomputable def spl (x y : List Nat) : List (List Nat) := (Txt.split (S x) (S y)).map fun z => z.cps.toList
theorem spl_eq (x y : List Nat) : (Txt.split (S x) (S y)).map PyData.str = (spl x y).map st := by
  unfold spl
  rw [List.map_map]
  refine List.map_congr_left fun z _ => ?_
  show PyData.str z = .str (S z.cps.toList)
  rw [S_of]
noncomputable def jn (x : List Nat) : List (List Nat) → List Nat
  | [] => []
  | [y] => y
  | y :: z :: r => y ++ x ++ jn x (z :: r)
theorem glued_go (g : Array Nat) : ∀ (ps : List Str) (acc : Array Nat), ps.foldl (fun acc p => acc ++ g ++ p.cps) acc = acc ++ (ps.flatMap fun p => g.toList ++ p.cps.toList).toArray
  | [], acc => by simp
  | p :: ps, acc => by
    rw [List.foldl_cons, glued_go g ps]
    apply Array.ext'
    simp
theorem jn_cons (x y : List Nat) (r : List (List Nat)) : jn x (y :: r) = y ++ r.flatMap fun p => x ++ p := by
  induction r generalizing y with
  | nil => simp [jn]
  | cons z r ih => rw [jn, ih]; simp
theorem jn_eq (x : List Nat) (ys : List (List Nat)) : Txt.join (S x) (ys.map S) = S (jn x ys) := by
  show glued (S x) (ys.map S) = _
  unfold glued
  cases ys with
  | nil => rfl
  | cons y r =>
    rw [List.map_cons, List.drop_one, List.tail_cons, List.headD_cons, glued_go, jn_cons]
    simp only [S]
    congr 1
    simp [List.flatMap_map, S_toList]
theorem fold_len (c : Nat) : ∀ (ys : List (List Nat)) (k : Nat), (ys.map S).foldl (fun a p => a + p.length + c) k = k + (ys.map (·.length)).sum + ys.length * c
  | [], k => by simp
  | y :: ys, k => by
    rw [List.map_cons, List.foldl_cons, fold_len c ys, S_len]
    simp only [List.map_cons, List.sum_cons, List.length_cons, Nat.add_mul]; omega

section
variable {f : Fx} {x : Sx}
theorem strRecv {h : Heap} {y : Str} {v : Value} (e : ∃ t, v = .str y t) : Recv "str" h v := by
  obtain ⟨t, rfl⟩ := e; exact ⟨fun s _ => typeIs_str _ _ _, fun _ e => nomatch e⟩
theorem Ev.toStr {e : Expr} {l : List Nat} (h : Ev f x e (st l)) : EvP f x e fun _ v => ∃ t, v = .str (S l) t := h.mono fun _ _ r => r.str_inv

theorem Ev.join {o e : Expr} {apos pos} {g : List Nat} {ys : List (List Nat)} (h0 : Ev f x o (st g)) (h1 : Ev f x e (.list (ys.map st))) (hn : (ys.map (·.length)).sum + ys.length * g.length ≤ sizeLine)
    (hbase : attributeBase o (Str.ofString "join") f.env (eval o f.env) = eval o f.env := by exact rfl) (hline : (apos.endLine == pos.line) = true := by exact rfl)
    (hfew : ((backTo pos (starEach [e] f.env)).all (fun x => !x.1) && (backToKw pos (keywordEach [] f.env)).all (fun x => x.1.isSome)
      && decide (([e] : List Expr).length + ([] : List Keyword).length + (if ([] : List Keyword).isEmpty then 0 else 1) < 30)) = true := by exact rfl)
    (he : starEach [e] f.env = (false, eval e f.env) :: starEach [] f.env := by exact rfl) :
    Ev f x (.Call (.Attribute o (Str.ofString "join") apos) [e] [] pos) (st (jn g ys)) :=
  EvP.meth (ds := [.list (ys.map st)]) h0.toStr F.plainAttrs_str F.slot_str_join F.type_str_join (fun h v e => strRecv e) (fun _ _ _ b _ => b) (.cons h1 .nil he)
    (fun s v vs O ⟨t, ev⟩ r => by
      subst ev
      obtain ⟨v', _, rfl, r1, r2⟩ := r.cons_inv; rw [r2.nil_inv]
      obtain ⟨a, us, k, rfl, p, q⟩ := r1.list_inv
      have q' : RdAll (hideAll s.heap x.bad) us ((ys.map S).map PyData.str) := by rw [List.map_map]; exact q
      obtain ⟨l, rfl, el⟩ := q'.strs
      refine SC.join (PL.isList (hid_iff.mp p).1) el ?_ fun t' k => ⟨.tok, ?_⟩
      · unfold JoinOk tooLong
        have := fold_len g.length ys 0
        simp only [List.foldl_toArray', S_len] at this ⊢
        rw [this]
        simpa using hn
      · rw [jn_eq]; exact .str _ _)
    hbase hfew hline he rfl

theorem Ev.split {o e : Expr} {apos pos} {g l : List Nat} (h0 : Ev f x o (st l)) (h1 : Ev f x e (st g)) (hg : g ≠ []) (hn : l.length + 2 ≤ sizeLine)
    (hbase : attributeBase o (Str.ofString "split") f.env (eval o f.env) = eval o f.env := by exact rfl) (hline : (apos.endLine == pos.line) = true := by exact rfl)
    (hfew : ((backTo pos (starEach [e] f.env)).all (fun x => !x.1) && (backToKw pos (keywordEach [] f.env)).all (fun x => x.1.isSome)
      && decide (([e] : List Expr).length + ([] : List Keyword).length + (if ([] : List Keyword).isEmpty then 0 else 1) < 30)) = true := by exact rfl)
    (he : starEach [e] f.env = (false, eval e f.env) :: starEach [] f.env := by exact rfl) :
    Ev f x (.Call (.Attribute o (Str.ofString "split") apos) [e] [] pos) (.list ((spl l g).map st)) :=
  EvP.meth (ds := [st g]) h0.toStr F.plainAttrs_str F.slot_str_split F.type_str_split (fun h v e => strRecv e) (fun _ _ _ b _ => b) (.cons h1 .nil he)
    (fun s v vs O ⟨t, ev⟩ r => by
      subst ev
      obtain ⟨v', _, rfl, r1, r2⟩ := r.cons_inv; rw [r2.nil_inv]
      obtain ⟨u, rfl⟩ := r1.str_inv
      refine split_call ?_ (fun q k hq => ?_) (by rw [S_len]; omega) ?_
      · rw [S_len]; cases g with | nil => exact absurd rfl hg | cons => rfl
      · refine ⟨.mk' (ext_push _), Rd.newList O.nb ?_⟩
        rw [← spl_eq, ← hq]
        exact .of_strs _
      · rw [len_partsBetween]
        have := StrLaws.occ_length_le (S l) (S g) 0 (S l).length ((S l).length + 1)
        rw [S_len] at this ⊢; omega)
    hbase hfew hline he rfl

noncomputable def inS (y l : List Nat) : Bool := !(occurrences (S l) (S y) 0 l.length 1).isEmpty
theorem EvC.inStr {l r : Expr} {a b : List Nat} (h1 : Ev f x l (st a)) (h2 : Ev f x r (st b)) : EvC f x l .In r (inS a b) :=
  .of h1 h2 fun s v w O r1 r2 => by
    obtain ⟨t, rfl⟩ := r1.str_inv; obtain ⟨u, rfl⟩ := r2.str_inv
    refine PySem.P.in_str ⟨.rfl', ?_⟩
    rw [S_len]; rfl
theorem EvC.notInStr {l r : Expr} {a b : List Nat} (h1 : Ev f x l (st a)) (h2 : Ev f x r (st b)) : EvC f x l .NotIn r (!inS a b) :=
  .of h1 h2 fun s v w O r1 r2 => by
    obtain ⟨t, rfl⟩ := r1.str_inv; obtain ⟨u, rfl⟩ := r2.str_inv
    refine PySem.P.notIn_str ⟨.rfl', ?_⟩
    rw [S_len]; rfl

noncomputable def Tab (W : Wd) (d : Addr) (D : List (PyData × PyData)) : Prop := ∀ h, W.Ok h → StrTab W.prog W.w h d D
theorem EvC.inTab {l r : Expr} {a : List Nat} {d : Addr} {D : List (PyData × PyData)} (h1 : Ev f x l (st a)) (h2 : EvP f x r fun _ v => v = .ref d) (T : Tab f.W d D) : EvC f x l .In r (PySem.Spec.lookup (st a) D).isSome := .bx fun s O =>
  wpN (h1.run s O) fun v s₁ ⟨k1, r1⟩ => wpN (h2.run s₁ (O.step k1)) fun w s₂ ⟨k2, e2⟩ => by
    subst e2
    obtain ⟨t, rfl⟩ := r1.str_inv
    have O₂ := O.step (k1.trans k2)
    exact in_strTab (T _ (O.wok.ext O₂.same.ext)) ⟨(k1.trans k2).trans .tok, rfl⟩
theorem Ev.itemTab {v sl : Expr} {pos} {a : List Nat} {d : Addr} {D : List (PyData × PyData)} {i : Int} (h1 : EvP f x v fun _ u => u = .ref d) (h2 : Ev f x sl (st a)) (T : Tab f.W d D) (hl : PySem.Spec.lookup (st a) D = some (.int i))
    (hs : ∀ o j, subscripted sl false o j = operate [o, j] (getItem o j) := by intro _ _; with_unfolding_all rfl)
    (hg : ∀ o r, letTemporaryGo v o r = pure () := by intro _ _; with_unfolding_all rfl) : Ev f x (.Subscript v sl pos) (.int i) := .bx fun s O =>
  Subscript_ (wpN (h1.run s O) fun o s₁ ⟨k1, e1⟩ => wpN (h2.run s₁ (O.step k1)) fun j s₂ ⟨k2, r2⟩ => by
    subst e1
    obtain ⟨t, rfl⟩ := r2.str_inv
    have O₂ := O.step (k1.trans k2)
    refine item_strTab (T _ (O.wok.ext O₂.same.ext)) hl (fun u hu => ⟨(k1.trans k2).trans .tok, ?_⟩) (hs _ _) (hg _)
    obtain ⟨t', rfl⟩ := hu.int_inv; exact .int _ _)

noncomputable def reps (l : List Nat) (n : Nat) : List Nat := (List.replicate n l).flatten
theorem mul_eq (l : List Nat) (n : Int) : Txt.mul (S l) n = S (reps l n.toNat) := by
  have key : ∀ (k : Nat) (acc : Array Nat), (List.replicate k (S l).cps).foldl (· ++ ·) acc = acc ++ (reps l k).toArray := by
    intro k
    induction k with
    | zero => intro acc; simp [reps]
    | succ k ih =>
      intro acc
      rw [List.replicate_succ, List.foldl_cons, ih]
      simp [reps, List.replicate_succ, S]
  unfold Txt.mul
  by_cases h1 : n < 1
  · rw [if_pos h1]
    have : n.toNat = 0 := by omega
    rw [this]; rfl
  · rw [if_neg h1]
    split
    · rename_i h2
      simp only [Bool.or_eq_true, beq_iff_eq, S_len] at h2
      rcases h2 with h2 | h2
      · subst h2; simp [reps]
      · have : l = [] := List.length_eq_zero_iff.mp h2
        subst this; simp [reps]
    · rw [key]; simp [S]
theorem Ev.mulS {l r : Expr} {pos} {a : List Nat} {n : Int} (h1 : Ev f x l (st a)) (h2 : Ev f x r (.int n)) (hn : a.length * n.toNat ≤ sizeLine) (hb : n.natAbs < 2 ^ 60) : Ev f x (.BinOp l .Mult r pos) (st (reps a n.toNat)) :=
  .bin2 h1 h2 fun s v w O r1 r2 => by
    obtain ⟨t, rfl⟩ := r1.str_inv; obtain ⟨u, rfl⟩ := r2.int_inv
    refine SB.mul ⟨by simp; omega, fun h0 _ => ?_, fun _ _ => ?_⟩ fun t' k => ⟨.tok, by rw [mul_eq]; exact .str _ _⟩
    · rw [S_len]
      intro h
      have h3 : ((2 ^ 63 - 1 : Int) / n + 1) ≤ a.length := by omega
      have h4 : ((2 ^ 63 - 1 : Int) / n + 1) * n > 2 ^ 63 - 1 := Int.lt_ediv_add_one_mul_self _ (by omega)
      have h5 : ((2 ^ 63 - 1 : Int) / n + 1) * n ≤ a.length * n := Int.mul_le_mul_of_nonneg_right h3 (by omega)
      have h6 : ((a.length * n.toNat : Nat) : Int) = a.length * n := by rw [Int.natCast_mul]; congr 1; omega
      have h7 : (sizeLine : Int) < 2 ^ 63 - 1 := by decide
      omega
    · rw [S_len]; unfold tooLong; simpa using hn
end
end Mine
end
section
open PySem PySem.W PyProof.Rows PySem.Spec
set_option Elab.async false
set_option linter.all false
set_option maxRecDepth 100000
namespace Mine
section
variable {f : Fx} {x : Sx}
theorem EvN.comp1 {elt tgt iter : Expr} {ifs : List Expr} {scope : Scope} {k : ScopeKind} {names : List (Str × NameKind)} {g1 g2 : Bool} {more : List (Str × Const)} {pos : Pos} {α : Type} {xs : List α} {di g : α → PyData} {p : α → Bool} {own fr gl ns nm : List Str} {slots vs₀ : List Slot}
    (hI : Iter f x tgt iter (xs.map di)) (hsc : f.env.scope = ⟨k, names, g1, g2, more⟩) (hc : compChk scope ⟨k, names, g1, g2, more⟩ own fr gl = true) (ats : Ats f.nm x.vs fr slots) (hnm : nm = own ++ fr) (hvs : vs₀ = own.map (fun _ => Slot.no) ++ slots)
    (hns : ∀ n ∈ ns, n ∈ own) (hsz : xs.length ≤ sizeLine)
    (turn : ∀ a ∈ xs, ∀ C cs base hz bad led, ∃ vs', Tgt nm vs₀ tgt (di a) ns vs' ∧ Forget vs' vs₀ ∧ Ifs (compF f scope C cs base nm gl own x.bad) ⟨hz, bad, led, vs'⟩ ifs (p a) ∧
      (p a = true → Ev (compF f scope C cs base nm gl own x.bad) ⟨hz, bad, led, vs'⟩ elt (g a)))
    (hs : ∀ v, foldedSetIterable iter f.env v = pure v := by intro _; rfl) : EvN f x (.ListComp elt [⟨tgt, iter, ifs, 0⟩] scope pos) ((xs.filter p).map g) :=
  have H := compChk_iff hc
  EvN.comp (CompR.one hI hsc H ats hnm hvs hns hsz turn) H.k1 H.nd hs rfl
theorem Ev.comp1 {elt tgt iter : Expr} {ifs : List Expr} {scope : Scope} {k : ScopeKind} {names : List (Str × NameKind)} {g1 g2 : Bool} {more : List (Str × Const)} {pos : Pos} {α : Type} {xs : List α} {di g : α → PyData} {p : α → Bool} {own fr gl ns nm : List Str} {slots vs₀ : List Slot}
    (hI : Iter f x tgt iter (xs.map di)) (hsc : f.env.scope = ⟨k, names, g1, g2, more⟩) (hc : compChk scope ⟨k, names, g1, g2, more⟩ own fr gl = true) (ats : Ats f.nm x.vs fr slots) (hnm : nm = own ++ fr) (hvs : vs₀ = own.map (fun _ => Slot.no) ++ slots)
    (hns : ∀ n ∈ ns, n ∈ own) (hsz : xs.length ≤ sizeLine)
    (turn : ∀ a ∈ xs, ∀ C cs base hz bad led, ∃ vs', Tgt nm vs₀ tgt (di a) ns vs' ∧ Forget vs' vs₀ ∧ Ifs (compF f scope C cs base nm gl own x.bad) ⟨hz, bad, led, vs'⟩ ifs (p a) ∧
      (p a = true → Ev (compF f scope C cs base nm gl own x.bad) ⟨hz, bad, led, vs'⟩ elt (g a)))
    (hs : ∀ v, foldedSetIterable iter f.env v = pure v := by intro _; rfl) : Ev f x (.ListComp elt [⟨tgt, iter, ifs, 0⟩] scope pos) (.list ((xs.filter p).map g)) :=
  (EvN.comp1 hI hsc hc ats hnm hvs hns hsz turn hs).ev
theorem Ex.comp1 {n : Str} {pn : Pos} {elt tgt iter : Expr} {ifs : List Expr} {scope : Scope} {k : ScopeKind} {names : List (Str × NameKind)} {g1 g2 : Bool} {more : List (Str × Const)} {cpos pos : Pos} {rest : List Stmt} {α : Type} {xs : List α} {di g : α → PyData} {p : α → Bool} {own fr gl ns nm : List Str} {slots vs₀ vs' : List Slot} {Q : Flow → Shared → Prop}
    (hI : Iter f x tgt iter (xs.map di)) (hsc : f.env.scope = ⟨k, names, g1, g2, more⟩) (hc : compChk scope ⟨k, names, g1, g2, more⟩ own fr gl = true) (ats : Ats f.nm x.vs fr slots) (hnm : nm = own ++ fr) (hvs : vs₀ = own.map (fun _ => Slot.no) ++ slots)
    (hns : ∀ n ∈ ns, n ∈ own) (hsz : xs.length ≤ sizeLine)
    (turn : ∀ a ∈ xs, ∀ C cs base hz bad led, ∃ vs', Tgt nm vs₀ tgt (di a) ns vs' ∧ Forget vs' vs₀ ∧ Ifs (compF f scope C cs base nm gl own x.bad) ⟨hz, bad, led, vs'⟩ ifs (p a) ∧
      (p a = true → Ev (compF f scope C cs base nm gl own x.bad) ⟨hz, bad, led, vs'⟩ elt (g a)))
    (put : Put f.nm x.vs n (.val (.list ((xs.filter p).map g))) vs') (hr : Ex f { x with vs := vs' } rest Q) 
    (hs : ∀ v, foldedSetIterable iter f.env v = pure v := by intro _; rfl) (hf : f.sto = f.nm := by exact rfl)
    (hsw : swapsWith (.ListComp elt [⟨tgt, iter, ifs, 0⟩] scope cpos) (some (.Name n pn)) pos.line f.env = pure true := by exact rfl) : Ex f x (.Assign [.Name n pn] (.ListComp elt [⟨tgt, iter, ifs, 0⟩] scope cpos) pos :: rest) Q :=
  have H := compChk_iff hc
  Ex.assignC (CompR.one hI hsc H ats hnm hvs hns hsz turn) put hr hf H.k1 H.nd hs rfl hsw
theorem Ats.one {nm vs n sl} (a : At nm vs n sl) : Ats nm vs [n] [sl] := .cons a .nil
theorem Ats.two {nm vs n sl n' sl'} (a : At nm vs n sl) (b : At nm vs n' sl') : Ats nm vs [n, n'] [sl, sl'] := .cons a (.cons b .nil)
theorem one_in {n : Str} {l : List Str} : ∀ m ∈ [n], m ∈ n :: l := fun m h => by cases h with | head => exact .head _ | tail _ h => cases h
theorem two_in {n n' : Str} {l : List Str} : ∀ m ∈ [n, n'], m ∈ n :: n' :: l := fun m h => by
  cases h with
  | head => exact .head _
  | tail _ h => cases h with
    | head => exact .tail _ (.head _)
    | tail _ h => cases h
end

theorem map_true {α β : Type} (xs : List α) (g : α → β) : (xs.filter fun _ => true).map g = xs.map g := by rw [List.filter_eq_self.mpr fun _ _ => rfl]
end Mine
end
section
open PySem PySem.W PyProof.Rows PySem.Spec
set_option Elab.async false
set_option linter.all false
set_option maxRecDepth 100000
namespace Mine
noncomputable abbrev WL (prog : Program) (w : World) (mg mb : Str → Option Value) : Wd := ⟨prog, w, hd.heap_39 w.params, mg, mb⟩
theorem B_int : bootBuiltins (Str.ofString "int") = some (.type "int") := by kernel_rfl
theorem B_abs : bootBuiltins (Str.ofString "abs") = some (.builtin "abs") := by kernel_rfl
theorem B_divmod : bootBuiltins (Str.ofString "divmod") = some (.builtin "divmod") := by kernel_rfl
theorem B_enumerate : bootBuiltins (Str.ofString "enumerate") = some (.type "enumerate") := by kernel_rfl
theorem B_range : bootBuiltins (Str.ofString "range") = some (.type "range") := by kernel_rfl
theorem B_len : bootBuiltins (Str.ofString "len") = some (.builtin "len") := by kernel_rfl
theorem B_max : bootBuiltins (Str.ofString "max") = some (.builtin "max") := by kernel_rfl
theorem B_ord : bootBuiltins (Str.ofString "ord") = some (.builtin "ord") := by kernel_rfl
theorem B_sorted : bootBuiltins (Str.ofString "sorted") = some (.builtin "sorted") := by kernel_rfl
theorem B_zip : bootBuiltins (Str.ofString "zip") = some (.type "zip") := by kernel_rfl
theorem B_sum : bootBuiltins (Str.ofString "sum") = some (.builtin "sum") := by kernel_rfl
theorem B_all : bootBuiltins (Str.ofString "all") = some (.builtin "all") := by kernel_rfl
section
variable {prog : Program} {w : World} {mg mb : Str → Option Value}
theorem b_int : nsIn (hd.heap_39 w.params) mainGlobals "int" = some none := by exact rfl
theorem b_abs : nsIn (hd.heap_39 w.params) mainGlobals "abs" = some none := by exact rfl
theorem b_divmod : nsIn (hd.heap_39 w.params) mainGlobals "divmod" = some none := by exact rfl
theorem b_enumerate : nsIn (hd.heap_39 w.params) mainGlobals "enumerate" = some none := by exact rfl
theorem b_range : nsIn (hd.heap_39 w.params) mainGlobals "range" = some none := by exact rfl
theorem b_len : nsIn (hd.heap_39 w.params) mainGlobals "len" = some none := by exact rfl
theorem b_max : nsIn (hd.heap_39 w.params) mainGlobals "max" = some none := by exact rfl
theorem b_ord : nsIn (hd.heap_39 w.params) mainGlobals "ord" = some none := by exact rfl
theorem b_sorted : nsIn (hd.heap_39 w.params) mainGlobals "sorted" = some none := by exact rfl
theorem b_zip : nsIn (hd.heap_39 w.params) mainGlobals "zip" = some none := by exact rfl
theorem b_sum : nsIn (hd.heap_39 w.params) mainGlobals "sum" = some none := by exact rfl
theorem b_all : nsIn (hd.heap_39 w.params) mainGlobals "all" = some none := by exact rfl
theorem g_NT : ∃ t, nsIn (hd.heap_39 w.params) mainGlobals "NT_OFFSET" = some (some (.int 256 t)) := ⟨_, by exact rfl⟩
theorem g_END : ∃ t, nsIn (hd.heap_39 w.params) mainGlobals "ENDMARKER" = some (some (.int 0 t)) := ⟨_, by exact rfl⟩
theorem g_int2ap : nsIn (hd.heap_39 w.params) mainGlobals "Int2AP" = some (some (.ref 38)) := by exact rfl
theorem g_quote : nsIn (hd.heap_39 w.params) mainGlobals "quotedata" = some (some (.ref 55)) := by exact rfl
theorem g_term : nsIn (hd.heap_39 w.params) mainGlobals "ISTERMINAL" = some (some (.ref 65)) := by exact rfl
theorem g_nont : nsIn (hd.heap_39 w.params) mainGlobals "ISNONTERMINAL" = some (some (.ref 72)) := by exact rfl
theorem g_eof : nsIn (hd.heap_39 w.params) mainGlobals "ISEOF" = some (some (.ref 79)) := by exact rfl
theorem g_put : nsIn (hd.heap_39 w.params) mainGlobals "_law_put" = some (some (.ref 86)) := by exact rfl
theorem g_due : nsIn (hd.heap_39 w.params) mainGlobals "_law_due" = some (some (.ref 91)) := by exact rfl
theorem g_symbols : nsIn (hd.heap_39 w.params) mainGlobals "_law_symbols" = some (some (.ref 96)) := by exact rfl
theorem g_row : nsIn (hd.heap_39 w.params) mainGlobals "_law_row" = some (some (.ref 103)) := by exact rfl
theorem g_kinds : nsIn (hd.heap_39 w.params) mainGlobals "_law_kinds" = some (some (.ref 110)) := by exact rfl
theorem g_mail : nsIn (hd.heap_39 w.params) mainGlobals "_law_mail" = some (some (.ref 115)) := by exact rfl
theorem g_sent : nsIn (hd.heap_39 w.params) mainGlobals "_law_sent_on" = some (some (.ref 122)) := by exact rfl
theorem g_home : nsIn (hd.heap_39 w.params) mainGlobals "_law_home" = some (some (.ref 129)) := by exact rfl
theorem g_struck : nsIn (hd.heap_39 w.params) mainGlobals "_law_struck" = some (some (.ref 136)) := by exact rfl
theorem g_law : nsIn (hd.heap_39 w.params) mainGlobals "law" = some (some (.ref 141)) := by exact rfl
theorem z_int (G : (WL prog w mg mb).Glob) : (WL prog w mg mb).mg "int" = none ∧ (WL prog w mg mb).mb "int" = some (.type "int") := G.blt b_int B_int (by decide +kernel)
theorem z_abs (G : (WL prog w mg mb).Glob) : (WL prog w mg mb).mg "abs" = none ∧ (WL prog w mg mb).mb "abs" = some (.builtin "abs") := G.blt b_abs B_abs (by decide +kernel)
theorem z_divmod (G : (WL prog w mg mb).Glob) : (WL prog w mg mb).mg "divmod" = none ∧ (WL prog w mg mb).mb "divmod" = some (.builtin "divmod") := G.blt b_divmod B_divmod (by decide +kernel)
theorem z_range (G : (WL prog w mg mb).Glob) : (WL prog w mg mb).mg "range" = none ∧ (WL prog w mg mb).mb "range" = some (.type "range") := G.blt b_range B_range (by decide +kernel)
theorem z_len (G : (WL prog w mg mb).Glob) : (WL prog w mg mb).mg "len" = none ∧ (WL prog w mg mb).mb "len" = some (.builtin "len") := G.blt b_len B_len (by decide +kernel)
theorem z_max (G : (WL prog w mg mb).Glob) : (WL prog w mg mb).mg "max" = none ∧ (WL prog w mg mb).mb "max" = some (.builtin "max") := G.blt b_max B_max (by decide +kernel)
theorem z_ord (G : (WL prog w mg mb).Glob) : (WL prog w mg mb).mg "ord" = none ∧ (WL prog w mg mb).mb "ord" = some (.builtin "ord") := G.blt b_ord B_ord (by decide +kernel)
theorem z_sorted (G : (WL prog w mg mb).Glob) : (WL prog w mg mb).mg "sorted" = none ∧ (WL prog w mg mb).mb "sorted" = some (.builtin "sorted") := G.blt b_sorted B_sorted (by decide +kernel)
theorem z_zip (G : (WL prog w mg mb).Glob) : (WL prog w mg mb).mg "zip" = none ∧ (WL prog w mg mb).mb "zip" = some (.type "zip") := G.blt b_zip B_zip (by decide +kernel)
theorem z_sum (G : (WL prog w mg mb).Glob) : (WL prog w mg mb).mg "sum" = none ∧ (WL prog w mg mb).mb "sum" = some (.builtin "sum") := G.blt b_sum B_sum (by decide +kernel)
theorem z_all (G : (WL prog w mg mb).Glob) : (WL prog w mg mb).mg "all" = none ∧ (WL prog w mg mb).mb "all" = some (.builtin "all") := G.blt b_all B_all (by decide +kernel)
end
end Mine
end
section
open PySem PySem.W PyProof.Rows PySem.Spec
set_option Elab.async false
set_option linter.all false
set_option maxRecDepth 100000
namespace Mine
noncomputable abbrev nt (n : Nat) : PyData := .int ((n : Nat) : Int)
section
variable {f : Fx} {x : Sx} {l r : Expr} {pos : Pos} {a b : Nat}
theorem Ev.addN (h1 : Ev f x l (nt a)) (h2 : Ev f x r (nt b)) : Ev f x (.BinOp l .Add r pos) (nt (a + b)) := (Ev.add h1 h2).eq (by simp)
theorem Ev.powN (h1 : Ev f x l (nt a)) (h2 : Ev f x r (nt b)) (hs : (Builtin.Int.intBits a : Int) * b ≤ 2 ^ 27) : Ev f x (.BinOp l .Pow r pos) (nt (a ^ b)) := (Ev.pow h1 h2 (by omega) hs).eq (by simp)
theorem Ev.fdivN (h1 : Ev f x l (nt a)) (h2 : Ev f x r (nt b)) (hb : b ≠ 0) (hp : b.log2 < 9000) : Ev f x (.BinOp l .FloorDiv r pos) (nt (a / b)) := (Ev.fdiv h1 h2 (by omega) (by simpa using hp)).eq (by
  show PyData.int _ = PyData.int _
  congr 1
  rw [Int.fdiv_eq_ediv_of_nonneg _ (by omega)]; rfl)
theorem Ev.fmodN (h1 : Ev f x l (nt a)) (h2 : Ev f x r (nt b)) (hb : b ≠ 0) : Ev f x (.BinOp l .Mod r pos) (nt (a % b)) := (Ev.fmod h1 h2 (by omega)).eq (by
  show PyData.int _ = PyData.int _
  congr 1
  rw [Int.fmod_eq_emod_of_nonneg _ (by omega)]; rfl)
theorem EvC.ltN (h1 : Ev f x l (nt a)) (h2 : Ev f x r (nt b)) : EvC f x l .Lt r (decide (a < b)) := by have := EvC.lt h1 h2; simpa using this
theorem EvC.leN (h1 : Ev f x l (nt a)) (h2 : Ev f x r (nt b)) : EvC f x l .LtE r (decide (a ≤ b)) := by have := EvC.le h1 h2; simpa using this
theorem EvC.geN (h1 : Ev f x l (nt a)) (h2 : Ev f x r (nt b)) : EvC f x l .GtE r (decide (b ≤ a)) := by have := EvC.ge h1 h2; simpa using this
theorem EvC.eqN (h1 : Ev f x l (nt a)) (h2 : Ev f x r (nt b)) : EvC f x l .Eq r (decide (a = b)) := by have := EvC.eq h1 h2; rwa [show decide ((a : Int) = b) = decide (a = b) from decide_eq_decide.mpr (by omega)] at this
theorem EvC.neN (h1 : Ev f x l (nt a)) (h2 : Ev f x r (nt b)) : EvC f x l .NotEq r (decide (a ≠ b)) := by have := EvC.ne h1 h2; rwa [show decide ((a : Int) ≠ b) = decide (a ≠ b) from decide_eq_decide.mpr (by omega)] at this
theorem Ev.nat {n : Nat} {k pos} : Ev f x (.Constant (.int ((n : Nat) : Int)) k pos) (nt n) := Ev.int
theorem Ev.itemLN {v sl : Expr} {pos} {ds : List PyData} {i : Nat} {d : PyData} (h1 : Ev f x v (.list ds)) (h2 : Ev f x sl (nt i)) (hd : ds[i]? = some d) (hn : ds.length ≤ sizeLine)
    (hs : ∀ o j, subscripted sl false o j = operate [o, j] (getItem o j) := by intro _ _; with_unfolding_all rfl) : Ev f x (.Subscript v sl pos) d :=
  Ev.itemL h1 h2 (by unfold idx; rw [if_pos (by omega)]; simpa using hd) (by omega) hn hs
theorem Ev.itemSN {v sl : Expr} {pos} {ds : List Nat} {i : Nat} {c : Nat} (h1 : Ev f x v (st ds)) (h2 : Ev f x sl (nt i)) (hd : ds[i]? = some c) (hn : ds.length ≤ sizeLine)
    (hs : ∀ o j, subscripted sl false o j = operate [o, j] (getItem o j) := by intro _ _; with_unfolding_all rfl) : Ev f x (.Subscript v sl pos) (st [c]) :=
  Ev.itemS h1 h2 (by omega) (by simpa using hd) hn hs
end
theorem bits16 : ∀ k : Nat, k ≤ 60 → (Builtin.Int.intBits ((16 : Nat) : Int) : Int) * (k : Int) ≤ 2 ^ 27 := by
  intro k hk
  have : (Builtin.Int.intBits ((16 : Nat) : Int) : Int) = 5 := by decide +kernel
  rw [this]; omega
theorem log16 : ∀ k : Nat, k ≤ 60 → (16 ^ k).log2 < 9000 := by
  have : ∀ k : Nat, k < 61 → (16 ^ k).log2 < 9000 := by decide +kernel
  intro k hk; exact this k (by omega)

noncomputable def lett (n : Nat) (k : Nat) : List Nat := ((List.range k).reverse.filter fun i => decide (16 ^ i ≤ n)).map fun i => 65 + n / 16 ^ i % 16
theorem jn_nil : ∀ l : List (List Nat), jn [] l = l.flatten
  | [] => rfl
  | [y] => by simp [jn]
  | y :: z :: r => by rw [jn, jn_nil (z :: r)]; simp
theorem jn_sing (l : List Nat) : jn [] (l.map fun c => [c]) = l := by
  rw [jn_nil]
  induction l with
  | nil => rfl
  | cons a l ih => simp [ih]
theorem sing_sum (l : List Nat) : ((l.map fun c => [c]).map (·.length)).sum = l.length := by
  induction l with
  | nil => rfl
  | cons a l ih => simp at ih ⊢; omega
noncomputable def AZ : List Nat := (List.range 16).map (65 + ·)
theorem AZ_get {k : Nat} (h : k < 16) : AZ[k]? = some (65 + k) := by simp [AZ, h]
theorem lett_len (n k : Nat) : (lett n k).length ≤ k := by
  unfold lett
  rw [List.length_map]
  exact Nat.le_trans (List.length_filter_le _ _) (by simp)
end Mine
end
section
open PySem PySem.W PyProof.Rows PySem.Spec
set_option Elab.async false
set_option linter.all false
set_option maxRecDepth 100000
namespace Mine
section
variable {f : Fx} {x : Sx}
theorem Ev.strE {y : Str} {l : List Nat} {k pos} (h : y = S l := by decide +kernel) : Ev f x (.Constant (.str y) k pos) (st l) := by subst h; exact Ev.str
theorem Ev.iteB {t a b : Expr} {pos} {c : Bool} {da db : PyData} (h : Tst f x t c) (ha : Ev f x a da) (hb : Ev f x b db) : Ev f x (.IfExp t a b pos) (if c = true then da else db) :=
  .ite h (fun e => by rw [if_pos e]; exact ha) (fun e => by rw [if_neg (by rw [e]; decide)]; exact hb)
theorem Ev.iteS {t a b : Expr} {pos} {c : Bool} {da db : List Nat} (h : Tst f x t c) (ha : Ev f x a (st da)) (hb : Ev f x b (st db)) : Ev f x (.IfExp t a b pos) (st (if c = true then da else db)) :=
  (Ev.iteB h ha hb).eq (by cases c <;> rfl)
theorem Ev.iteI {t a b : Expr} {pos} {c : Bool} {da db : Int} (h : Tst f x t c) (ha : Ev f x a (.int da)) (hb : Ev f x b (.int db)) : Ev f x (.IfExp t a b pos) (.int (if c = true then da else db)) :=
  (Ev.iteB h ha hb).eq (by cases c <;> rfl)
theorem Ev.iteN {t a b : Expr} {pos} {c : Bool} {da db : Nat} (h : Tst f x t c) (ha : Ev f x a (nt da)) (hb : Ev f x b (nt db)) : Ev f x (.IfExp t a b pos) (nt (if c = true then da else db)) :=
  (Ev.iteB h ha hb).eq (by cases c <;> rfl)
end
noncomputable def CRLF : List Nat := [13, 10]
noncomputable def rowL (more : Nat) (r : Nat × List Nat) : List Nat := reps [46] (if r.1 = 0 then 0 else r.1 + more) ++ r.2
noncomputable def mailL (more : Nat) (rows : List (Nat × List Nat)) : List Nat := jn CRLF (rows.map (rowL more))
noncomputable def rowD (r : Nat × List Nat) : PyData := .list [nt r.1, st r.2]
theorem reps_one (c n : Nat) : reps [c] n = List.replicate n c := by
  unfold reps
  induction n with
  | zero => rfl
  | succ n ih => rw [List.replicate_succ, List.flatten_cons, ih]; rfl
theorem jn_len (g : List Nat) : ∀ ys : List (List Nat), (jn g ys).length + g.length = (ys.map (·.length)).sum + (if ys = [] then 1 else ys.length) * g.length
  | [] => by simp [jn]
  | [y] => by simp [jn]
  | y :: z :: r => by
    have := jn_len g (z :: r)
    simp [jn, Nat.add_mul] at this ⊢
    omega
theorem jn_fits {g : List Nat} {ys : List (List Nat)} {n : Nat} (h : (jn g ys).length + g.length ≤ n) : (ys.map (·.length)).sum + ys.length * g.length ≤ n := by
  have := jn_len g ys
  by_cases q : ys = []
  · subst q; simp
  · rw [if_neg q] at this; omega
end Mine
end
section
open PySem PySem.W PyProof.Rows PySem.Spec
set_option Elab.async false
set_option linter.all false
set_option maxRecDepth 100000
namespace Mine
section
variable {prog : Program} {w : World} {mg mb : Str → Option Value}
theorem c_term (G : (WL prog w mg mb).Glob) (i : Int) : Fn (WL prog w mg mb) (.ref 65) 1 [.int i] (.bool (decide (i < 256))) := by
  obtain ⟨t, ht⟩ := g_NT (w := w)
  refine Fn.of_at (nm := ["x"]) (gl := ["NT_OFFSET"]) (ps := ["x"]) rfl rfl rfl rfl rfl rfl rfl (by decide +kernel) (bind1 fun _ => rfl) (.cons .here .nil) fun A s L hz bad bad' => ?_
  exact Ex.ret (Ev.cmp (EvC.lt (Ev.name At.i0) (Ev.globI Mem.i0 (G.g _ _ ht)))) fun s v O r => O.retD r
theorem c_nont (G : (WL prog w mg mb).Glob) (i : Int) : Fn (WL prog w mg mb) (.ref 72) 1 [.int i] (.bool (decide (256 ≤ i))) := by
  obtain ⟨t, ht⟩ := g_NT (w := w)
  refine Fn.of_at (nm := ["x"]) (gl := ["NT_OFFSET"]) (ps := ["x"]) rfl rfl rfl rfl rfl rfl rfl (by decide +kernel) (bind1 fun _ => rfl) (.cons .here .nil) fun A s L hz bad bad' => ?_
  exact Ex.ret (Ev.cmp (EvC.ge (Ev.name At.i0) (Ev.globI Mem.i0 (G.g _ _ ht)))) fun s v O r => O.retD r
theorem c_eof (G : (WL prog w mg mb).Glob) (i : Int) : Fn (WL prog w mg mb) (.ref 79) 1 [.int i] (.bool (decide (i = 0))) := by
  obtain ⟨t, ht⟩ := g_END (w := w)
  refine Fn.of_at (nm := ["x"]) (gl := ["ENDMARKER"]) (ps := ["x"]) rfl rfl rfl rfl rfl rfl rfl (by decide +kernel) (bind1 fun _ => rfl) (.cons .here .nil) fun A s L hz bad bad' => ?_
  exact Ex.ret (Ev.cmp (EvC.eq (Ev.name At.i0) (Ev.globI Mem.i0 (G.g _ _ ht)))) fun s v O r => O.retD r

end
end Mine
end
section
open PySem PySem.W PyProof.Rows PySem.Spec
set_option Elab.async false
set_option linter.all false
set_option maxRecDepth 100000
namespace Mine
noncomputable def kgood (k : Nat) (s : Int) : Bool := decide (s < 256) == decide (k % 2 = 1)
noncomputable def kindsB (l : List Int) : Bool := (List.range l.length).all fun k => match l[k]? with | some s => kgood k s | none => true
theorem kindsB_false {l : List Int} {k : Nat} {s : Int} (h : l[k]? = some s) (hg : kgood k s = false) : kindsB l = false := by
  unfold kindsB
  rw [List.all_eq_false]
  exact ⟨k, List.mem_range.mpr (List.getElem?_eq_some_iff.mp h).1, by rw [h]; simp [hg]⟩
theorem kindsB_true {l : List Int} (h : ∀ k s, l[k]? = some s → kgood k s = true) : kindsB l = true := by
  unfold kindsB
  rw [List.all_eq_true]
  intro k hk
  have := List.getElem?_eq_getElem (List.mem_range.mp hk)
  rw [this]; exact h k _ this
section
variable {prog : Program} {w : World} {mg mb : Str → Option Value}
theorem c_kinds (G : (WL prog w mg mb).Glob) (l : List Int) (hl : l.length ≤ sizeLine) : Fn (WL prog w mg mb) (.ref 110) 2 [.list (l.map .int)] (.bool (kindsB l)) := by
  refine Fn.of_at (nm := ["symbols", "k", "s", "far"]) (gl := ["enumerate", "ISTERMINAL", "ISNONTERMINAL", "ISEOF"]) (ps := ["symbols"]) rfl rfl rfl rfl rfl rfl rfl (by decide +kernel) (bind1 fun _ => rfl) (.cons .here .nil) fun A s L hz bad bad' => ?_
  refine Ex.for (ns := ["k", "s"]) (Iter.enum (ds := l.map .int) (Ev.blt Mem.i0 (G.blt b_enumerate B_enumerate (by decide +kernel))) (Ev.name At.i0))
    (fun k vs led => led = [] ∧ vs = [.val (.list (l.map .int)), .no, .no, .no] ∧ ∀ j s, j < k → l[j]? = some s → kgood j s = true)
    (fun vs led => led = [] ∧ vs = [.val (.list (l.map .int)), .no, .no, .no] ∧ ∀ j s, l[j]? = some s → kgood j s = true) ⟨rfl, rfl, fun j s h => by omega⟩ ?_ ?_ ?_ ?_
  · rintro k d vs led hz' bad'' fp P hd ⟨rfl, rfl, hJ⟩
    obtain ⟨e, he, rfl⟩ := enum_get hd
    rw [List.getElem?_map] at he
    cases hls : l[k]? with
    | none => rw [hls] at he; cases he
    | some s' =>
    rw [hls] at he; cases he
    refine ⟨_, .names (.cons (.cons .nil)) (.inr rfl) (.cons Put.i1 (.cons Put.i2 .nil)), ?_⟩
    refine Ex.assign (Ev.sub Ev.int (Ev.name At.i2)) Put.i3 ?_
    refine Ex.ite (c := !kgood k s') (Tst.eq (Tst.or (Tst.cmp (EvC.isNot (Ev.call (Ev.glob Mem.i1 (G.g _ _ g_term)) (.fn rfl rfl) (.cons (Ev.name At.i2) .nil) (c_term G _) (Nat.le_of_ble_eq_true rfl)) (Ev.cmp (EvC.eqN (Ev.fmodN (Ev.name At.i1) (Ev.nat (n := 2)) (by decide)) (Ev.nat (n := 1))))))
      fun _ => Tst.or (Tst.cmp (EvC.isNot (Ev.call (Ev.glob Mem.i2 (G.g _ _ g_nont)) (.fn rfl rfl) (.cons (Ev.name At.i2) .nil) (c_nont G _) (Nat.le_of_ble_eq_true rfl)) (Ev.cmp (EvC.eqN (Ev.fmodN (Ev.name At.i1) (Ev.nat (n := 2)) (by decide)) (Ev.nat (n := 0))))))
      fun _ => Tst.or (Tst.cmp (EvC.isNot (Ev.call (Ev.glob Mem.i3 (G.g _ _ g_eof)) (.fn rfl rfl) (.cons (Ev.name At.i2) .nil) (c_eof G _) (Nat.le_of_ble_eq_true rfl)) (Ev.cmp (EvC.eq (Ev.name At.i2) Ev.int)))) fun _ => Tst.orN) ?_) ?_ ?_
    · unfold kgood
      have h1 : decide (256 ≤ s') = !decide (s' < 256) := by by_cases h : s' < 256 <;> simp [h] <;> omega
      have h2 : decide (k % 2 = 0) = !decide (k % 2 = 1) := by by_cases h : k % 2 = 1 <;> simp [h] <;> omega
      rw [h1, h2]
      cases decide (s' < 256) <;> cases decide (k % 2 = 1) <;> simp
    · intro hc
      have : kindsB l = false := kindsB_false hls (by simpa using hc)
      exact Ex.ret (d := .bool (kindsB l)) (by rw [this]; exact Ev.bool) fun s v O r => O.retD r
    · intro hc
      have hg : kgood k s' = true := by simpa using hc
      refine Ex.next ?_
      refine Ex.ite (c := false) (Tst.eq (Tst.or (Tst.cmp (EvC.isNot (Ev.call (Ev.glob Mem.i1 (G.g _ _ g_term)) (.fn rfl rfl) (.cons (Ev.name At.i3) .nil) (c_term G _) (Nat.le_of_ble_eq_true rfl)) (Ev.cmp (EvC.eqN (Ev.fmodN (Ev.name At.i1) (Ev.nat (n := 2)) (by decide)) (Ev.nat (n := 0))))))
        fun _ => Tst.or (Tst.cmp (EvC.isNot (Ev.call (Ev.glob Mem.i2 (G.g _ _ g_nont)) (.fn rfl rfl) (.cons (Ev.name At.i3) .nil) (c_nont G _) (Nat.le_of_ble_eq_true rfl)) (Ev.cmp (EvC.eqN (Ev.fmodN (Ev.name At.i1) (Ev.nat (n := 2)) (by decide)) (Ev.nat (n := 1))))))
        fun _ => Tst.or (Tst.cmp (EvC.isNot (Ev.call (Ev.glob Mem.i3 (G.g _ _ g_eof)) (.fn rfl rfl) (.cons (Ev.name At.i3) .nil) (c_eof G _) (Nat.le_of_ble_eq_true rfl)) (Ev.cmp (EvC.eq (Ev.name At.i3) Ev.int)))) fun _ => Tst.orN) ?_) (fun h => by cases h) (fun _ => ?_)
      · unfold kgood at hg
        have h1 : decide (511 - s' < 256) = !decide (s' < 256) := by by_cases h : s' < 256 <;> simp [h] <;> omega
        have h3 : decide (256 ≤ 511 - s') = decide (s' < 256) := by by_cases h : s' < 256 <;> simp [h] <;> omega
        have h2 : decide (k % 2 = 0) = !decide (k % 2 = 1) := by by_cases h : k % 2 = 1 <;> simp [h] <;> omega
        rw [h1, h2, h3]
        revert hg
        cases decide (s' < 256) <;> cases decide (k % 2 = 1) <;> simp
      · refine Ex.next (Ex.nil fun s₂ O₂ => ⟨_, _, [], ⟨rfl, rfl, fun j s hj hs => ?_⟩, O₂.forget (.keep (.drop (.drop (.drop .nil))))⟩)
        by_cases q : j = k
        · subst q; rw [hls] at hs; cases hs; exact hg
        · exact hJ j s (by omega) hs
  · rintro vs led ⟨rfl, rfl, hJ⟩
    refine ⟨rfl, rfl, fun j s hs => hJ j s ?_ hs⟩
    have : (enum (l.map PyData.int)).length = l.length := by simp [enum]
    rw [this]; exact (List.getElem?_eq_some_iff.mp hs).1
  · rintro vs led bad ⟨rfl, rfl, hJ⟩
    exact Ex.ret (d := .bool (kindsB l)) (by rw [kindsB_true hJ]; exact Ev.bool) fun s v O r => O.retD r
  · intro n hn
    cases hn with
    | head => exact Mem.i1
    | tail _ h => cases h with
      | head => exact Mem.i2
      | tail _ h => cases h
end
end Mine
end
section
open PySem PySem.W PyProof.Rows PySem.Spec
set_option Elab.async false
set_option linter.all false
set_option maxRecDepth 100000
namespace Mine

section
variable {f : Fx}
end
end Mine
end
section
open PySem PySem.W PyProof.Rows PySem.Spec
set_option Elab.async false
set_option linter.all false
set_option maxRecDepth 100000
namespace Mine

section
variable {f : Fx} {x : Sx}
end
end Mine
end
section
open PySem PySem.W PyProof.Rows PySem.Spec
set_option Elab.async false
set_option linter.all false
set_option maxRecDepth 100000
namespace Mine
theorem RdAll.reverse {h : Heap} : ∀ {ds : List PyData} {vs : List Value}, RdAll h vs ds → RdAll h vs.reverse ds.reverse
  | [], vs, r => by rw [r.nil_inv]; exact .nil
  | d :: ds, vs, r => by
    obtain ⟨v, vs, rfl, a, b⟩ := r.cons_inv
    simpa using (RdAll.reverse b).append (.one a)
section
variable {f : Fx} {x : Sx}
theorem Ev.rev {v st : Expr} {p pos} {ds : List PyData} (h1 : Ev f x v (.list ds)) (h2 : EvO f x (some st) (some (-1))) (hn : ds.length ≤ sizeLine) :
    Ev f x (.Subscript v (.Slice none none (some st) p) pos) (.list ds.reverse) := .bx fun s O =>
  Subscript_ (wpN (h1.run s O) fun o s₁ ⟨k1, r1⟩ => wpAny_Slice (wpN (EvO.none.run s₁ (O.step k1)) fun l s₂ ⟨k2, pa, e1, e2⟩ => wpN (EvO.none.run s₂ ((O.step k1).step k2)) fun u s₃ ⟨k3, pb, e3, e4⟩ => wpN (h2.run s₃ (((O.step k1).step k2).step k3)) fun q s₄ ⟨k4, pc, e5, e6⟩ => by
    subst e1 e3 e5
    have k := ((k1.trans k2).trans k3).trans k4
    have O₄ := O.step k
    obtain ⟨c, vs, n, rfl, l1, l2⟩ := (r1.ext (hid_ext ((k2.trans k3).trans k4).ext)).list_inv
    have e := l2.length
    have l1' : s₄.heap.IsList c vs.toArray := PL.isList (n := n) (hid_iff.mp l1).1
    have ec := isPart_of pc
    have ea := isPart_of pa
    have eb := isPart_of pb
    rw [e6] at ec
    rw [e2] at ea
    rw [e4] at eb
    refine tail_any (l1'.push _).typeIs slot_list_getitem.lookup (wpAny_getItem_list_slice (l1'.push _) (Heap.IsSliceOf.new ..) ea eb ec (by simp) ⟨?_, ?_⟩ (by rw [List.size_toArray, e]; exact hn)) rfl
    · exact k.trans ((Step.mkh (ext_push _)).trans (.mkh (ext_push _)))
    · have hp : slicePick vs.toArray none none (some (-1)) = vs.reverse.toArray := by simpa using krv_pick vs.toArray
      rw [hp]
      have O₅ := O₄.step (.mkh (ext_push { cls := .type "slice", data := .fields #[partValue pa, partValue pb, partValue pc] }))
      exact Rd.newList (s := { s₄ with heap := s₄.heap.push { cls := .type "slice", data := .fields #[partValue pa, partValue pb, partValue pc] } }) O₅.nb (l2.reverse.ext (hid_ext (ext_push _)))))
end
end Mine
end
section
open PySem PySem.W PyProof.Rows PySem.Spec
set_option Elab.async false
set_option linter.all false
set_option maxRecDepth 100000
namespace Mine
noncomputable def crlf : List Nat → List Nat
  | [] => []
  | 13 :: 10 :: r => 13 :: 10 :: crlf r
  | 10 :: r => 13 :: 10 :: crlf r
  | 13 :: r => 13 :: 10 :: crlf r
  | c :: r => c :: crlf r
noncomputable def stuff : Bool → List Nat → List Nat
  | _, [] => []
  | b, c :: r => if b = true ∧ c = 46 then 46 :: 46 :: stuff false r else c :: stuff (c == 10) r
noncomputable def qd (l : List Nat) : List Nat := stuff true (crlf l)
theorem crlf_len : ∀ l, (crlf l).length ≤ 2 * l.length := by
  intro l
  induction l using crlf.induct with
  | case1 => simp [crlf]
  | case2 r ih => simp [crlf]; omega
  | case3 r ih => simp [crlf]; omega
  | case4 r h ih => rw [crlf]; simp; omega; assumption
  | case5 c r h1 h2 h3 ih => rw [crlf]; simp; omega; all_goals assumption
theorem stuff_len : ∀ l b, (stuff b l).length ≤ 2 * l.length
  | [], b => by simp [stuff]
  | c :: r, b => by
    rw [stuff]
    split
    · have := stuff_len r false; simp; omega
    · have := stuff_len r (c == 10); simp; omega
theorem le_sum {n : Nat} : ∀ {l : List Nat}, n ∈ l → n ≤ l.sum
  | a :: r, h => by
    rcases List.mem_cons.mp h with rfl | h
    · simp
    · have := le_sum h; simp; omega
noncomputable def endsL : List (List Nat) := [[10], [13], [13, 10], [10, 46], [13, 13]]
noncomputable def duesL : List (List Nat) := [[13, 10], [13, 10], [13, 10], [13, 10, 46, 46], [13, 10, 13, 10]]
section
variable {f : Fx} {x : Sx}
end
end Mine
end
section
open PySem PySem.W PyProof.Rows PySem.Spec
set_option Elab.async false
set_option linter.all false
set_option maxRecDepth 100000
namespace Mine
section
variable {f : Fx} {x : Sx} {s : Shared}
end
section
variable {f : Fx} {x : Sx}
end
end Mine
end
section
open PySem PySem.W PyProof.Rows PySem.Spec
set_option Elab.async false
set_option linter.all false
set_option maxRecDepth 100000
namespace Mine
noncomputable def opsL : List (List Nat × Nat) := [([33], 54), ([33, 61], 28), ([37], 24), ([37, 61], 40), ([38], 19), ([38, 61], 41), ([40], 7), ([41], 8), ([42], 16), ([42, 42], 35), ([42, 42, 61], 46), ([42, 61], 38), ([43], 14), ([43, 61], 36), ([44], 12), ([45], 15), ([45, 61], 37), ([45, 62], 51), ([46], 23), ([46, 46, 46], 52), ([47], 17), ([47, 47], 47), ([47, 47, 61], 48), ([47, 61], 39), ([58], 11), ([58, 61], 53), ([59], 13), ([60], 20), ([60, 60], 33), ([60, 60, 61], 44), ([60, 61], 29), ([61], 22), ([61, 61], 27), ([62], 21), ([62, 61], 30), ([62, 62], 34), ([62, 62, 61], 45), ([64], 49), ([64, 61], 50), ([91], 9), ([93], 10), ([94], 32), ([94, 61], 43), ([123], 25), ([124], 18), ([124, 61], 42), ([125], 26), ([126], 31)]
noncomputable def opsS : List (Str × PyData) := opsL.map fun p => (S p.1, nt p.2)
noncomputable def opsD : List (PyData × PyData) := opsS.map fun p => (PyData.str p.1, p.2)
theorem ops_lookup (o : List Nat) : PySem.Spec.lookup (st o) opsD = (opsL.lookup o).map nt := by
  unfold opsD opsS
  generalize opsL = l
  induction l with
  | nil => rfl
  | cons p l ih =>
    obtain ⟨q, k⟩ := p
    simp only [List.map_cons, PySem.Spec.lookup]
    rw [PyProof.V.same_str, List.lookup_cons, ih]
    by_cases h : q = o
    · subst h; simp
    · have h1 : ¬ S q = S o := fun e => h (S_inj e)
      have h2 : (o == q) = false := by simpa using fun e : o = q => h e.symm
      simp [h1, h2]
theorem inS_one (c : Nat) (l : List Nat) : inS [c] l = decide (c ∈ l) := by
  have := StrLaws.found_one (S l) c
  rw [S_len] at this
  show (!(Builtin.Str.occurrences (S l) ⟨#[c]⟩ 0 l.length 1).isEmpty) = _
  rw [this, S_toList]

inductive Lx (stop : List Nat) : List Nat → Int → List Int → Prop
  | done {v} : Lx stop [] v [v]
  | stop {c r v} : c ∈ stop → Lx stop (c :: r) v [v]
  | word {c r v out} : c ∉ stop → 65 ≤ c → c < 81 → Lx stop r (256 + 16 * (v - 256) + c - 65) out → Lx stop (c :: r) v out
  | op {c o r v k out} : c ∉ stop → (c < 65 ∨ 81 ≤ c) → opsL.lookup (c :: o) = some k → o.length < 3 →
      (∀ n, o.length + 1 < n → n ≤ 3 → n ≤ (c :: (o ++ r)).length → opsL.lookup ((c :: (o ++ r)).take n) = none) → Lx stop r 256 out → Lx stop (c :: (o ++ r)) v (v :: k :: out)
theorem slc_nat (l : List Nat) (i j : Nat) : slc l (some (i : Int)) (some (j : Int)) = (l.drop i).take (j - i) := by
  unfold slc
  simp only [Option.elim, clipAt_nat]
  by_cases h : i ≤ l.length
  · rw [Nat.min_eq_left h]
    by_cases h2 : j ≤ l.length
    · rw [Nat.min_eq_left h2]
    · rw [Nat.min_eq_right (by omega), List.take_of_length_le (by simp), List.take_of_length_le (by simp; omega)]
  · rw [Nat.min_eq_right (by omega : l.length ≤ i), List.drop_of_length_le (by omega), List.drop_of_length_le (by omega)]
    simp
theorem Ex.augN {f : Fx} {x : Sx} {n : Str} {p : Pos} {e : Expr} {pos : Pos} {rest : List Stmt} {a b : Nat} {vs' : List Slot} {Q : Flow → Shared → Prop} (h0 : At f.nm x.vs n (.val (nt a))) (h : Ev f x e (nt b))
    (put : Put f.nm x.vs n (.val (nt (a + b))) vs') (hr : Ex f { x with vs := vs' } rest Q) (hc : f.sto = f.nm := by exact rfl) : Ex f x (.AugAssign (.Name n p) .Add e pos :: rest) Q :=
  .aug h0 h (fun s v w O r1 r2 => by
    obtain ⟨t, rfl⟩ := r1.int_inv; obtain ⟨u, rfl⟩ := r2.int_inv
    exact PySem.P.iadd_int ⟨.tok, by rw [← Int.natCast_add]; exact .int _ _⟩) put hr hc
theorem ltN {l : List Nat} {i : Nat} {c : Nat} {r : List Nat} (h : l.drop i = c :: r) : l[i]? = some c ∧ i < l.length ∧ l.drop (i + 1) = r := by
  have h1 : i < l.length := by
    rcases Nat.lt_or_ge i l.length with q | q
    · exact q
    · rw [List.drop_of_length_le q] at h; cases h
  have h2 := List.drop_eq_getElem_cons h1
  rw [h] at h2
  cases h2
  exact ⟨List.getElem?_eq_getElem h1, h1, rfl⟩
theorem AZ_mem {c : Nat} : c ∈ AZ ↔ 65 ≤ c ∧ c < 81 := by
  unfold AZ
  simp only [List.mem_map, List.mem_range]
  constructor
  · rintro ⟨a, h, rfl⟩; omega
  · intro h; exact ⟨c - 65, by omega, by omega⟩
theorem Lx.pos {stop l v out} (h : Lx stop l v out) : 1 ≤ out.length := by
  induction h with
  | done => simp
  | stop _ => simp
  | word _ _ _ _ ih => exact ih
  | op _ _ _ _ _ _ ih => simp
end Mine
end
section
open PySem PySem.W PyProof.Rows PySem.Spec
set_option Elab.async false
set_option linter.all false
set_option maxRecDepth 100000
namespace Mine
noncomputable abbrev Row := Nat × List Nat
noncomputable def moreL (k : Nat) : List Row := ([[], [], [], [(0, [])], [(0, []), (1, []), (0, [])], [], []] : List (List Row)).getD k []
theorem slc_lo {α : Type} (l : List α) (i : Nat) : slc l none (some (i : Int)) = l.take i := by
  unfold slc clipAt
  simp only [Option.elim]
  rw [List.drop_zero]
  by_cases h : i ≤ l.length
  · rw [if_neg (by omega)]; congr 1; omega
  · rw [if_neg (by omega)]
    rw [List.take_of_length_le (by omega), List.take_of_length_le (by omega)]
theorem slc_hi {α : Type} (l : List α) (i : Nat) : slc l (some (i : Int)) none = l.drop i := by
  unfold slc clipAt
  simp only [Option.elim]
  rw [if_neg (by omega)]
  by_cases h : i ≤ l.length
  · rw [List.take_of_length_le (by rw [List.length_drop]; omega)]; congr 1; omega
  · rw [List.drop_eq_nil_iff.mpr (by omega)]
    simp; omega
section
variable {f : Fx} {x : Sx}
theorem Ev.takeL {v hi : Expr} {p pos} {ds : List PyData} {i : Nat} (h1 : Ev f x v (.list ds)) (h3 : Ev f x hi (nt i)) (hn : ds.length ≤ sizeLine) : Ev f x (.Subscript v (.Slice none (some hi) .none p) pos) (.list (ds.take i)) :=
  (Ev.sliceL h1 EvO.none (EvO.some h3) hn).eq (by rw [slc_lo])
theorem Ev.dropL {v lo : Expr} {p pos} {ds : List PyData} {i : Nat} (h1 : Ev f x v (.list ds)) (h3 : Ev f x lo (nt i)) (hn : ds.length ≤ sizeLine) : Ev f x (.Subscript v (.Slice (some lo) none .none p) pos) (.list (ds.drop i)) :=
  (Ev.sliceL h1 (EvO.some h3) EvO.none hn).eq (by rw [slc_hi])
theorem starEach_Constant (c k p rest env) : starEach (.Constant c k p :: rest) env = (false, eval (.Constant c k p) env) :: starEach rest env := rfl
theorem EvL.consK {c k p es d ds} (h1 : Ev f x (.Constant c k p) d) (h2 : EvL f x es ds) : EvL f x (.Constant c k p :: es) (d :: ds) := EvL.cons h1 h2 (starEach_Constant ..)
theorem Ev.rowE {k : Nat} {c1 c2 p1 p2 p3} : Ev f x (.List [.Constant (.int ((k : Nat) : Int)) c1 p1, .Constant (.str (Str.ofString "")) c2 p2] p3) (.list [nt k, st []]) :=
  Ev.list (ds := [nt k, st []]) (.consK Ev.nat (.consK (Ev.strE (l := [])) .nil)) (Nat.le_of_ble_eq_true rfl)
theorem Ev.m0 {p c0 c1 b0 b1} : Ev f x (.List [.Constant (.int 0) c0 b0, .Constant (.str (Str.ofString "")) c1 b1] p) (.list [nt 0, st []]) := Ev.rowE (k := 0)
end
end Mine
end
section
open PySem PySem.W PyProof.Rows PySem.Spec
set_option Elab.async false
set_option linter.all false
set_option maxRecDepth 100000
set_option maxHeartbeats 1000000
namespace Mine
section
variable {prog : Program} {w : World} {mg mb : Str → Option Value}
theorem c_mail (G : (WL prog w mg mb).Glob) (rows : List (Nat × List Nat)) (more : Nat) (hs : (mailL more rows).length ≤ 2 ^ 20) (hd : ∀ r ∈ rows, r.1 + more < 2 ^ 30) (hn : rows.length ≤ 2 ^ 20) :
    Fn (WL prog w mg mb) (.ref 115) 1 [.list (rows.map rowD), nt more] (st (mailL more rows)) := by
  have sz : sizeLine = 16777216 := by decide
  have hfit := jn_fits (g := CRLF) (ys := rows.map (rowL more)) (n := 2 ^ 20 + 2) (by show (mailL more rows).length + 2 ≤ _; omega)
  refine Fn.of_at (nm := ["rows", "more"]) (gl := []) (ps := ["rows", "more"]) rfl rfl rfl rfl rfl rfl rfl (by decide +kernel) (bind2 fun _ _ => rfl) (.cons Put.i0 (.cons Put.i1 .nil)) fun A s L hz bad bad' => ?_
  refine Ex.ret (Ev.join (g := CRLF) (ys := rows.map (rowL more)) (Ev.strE (l := CRLF)) (Ev.eq (Ev.comp1 (xs := rows) (di := rowD) (g := fun r => st (rowL more r)) (p := fun _ => true) (own := ["dots", "text"]) (fr := ["more"]) (gl := []) (ns := ["dots", "text"])
    (Iter.list (Ev.name At.i0)) rfl (by decide +kernel) (Ats.one At.i1) rfl rfl two_in (by omega) fun r hr C cs base hz bad led => ⟨_, .names (.cons (.cons .nil)) (.inl rfl) (.cons .here (.cons Put.i1 .nil)), .drop (.drop (.keep .nil)), .nil, fun _ => ?_⟩) ?_) ?_) fun s v O r => O.retD r
  · have hle : (rowL more r).length ≤ 2 ^ 20 + 2 := by
      have h1 : (rowL more r).length ∈ ((rows.map (rowL more)).map (·.length)) := List.mem_map.mpr ⟨_, List.mem_map.mpr ⟨r, hr, rfl⟩, rfl⟩
      have := le_sum h1
      omega
    have hd' := hd r hr
    unfold rowL at hle ⊢
    rw [List.length_append, reps_one, List.length_replicate] at hle
    have e0 : (if (r.1 != 0) = true then r.1 + more else 0) = (if r.1 = 0 then 0 else r.1 + more) := by by_cases h : r.1 = 0 <;> simp [h]
    refine Ev.eq (Ev.cat (Ev.mulS (Ev.strE (l := [46])) (Ev.iteN (c := r.1 != 0) (Tst.val (Ev.name At.i0) trivial (by cases r.1 <;> rfl)) (Ev.addN (Ev.name At.i0) (Ev.name At.i2)) (Ev.nat (n := 0))) ?_ ?_) (Ev.name At.i1) ?_) ?_
    · rw [e0, Int.toNat_natCast, sz]; simp; omega
    · rw [e0]; split <;> simp <;> omega
    · rw [e0, Int.toNat_natCast, reps_one, List.length_replicate, sz]; omega
    · rw [e0, Int.toNat_natCast]
  · rw [map_true, List.map_map]; rfl
  · rw [sz]; omega
theorem c_sent (G : (WL prog w mg mb).Glob) (page : List Nat) (rows : List (Nat × List Nat)) (k : Nat) (hk : k < 5) (hq : ∀ l : List Nat, l.length ≤ 2 ^ 20 → Fn (WL prog w mg mb) (.ref 55) 1 [st l] (st (qd l)))
    (hp : page.length ≤ 2 ^ 19) (h0 : (mailL 0 rows).length ≤ 2 ^ 20) (h1 : (mailL 1 rows).length ≤ 2 ^ 20) (hd : ∀ r ∈ rows, r.1 + 1 < 2 ^ 30) (hn : rows.length ≤ 2 ^ 20) :
    Fn (WL prog w mg mb) (.ref 122) 2 [st page, .list (rows.map rowD), nt k] (.bool (decide (page = mailL 0 rows) && decide (qd (page ++ endsL.getD k []) = mailL 1 rows ++ duesL.getD k []))) := by
  have sz : sizeLine = 16777216 := by decide
  have e1 : (endsL.map st)[k]? = some (st (endsL.getD k [])) := by
    have : ∀ k : Nat, k < 5 → endsL[k]? = some (endsL.getD k []) := by decide
    rw [List.getElem?_map, this k hk]; rfl
  have e2 : (duesL.map st)[k]? = some (st (duesL.getD k [])) := by
    have : ∀ k : Nat, k < 5 → duesL[k]? = some (duesL.getD k []) := by decide
    rw [List.getElem?_map, this k hk]; rfl
  have l1 : (endsL.getD k []).length ≤ 2 := by
    have : ∀ k : Nat, k < 5 → (endsL.getD k []).length ≤ 2 := by decide
    exact this k hk
  have l2 : (duesL.getD k []).length ≤ 4 := by
    have : ∀ k : Nat, k < 5 → (duesL.getD k []).length ≤ 4 := by decide
    exact this k hk
  refine Fn.of_at (nm := ["page", "rows", "kind", "ends", "dues"]) (gl := ["_law_mail", "quotedata"]) (ps := ["page", "rows", "kind"]) rfl rfl rfl rfl rfl rfl rfl (by decide +kernel) (bind3 fun _ _ _ => rfl) (.cons Put.i0 (.cons Put.i1 (.cons Put.i2 .nil))) fun A s L hz bad bad' => ?_
  refine Ex.assign (Ev.list (ds := endsL.map st) (.cons Ev.strE (.cons Ev.strE (.cons Ev.strE (.cons Ev.strE (.cons Ev.strE .nil))))) (Nat.le_of_ble_eq_true rfl)) Put.i3 ?_
  refine Ex.assign (Ev.list (ds := duesL.map st) (.cons Ev.strE (.cons Ev.strE (.cons Ev.strE (.cons Ev.strE (.cons Ev.strE .nil))))) (Nat.le_of_ble_eq_true rfl)) Put.i4 ?_
  refine Ex.ret (Ev.and2 (da := .bool (decide (page = mailL 0 rows))) (Ev.cmp (EvC.eqS (Ev.name At.i0) (Ev.call (Ev.glob Mem.i0 (G.g _ _ g_mail)) (.fn rfl rfl) (.cons (Ev.name At.i1) (.cons (Ev.nat (n := 0)) .nil)) (c_mail G rows 0 h0 (fun r hr => by have := hd r hr; omega) hn) (Nat.le_of_ble_eq_true rfl)))) trivial
    (fun _ => Ev.cmp (EvC.eqS (Ev.call (Ev.glob Mem.i1 (G.g _ _ g_quote)) (.fn rfl rfl) (.cons (Ev.cat (Ev.name At.i0) (Ev.itemLN (Ev.name At.i3) (Ev.name At.i2) e1 (Nat.le_of_ble_eq_true rfl)) (by omega)) .nil) (hq _ (by rw [List.length_append]; omega)) (Nat.le_of_ble_eq_true rfl))
      (Ev.cat (Ev.call (Ev.glob Mem.i0 (G.g _ _ g_mail)) (.fn rfl rfl) (.cons (Ev.name At.i1) (.cons (Ev.nat (n := 1)) .nil)) (c_mail G rows 1 h1 hd hn) (Nat.le_of_ble_eq_true rfl)) (Ev.itemLN (Ev.name At.i4) (Ev.name At.i2) e2 (Nat.le_of_ble_eq_true rfl)) (by omega)))) rfl) fun s v O r => O.retD ?_
  refine cast (congrArg _ ?_) r
  simp only [tr]
  cases decide (page = mailL 0 rows) <;> rfl
end
end Mine
end
section
open PySem PySem.W PyProof.Rows PySem.Spec
set_option Elab.async false
set_option linter.all false
set_option maxRecDepth 100000
namespace Mine
open PySem.Sre (M Outcome)
noncomputable def mit : Nat → M → M
  | 0, m => m
  | n + 1, m => mit n m.step
theorem step_out {m : M} (h : m.outcome.isSome = true) : m.step = m := by unfold Sre.M.step; rw [if_pos h]
theorem mit_out {m : M} (h : m.outcome.isSome = true) : ∀ n, mit n m = m
  | 0 => rfl
  | n + 1 => by rw [mit, step_out h, mit_out h n]
theorem mit_add (m : M) : ∀ a b, mit (a + b) m = mit b (mit a m)
  | 0, b => by rw [Nat.zero_add]; rfl
  | a + 1, b => by rw [Nat.add_right_comm, mit, mit, mit_add]
theorem runFor_mit : ∀ (n : Nat) (m : M), m.runFor n = mit n m
  | 0, m => rfl
  | n + 1, m => by
    rw [Sre.M.runFor]
    split
    · rename_i h; rw [mit_out h]
    · rw [runFor_mit n, mit]
theorem drive {X : Model} {A : Around} {E : Value → Shared → Prop} {s : Shared} {Q : M → Shared → Prop} : ∀ (turns k : Nat) (m : M), (mit k m).outcome.isSome = true → k < 4 * turns → Q (mit k m) s →
    wpAny X A (Builtin.Re.reDrive turns m) Q E s
  | 0, k, m, h, hk, hq => by omega
  | t + 1, k, m, h, hk, hq => by
    unfold Builtin.Re.reDrive
    show wpAny _ _ (if (m.runFor Builtin.Re.reTurnSteps).outcome.isSome = true then _ else _) _ _ s
    rw [show Builtin.Re.reTurnSteps = 4 from rfl, runFor_mit]
    by_cases q : (mit 4 m).outcome.isSome = true
    · rw [if_pos q]
      refine wpAny_pure ?_
      have : mit 4 m = mit k m := by
        by_cases hk4 : 4 ≤ k
        · have := mit_add m 4 (k - 4); rw [mit_out q, show 4 + (k - 4) = k by omega] at this; exact this.symm
        · have := mit_add m k (4 - k); rw [mit_out h, show k + (4 - k) = 4 by omega] at this; exact this
      rw [this]; exact hq
    · rw [if_neg q]
      have hk4 : 4 ≤ k := by
        refine Nat.le_of_not_lt fun hlt => q ?_
        have := mit_add m k (4 - k); rw [mit_out h, show k + (4 - k) = 4 by omega] at this; rw [this]; exact h
      have e : mit (k - 4) (mit 4 m) = mit k m := by rw [← mit_add, show 4 + (k - 4) = k by omega]
      exact wpAny_bind (wpAny_rule (drive t (k - 4) (mit 4 m) (by rw [e]; exact h) (by omega) (by rw [e]; exact hq)))
theorem rules_loop {X : Model} {A : Around} {E : Value → Shared → Prop} {s : Shared} {Q : PUnit → Shared → Prop} {g : Nat → PUnit → Sem (ForInStep PUnit)} (hg : ∀ i s, wpAny X A (g i ⟨⟩) (fun r s' => r = ForInStep.yield PUnit.unit ∧ s' = s) E s) (hq : Q ⟨⟩ s) : ∀ l : List Nat,
    wpAny X A (forIn l (PUnit.unit) g) Q E s
  | [] => by rw [List.forIn_nil]; exact wpAny_pure hq
  | i :: l => by
    rw [List.forIn_cons]
    refine wpAny_bind (wpAny_mono (hg i s) (fun r s' ⟨e1, e2⟩ => ?_) fun _ _ e => e)
    subst e1 e2
    exact rules_loop hg hq l
noncomputable def Ends (c : Nat) (m : M) (P : M → Prop) : Prop := ∃ k, k ≤ c ∧ (mit k m).outcome.isSome = true ∧ P (mit k m)
theorem Ends.one {c : Nat} {m : M} {P : M → Prop} (h : Ends c m.step P) : Ends (c + 1) m P := by
  obtain ⟨k, h1, h2, h3⟩ := h; exact ⟨k + 1, by omega, h2, h3⟩
theorem Ends.now {c : Nat} {m : M} {P : M → Prop} (h1 : m.outcome.isSome = true) (h : P m) : Ends c m P := ⟨0, Nat.zero_le _, h1, h⟩
theorem Ends.le {c c' : Nat} {m : M} {P : M → Prop} (h : Ends c m P) (hc : c ≤ c') : Ends c' m P := by obtain ⟨k, h1, h2⟩ := h; exact ⟨k, by omega, h2⟩
noncomputable def Gives (r : Option (Nat × Nat)) (m : M) : Prop := match r with
  | some (b, e) => m.outcome = some .matched ∧ m.start = b ∧ m.handed = e
  | none => m.outcome = some .failed
theorem run_end {X : Model} {A : Around} {E : Value → Shared → Prop} {s : Shared} {Q : Option M → Shared → Prop} {m : M} {c : Nat} {r : Option (Nat × Nat)} (h : Ends c m (Gives r)) (hc : c < 2 ^ 60)
    (h1 : ∀ m' b e, r = some (b, e) → m'.start = b → m'.handed = e → Q (some m') s) (h2 : r = none → Q none s) : wpAny X A (Builtin.Re.reRunToEnd m) Q E s := by
  obtain ⟨k, k1, k2, k3⟩ := h
  unfold Builtin.Re.reRunToEnd
  refine wpAny_bind (drive _ k m k2 (by omega) ?_)
  generalize mit k m = m' at k2 k3
  refine wpAny_bind (rules_loop (fun i s => ?_) ?_ _)
  · by_cases h : m'.seen.has i = true
    · rw [if_pos h]; exact wpAny_bind (wpAny_rule (wpAny_pure ⟨rfl, rfl⟩))
    · rw [if_neg h]; exact wpAny_pure ⟨rfl, rfl⟩
  cases r with
  | none =>
    simp only [Gives] at k3
    rw [k3]
    exact wpAny_pure (h2 rfl)
  | some p =>
    obtain ⟨b, e⟩ := p
    simp only [Gives] at k3
    rw [k3.1]
    exact wpAny_pure (h1 m' b e rfl k3.2.1 k3.2.2)
end Mine
end
section
open PySem PySem.W PyProof.Rows PySem.Spec
set_option Elab.async false
set_option linter.all false
set_option maxRecDepth 100000
namespace Mine
open PySem.Sre (M Outcome)
noncomputable def fnd (p : Nat → Bool) : Nat → Nat → Option Nat
  | 0, _ => none
  | n + 1, i => if p i = true then some i else fnd p n (i + 1)
theorem fnd_some {p : Nat → Bool} : ∀ {n s i}, fnd p n s = some i → s ≤ i ∧ i < s + n ∧ p i = true ∧ ∀ j, s ≤ j → j < i → p j = false
  | 0, s, i, h => nomatch h
  | n + 1, s, i, h => by
    rw [fnd] at h
    split at h
    · rename_i q; cases h; exact ⟨Nat.le_refl _, by omega, q, fun j h1 h2 => by omega⟩
    · rename_i q
      obtain ⟨a, b, c, d⟩ := fnd_some h
      refine ⟨by omega, by omega, c, fun j h1 h2 => ?_⟩
      by_cases e : j = s
      · subst e; simpa using q
      · exact d j (by omega) h2
noncomputable def c1 : Array Nat := #[14, 4, 0, 1, 1, 6, 1, 16, 46, 1]
noncomputable def X1 (t : Array Nat) (s : Nat) (must o : Bool) (seen : Sre.Seen) (hd : Nat) : M :=
  { code := c1, text := t, lim := t.size, start := s, lastStart := t.size, mustAdvance := must, pc := 5, pos := s, handed := hd, outermost := o, marks := #[], frames := [{ wait := .nextStart, pc := 5, pos := s, outermost := o }], weight := 1, seen := seen }
noncomputable def at1 (t : Array Nat) (i : Nat) : Bool := i == 0 || t.getD (i - 1) 0 == 10
noncomputable def hit1 (t : Array Nat) (i : Nat) : Bool := at1 t i && t.getD i 0 == 46
noncomputable def Z1 (t : Array Nat) (s : Nat) (must o : Bool) (seen : Sre.Seen) (hd p : Nat) : M := { X1 t s must o seen hd with answer := some false, pc := p }
section
variable (t : Array Nat) (s : Nat) (must o : Bool) (seen : Sre.Seen) (hd p : Nat)
theorem x1a : (X1 t s must o seen hd).step = if at1 t s = true then { X1 t s must o ((seen.add 6).add 44) hd with pc := 7 } else Z1 t s must o ((seen.add 6).add 44) hd 5 := rfl
theorem y1a : ({ X1 t s must o seen hd with pc := 7 } : M).step = if s ≥ t.size then Z1 t s must o (seen.add 16) hd 7 else (match (Except.ok (t.getD s 0 == 46, seen.add 16) : Except String (Bool × Sre.Seen)) with
    | .error why => { { X1 t s must o (seen.add 16) hd with pc := 7 } with outcome := some (.stuck why) }
    | .ok (false, seen) => Z1 t s must o seen hd 7
    | .ok (true, seen) => { X1 t s must o seen hd with pc := 9, pos := s + 1 }) := rfl
theorem w1a : ({ X1 t s must o seen hd with pc := 9, pos := s + 1 } : M).step = if (o && ((false && s + 1 != t.size) || (must && s + 1 == s))) = true then { X1 t s must o (seen.add 1) hd with pc := 9, pos := s + 1, answer := some false } else { X1 t s must o (seen.add 1) (s + 1) with pc := 9, pos := s + 1, answer := some true } := rfl
theorem v1a : ({ X1 t s must o seen (s + 1) with pc := 9, pos := s + 1, answer := some true } : M).step = { X1 t s must o seen (s + 1) with pc := 5, pos := s, answer := some true, frames := [], weight := 0 } := rfl
theorem u1a : ({ X1 t s must o seen (s + 1) with pc := 5, pos := s, answer := some true, frames := [], weight := 0 } : M).step = { X1 t s must o seen (s + 1) with pc := 5, pos := s, answer := some true, frames := [], weight := 0, outcome := some .matched } := rfl
theorem z1a : (Z1 t s must o seen hd p).step = if s < t.size then X1 t (s + 1) false false seen (s + 1) else { X1 t s must o seen hd with answer := some false, frames := [], weight := 0 } := rfl
theorem z1b : ({ X1 t s must o seen hd with answer := some false, frames := [], weight := 0 } : M).step = { X1 t s must o seen hd with answer := some false, frames := [], weight := 0, outcome := some .failed } := rfl
end
theorem z1_ends {t : Array Nat} {s : Nat} {must o : Bool} {seen : Sre.Seen} {hd p c : Nat} {r : Option (Nat × Nat)} (hc : 2 ≤ c) (h1 : s < t.size → ∀ sn, Ends (c - 1) (X1 t (s + 1) false false sn (s + 1)) (Gives r)) (h2 : ¬ s < t.size → r = none) : Ends c (Z1 t s must o seen hd p) (Gives r) := by
  obtain ⟨c, rfl⟩ : ∃ d, c = d + 1 := ⟨c - 1, by omega⟩
  refine Ends.one ?_
  rw [z1a]
  split
  · rename_i h; exact h1 h _
  · rename_i h
    obtain ⟨c, rfl⟩ : ∃ d, c = d + 1 := ⟨c - 1, by omega⟩
    refine Ends.one ?_
    rw [z1b, h2 h]
    exact Ends.now rfl rfl
theorem x1_ends {t : Array Nat} : ∀ (n s : Nat) (must o : Bool) (seen : Sre.Seen) (hd : Nat), s + n = t.size → Ends (6 * n + 6) (X1 t s must o seen hd) (Gives ((fnd (hit1 t) n s).map fun i => (i, i + 1)))
  | n, s, must, o, seen, hd, hn => by
    have hz : ∀ sn p c, 6 * n + 2 ≤ c → (s < t.size → hit1 t s = false) → Ends c (Z1 t s must o sn hd p) (Gives ((fnd (hit1 t) n s).map fun i => (i, i + 1))) := by
      intro sn p c hc hh
      refine z1_ends (by omega) (fun hl sn' => ?_) fun hl => ?_
      · cases n with
        | zero => omega
        | succ n =>
          rw [fnd, hh hl]
          exact (x1_ends n (s + 1) false false sn' (s + 1) (by omega)).le (by omega)
      · have : n = 0 := by omega
        subst this; rfl
    refine Ends.one ?_
    rw [x1a]
    by_cases ha : at1 t s = true
    · rw [if_pos ha]
      refine Ends.one ?_
      rw [y1a]
      split
      · rename_i h; exact hz _ _ _ (by omega) fun q => by omega
      · rename_i h
        cases hb : (t.getD s 0 == 46) with
        | false => exact hz _ _ _ (by omega) fun _ => by unfold hit1; rw [hb, Bool.and_false]
        | true =>
          dsimp only
          refine Ends.one ?_
          rw [w1a, if_neg (by simp)]
          refine Ends.one ?_
          rw [v1a]
          refine Ends.one ?_
          rw [u1a]
          cases n with
          | zero => omega
          | succ n =>
            have : hit1 t s = true := by unfold hit1; rw [hb, ha]; rfl
            rw [fnd, if_pos this]
            exact Ends.now rfl ⟨rfl, rfl, rfl⟩
    · rw [if_neg ha]
      exact hz _ _ _ (by omega) fun _ => by unfold hit1; rw [Bool.eq_false_iff.mpr ha]; rfl
theorem fs1 (t : Array Nat) (s : Nat) (must : Bool) : Sre.forSearch c1 t 0 s t.size must = if (decide (s > t.size) || decide (t.size - s < 1)) = true then { code := c1, text := t, lim := t.size, start := s, pc := 5, pos := s, handed := s, marks := #[], mustAdvance := must, seen := ({} : Sre.Seen).add 14, answer := some false } else X1 t s must true (({} : Sre.Seen).add 14) s := by
  rfl
theorem search1 (t : Array Nat) (s : Nat) (must : Bool) (hs : s ≤ t.size) : Ends (6 * (t.size - s) + 6) (Sre.forSearch c1 t 0 s t.size must) (Gives ((fnd (hit1 t) (t.size - s) s).map fun i => (i, i + 1))) := by
  rw [fs1]
  split
  · rename_i h
    have : t.size - s = 0 := by simp at h; omega
    rw [this]
    exact Ends.one (Ends.now rfl rfl)
  · exact x1_ends _ s must true _ s (by omega)
end Mine
end
section
open PySem PySem.W PyProof.Rows PySem.Spec
set_option Elab.async false
set_option linter.all false
set_option maxRecDepth 100000
namespace Mine
open PySem.Sre (M Outcome)
noncomputable def c2 : Array Nat := #[14, 9, 4, 1, 2, 16, 10, 16, 13, 0, 7, 7, 16, 13, 16, 10, 15, 18, 5, 16, 10, 15, 13, 11, 16, 13, 5, 5, 0, 16, 10, 1, 15, 2, 0, 1]
noncomputable def S2 (t : Array Nat) (i : Nat) (seen : Sre.Seen) (hd pc pos : Nat) (o : Bool) (fr : List Sre.Frame) (w : Nat) (ans : Option Bool) : M :=
  { code := c2, text := t, lim := t.size, start := i, lastStart := t.size, mustAdvance := false, pc := pc, pos := pos, handed := hd, outermost := o, marks := #[], frames := fr, weight := w, answer := ans, seen := seen }
noncomputable def F0 (i : Nat) : Sre.Frame := { wait := .nextStart, pc := 10, pos := i, outermost := true }
noncomputable def FB (i k : Nat) : Sre.Frame := { wait := .nextBranch, pc := k, pos := i, outermost := true }
noncomputable def FL (p : Nat) : Sre.Frame := { wait := .lookNot, pc := 26, pos := p, outermost := true }
noncomputable def LitR (t : Array Nat) (i : Nat) (seen : Sre.Seen) (hd pc pos : Nat) (o : Bool) (fr : List Sre.Frame) (w : Nat) (c : Nat) : M :=
  if pos ≥ t.size then S2 t i (seen.add 16) hd pc pos o fr w (some false) else (match (Except.ok (t.getD pos 0 == c, seen.add 16) : Except String (Bool × Sre.Seen)) with
    | .error why => { S2 t i (seen.add 16) hd pc pos o fr w none with outcome := some (.stuck why) }
    | .ok (false, seen) => S2 t i seen hd pc pos o fr w (some false)
    | .ok (true, seen) => S2 t i seen hd (pc + 2) (pos + 1) o fr w none)
section
variable (t : Array Nat) (i : Nat) (seen : Sre.Seen) (hd pos : Nat) (o : Bool) (fr : List Sre.Frame) (w pc : Nat)
theorem l12 : (S2 t i seen hd 12 pos o fr w none).step = LitR t i seen hd 12 pos o fr w 13 := rfl
theorem l14 : (S2 t i seen hd 14 pos o fr w none).step = LitR t i seen hd 14 pos o fr w 10 := rfl
theorem l19 : (S2 t i seen hd 19 pos o fr w none).step = LitR t i seen hd 19 pos o fr w 10 := rfl
theorem l24 : (S2 t i seen hd 24 pos o fr w none).step = LitR t i seen hd 24 pos o fr w 13 := rfl
theorem l29 : (S2 t i seen hd 29 pos o fr w none).step = LitR t i seen hd 29 pos o fr w 10 := rfl
theorem b10 : (S2 t i seen hd 10 i true [F0 i] 1 none).step = S2 t i (seen.add 7) i 12 i true [FB i 11, F0 i] 2 none := rfl
theorem r11 : (S2 t i seen hd pc pos o [FB i 11, F0 i] 2 (some false)).step = S2 t i seen i 19 i true [FB i 18, F0 i] 2 none := rfl
theorem r18 : (S2 t i seen hd pc pos o [FB i 18, F0 i] 2 (some false)).step = S2 t i seen i 24 i true [FB i 23, F0 i] 2 none := rfl
theorem a26 : (S2 t i seen hd 26 pos true [FB i 23, F0 i] 2 none).step = S2 t i (seen.add 5) pos 29 pos false [FL pos, FB i 23, F0 i] 3 none := rfl
theorem rL : (S2 t i seen hd pc pos o [FL (i + 1), FB i 23, F0 i] 3 (some false)).step = S2 t i seen hd 32 (i + 1) true [FB i 23, F0 i] 2 none := rfl
theorem j16 : (S2 t i seen hd 16 pos o fr w none).step = S2 t i (seen.add 15) hd 35 pos o fr w none := rfl
theorem j21 : (S2 t i seen hd 21 pos o fr w none).step = S2 t i (seen.add 15) hd 35 pos o fr w none := rfl
theorem j32 : (S2 t i seen hd 32 pos o fr w none).step = S2 t i (seen.add 15) hd 35 pos o fr w none := rfl
theorem s35 : (S2 t i seen hd 35 pos true fr w none).step = S2 t i (seen.add 1) pos 35 pos true fr w (some true) := rfl
theorem e1 : (S2 t i seen hd pc pos true [FB i w, F0 i] 2 (some true)).step = S2 t i seen hd w i true [F0 i] 1 (some true) := rfl
theorem e2 : (S2 t i seen hd pc pos true [F0 i] 1 (some true)).step = S2 t i seen hd 10 i true [] 0 (some true) := rfl
theorem e3 : (S2 t i seen hd pc pos true [] 0 (some true)).step = { S2 t i seen hd pc pos true [] 0 (some true) with outcome := some .matched } := rfl
end
section
variable {t : Array Nat} {i : Nat} {seen : Sre.Seen} {hd pos : Nat} {o : Bool} {fr : List Sre.Frame} {w pc c : Nat}
theorem LitR.yes (h : pos < t.size) (e : t.getD pos 0 = c) : LitR t i seen hd pc pos o fr w c = S2 t i (seen.add 16) hd (pc + 2) (pos + 1) o fr w none := by
  unfold LitR
  rw [if_neg (by omega), e, beq_self_eq_true]
theorem LitR.no (h : pos < t.size → t.getD pos 0 ≠ c) : LitR t i seen hd pc pos o fr w c = S2 t i (seen.add 16) hd pc pos o fr w (some false) := by
  unfold LitR
  split
  · rfl
  · rw [beq_false_of_ne (h (by omega))]
theorem fin35 {k n : Nat} : Ends (n + 4) (S2 t i seen hd 35 pos true [FB i k, F0 i] 2 none) (Gives (some (i, pos))) := by
  refine Ends.one ?_
  rw [s35]
  refine Ends.one ?_
  rw [e1]
  refine Ends.one ?_
  rw [e2]
  refine Ends.one ?_
  rw [e3]
  exact Ends.now rfl ⟨rfl, rfl, rfl⟩
noncomputable def len2 (t : Array Nat) (i : Nat) : Nat := if t.getD i 0 = 13 ∧ i + 1 < t.size ∧ t.getD (i + 1) 0 = 10 then 2 else 1
noncomputable def hit2 (t : Array Nat) (i : Nat) : Bool := t.getD i 0 == 10 || t.getD i 0 == 13
theorem x2_ends (h : i < t.size) (hh : hit2 t i = true) : Ends 30 (S2 t i seen hd 10 i true [F0 i] 1 none) (Gives (some (i, i + len2 t i))) := by
  refine Ends.one ?_
  rw [b10]
  refine Ends.one ?_
  rw [l12]
  by_cases h13 : t.getD i 0 = 13
  · rw [LitR.yes h h13]
    refine Ends.one ?_
    rw [l14]
    by_cases h10 : i + 1 < t.size ∧ t.getD (i + 1) 0 = 10
    · rw [LitR.yes h10.1 h10.2]
      refine Ends.one ?_
      rw [j16]
      have : len2 t i = 2 := if_pos ⟨h13, h10⟩
      rw [this]
      exact fin35
    · have h10' : i + 1 < t.size → t.getD (i + 1) 0 ≠ 10 := fun a b => h10 ⟨a, b⟩
      rw [LitR.no h10']
      refine Ends.one ?_
      rw [r11]
      refine Ends.one ?_
      rw [l19, LitR.no (by rw [h13]; exact fun _ => by decide)]
      refine Ends.one ?_
      rw [r18]
      refine Ends.one ?_
      rw [l24, LitR.yes h h13]
      refine Ends.one ?_
      rw [a26]
      refine Ends.one ?_
      rw [l29, LitR.no h10']
      refine Ends.one ?_
      rw [rL]
      refine Ends.one ?_
      rw [j32]
      have : len2 t i = 1 := if_neg fun q => h10 q.2
      rw [this]
      exact fin35
  · rw [LitR.no fun _ => h13]
    have h10 : t.getD i 0 = 10 := by
      unfold hit2 at hh
      simp only [Bool.or_eq_true, beq_iff_eq] at hh
      exact hh.resolve_right h13
    refine Ends.one ?_
    rw [r11]
    refine Ends.one ?_
    rw [l19, LitR.yes h h10]
    refine Ends.one ?_
    rw [j21]
    have : len2 t i = 1 := if_neg fun q => h13 q.1
    rw [this]
    exact fin35
end
noncomputable def B2 (t : Array Nat) (s : Nat) (must : Bool) (seen : Sre.Seen) (ans : Option Bool) (ls : Nat) : M := { code := c2, text := t, lim := t.size, start := s, lastStart := ls, pc := 10, pos := s, handed := s, marks := #[], mustAdvance := must, seen := seen, answer := ans }
theorem set2 (c : Nat) (seen : Sre.Seen) : Sre.inSet c2 c c2.size 5 true seen = if (c == 10) = true then .ok (true, seen.add 16) else if (c == 13) = true then .ok (true, (seen.add 16).add 16) else .ok (false, ((seen.add 16).add 16).add 0) := rfl
theorem adm {t : Array Nat} {m : M} (h1 : m.code = c2) (h2 : m.text = t) (h3 : m.lim = t.size) : ∀ (n s fuel : Nat) (seen : Sre.Seen), s + n = t.size → n < fuel → ∃ seen', Sre.M.admitted m fuel s seen = .ok (fnd (hit2 t) n s, seen')
  | n, s, 0, seen, _, h => by omega
  | 0, s, fuel + 1, seen, e, h => by
    unfold Sre.M.admitted
    rw [if_pos (by rw [h3]; omega)]
    exact ⟨_, rfl⟩
  | n + 1, s, fuel + 1, seen, e, h => by
    unfold Sre.M.admitted
    rw [if_neg (by rw [h3]; omega), h1, h2, set2, fnd]
    by_cases q1 : (t.getD s 0 == 10) = true
    · rw [if_pos q1, if_pos (by unfold hit2; rw [q1]; rfl)]; exact ⟨_, rfl⟩
    · by_cases q2 : (t.getD s 0 == 13) = true
      · rw [if_neg q1, if_pos q2, if_pos (by unfold hit2; rw [q2, Bool.or_true])]; exact ⟨_, rfl⟩
      · rw [if_neg q1, if_neg q2, if_neg (by unfold hit2; rw [Bool.eq_false_iff.mpr q1, Bool.eq_false_iff.mpr q2]; decide)]
        exact adm h1 h2 h3 n (s + 1) fuel _ (by omega) (by omega)
theorem fs2 (t : Array Nat) (s : Nat) (must : Bool) : Sre.forSearch c2 t 0 s t.size must = if (decide (s > t.size) || decide (t.size - s < 1)) = true then B2 t s must (({} : Sre.Seen).add 14) (some false) 0 else
    (match Sre.M.admitted (B2 t s must (({} : Sre.Seen).add 14) none t.size) (t.size + 1 - s) s (({} : Sre.Seen).add 14) with
      | .ok (some s', seen) => S2 t s' seen s' 10 s' true [F0 s'] 1 none
      | .ok (none, seen) => B2 t s must seen (some false) t.size
      | .error why => { B2 t s must (({} : Sre.Seen).add 14) none t.size with outcome := some (.stuck why) }) := rfl
theorem search2 (t : Array Nat) (s : Nat) (must : Bool) (hs : s ≤ t.size) : Ends 40 (Sre.forSearch c2 t 0 s t.size must) (Gives ((fnd (hit2 t) (t.size - s) s).map fun i => (i, i + len2 t i))) := by
  rw [fs2]
  split
  · rename_i h
    have : t.size - s = 0 := by simp at h; omega
    rw [this]
    exact Ends.one (Ends.now rfl rfl)
  · obtain ⟨seen', e⟩ := adm (t := t) (m := B2 t s must (({} : Sre.Seen).add 14) none t.size) rfl rfl rfl (t.size - s) s (t.size + 1 - s) (({} : Sre.Seen).add 14) (by omega) (by omega)
    rw [e]
    cases q : fnd (hit2 t) (t.size - s) s with
    | none => exact Ends.one (Ends.now rfl rfl)
    | some i =>
      obtain ⟨a, b, c, _⟩ := fnd_some q
      exact (x2_ends (by omega) c).le (by omega)
end Mine
end
section
open PySem PySem.W PyProof.Rows PySem.Spec
set_option Elab.async false
set_option linter.all false
set_option maxRecDepth 100000
namespace Mine
open PySem.Sre (M Outcome)
open PySem.Builtin.Re PySem.Builtin
theorem plainAttrs_re : PlainAttrs "re.Pattern" :=
  ⟨⟨"object.__getattribute__", by rw [typeLookup_type, builtinLookup_eq_fast]; kernel_rfl, by decide +kernel⟩, by rw [typeLookup_type, builtinLookup_eq_fast]; kernel_rfl⟩
theorem slot_re_sub : PySem.Slot "re.Pattern" "sub" "re.Pattern.sub" :=
  .of (owner := "re.Pattern") (n := "sub") (by rw [typeLookup_type, builtinLookup_eq_fast]; kernel_rfl) (by decide +kernel) (by decide +kernel) (by decide +kernel)
    (by first | exact .inl (by decide +kernel) | exact .inr (by decide +kernel)) (by rw [isSubtype_type]; kernel_rfl)
theorem type_re_sub : typeOf (.builtin "re.Pattern.sub") = pure (.type "method_descriptor") := by show builtinType _ = _; rw [builtinType_eq_fast]; kernel_rfl
theorem entry_re_sub : entryFor table "re.Pattern.sub" = some Builtin.«re.Pattern.sub» := entryFor_of_tree (by kernel_rfl)
theorem entry_re_loop : entryFor table "re.Pattern.sub.loop" = some Builtin.«re.Pattern.sub.loop» := entryFor_of_tree (by kernel_rfl)
theorem args_re_sub (a b c : Value) : argsOk "re.Pattern.sub" ⟨[a, b, c], []⟩ := by unfold argsOk; kernel_rfl
theorem str_no_call : typeLookup (.type "str") (Str.ofString "__call__") = pure none := by rw [typeLookup_type, builtinLookup_eq_fast]; kernel_rfl
noncomputable def Pat (h : Heap) (v : Value) (code : Array Nat) : Prop := ∃ a b o o2 p0 p1 p3 p4 t2 t6 xs n, v = .ref a ∧ h.get? a = some o ∧ o.cls = .type "re.Pattern" ∧ o.dict = none ∧ o.data = .fields #[p0, p1, .int 0 t2, p3, p4, .ref b, .int 0 t6] ∧
  h.get? b = some o2 ∧ o2.data = .seq xs n ∧ (xs.map reRawOf).map (·.toNat) = code
theorem Pat.ext {h h' : Heap} {v : Value} {code : Array Nat} (p : Pat h v code) (e : Ext h h') : Pat h' v code := by
  obtain ⟨a, b, o, o2, p0, p1, p3, p4, t2, t6, xs, n, e1, e2, e3, e4, e5, e6, e7, e8⟩ := p
  exact ⟨a, b, o, o2, p0, p1, p3, p4, t2, t6, xs, n, e1, e _ _ e2, e3, e4, e5, e _ _ e6, e7, e8⟩
section
variable {X : Model} {A : Around} {E : Value → Shared → Prop} {s : Shared}
theorem whole {pat : Value} {code : Array Nat} {l : List Nat} {t : Tok} {Q : ReTarget → Shared → Prop} (p : Pat s.heap pat code) (h : Q ⟨pat, .str (S l) t, code, l.toArray, 0, 0, 0, l.toArray.size⟩ s) : wpAny X A (reWholeTarget pat (.str (S l) t)) Q E s := by
  obtain ⟨a, b, o, o2, p0, p1, p3, p4, t2, t6, xs, n, e1, e2, e3, e4, e5, e6, e7, e8⟩ := p
  subst e1
  unfold reWholeTarget
  refine wpAny_bind (wpAny_fieldsOf e2 e5 ?_)
  refine wpAny_bind (m := reTextOf (.str (S l) t)) (wpAny_pure (a := ((S l).cps, 0)) ?_)
  refine wpAny_bind (m := reNoCollectionInside _ _) (wpAny_pure (a := ()) ?_)
  refine wpAny_bind (m := reRawItems (.ref b)) ?_
  unfold reRawItems
  refine wpAny_bind (wpAny_seqItems e6 e7 (wpAny_pure ?_))
  refine wpAny_pure ?_
  subst e8
  exact h
end
section
variable {W : Wd} {A : Around} {s : Shared}
theorem ext_upd {h : Heap} {base : Heap} {a : Addr} {f : Obj → Obj} (e : Ext base h) (ha : base.get? a = none) : Ext base (h.update a f) := fun b o hb => by
  have : b ≠ a := fun q => by rw [q, ha] at hb; cases hb
  exact ((Heap.SameBut.update h a f).2 b this).trans (e b o hb)
theorem push_str {L : List (Str × Tok)} {y : Str} {t : Tok} : strValues L ++ [.str y t] = strValues (L ++ [(y, t)]) := by simp [strValues]
theorem push_piece {base s : Shared} {a : Addr} {L : List (Str × Tok)} {q : Nat} {y : Str} {ty : Tok} {Q : Unit → Shared → Prop} (hb : Step base s) (ha : base.heap.get? a = none) (hp : PL s.heap a (strValues L) q) (hn : L.length ≤ sizeLine)
    (h : ∀ s' q', Step base s' → PL s'.heap a (strValues (L ++ [(y, ty)])) q' → Q () s') : wpAny W.M A (updateSeq a (·.push (.str y ty))) Q No s := by
  have hl : (strValues L).length = L.length := List.length_map ..
  refine wpAny_updateSeq hp rfl ?_ (by simpa [hl] using hn) (by simp [hl]; omega)
  obtain ⟨k', hp'⟩ := upd_PL (ws := strValues L ++ [.str y ty]) (g := fun xs => xs.push (.str y ty)) hp (by simp)
  refine h _ k' ?_ (by rw [← push_str]; exact hp')
  obtain ⟨h', t', rfl, e⟩ := hb
  exact ⟨_, _, rfl, ext_upd e ha⟩
theorem slice_eq (l : List Nat) (b e : Nat) (he : e ≤ l.length) : (⟨l.toArray.extract b e⟩ : Str) = S ((l.take e).drop b) := by
  unfold S
  congr 1
  apply Array.ext'
  simp [List.drop_take]
theorem sub_loop {base : Shared} {pat : Value} {code : Array Nat} {l r : List Nat} {t u : Tok} {fd : Nat → Option (Nat × Nat)} {T : Nat → List Nat} {C : Nat}
    (hs : ∀ st must, st ≤ l.length → Ends C (Sre.forSearch code l.toArray 0 st l.toArray.size must) (Gives (fd st))) (hC : C < 2 ^ 60)
    (hT : ∀ st, st ≤ l.length → match fd st with | some (b, e) => st ≤ b ∧ b < e ∧ e ≤ l.length ∧ T st = (l.take b).drop st ++ r ++ T e | none => T st = l.drop st) (hlen : 2 * l.length + 2 ≤ sizeLine) (hpat : Pat base.heap pat code) {a : Addr} (ha : base.heap.get? a = none) {F : List Nat} (hF : F.length ≤ sizeLine) :
    ∀ (k st : Nat) (L : List (Str × Tok)) (ps : List (List Nat)) (must : Bool) (n : Int) (s : Shared) (q : Nat), l.length - st = k → st ≤ l.length → L.length ≤ 2 * st → L.map (·.1) = ps.map S → ps.flatten ++ T st = F → Step base s →
      PL s.heap a (strValues L) q →
      codeAny W.M A (.builtin "re.Pattern.sub.loop" ⟨[pat, .str (S l) t, .str (S r) u, rawInt 0, rawInt 0, rawInt n, rawInt (st : Nat), rawInt (st : Nat), .bool must, .ref a, .bool false], []⟩)
        (wants (fun v s' => Step base s' ∧ ∃ t', v = .str (S F) t') No) s := by
  intro k
  induction k using Nat.strongRecOn with
  | ind k ih =>
  intro st L ps must n s q hk hst hL hLp hf hstep hp
  refine codeAny_builtin entry_re_loop ?_
  rw [Around.under_plainId (id := "re.Pattern.sub.loop") (by decide +kernel) _]
  have hp' := hpat.ext hstep.ext
  show wpAny _ _ (reWholeTarget pat (.str (S l) t) >>= fun t => _) _ _ s
  refine wpAny_bind (whole hp' ?_)
  refine wpAny_bind (m := reLiteralCannotBeTurned (.str (S r) u)) (wpAny_pure (a := ()) ?_)
  show wpAny _ _ (reNextFound _ st must >>= fun m => _) _ _ s
  have ht := hT st hst
  refine wpAny_bind (run_end (hs st must hst) hC (fun m' b e er eb ee => ?_) fun er => ?_)
  · rw [er] at ht
    obtain ⟨h1, h2, h3, h4⟩ := ht
    -- behind the piece ahead of what was found
    have rest : ∀ (mb : Bool) (L1 : List (Str × Tok)) (ps1 : List (List Nat)) (s1 : Shared) (q1 : Nat), L1.length ≤ 2 * st + 1 → L1.map (·.1) = ps1.map S → ps1.flatten = ps.flatten ++ (l.take b).drop st → Step base s1 → PL s1.heap a (strValues L1) q1 →
        wpAny W.M A.in1 (updateSeq a (fun x => x.push (.str (S r) u)) >>= fun _ => again (.builtin "re.Pattern.sub.loop" ⟨[pat, .str (S l) t, .str (S r) u, rawInt 0, rawInt 0, rawInt (n + 1), rawInt (m'.handed : Nat), rawInt (m'.handed : Nat), .bool mb, .ref a, .bool false], []⟩))
        (fun fin s' => match fin with | .done f => (wants (fun v s' => Step base s' ∧ ∃ t', v = .str (S F) t') No) (.ok f) s' | .again c' => c'.quiet = true ∧ codeAny W.M A c' (wants (fun v s' => Step base s' ∧ ∃ t', v = .str (S F) t') No) s') (fun e s' => (wants (fun v s' => Step base s' ∧ ∃ t', v = .str (S F) t') No) (.error e) s') s1 := by
      intro mb L1 ps1 s1 q1 g1 g2 g3 g4 g5
      refine wpAny_bind (wpAny_mono (push_piece (W := W) g4 ha g5 (by omega) (fun s2 q2 f1 f2 => And.intro f1 (Exists.intro q2 f2)) (Q := fun _ s2 => Step base s2 ∧ ∃ q2, PL s2.heap a (strValues (L1 ++ [(S r, u)])) q2)) (fun _ s2 ⟨f1, q2, f2⟩ => ?_) fun _ _ e => e.elim)
      refine wpAny_pure ⟨plainId_quiet (by decide +kernel) _, ?_⟩
      rw [ee]
      refine ih (l.length - e) (by omega) e (L1 ++ [(S r, u)]) (ps1 ++ [r]) _ _ s2 q2 rfl h3 (by simp; omega) (by simp [g2]) ?_ f1 f2
      rw [← hf, h4, List.flatten_append, g3]; simp
    show wpAny _ _ (if ((st : Nat) : Int).toNat < m'.start then (reSlice l.toArray 0 ((st : Nat) : Int).toNat m'.start >>= fun x => _) else _) _ _ s
    rw [Int.toNat_natCast, eb]
    by_cases hlt : st < b
    · rw [if_pos hlt]
      show wpAny _ _ (mkStr ⟨l.toArray.extract st b⟩ >>= fun x => _) _ _ s
      rw [slice_eq l st b (by omega)]
      refine wpAny_bind (wpAny_mkStr ?_ (by rw [S_len]; simp; omega))
      refine wpAny_bind (wpAny_mono (push_piece (W := W) (hstep.trans .tok) ha hp (by omega) (fun s2 q2 f1 f2 => And.intro f1 (Exists.intro q2 f2)) (Q := fun _ s2 => Step base s2 ∧ ∃ q2, PL s2.heap a (strValues (L ++ [(S ((l.take b).drop st), s.toks)])) q2)) (fun _ s2 ⟨f1, q2, f2⟩ => ?_) fun _ _ e => e.elim)
      refine wpAny_bind (wpAny_pure ?_)
      have w := rest (m'.handed == b) _ (ps ++ [(l.take b).drop st]) s2 q2 (by simp; omega) (by simp [hLp]) (by simp) f1 f2
      show wpAny _ _ (if (Value.str (S r) u != Value.none) = true then _ else _) _ _ _
      rw [if_pos (show (Value.str (S r) u != Value.none) = true from rfl)]
      exact w
    · rw [if_neg hlt]
      have : (l.take b).drop st = [] := by rw [List.drop_eq_nil_iff]; simp; omega
      refine wpAny_bind (wpAny_pure ?_)
      have w := rest (m'.handed == b) L ps s q (by omega) hLp (by rw [this, List.append_nil]) hstep hp
      show wpAny _ _ (if (Value.str (S r) u != Value.none) = true then _ else _) _ _ _
      rw [if_pos (show (Value.str (S r) u != Value.none) = true from rfl)]
      exact w
  · rw [er] at ht
    have rest : ∀ (L1 : List (Str × Tok)) (ps1 : List (List Nat)) (s1 : Shared) (q1 : Nat), L1.length ≤ 2 * l.length + 1 → L1.map (·.1) = ps1.map S → ps1.flatten = F → Step base s1 → PL s1.heap a (strValues L1) q1 →
        wpAny W.M A.in1 (reSlice l.toArray 0 0 0 >>= fun joiner => seqItems? (Value.ref a) >>= fun x => if (x.getD #[]).isEmpty = true then (pure joiner >>= fun text => ret text) else (call (.builtin "str.join") [joiner, .ref a] >>= fun text => ret text))
        (fun fin s' => match fin with | .done f => (wants (fun v s' => Step base s' ∧ ∃ t', v = .str (S F) t') No) (.ok f) s' | .again c' => c'.quiet = true ∧ codeAny W.M A c' (wants (fun v s' => Step base s' ∧ ∃ t', v = .str (S F) t') No) s') (fun e s' => (wants (fun v s' => Step base s' ∧ ∃ t', v = .str (S F) t') No) (.error e) s') s1 := by
      intro L1 ps1 s1 q1 g1 g2 g3 g4 g5
      show wpAny _ _ (mkStr ⟨l.toArray.extract 0 0⟩ >>= fun x => _) _ _ _
      rw [slice_eq l 0 0 (by omega)]
      refine wpAny_bind (wpAny_mkStr ?_ (by rw [S_len]; simp))
      refine wpAny_bind (wpAny_seqItems g5 rfl ?_)
      show wpAny _ _ (if (strValues L1).toArray.isEmpty = true then _ else _) _ _ _
      cases L1 with
      | nil =>
        rw [if_pos (show (strValues []).toArray.isEmpty = true from rfl)]
        have e0 : ps1 = [] := by cases ps1 with | nil => rfl | cons => simp at g2
        subst e0
        refine wpAny_bind (wpAny_pure (wpAny_pure ⟨g4.trans .tok, s1.toks, ?_⟩))
        rw [← g3]; simp
      | cons x L1 =>
        rw [if_neg (by simp [strValues])]
        refine wpAny_bind (m := call _ _) (wpAny_mono (SC.join (x := S ((l.take 0).drop 0)) (texts := ps1.map S) (Q := fun v s' => Step base s' ∧ ∃ t', v = .str (S F) t') (E := No) (PL.isList g5) g2 ?_ fun t' k => ?_) (fun v s' h => wpAny_pure h) fun _ _ e => e.elim)
        · unfold JoinOk Builtin.Str.tooLong
          have := fold_len (S ((l.take 0).drop 0)).length ps1 0
          simp only [List.foldl_toArray', S_len] at this ⊢
          rw [this]
          have e2 : (ps1.map (·.length)).sum = F.length := by rw [← g3, List.length_flatten]
          rw [e2]
          simpa using hF
        · refine ⟨g4.trans (Step.trans .tok .tok), t', ?_⟩
          rw [jn_eq, ← g3]
          have : (l.take 0).drop 0 = [] := by simp
          rw [this, jn_nil]
    show wpAny _ _ (if ((st : Nat) : Int).toNat < l.toArray.size then (reSlice l.toArray 0 ((st : Nat) : Int).toNat l.toArray.size >>= fun x => _) else _) _ _ s
    rw [Int.toNat_natCast, List.size_toArray]
    by_cases hlt : st < l.length
    · rw [if_pos hlt]
      show wpAny _ _ (mkStr ⟨l.toArray.extract st l.length⟩ >>= fun x => _) _ _ s
      rw [slice_eq l st l.length (by omega)]
      refine wpAny_bind (wpAny_mkStr ?_ (by rw [S_len]; simp; omega))
      refine wpAny_bind (wpAny_mono (push_piece (W := W) (hstep.trans .tok) ha hp (by omega) (fun s2 q2 f1 f2 => And.intro f1 (Exists.intro q2 f2)) (Q := fun _ s2 => Step base s2 ∧ ∃ q2, PL s2.heap a (strValues (L ++ [(S ((l.take l.length).drop st), s.toks)])) q2)) (fun _ s2 ⟨f1, q2, f2⟩ => ?_) fun _ _ e => e.elim)
      exact rest _ (ps ++ [(l.take l.length).drop st]) s2 q2 (by simp; omega) (by simp [hLp]) (by rw [← hf, ht]; simp) f1 f2
    · rw [if_neg hlt]
      have : l.drop st = [] := by rw [List.drop_eq_nil_iff]; omega
      exact rest L ps s q (by omega) hLp (by rw [← hf, ht, this, List.append_nil]) hstep hp
theorem sub_call {pat : Value} {code : Array Nat} {l r : List Nat} {t u : Tok} {fd : Nat → Option (Nat × Nat)} {T : Nat → List Nat} {C : Nat}
    (hs : ∀ st must, st ≤ l.length → Ends C (Sre.forSearch code l.toArray 0 st l.toArray.size must) (Gives (fd st))) (hC : C < 2 ^ 60)
    (hT : ∀ st, st ≤ l.length → match fd st with | some (b, e) => st ≤ b ∧ b < e ∧ e ≤ l.length ∧ T st = (l.take b).drop st ++ r ++ T e | none => T st = l.drop st) (hlen : 2 * l.length + 2 ≤ sizeLine) (hpat : Pat s.heap pat code) (hF : (T 0).length ≤ sizeLine) (hr : r.contains 92 = false) :
    wpAny W.M A (PySem.call (.builtin "re.Pattern.sub") [pat, .str (S r) u, .str (S l) t]) (fun v s' => Step s s' ∧ ∃ t', v = .str (S (T 0)) t') No s := by
  have hTy : s.TypeIs pat "re.Pattern" := by
    obtain ⟨a, b, o, o2, p0, p1, p3, p4, t2, t6, xs, n, e1, e2, e3, _⟩ := hpat
    subst e1; exact ⟨_, e2, e3⟩
  refine wpAny_call (codeAny_call_builtin slot_re_sub.plain entry_re_sub (slot_re_sub.check _ _ _ _ _ _ _ _ hTy (args_re_sub _ _ _) ?_))
  show wpAny _ _ (reNamed "re.Pattern.sub" "sub" ["repl", "string", "count"] 2 [.str (S r) u, .str (S l) t] [] >>= fun x => _) _ _ s
  refine wpAny_bind (wpAny_of_eq (a := [some (.str (S r) u), some (.str (S l) t), none]) rfl ?_)
  refine wpAny_bind (m := pure (0 : Int)) (wpAny_pure ?_)
  refine wpAny_bind (m := specialOf (.str (S r) u) (Str.ofString "__call__")) (wpAny_specialOf (typeIs_str _ _ _) str_no_call ?_)
  show wpAny _ _ (asStr? (.str (S r) u) >>= fun x => _) _ _ s
  refine wpAny_bind (m := asStr? (.str (S r) u)) (wpAny_pure (a := some (S r)) ?_)
  show wpAny _ _ (pure (!(S r).cps.contains 92) >>= fun x => _) _ _ s
  refine wpAny_bind (m := pure (!(S r).cps.contains 92)) (wpAny_pure ?_)
  have e92 : (!(S r).cps.contains 92) = true := by
    have : (S r).cps.contains 92 = r.contains 92 := by unfold S; simp
    rw [this, hr]; rfl
  rw [e92]
  show wpAny _ _ (pure ((Value.str (S r) u, 0) : Value × Nat) >>= fun x => _) _ _ s
  refine wpAny_bind (wpAny_pure ?_)
  show wpAny _ _ (holding [.str (S r) u] (reWholeTarget pat (.str (S l) t)) >>= fun x => _) _ _ s
  refine wpAny_bind (wpAny_holding (whole hpat ?_))
  show wpAny _ _ (newList [] >>= fun x => _) _ _ s
  refine wpAny_bind (wpAny_newList ?_ (by decide))
  refine wpAny_pure ⟨plainId_quiet (by decide +kernel) _, ?_⟩
  have hnew : s.heap.get? s.heap.objs.size = none := by
    cases q : s.heap.get? s.heap.objs.size with
    | none => rfl
    | some o => exact absurd (Heap.lt_size q) (Nat.lt_irrefl _)
  exact sub_loop (base := s) (F := T 0) hs hC hT hlen hpat hnew hF l.length 0 [] [] false 0 _ 0 (by omega) (by omega) (by simp) rfl (by simp) (.mkh (ext_push _)) (Heap.get?_push_size _ rfl)
end
end Mine
end
section
open PySem PySem.W PyProof.Rows PySem.Spec
set_option Elab.async false
set_option linter.all false
set_option maxRecDepth 100000
namespace Mine
theorem getD_arr (l : List Nat) (i : Nat) (h : i < l.length) : l.toArray.getD i 0 = l[i] := by simp [Array.getD, h]
theorem take_drop_self {l : List Nat} (i : Nat) : (l.take i).drop i = [] := by rw [List.drop_eq_nil_iff]; simp; omega
theorem take_drop_cons {l : List Nat} {s i : Nat} (h : s < l.length) (hi : s < i) : (l.take i).drop s = l[s] :: (l.take i).drop (s + 1) := by
  have h' : s < (l.take i).length := by simp; omega
  rw [List.drop_eq_getElem_cons h']; simp
noncomputable def TD (l : List Nat) (s : Nat) : List Nat := stuff (at1 l.toArray s) (l.drop s)
theorem TD_ok (l : List Nat) : ∀ n s, s + n = l.length → match fnd (hit1 l.toArray) n s with | some i => TD l s = (l.take i).drop s ++ [46, 46] ++ TD l (i + 1) | none => TD l s = l.drop s
  | 0, s, h => by
    have : l.drop s = [] := by rw [List.drop_eq_nil_iff]; omega
    show TD l s = _
    unfold TD
    rw [this]; rfl
  | n + 1, s, h => by
    have hs : s < l.length := by omega
    have e := List.drop_eq_getElem_cons hs
    have ih := TD_ok l n (s + 1) (by omega)
    have ea : at1 l.toArray (s + 1) = (l[s] == 10) := by
      unfold at1
      rw [Nat.add_sub_cancel, getD_arr l s hs]; rfl
    rw [fnd]
    by_cases q : hit1 l.toArray s = true
    · rw [if_pos q]
      have q' := q
      unfold hit1 at q'
      rw [Bool.and_eq_true, getD_arr l s hs, beq_iff_eq] at q'
      show TD l s = (l.take s).drop s ++ [46, 46] ++ TD l (s + 1)
      unfold TD
      rw [e, stuff, if_pos ⟨q'.1, q'.2⟩, ea, q'.2, take_drop_self]
      rfl
    · rw [if_neg q]
      have hstep : TD l s = l[s] :: TD l (s + 1) := by
        unfold TD
        rw [e, stuff, if_neg, ea]
        rintro ⟨a, b⟩
        apply q
        unfold hit1
        rw [a, getD_arr l s hs, b]; rfl
      cases q2 : fnd (hit1 l.toArray) n (s + 1) with
      | none =>
        rw [q2] at ih
        show TD l s = l.drop s
        rw [hstep, ih, e]
      | some i =>
        rw [q2] at ih
        obtain ⟨a, _⟩ := fnd_some q2
        show TD l s = _
        rw [hstep, ih, take_drop_cons hs (by omega)]; rfl
noncomputable def TE (l : List Nat) (s : Nat) : List Nat := crlf (l.drop s)
theorem TE_ok (l : List Nat) : ∀ n s, s + n = l.length → match fnd (hit2 l.toArray) n s with | some i => TE l s = (l.take i).drop s ++ [13, 10] ++ TE l (i + len2 l.toArray i) | none => TE l s = l.drop s
  | 0, s, h => by
    have : l.drop s = [] := by rw [List.drop_eq_nil_iff]; omega
    show TE l s = _
    unfold TE
    rw [this]; rfl
  | n + 1, s, h => by
    have hs : s < l.length := by omega
    have e := List.drop_eq_getElem_cons hs
    have ih := TE_ok l n (s + 1) (by omega)
    rw [fnd]
    by_cases q : hit2 l.toArray s = true
    · rw [if_pos q]
      unfold hit2 at q
      rw [Bool.or_eq_true, getD_arr l s hs, beq_iff_eq, beq_iff_eq] at q
      show TE l s = (l.take s).drop s ++ [13, 10] ++ TE l (s + len2 l.toArray s)
      unfold TE
      rw [take_drop_self]
      show _ = 13 :: 10 :: crlf (l.drop (s + len2 l.toArray s))
      unfold len2
      rw [getD_arr l s hs, List.size_toArray]
      by_cases h13 : l[s] = 13
      · by_cases h2 : s + 1 < l.length
        · have e2 := List.drop_eq_getElem_cons h2
          rw [getD_arr l (s + 1) h2]
          by_cases h10 : l[s + 1] = 10
          · rw [if_pos ⟨h13, h2, h10⟩, e, e2, h13, h10, crlf]
          · rw [if_neg fun z => h10 z.2.2, e, e2, h13]
            rw [crlf]
            · intro r' z; exact h10 (by injection z)
        · rw [if_neg fun z => h2 z.2.1, e, h13]
          have : l.drop (s + 1) = [] := by rw [List.drop_eq_nil_iff]; omega
          rw [this]; rfl
      · have h10 : l[s] = 10 := q.resolve_right h13
        rw [if_neg fun z => h13 z.1, e, h10, crlf]
    · rw [if_neg q]
      have hstep : TE l s = l[s] :: TE l (s + 1) := by
        unfold hit2 at q
        rw [Bool.or_eq_true, getD_arr l s hs, beq_iff_eq, beq_iff_eq] at q
        unfold TE
        rw [e, crlf]
        · intro r z1 z2; exact q (.inr z1)
        · exact fun z => q (.inl z)
        · exact fun z => q (.inr z)
      cases q2 : fnd (hit2 l.toArray) n (s + 1) with
      | none =>
        rw [q2] at ih
        show TE l s = l.drop s
        rw [hstep, ih, e]
      | some i =>
        rw [q2] at ih
        obtain ⟨a, _⟩ := fnd_some q2
        show TE l s = _
        rw [hstep, ih, take_drop_cons hs (by omega)]; rfl
section
variable {f : Fx} {x : Sx}
theorem EvP.pat {n : Str} {pos} {a : Addr} {code : Array Nat} (h : EvP f x (.Name n pos) fun _ u => u = .ref a) (hp : ∀ h, f.W.Ok h → Pat h (.ref a) code) : EvP f x (.Name n pos) fun h v => Pat h v code := .bx fun s O =>
  wpN (h.run s O) fun v s' ⟨k, e⟩ => ⟨k, by subst e; exact hp _ (O.wok.ext (O.step k).same.ext)⟩
theorem Pat.recv {h : Heap} {v : Value} {code : Array Nat} (p : Pat h v code) : Recv "re.Pattern" h v := by
  obtain ⟨a, b, o, o2, p0, p1, p3, p4, t2, t6, xs, n, e1, e2, e3, e4, _⟩ := p
  subst e1
  exact ⟨fun s hs => by subst hs; exact ⟨o, e2, e3⟩, fun b e => by cases e; exact ⟨o, e2, e4⟩⟩
theorem Ev.reSub {o e1 e2 : Expr} {apos pos} {code : Array Nat} {l r : List Nat} {fd : Nat → Option (Nat × Nat)} {T : Nat → List Nat} {C : Nat} (h0 : EvP f x o fun h v => Pat h v code) (h1 : Ev f x e1 (st r)) (h2 : Ev f x e2 (st l))
    (hs : ∀ st must, st ≤ l.length → Ends C (Sre.forSearch code l.toArray 0 st l.toArray.size must) (Gives (fd st))) (hC : C < 2 ^ 60)
    (hT : ∀ st, st ≤ l.length → match fd st with | some (b, e) => st ≤ b ∧ b < e ∧ e ≤ l.length ∧ T st = (l.take b).drop st ++ r ++ T e | none => T st = l.drop st) (hlen : 2 * l.length + 2 ≤ sizeLine) (hF : (T 0).length ≤ sizeLine) (hr : r.contains 92 = false)
    (hbase : attributeBase o (Str.ofString "sub") f.env (eval o f.env) = eval o f.env := by exact rfl) (hline : (apos.endLine == pos.line) = true := by exact rfl)
    (hfew : ((backTo pos (starEach [e1, e2] f.env)).all (fun x => !x.1) && (backToKw pos (keywordEach [] f.env)).all (fun x => x.1.isSome)
      && decide (([e1, e2] : List Expr).length + ([] : List Keyword).length + (if ([] : List Keyword).isEmpty then 0 else 1) < 30)) = true := by exact rfl)
    (he : starEach [e1, e2] f.env = (false, eval e1 f.env) :: starEach [e2] f.env := by exact rfl) (he2 : starEach [e2] f.env = (false, eval e2 f.env) :: starEach [] f.env := by exact rfl)
    (hp : (backTo pos (starEach [e2] f.env)).any (·.1) = false := by exact rfl) :
    Ev f x (.Call (.Attribute o (Str.ofString "sub") apos) [e1, e2] [] pos) (st (T 0)) :=
  EvP.meth (ds := [st r, st l]) h0 plainAttrs_re slot_re_sub type_re_sub (fun h v e => e.recv) (fun _ _ _ p e => p.ext e) (.cons h1 (.cons h2 .nil he2) he)
    (fun s v vs O p r' => by
      obtain ⟨v1, _, rfl, r1, r2⟩ := r'.cons_inv
      obtain ⟨v2, _, rfl, r3, r4⟩ := r2.cons_inv
      rw [r4.nil_inv]
      obtain ⟨u, rfl⟩ := r1.str_inv
      obtain ⟨t, rfl⟩ := r3.str_inv
      exact wpN (sub_call hs hC hT hlen p hF hr) fun v s' ⟨k, t', e⟩ => ⟨k, by subst e; exact .str _ _⟩)
    hbase hfew hline he hp
theorem Ev.reDots {o e1 e2 : Expr} {apos pos} {l : List Nat} (h0 : EvP f x o fun h v => Pat h v c1) (h1 : Ev f x e1 (st [46, 46])) (h2 : Ev f x e2 (st l)) (hl : l.length ≤ 2 ^ 22)
    (hbase : attributeBase o (Str.ofString "sub") f.env (eval o f.env) = eval o f.env := by exact rfl) (hline : (apos.endLine == pos.line) = true := by exact rfl)
    (hfew : ((backTo pos (starEach [e1, e2] f.env)).all (fun x => !x.1) && (backToKw pos (keywordEach [] f.env)).all (fun x => x.1.isSome)
      && decide (([e1, e2] : List Expr).length + ([] : List Keyword).length + (if ([] : List Keyword).isEmpty then 0 else 1) < 30)) = true := by exact rfl)
    (he : starEach [e1, e2] f.env = (false, eval e1 f.env) :: starEach [e2] f.env := by exact rfl) (he2 : starEach [e2] f.env = (false, eval e2 f.env) :: starEach [] f.env := by exact rfl)
    (hp : (backTo pos (starEach [e2] f.env)).any (·.1) = false := by exact rfl) :
    Ev f x (.Call (.Attribute o (Str.ofString "sub") apos) [e1, e2] [] pos) (st (stuff true l)) := by
  have sz : sizeLine = 16777216 := by decide
  have h := Ev.reSub (T := TD l) (C := 6 * l.length + 6) (fd := fun s => (fnd (hit1 l.toArray) (l.length - s) s).map fun i => (i, i + 1)) h0 h1 h2
    (fun s must hs => (search1 l.toArray s must (by simpa using hs)).le (by rw [List.size_toArray]; omega)) (by omega) (fun s hs => by
      have := TD_ok l (l.length - s) s (by omega)
      cases q : fnd (hit1 l.toArray) (l.length - s) s with
      | none => rw [q] at this; exact this
      | some i =>
        rw [q] at this
        obtain ⟨a, b, _⟩ := fnd_some q
        exact ⟨a, by omega, by omega, this⟩) (by rw [sz]; omega) (by have := stuff_len (l.drop 0) (at1 l.toArray 0); unfold TD; simp at this ⊢; rw [sz]; omega) (by decide) hbase hline hfew he he2 hp
  exact h
theorem Ev.reEnds {o e1 e2 : Expr} {apos pos} {l : List Nat} (h0 : EvP f x o fun h v => Pat h v c2) (h1 : Ev f x e1 (st [13, 10])) (h2 : Ev f x e2 (st l)) (hl : l.length ≤ 2 ^ 22)
    (hbase : attributeBase o (Str.ofString "sub") f.env (eval o f.env) = eval o f.env := by exact rfl) (hline : (apos.endLine == pos.line) = true := by exact rfl)
    (hfew : ((backTo pos (starEach [e1, e2] f.env)).all (fun x => !x.1) && (backToKw pos (keywordEach [] f.env)).all (fun x => x.1.isSome)
      && decide (([e1, e2] : List Expr).length + ([] : List Keyword).length + (if ([] : List Keyword).isEmpty then 0 else 1) < 30)) = true := by exact rfl)
    (he : starEach [e1, e2] f.env = (false, eval e1 f.env) :: starEach [e2] f.env := by exact rfl) (he2 : starEach [e2] f.env = (false, eval e2 f.env) :: starEach [] f.env := by exact rfl)
    (hp : (backTo pos (starEach [e2] f.env)).any (·.1) = false := by exact rfl) :
    Ev f x (.Call (.Attribute o (Str.ofString "sub") apos) [e1, e2] [] pos) (st (crlf l)) := by
  have sz : sizeLine = 16777216 := by decide
  have h := Ev.reSub (T := TE l) (C := 40) (fd := fun s => (fnd (hit2 l.toArray) (l.length - s) s).map fun i => (i, i + len2 l.toArray i)) h0 h1 h2
    (fun s must hs => (search2 l.toArray s must (by simpa using hs))) (by decide) (fun s hs => by
      have := TE_ok l (l.length - s) s (by omega)
      cases q : fnd (hit2 l.toArray) (l.length - s) s with
      | none => rw [q] at this; exact this
      | some i =>
        rw [q] at this
        obtain ⟨a, b, _⟩ := fnd_some q
        refine ⟨a, ?_, ?_, this⟩
        · unfold len2; split <;> omega
        · unfold len2; split
          · rename_i z; have := z.2.1; simp at this; omega
          · omega) (by rw [sz]; omega) (by have := crlf_len (l.drop 0); unfold TE; simp at this ⊢; rw [sz]; omega) (by decide) hbase hline hfew he he2 hp
  exact h
end
end Mine
end
section
open PySem PySem.W PyProof.Rows PySem.Spec
set_option Elab.async false
set_option linter.all false
set_option maxRecDepth 100000
set_option maxHeartbeats 1000000
namespace Mine
section
variable {prog : Program} {w : World} {mg mb : Str → Option Value}
theorem g_re1 : nsIn (hd.heap_39 w.params) mainGlobals "_twin_re_1" = some (some (.ref 43)) := by exact rfl
theorem g_re2 : nsIn (hd.heap_39 w.params) mainGlobals "_twin_re_2" = some (some (.ref 48)) := by exact rfl
theorem g_crlf : ∃ t, nsIn (hd.heap_39 w.params) mainGlobals "CRLF" = some (some (.str (Str.ofString "\r\n") t)) := ⟨_, by exact rfl⟩
theorem p_re1 {h : Heap} (W : (WL prog w mg mb).Ok h) : Pat h (.ref 43) c1 :=
  ⟨43, 42, _, _, _, _, _, _, _, _, _, _, rfl, W.k 43 _ rfl, rfl, rfl, rfl, W.k 42 _ rfl, rfl, by decide +kernel⟩
theorem p_re2 {h : Heap} (W : (WL prog w mg mb).Ok h) : Pat h (.ref 48) c2 :=
  ⟨48, 47, _, _, _, _, _, _, _, _, _, _, rfl, W.k 48 _ rfl, rfl, rfl, rfl, W.k 47 _ rfl, rfl, by decide +kernel⟩
theorem c_quote (G : (WL prog w mg mb).Glob) (l : List Nat) (hl : l.length ≤ 2 ^ 20) : Fn (WL prog w mg mb) (.ref 55) 1 [st l] (st (qd l)) := by
  refine Fn.of_at (nm := ["data"]) (gl := ["_twin_re_1", "_twin_re_2", "CRLF"]) (ps := ["data"]) rfl rfl rfl rfl rfl rfl rfl (by decide +kernel) (bind1 fun _ => rfl) (.cons Put.i0 .nil) fun A s L hz bad bad' => ?_
  obtain ⟨t, ht⟩ := g_crlf (w := w)
  exact Ex.ret (Ev.reDots (EvP.pat (Ev.glob Mem.i0 (G.g _ _ g_re1)) fun h W => p_re1 W) (Ev.strE (l := [46, 46])) (Ev.reEnds (EvP.pat (Ev.glob Mem.i1 (G.g _ _ g_re2)) fun h W => p_re2 W) (Ev.eq (Ev.globS Mem.i2 (G.g _ _ ht)) (congrArg PyData.str (by decide +kernel))) (Ev.name At.i0) (by omega)) (by have := crlf_len l; omega)) fun s v O r => O.retD r
theorem c_int2ap (G : (WL prog w mg mb).Glob) (i : Int) (hb : (ap i.natAbs).length ≤ 1000) : FnP (WL prog w mg mb) (.ref 38) 1 [.int i] (fun _ _ v => B (apB i.natAbs) v) := by
  refine FnP.of_at (nm := ["num", "val", "AP", "mod"]) (gl := ["int", "abs", "divmod"]) (ps := ["num"]) rfl rfl rfl rfl rfl rfl rfl (by decide +kernel) (bind1 fun _ => rfl) (.cons .here .nil) fun A s L hz bad bad' => ?_
  refine Ex.assignIs (P := B []) EvB.const Put.i1 ?_
  refine Ex.assignIs (P := B apAll) EvB.const Put.i2 ?_
  refine Ex.assign (Ev.call (Ev.blt Mem.i0 (z_int G)) (.type _) (.cons (Ev.call (Ev.blt Mem.i1 (z_abs G)) (.builtin _) (.cons (Ev.name At.i0) .nil) Fn.abs (Nat.zero_le _)) .nil) Fn.int (Nat.zero_le _)) Put.i0 ?_
  refine Ex.while (J := fun k y => ∃ (b : List Addr) (v : List Nat), ap k ++ v = ap i.natAbs ∧ y = ⟨hz, b, [], [.val (.int k), .is (B (v.map fun c => UInt8.ofNat c)), .is (B apAll), .no]⟩) (D := fun y => ∃ b : List Addr, y = ⟨hz, b, [], [.val (.int 0), .is (B (apB i.natAbs)), .is (B apAll), .no]⟩) (n := i.natAbs) ⟨bad', [], by simp, rfl⟩ ?_ ?_
  · rintro k y ⟨b, v, hv, rfl⟩
    refine ⟨k != 0, Tst.val (Ev.name At.i0) trivial (by cases k <;> rfl), fun h => ?_, fun h => ?_⟩
    · have : k = 0 := by simpa using h
      subst this
      rw [ap_zero, List.nil_append] at hv
      exact ⟨b, by rw [hv]; rfl⟩
    · have h0 : k ≠ 0 := by simpa using h
      have hl : (ap (k / 16)).length + 1 + v.length ≤ 1000 := by rw [← hv, ap_pos h0] at hb; simp at hb; omega
      refine Ex.unpack (Ev.call (Ev.blt Mem.i2 (z_divmod G)) (.builtin _) (.cons (Ev.name At.i0) (.cons Ev.int .nil)) (Fn.divmod (by decide) (by decide)) (Nat.zero_le _)) (.cons (.cons .nil)) (.inr rfl) (.cons Put.i0 (.cons Put.i3 .nil)) ?_
      refine Ex.assignIs (P := B (((65 + k % 16) :: v).map fun c => UInt8.ofNat c)) ?_ Put.i1 ?_
      · refine (EvB.add (EvB.slice (EvP.nameIs At.i2) (EvO.some (Ev.name At.i3)) (EvO.some (Ev.add (Ev.name At.i3) Ev.int)) (by decide)) (EvP.nameIs At.i1) ?_).mono fun h v h' => ?_
        · rw [ap_slice]; simp; omega
        · rw [ap_slice] at h'; exact h'
      · refine Ex.nil fun s O => ⟨k / 16, _, by omega, ⟨b, (65 + k % 16) :: v, by rw [← hv, ap_pos h0]; simp, rfl⟩, ?_⟩
        have e : (k : Int).fdiv 16 = ((k / 16 : Nat) : Int) := by rw [Int.fdiv_eq_ediv_of_nonneg _ (by omega)]; omega
        rw [e] at O
        exact O.forget (.keep (.keep (.keep (.drop .nil))))
  · rintro y ⟨b, rfl⟩
    exact Ex.retP (EvP.nameIs At.i1) fun s v O h => ⟨O.same, h⟩
end
end Mine
end
section
open PySem PySem.W PyProof.Rows PySem.Spec
set_option Elab.async false
set_option linter.all false
set_option maxRecDepth 100000
set_option maxHeartbeats 1000000
namespace Mine
section
variable {prog : Program} {w : World} {mg mb : Str → Option Value}
theorem g_table : nsIn (hd.heap_39 w.params) mainGlobals "EXACT_TOKEN_TYPES" = some (some (.ref 56)) := by exact rfl
theorem t_ops : Tab (WL prog w mg mb) 56 opsD := fun h X => kt_tab_in prog w X.k (D := opsS) (by rfl) (by decide +kernel) (by rfl)
theorem idx_last {α : Type} (l : List α) (a : α) : (l ++ [a])[idx (l ++ [a]).length (-1)]? = some a := by
  unfold idx
  have : (-1 + ((l ++ [a]).length : Int)).toNat = l.length := by simp; omega
  rw [if_neg (by omega), this]
  simp
theorem mulK {a b : Int} (h : Builtin.Int.intBits a ≤ 64 := by decide +kernel) : IntMulOk a b := .of_left h
theorem c_symbols (G : (WL prog w mg mb).Glob) (l : List Nat) (out : List Int) (h : Lx [11, 133] l 256 out) (hl : l.length ≤ 2 ^ 20) (ho : out.length ≤ 2 ^ 20) : Fn (WL prog w mg mb) (.ref 96) 1 [st l] (.list ((out ++ [0]).map .int)) := by
  have sz : sizeLine = 16777216 := by decide
  refine Fn.of_at (nm := ["row", "symbols", "at", "size"]) (gl := ["len", "ord", "max", "EXACT_TOKEN_TYPES"]) (ps := ["row"]) rfl rfl rfl rfl rfl rfl rfl (by decide +kernel) (bind1 fun _ => rfl) (.cons Put.i0 .nil) fun A s L hz bad bad' => ?_
  refine Ex.own (EvN.list (.cons Ev.int .nil) (Nat.le_of_ble_eq_true rfl)) (fun a => Put.i1) (fun a => ?_)
  refine Ex.assign (Ev.nat (n := 0)) Put.i2 ?_
  refine Ex.while (J := fun n y => ∃ (i : Nat) (pre : List Int) (v : Int) (out' : List Int) (b : List Addr), i + n = l.length ∧ Lx [11, 133] (l.drop i) v out' ∧ pre ++ out' = out ∧ y = ⟨hz, b, [.lst a ((pre ++ [v]).map .int)], [.val (st l), .ptr a, .val (nt i), .no]⟩)
    (D := fun y => ∃ (i : Nat) (b : List Addr), y = ⟨hz, b, [.lst a (out.map .int)], [.val (st l), .ptr a, .val (nt i), .no]⟩) (n := l.length) ⟨0, [], 256, out, _, by simp, by simpa using h, by simp, rfl⟩ ?_ ?_
  · rintro n y ⟨i, pre, v, out', b, hi, hL, hp, rfl⟩
    have hlen : (pre ++ [v]).length ≤ 2 ^ 20 := by
      have := hL.pos
      rw [← hp] at ho; simp at ho ⊢; omega
    generalize hr : l.drop i = rest at hL
    have hsl : ((pre ++ [v]).map PyData.int).length ≤ sizeLine := by rw [List.length_map, sz]; omega
    have hll : l.length ≤ sizeLine := by rw [sz]; omega
    have l63 : (l.length : Int) < 2 ^ 63 := by omega
    have hdl : ∀ w : Int, ((pre ++ [v]).map PyData.int).dropLast ++ [.int w] = (pre ++ [w]).map PyData.int := fun w => by simp
    cases hL with
    | done =>
      have hge : ¬ i < l.length := fun q => by have := List.drop_eq_getElem_cons q; rw [hr] at this; cases this
      refine ⟨false, Tst.eq (Tst.and (a := false) (b := true) (Tst.eq (Tst.cmp (EvC.ltN (Ev.name At.i2) (Ev.call (Ev.blt Mem.i0 (z_len G)) (.builtin _) (.cons (Ev.name At.i0) .nil) (Fn.len_str l63) (Nat.zero_le _)))) (by simpa using hge)) (fun h => by cases h)) rfl, fun _ => ⟨i, b, by rw [hp]⟩, fun h => by cases h⟩
    | stop hc =>
      obtain ⟨hg, hlt, _⟩ := ltN hr
      refine ⟨false, Tst.eq (Tst.and (Tst.cmp (EvC.ltN (Ev.name At.i2) (Ev.call (Ev.blt Mem.i0 (z_len G)) (.builtin _) (.cons (Ev.name At.i0) .nil) (Fn.len_str l63) (Nat.zero_le _)))) (fun _ => Tst.and (Tst.cmp (EvC.notInStr (Ev.itemSN (Ev.name At.i0) (Ev.name At.i2) hg hll) (Ev.strE (l := [11, 133])))) fun _ => Tst.andN)) ?_, fun _ => ⟨i, b, by rw [hp]⟩, fun h => by cases h⟩
      rw [inS_one]; simp [hlt, hc]
    | word hs h1 h2 hL' =>
      rename_i c r
      obtain ⟨hg, hlt, hr'⟩ := ltN hr
      refine ⟨true, Tst.eq (Tst.and (Tst.cmp (EvC.ltN (Ev.name At.i2) (Ev.call (Ev.blt Mem.i0 (z_len G)) (.builtin _) (.cons (Ev.name At.i0) .nil) (Fn.len_str l63) (Nat.zero_le _)))) (fun _ => Tst.and (Tst.cmp (EvC.notInStr (Ev.itemSN (Ev.name At.i0) (Ev.name At.i2) hg hll) (Ev.strE (l := [11, 133])))) fun _ => Tst.andN)) ?_, fun h => (by cases h), fun _ => ?_⟩
      · rw [inS_one]; simp only [hlt, hs]; decide
      · refine Ex.ite (c := true) (Tst.eq (Tst.cmp (EvC.inStr (Ev.itemSN (Ev.name At.i0) (Ev.name At.i2) hg hll) (Ev.strE (l := AZ)))) ?_) (fun _ => ?_) (fun h => by cases h)
        · rw [inS_one]; exact decide_eq_true (AZ_mem.mpr ⟨h1, h2⟩)
        · refine Ex.setLast (d := .int (256 + 16 * (v - 256) + c - 65)) At.i1 (by rw [hdl]; exact .here) (Ev.thaw At.i1 .here Put.i1 (Ev.sub (Ev.add (Ev.add Ev.int (Ev.mul Ev.int (Ev.sub (Ev.itemL (Ev.name At.i1) (Ev.neg Ev.int) (by rw [List.map_append]; exact idx_last _ _) (by simp; omega) hsl) Ev.int) mulK)) (Ev.call (Ev.blt Mem.i1 (z_ord G)) (.builtin _) (.cons (Ev.itemSN (Ev.name At.i0) (Ev.name At.i2) hg hll) .nil) Fn.ord (Nat.zero_le _))) Ev.int) trivial) (by simp) hsl ?_
          refine Ex.augN At.i2 (Ev.nat (n := 1)) Put.i2 (Ex.next (Ex.nil fun s₂ O₂ => ⟨n - 1, _, by omega, ⟨i + 1, pre, 256 + 16 * (v - 256) + c - 65, out', b, by omega, by rw [hr']; exact hL', hp, rfl⟩, O₂⟩))
    | op hs h1 hk ho3 hmax hL' =>
      rename_i c o r k out2
      obtain ⟨hg, hlt, hr'⟩ := ltN hr
      have hlen2 : i + (o.length + 1) + r.length = l.length := by
        have := congrArg List.length hr
        simp at this; omega
      have htk : (l.drop i).take (o.length + 1) = c :: o := by rw [hr]; simp
      have hdr : l.drop (i + (o.length + 1)) = r := by rw [← List.drop_drop, hr]; simp
      refine ⟨true, Tst.eq (Tst.and (Tst.cmp (EvC.ltN (Ev.name At.i2) (Ev.call (Ev.blt Mem.i0 (z_len G)) (.builtin _) (.cons (Ev.name At.i0) .nil) (Fn.len_str l63) (Nat.zero_le _)))) (fun _ => Tst.and (Tst.cmp (EvC.notInStr (Ev.itemSN (Ev.name At.i0) (Ev.name At.i2) hg hll) (Ev.strE (l := [11, 133])))) fun _ => Tst.andN)) ?_, fun h => (by cases h), fun _ => ?_⟩
      · rw [inS_one]; simp only [hlt, hs]; decide
      · refine Ex.ite (c := false) (Tst.eq (Tst.cmp (EvC.inStr (Ev.itemSN (Ev.name At.i0) (Ev.name At.i2) hg hll) (Ev.strE (l := AZ)))) ?_) (fun h => by cases h) (fun _ => ?_)
        · rw [inS_one]; exact decide_eq_false fun q => by have := AZ_mem.mp q; omega
        · refine Ex.assign (d := nt (o.length + 1)) (Ev.call (Ev.blt Mem.i2 (z_max G)) (.builtin _) (.cons (Ev.eq (b := .list ((([1, 2, 3].filter fun n => decide (i + n ≤ l.length) && ((opsL.lookup ((l.drop i).take n)).isSome && true)).map fun n : Nat => (n : Int)).map .int))
            (Ev.comp1 (xs := [1, 2, 3]) (di := nt) (g := nt) (p := fun n => decide (i + n ≤ l.length) && ((opsL.lookup ((l.drop i).take n)).isSome && true)) (own := ["n"]) (fr := ["at", "row"]) (gl := ["len", "EXACT_TOKEN_TYPES"]) (ns := ["n"])
            (Iter.tuple (Ev.tuple (.cons (Ev.nat (n := 1)) (.cons (Ev.nat (n := 2)) (.cons (Ev.nat (n := 3)) .nil))) (Nat.le_of_ble_eq_true rfl))) rfl (by decide +kernel) (Ats.two At.i2 At.i0) rfl rfl one_in (Nat.le_of_ble_eq_true rfl) (fun n hn C cs base hz bad led => ⟨_, .name .here, .drop (.keep (.keep .nil)), .one (Tst.and (Tst.cmp (EvC.leN (Ev.addN (Ev.name At.i1) (Ev.name At.i0)) (Ev.call (Ev.blt Mem.i0 (z_len G)) (.builtin _) (.cons (Ev.name At.i2) .nil) (Fn.len_str l63) (Nat.zero_le _))))
              fun _ => Tst.and (Tst.eq (Tst.cmp (EvC.inTab (Ev.sliceS (Ev.name At.i2) (EvO.some (Ev.name At.i1)) (EvO.some (Ev.addN (Ev.name At.i1) (Ev.name At.i0))) hll) (Ev.glob Mem.i1 (G.g _ _ g_table)) t_ops)) (by rw [slc_nat, ops_lookup, Nat.add_sub_cancel_left]; simp)) fun _ => Tst.andN), fun _ => (Ev.name At.i0)⟩)) (by rw [List.map_map]; rfl)) .nil) (Fn.max (M := ((o.length + 1 : Nat) : Int)) ?_ ?_) (Nat.zero_le _)) Put.i3 ?_
          · refine List.mem_map.mpr ⟨o.length + 1, List.mem_filter.mpr ⟨?_, ?_⟩, rfl⟩
            · have : o.length = 0 ∨ o.length = 1 ∨ o.length = 2 := by omega
              rcases this with h | h | h <;> simp [h]
            · rw [htk, hk]; simp; omega
          · intro z hz
            obtain ⟨n, hn, rfl⟩ := List.mem_map.mp hz
            obtain ⟨hn1, hn2⟩ := List.mem_filter.mp hn
            simp only [Bool.and_true, Bool.and_eq_true, decide_eq_true_eq] at hn2
            rcases Nat.lt_or_ge (o.length + 1) n with q | q
            · exfalso
              have := hmax n q (by simp at hn1; omega) (by simp; omega)
              rw [hr, this] at hn2
              simp at hn2
            · omega
          · refine Ex.extend At.i1 .here (Ev.list (.cons (Ev.itemTab (i := (k : Int)) (Ev.glob Mem.i3 (G.g _ _ g_table)) (Ev.sliceS (Ev.name At.i0) (EvO.some (Ev.name At.i2)) (EvO.some (Ev.addN (Ev.name At.i2) (Ev.name At.i3))) hll) t_ops (by rw [slc_nat, Nat.add_sub_cancel_left, htk, ops_lookup, hk]; rfl)) (.cons Ev.int .nil)) (Nat.le_of_ble_eq_true rfl)) (by rw [List.length_map, sz]; simp at hlen ⊢; omega) ?_
            refine Ex.augN At.i2 (Ev.name At.i3) Put.i2 (Ex.next (Ex.nil fun s₂ O₂ => ⟨r.length, ⟨hz, b, [.lst a ((pre ++ [v, (k : Int)] ++ [256]).map .int)], [.val (st l), .ptr a, .val (nt (i + (o.length + 1))), .no]⟩, by omega, ⟨i + (o.length + 1), pre ++ [v, (k : Int)], 256, out2, b, by omega, by rw [hdr]; exact hL', by rw [← hp]; simp, rfl⟩, ?_⟩))
            have e2 : (pre ++ [v]).map PyData.int ++ [.int (k : Int), .int 256] = (pre ++ [v, (k : Int)] ++ [256]).map PyData.int := by simp
            rw [← e2]
            exact O₂.forget (.keep (.keep (.keep (.drop .nil))))
  · rintro y ⟨i, b, rfl⟩
    exact Ex.freeze At.i1 .here Put.i1 (Ex.ret (Ev.eq (Ev.catL (Ev.name At.i1) (Ev.list (.cons Ev.int .nil) (Nat.le_of_ble_eq_true rfl)) (by rw [List.length_map, sz]; simp; omega)) (by rw [List.map_append]; rfl)) fun s v O r => O.retD r)
end
end Mine
end
section
open PySem PySem.W PyProof.Rows PySem.Spec
set_option Elab.async false
set_option linter.all false
set_option maxRecDepth 100000
namespace Mine
section
variable {f : Fx} {hz : Heap} {bad : List Addr} {led : List Res} {vs : List Slot}
theorem Ex.asg {n : Str} {p : Pos} {e : Expr} {pos : Pos} {rest : List Stmt} {d : PyData} {vs' : List Slot} {Q : Flow → Shared → Prop} (h : Ev f ⟨hz, bad, led, vs⟩ e d) (put : Put f.nm vs n (.val d) vs')
    (hr : Ex f ⟨hz, bad, led, vs'⟩ rest Q) (hc : f.sto = f.nm := by exact rfl)
    (hs : swapsWith e (some (.Name n p)) pos.line f.env = pure false := by exact rfl) : Ex f ⟨hz, bad, led, vs⟩ (.Assign [.Name n p] e pos :: rest) Q := Ex.assign (x := ⟨hz, bad, led, vs⟩) h put hr hc hs
theorem Ex.unp {es : List Expr} {k : Nat} {p : Pos} {e : Expr} {pos : Pos} {rest : List Stmt} {d : PyData} {ds : List PyData} {ns : List Str} {vs' : List Slot} {Q : Flow → Shared → Prop} (h : Ev f ⟨hz, bad, led, vs⟩ e d) (hn : Names es ns) (hd : d = .list ds ∨ d = .tuple ds)
    (put : Puts f.nm vs ns ds vs') (hr : Ex f ⟨hz, bad, led, vs'⟩ rest Q) (hc : f.sto = f.nm := by exact rfl)
    (hs : swapsWithSole [.Tuple es k p] e pos.line f.env = pure false := by exact rfl) (hw : swappedStores [.Tuple es k p] e f.env = pure none := by exact rfl) : Ex f ⟨hz, bad, led, vs⟩ (.Assign [.Tuple es k p] e pos :: rest) Q :=
  Ex.unpack (x := ⟨hz, bad, led, vs⟩) h hn hd put hr hc hs hw
theorem Ex.cmp1 {n : Str} {pn : Pos} {elt tgt iter : Expr} {ifs : List Expr} {scope : Scope} {k : ScopeKind} {names : List (Str × NameKind)} {g1 g2 : Bool} {more : List (Str × Const)} {cpos pos : Pos} {rest : List Stmt} {α : Type} {xs : List α} {di g : α → PyData} {p : α → Bool} {own fr gl ns nm : List Str} {slots vs₀ vs' : List Slot} {Q : Flow → Shared → Prop}
    (hI : Iter f ⟨hz, bad, led, vs⟩ tgt iter (xs.map di)) (hsc : f.env.scope = ⟨k, names, g1, g2, more⟩) (hc : compChk scope ⟨k, names, g1, g2, more⟩ own fr gl = true) (ats : Ats f.nm vs fr slots) (hnm : nm = own ++ fr) (hvs : vs₀ = own.map (fun _ => Slot.no) ++ slots)
    (hns : ∀ n ∈ ns, n ∈ own) (hsz : xs.length ≤ sizeLine)
    (turn : ∀ a ∈ xs, ∀ C cs base hz bd led, ∃ vs', Tgt nm vs₀ tgt (di a) ns vs' ∧ Forget vs' vs₀ ∧ Ifs (compF f scope C cs base nm gl own bad) ⟨hz, bd, led, vs'⟩ ifs (p a) ∧
      (p a = true → Ev (compF f scope C cs base nm gl own bad) ⟨hz, bd, led, vs'⟩ elt (g a)))
    (put : Put f.nm vs n (.val (.list ((xs.filter p).map g))) vs') (hr : Ex f ⟨hz, bad, led, vs'⟩ rest Q) 
    (hs : ∀ v, foldedSetIterable iter f.env v = pure v := by intro _; rfl) (hf : f.sto = f.nm := by exact rfl)
    (hsw : swapsWith (.ListComp elt [⟨tgt, iter, ifs, 0⟩] scope cpos) (some (.Name n pn)) pos.line f.env = pure true := by exact rfl) : Ex f ⟨hz, bad, led, vs⟩ (.Assign [.Name n pn] (.ListComp elt [⟨tgt, iter, ifs, 0⟩] scope cpos) pos :: rest) Q :=
  Ex.comp1 (x := ⟨hz, bad, led, vs⟩) hI hsc hc ats hnm hvs hns hsz turn put hr hs hf hsw
theorem Ex.app {n : Str} {p apos pos spos : Pos} {e : Expr} {rest : List Stmt} {a : Addr} {ds : List PyData} {d : PyData} {l' : List Res} {Q : Flow → Shared → Prop} (hat : At f.nm vs n (.ptr a)) (hl : LPut a ds (ds ++ [d]) led l')
    (h : Ev f ⟨hz, bad, led, vs⟩ e d) (hn : ds.length ≤ sizeLine) (hr : Ex f ⟨hz, bad, l', vs⟩ rest Q)
    (hi : interactive f.env = false := by exact rfl) (hs : swapsWith (.Call (.Attribute (.Name n p) (Str.ofString "append") apos) [e] [] pos) none spos.line f.env = pure false := by exact rfl)
    (hbase : attributeBase (.Name n p) (Str.ofString "append") f.env (eval (.Name n p) f.env) = eval (.Name n p) f.env := by exact rfl)
    (hline : (apos.endLine == pos.line) = true := by exact rfl) (he : starEach [e] f.env = [(false, eval e f.env)] := by exact rfl) :
    Ex f ⟨hz, bad, led, vs⟩ (.Expr (.Call (.Attribute (.Name n p) (Str.ofString "append") apos) [e] [] pos) spos :: rest) Q :=
  Ex.append (x := ⟨hz, bad, led, vs⟩) hat hl h hn hr hi hs hbase hline he
theorem Ex.frz {ss : List Stmt} {Q : Flow → Shared → Prop} {n : Str} {a : Addr} {ds : List PyData} {l' : List Res} {vs' : List Slot} (hat : At f.nm vs n (.ptr a)) (hd : LDel a ds led l') (put : Put f.nm vs n (.val (.list ds)) vs')
    (h : Ex f ⟨hz, bad.filter (· != a), l', vs'⟩ ss Q) : Ex f ⟨hz, bad, led, vs⟩ ss Q := Ex.freeze (x := ⟨hz, bad, led, vs⟩) hat hd put h
theorem Ex.ownL {n : Str} {p : Pos} {e : Expr} {pos : Pos} {rest : List Stmt} {ds : List PyData} {vs' : Addr → List Slot} {Q : Flow → Shared → Prop} (h : EvN f ⟨hz, bad, led, vs⟩ e ds) (put : ∀ a, Put f.nm vs n (.ptr a) (vs' a))
    (hr : ∀ a, Ex f ⟨hz, a :: bad, .lst a ds :: led, vs' a⟩ rest Q) (hc : f.sto = f.nm := by exact rfl)
    (hs : swapsWith e (some (.Name n p)) pos.line f.env = pure false := by exact rfl) : Ex f ⟨hz, bad, led, vs⟩ (.Assign [.Name n p] e pos :: rest) Q :=
  Ex.own (x := ⟨hz, bad, led, vs⟩) h put hr hc hs
theorem starEach_c {e : Expr} {es : List Expr} {env : Env} (h : ∀ v p, e ≠ .Starred v p) : starEach (e :: es) env = (false, eval e env) :: starEach es env := by
  cases e <;> first | rfl | exact absurd rfl (h _ _)
theorem EvL.c {x : Sx} {e : Expr} {es : List Expr} {d : PyData} {ds : List PyData} (h1 : Ev f x e d) (h2 : EvL f x es ds) (hn : ∀ v p, e ≠ .Starred v p := by intro _ _ h; cases h) : EvL f x (e :: es) (d :: ds) := EvL.cons h1 h2 (starEach_c hn)
end
end Mine
end
section
open PySem PySem.W PyProof.Rows PySem.Spec
set_option Elab.async false
set_option linter.all false
set_option maxRecDepth 100000
set_option maxHeartbeats 4000000
namespace Mine
section
variable {prog : Program} {w : World} {A : Around} {E : Value → Shared → Prop} {s : Shared} {h0 : Heap} {a kS : Addr} {vs : List Value} {kz : List Int} {keys : Array Value} {e e1 : Nat} {P : PySem.Fin → Shared → Prop} {R : Array Value → Array Keyed → Prop}
theorem ext_turn {h : Heap} {g : Obj → Obj} (x : Ext h0 h) (h1 : h0.get? a = none) : Ext h0 (h.update a g) := fun b o e =>
  ((Heap.SameBut.update h a g).2 b fun q => by rw [q, h1] at e; cases e).trans (x b o e)
theorem skx_tail {st : SortSt} (x : Ext h0 s.heap) (nk : s.heap.get? kS = some (seqObj "list" keys e)) (na : s.heap.get? a = some (seqObj "list" #[] e1)) (hka : kS ≠ a) (hk0 : h0.get? kS = none) (ha0 : h0.get? a = none)
    (hsz : keys.size = vs.length) (h64 : vs.length < 64) (hp : (arrOf st).Perm (keys.zip vs.toArray)) (hfl : failedOf st = none)
    (h : ∀ h' tk c, Ext h0 h' → h'.get? a = some (seqObj "list" ((arrOf st).map (·.2)) c) → P (.done (.ret .none)) { s with heap := h', toks := tk }) :
    wpAny (model prog w) A (ksk_tail a false e1 (.ref kS) st) P E s := by
  have hsz2 : (arrOf st).size = vs.length := by rw [hp.size_eq, Array.size_zip, hsz, List.size_toArray, Nat.min_self]
  have hout : ((arrOf st).map (·.2)).size = vs.length := by rw [Array.size_map]; exact hsz2
  have s1 := Heap.SameBut.update s.heap kS (Obj.mapSeq fun _ => (#[] : Array Value))
  have na1 : (s.heap.update kS (Obj.mapSeq fun _ => (#[] : Array Value))).get? a = some (seqObj "list" #[] e1) := (s1.2 a hka.symm).trans na
  obtain ⟨c2, hc2⟩ : ∃ c2, ((s.heap.update kS (Obj.mapSeq fun _ => (#[] : Array Value))).update a (Obj.mapSeq fun _ => (arrOf st).map (·.2))).get? a = some (seqObj "list" ((arrOf st).map (·.2)) c2) :=
    ⟨_, get?_update_seq na1 fun _ => (arrOf st).map (·.2)⟩
  unfold ksk_tail
  try dsimp only
  refine wpAny_bind (listUpdate_at nk rfl ?_ (by rw [hsz, sizeLine_eq]; omega) (Nat.zero_le _))
  refine wpAny_bind (wpAny_letGo ?_)
  refine wpAny_bind (seqEpoch_at na1 rfl ?_)
  refine wpAny_bind (listUpdate_at na1 rfl ?_ (Nat.zero_le _) (Nat.le_trans (Nat.le_of_eq (by simpa using hout)) (by rw [sizeLine_eq]; omega)))
  rw [hfl]
  simp only [bne_self_eq_false, Bool.false_eq_true, if_false]
  exact wpAny_pure (h _ _ c2 (ext_turn (ext_turn x hk0) ha0) hc2)

noncomputable def SortsTo (prog : Program) (w : World) (kz : List Int) (vs : List Value) (R : Array Value → Array Keyed → Prop) : Prop :=
  ∀ keys : Array Value, IntsAre keys.toList kz → (vs.length < 2 → R keys (keys.zip vs.toArray)) ∧ (2 ≤ vs.length → ∀ (A : Around) (E : Value → Shared → Prop) (s : Shared),
    wpS (model prog w) A E s sortRuns' (fun _ st' => (arrOf st').Perm (keys.zip vs.toArray) ∧ failedOf st' = none ∧ R keys (arrOf st')) (SortSt.mk' oneType' (keys.zip vs.toArray) #[] 7 none))

theorem skx_end (x : Ext h0 s.heap) (nk : s.heap.get? kS = some (seqObj "list" keys e)) (na : s.heap.get? a = some (seqObj "list" #[] e1)) (hka : kS ≠ a) (hk0 : h0.get? kS = none) (ha0 : h0.get? a = none)
    (hk : IntsAre keys.toList kz) (hlen : kz.length = vs.length) (h64 : vs.length < 64) (hS : SortsTo prog w kz vs R)
    (h : ∀ h' tk arr c, Ext h0 h' → h'.get? a = some (seqObj "list" (arr.map (·.2)) c) → R keys arr → P (.done (.ret .none)) { s with heap := h', toks := tk }) :
    wpAny (model prog w) A (ksk_end a false vs.toArray e1 (.ref kS) keys) P E s := by
  have hsz : keys.size = vs.length := by
    have h1 := hk.length
    rw [Array.length_toList] at h1
    omega
  unfold ksk_end
  simp only [Bool.false_eq_true, if_false]
  by_cases h2 : vs.toArray.size < 2
  · rw [if_pos h2, if_pos h2]
    refine wpAny_bind (wpAny_pure ?_)
    rw [StateT.run_pure]
    refine wpAny_bind (wpAny_pure ?_)
    try dsimp only
    exact skx_tail (st := SortSt.mk' general' (keys.zip vs.toArray) #[] 7 none) x nk na hka hk0 ha0 hsz h64 (Array.Perm.refl _) rfl fun h' tk c a1 a2 => h h' tk _ c a1 a2 ((hS keys hk).1 (by simpa using h2))
  · rw [if_neg h2, if_neg h2]
    rw [List.size_toArray] at h2
    rw [ksk_kind hk (by rw [hsz]; omega)]
    refine wpAny_bind (wpAny_pure ?_)
    refine wpAny_bind (wpAny_mono ((hS keys hk).2 (by omega) A E s) ?_ fun _ _ e => e)
    rintro ⟨⟨⟩, st'⟩ s' ⟨rfl, hp, hf, hs⟩
    try dsimp only
    exact skx_tail x nk na hka hk0 ha0 hsz h64 hp hf fun h' tk c a1 a2 => h h' tk _ c a1 a2 hs

theorem skx_rest {f : Value} (x : Ext h0 s.heap) (nk0 : s.heap.get? kS = some (seqObj "list" #[] 0)) (na0 : s.heap.get? a = some (seqObj "list" #[] e1)) (hka : kS ≠ a) (hk0 : h0.get? kS = none) (ha0 : h0.get? a = none)
    (hlen : kz.length = vs.length) (h64 : vs.length < 64) (hS : SortsTo prog w kz vs R)
    (turn : ∀ (i : Nat) (v : Value) (k : Int), vs[i]? = some v → kz[i]? = some k → ∀ (h : Heap) (tk : Nat), Ext h0 h →
      wpAny (model prog w) A (call f [v]) (fun u s' => Step { s with heap := h, toks := tk } s' ∧ ∃ t, u = .int k t) No { s with heap := h, toks := tk })
    (h : ∀ h' tk keys arr c, Ext h0 h' → h'.get? a = some (seqObj "list" (arr.map (·.2)) c) → IntsAre keys.toList kz → R keys arr → P (.done (.ret .none)) { s with heap := h', toks := tk }) :
    wpAny (model prog w) A (ksk_rest a f false vs.toArray e1 (.ref kS)) P E s := by
  unfold ksk_rest
  refine wpAny_bind (wpAny_rule ?_)
  first
    | rw [List.forIn_toArray]
    | (rw [← Array.forIn_toList]; simp only [List.toList_toArray])
    | rw [← Array.forIn_toList]
  refine wpAny_bind (ksk_fold (fun i s' => ∃ h' tk kA e, s' = { s with heap := h', toks := tk } ∧ Ext h0 h' ∧ h'.get? kS = some (seqObj "list" kA e) ∧ h'.get? a = some (seqObj "list" #[] e1) ∧ IntsAre kA.toList (kz.take i)) vs 0 s
    ⟨s.heap, s.toks, #[], 0, rfl, x, nk0, na0, by simpa using IntsAre.nil⟩ ?step ?done)
  case step =>
    rintro j y s' hx ⟨h', tk, kA, e, rfl, x', nk, na, hk⟩
    simp only [Nat.zero_add] at hk ⊢
    have hj : j < vs.length := (List.getElem?_eq_some_iff.mp hx).1
    obtain ⟨k, hkj⟩ : ∃ k, kz[j]? = some k := ⟨_, List.getElem?_eq_getElem (by omega)⟩
    have hz : kA.size ≤ vs.length := by
      have h1 := hk.length
      rw [Array.length_toList, List.length_take] at h1
      omega
    refine wpAny_bind (wpAny_attempt (wpAny_mono (turn j y k hx hkj h' tk x') (fun v s'' he => ?_) fun _ _ hF => hF.elim))
    obtain ⟨st, t2, rfl⟩ := he
    obtain ⟨g, tk2, rfl, xg⟩ := st
    try dsimp only
    have nk2 := xg _ _ nk
    have na2 := xg _ _ na
    have s1 := Heap.SameBut.update g kS (Obj.mapSeq (·.push (.int k t2)))
    obtain ⟨c2, hc2⟩ : ∃ c2, (g.update kS (Obj.mapSeq (·.push (.int k t2)))).get? kS = some (seqObj "list" (kA.push (.int k t2)) c2) := ⟨_, get?_update_seq nk2 (·.push (.int k t2))⟩
    have ek : kz.take (j + 1) = kz.take j ++ [k] := by rw [List.take_add_one, hkj]; simp
    have ea : (kA.push (Value.int k t2)).toList = kA.toList ++ [Value.int k t2] := by simp
    refine wpAny_bind (listUpdate_at nk2 rfl ?_ (by rw [sizeLine_eq]; omega) (Nat.le_trans (Nat.le_of_eq (Array.size_push ..)) (by rw [sizeLine_eq]; omega)))
    exact wpAny_pure ⟨rfl, _, _, kA.push (.int k t2), c2, rfl, ext_turn (x'.trans xg) hk0, hc2, (s1.2 a hka.symm).trans na2, by rw [ea, ek]; exact ksk_snoc hk⟩
  case done =>
    rintro s' ⟨h', tk, kA, e, rfl, x', nk, na, hk⟩
    have hk' : IntsAre kA.toList kz := by
      have e3 : kz.take (0 + vs.length) = kz := List.take_of_length_le (by omega)
      rw [e3] at hk
      exact hk
    try dsimp only
    refine wpAny_bind (listItems_at nk rfl ?_)
    exact skx_end x' nk na hka hk0 ha0 hk' hlen h64 hS fun h3 tk3 arr c a1 a2 a3 => h h3 tk3 kA arr c a1 a2 hk' a3

end
end Mine
end
section
open PySem PySem.W PyProof.Rows PySem.Spec
set_option Elab.async false
set_option linter.all false
set_option maxRecDepth 100000
set_option maxHeartbeats 1000000
namespace Mine
@[reducible] noncomputable def lamF (W : Wd) (A : Around) (rm : Nat) (qual : Str) (scope : Scope) (L a c' : Addr) (cl : List (Str × Addr)) (base : Shared) (nm gl : List Str) (cb : List Addr) : Fx :=
  { W := W, A := A.deeper (envX qual scope L a (.ref c') cl), rm := rm, env := envX qual scope L a (.ref c') cl, base := base, nm := nm, gl := gl, sto := nm, cb := cb }
noncomputable def lamChk (scope : Scope) (p : Str) (gl : List Str) : Bool :=
  scope.kind == .function && !scope.isCoroutine && !scope.isGenerator && scope.names.all (fun q => q.2 != .cell) && scope.names.lookup p == some .local && dbg p && nodupS scope.names && gl.all fun n => dbg n && scope.names.lookup n == some .globalImplicit
structure LamChk (scope : Scope) (p : Str) (gl : List Str) : Prop where
  kind : scope.kind = .function
  co : scope.isCoroutine = false
  gen : scope.isGenerator = false
  cells : ∀ q ∈ scope.names, q.2 ≠ .cell
  loc : scope.names.lookup p = some .local
  pd : (p == ("__debug__" : Str)) = false
  nd : nodupS scope.names = true
  glk : ∀ n ∈ gl, (n == ("__debug__" : Str)) = false ∧ scope.names.lookup n = some .globalImplicit
theorem lamChk_iff {scope : Scope} {p : Str} {gl : List Str} (h : lamChk scope p gl = true) : LamChk scope p gl := by
  unfold lamChk dbg at h
  simp only [Bool.and_eq_true, beq_iff_eq, Bool.not_eq_true', List.all_eq_true, bne_iff_ne] at h
  obtain ⟨⟨⟨⟨⟨⟨⟨h1, h2⟩, h3⟩, h4⟩, h5⟩, h6⟩, h7⟩, h8⟩ := h
  exact ⟨h1, h2, h3, h4, h5, by simpa using h6, h7, fun n hn => ⟨by simpa using (h8 n hn).1, (h8 n hn).2⟩⟩
theorem lam_call {W : Wd} {A : Around} {n : Nat} {s : Shared} {bad : List Addr} {a c' : Addr} {name qual : Str} {params : Arguments} {body : Expr} {scope : Scope} {cl : List (Str × Addr)} {pm ctv : Value} {p : Str} {gl : List Str} {v : Value} {d : PyData} {R : Value → Prop}
    (hA : Room A (n + 1)) (w : W.Ok s.heap) (hb : ∀ b ∈ bad, ∃ o, s.heap.get? b = some o) (ho : s.heap.get? a = some (kla_obj name qual params body scope cl pm c' ctv)) (hcd : s.heap.CodeRec (.ref c') qual) (hk : LamChk scope p gl)
    (hbind : ∀ cd v, bindArgs (kla_fn name qual params body scope cl pm cd ctv) ⟨[v], []⟩ = pure [(p, v)])
    (hcl : ∀ m c, cl.lookup m = some c → (m, NameKind.free) ∈ scope.names ∧ c ∈ bad ∧ ∃ ov, s.heap.IsCell c ov) (hinj : ∀ m m' c, cl.lookup m = some c → cl.lookup m' = some c → m = m')
    (rv : Rd (hideAll s.heap bad) v d)
    (hbody : ∀ L bad', EvP (lamF W A n qual scope L a c' cl s [p] gl bad) ⟨hideAll s.heap bad, bad', [], [.val d]⟩ body fun _ u => R u) :
    wpAny W.M A (PySem.call (.ref a) [v]) (fun u s' => Step s s' ∧ R u) No s := by
  refine wpAny_call ?_
  refine kla_callFunE (Nat.lt_trans (Nat.lt_of_le_of_lt (Nat.le_add_right _ _) hA.dep) (by decide)) ho rfl hk.co hk.gen rfl hcd ?_
  rw [hbind]
  refine wpAny_pure (wpAny_newFunctionEnv hk.cells (fun y hy => ?_) (fun h₁ hns hsb => ⟨w.lim.fresh _ hsb, ?_⟩) hk.kind)
  · cases hy with
    | head => exact hk.loc
    | tail _ h => cases h
  show codeAny _ _ (.expr body (envX qual scope s.heap.objs.size a (.ref c') cl)) _ _
  have k1 : Ext s.heap h₁ := fun b o e => hsb.extBut b o (Nat.ne_of_lt (Heap.lt_size e)) (Heap.get?_push_of_some _ e)
  have lt2 : ∀ {b : Nat} {o : Obj}, s.heap.get? b = some o → @LT.lt Nat _ b s.heap.objs.size := fun e => szN e
  have nL : s.heap.get? s.heap.objs.size = none := Heap.get?_none_of_le (Nat.le_refl _)
  have clp : cl.lookup p = none := by
    cases q : cl.lookup p with
    | none => rfl
    | some c => have := lookup_nodup hk.nd (hcl p c q).1; rw [hk.loc] at this; cases this
  have O : Ok (lamF W A n qual scope s.heap.objs.size a c' cl s [p] gl bad) ⟨hideAll s.heap bad, s.heap.objs.size :: bad, [], [.val d]⟩ { s with heap := h₁, toks := s.toks + [(p, v)].length } := by
    refine ⟨hk.kind, rfl, rfl, hA.deeper, w, by simp, ?_, hk.glk, ?_, ?_, .mk' k1, ?_, ?_, nL, .head _, ?_, hinj, fun r hr => (nomatch hr), List.nodup_nil, _, hns, ?_⟩
    · intro m hm
      cases hm with
      | head => exact ⟨hk.pd, .inl hk.loc⟩
      | tail _ h => cases h
    · intro m hm c hc
      cases hm with
      | head => have hc' : cl.lookup p = some c := hc; rw [clp] at hc'; cases hc'
      | tail _ h => cases h
    · exact fun b h => ⟨.tail _ h, hb b h⟩
    · intro b o e
      obtain ⟨e1, e2⟩ := hid_iff.mp e
      refine ⟨k1 b o e1, fun m => ?_⟩
      rcases List.mem_cons.mp m with q | m
      · have := lt2 e1; have q' : @Eq Nat b s.heap.objs.size := q; omega
      · exact e2 m
    · intro b h
      rcases List.mem_cons.mp h with e | h
      · obtain ⟨o, _, _, e', _⟩ := hns; exact ⟨o, e ▸ e'⟩
      · obtain ⟨o, e⟩ := hb b h; exact ⟨o, k1 b o e⟩
    · intro m c hc
      obtain ⟨_, h1, ov, h2⟩ := hcl m c hc
      refine ⟨.tail _ h1, fun q => ?_, ov, h2.keeps k1⟩
      obtain ⟨o, e⟩ := hb c h1
      have := lt2 e; have q' : @Eq Nat c s.heap.objs.size := q; omega
    · intro i m sl e1 e2
      cases i with
      | zero =>
        simp at e1 e2
        subst e1 e2
        refine ⟨v, .inl ⟨hk.loc, by simp⟩, rv.ext fun b o e => ?_⟩
        obtain ⟨e1, e2⟩ := hid_iff.mp e
        refine hid_iff.mpr ⟨k1 b o e1, fun m => ?_⟩
        rcases List.mem_cons.mp m with q | m
        · have := lt2 e1; have q' : @Eq Nat b s.heap.objs.size := q; omega
        · exact e2 m
      | succ i => simp at e1
  exact kla_codeExpr (wpAny_mono ((hbody s.heap.objs.size (s.heap.objs.size :: bad)).run _ O) (fun u s' ⟨k, r⟩ => ⟨O.same.trans k, r⟩) fun _ _ e => e.elim)
theorem Ev.free {f : Fx} {x : Sx} {n : Str} {pos} {c : Addr} {v : Value} {d : PyData} (hn : (n == ("__debug__" : Str)) = false) (hk : f.env.kindOf n = some .free) (hc : f.env.cells.lookup n = some c) (hv : f.base.heap.IsCell c (some v)) (hr : Rd x.hz v d)
    (hd : (n == ("__classdict__" : Str)) = false) : Ev f x (.Name n pos) d := .bx fun s O =>
  wpAny_Name (wpAny_loadName_free O.kind hk hc (hv.keeps O.same.ext) ⟨.rfl', hr.ext O.hzSub⟩ hd) hn

inductive RdK (h : Heap) : List (Int × Value) → List (Int × PyData) → Prop
  | nil : RdK h [] []
  | cons {k v d ps es} : Rd h v d → RdK h ps es → RdK h ((k, v) :: ps) ((k, d) :: es)
end Mine
end
section
open PySem PySem.W PyProof.Rows PySem.Spec
set_option Elab.async false
set_option linter.all false
set_option maxRecDepth 100000
set_option maxHeartbeats 2000000
namespace Mine
noncomputable abbrev T0 (P : Addr) : Heap → Prop := fun h => h.get? P = some (tabObj #[])
noncomputable abbrev TG (P : Addr) : Heap → Prop := fun h => GrownAt P h
theorem tg_frame {P : Addr} : ∀ h h' : Heap, TG P h → (∀ b ∈ [P], ∀ o, h.get? b = some o → h'.get? b = some o) → TG P h' := fun h h' ⟨ps, e⟩ k => ⟨ps, k P (.head _) _ e⟩
theorem t0_frame {P : Addr} : ∀ h h' : Heap, T0 P h → (∀ b ∈ [P], ∀ o, h.get? b = some o → h'.get? b = some o) → T0 P h' := fun h h' e k => k P (.head _) _ e
noncomputable def EvG (f : Fx) (hz : Heap) (bad : List Addr) (led : List Res) (vs : List Slot) (P : Addr) (e : Expr) (R : Heap → Value → Prop) : Prop :=
  Bx (∀ s, Ok f ⟨hz, bad, .prd [P] (T0 P) :: led, vs⟩ s → wpAny f.W.M f.A (eval e f.env) (fun v s' => Ok f ⟨hz, bad, .prd [P] (TG P) :: led, vs⟩ s' ∧ R s'.heap v) No s)
section
variable {f : Fx} {hz : Heap} {bad : List Addr} {led : List Res} {vs : List Slot} {P : Addr}
theorem Ex.assignG {n : Str} {p : Pos} {e : Expr} {pos : Pos} {rest : List Stmt} {Q : Flow → Shared → Prop} {D : PyData → Prop} {vs' : PyData → List Slot} (h : EvG f hz bad led vs P e fun h v => ∃ d, D d ∧ Rd (hideAll h bad) v d) (put : ∀ d, Put f.nm vs n (.val d) (vs' d))
    (hr : ∀ d, D d → Ex f ⟨hz, bad, .prd [P] (TG P) :: led, vs' d⟩ rest Q) (hc : f.sto = f.nm := by exact rfl)
    (hs : swapsWith e (some (.Name n p)) pos.line f.env = pure false := by exact rfl) : Ex f ⟨hz, bad, .prd [P] (T0 P) :: led, vs⟩ (.Assign [.Name n p] e pos :: rest) Q := .cons fun s O =>
  wpAny_Assign_Name (wpN (h.run s O) fun v s₁ ⟨O₁, d, hd, r⟩ => wpN (O₁.store (put d) r (hc ▸ (put d).mem)) fun _ s₂ O₂ => (hr d hd).run s₂ O₂.1) hs
end
end Mine
end
section
open PySem PySem.W PyProof.Rows PySem.Spec
set_option Elab.async false
set_option linter.all false
set_option maxRecDepth 100000
namespace Mine
theorem well_ints {P : Params} {h : Heap} : ∀ {l : List Int} {vs : List Value} {xs : List WData}, xs = l.map (fun i => WData.int i) → WellAll P h vs xs → RdAll h vs (l.map .int)
  | [], vs, xs, e, w => by subst e; cases w; exact .nil
  | i :: l, vs, xs, e, w => by
    subst e
    cases w with | cons a b => cases a with | int i t => exact .cons (.int _ _) (well_ints rfl b)
theorem ofPy_ints : ∀ l : List Int, ofPy (.list (l.map .int)) = .list (l.map fun i => WData.int i) := by
  intro l
  simp only [ofPy]
  congr 1
  induction l with
  | nil => rfl
  | cons a l ih => simp only [List.map_cons, ofPys, ofPy, ih]
theorem well_list {P : Params} {h : Heap} {a : Addr} {l : List Int} (w : Well P h (.ref a) (ofPy (.list (l.map .int)))) : Rd h (.ref a) (.list (l.map .int)) := by
  rw [ofPy_ints] at w
  cases w with | list e ws => exact .list e (well_ints rfl ws)
end Mine
end
section
open PySem PySem.W PyProof.Rows PySem.Spec
set_option Elab.async false
set_option linter.all false
set_option maxRecDepth 100000
set_option maxHeartbeats 1000000
namespace Mine
noncomputable def Bmod (W : Wd) (h : Heap) : Prop := ∃ bm o, W.mg "__builtins__" = some (.ref bm) ∧ bm ≠ builtinsNs ∧ h.get? bm = some o ∧ o.cls = .type "module" ∧ o.dict = some builtinsNs ∧ o.data = .plain
theorem Bmod.hid {W : Wd} {h : Heap} {P : Addr} (x : Bmod W h) (hP : h.get? P = some (tabObj #[])) : Bmod W (hideAll h [P]) := by
  obtain ⟨bm, o, a, b, c, d, r⟩ := x
  refine ⟨bm, o, a, b, hid_iff.mpr ⟨c, fun q => ?_⟩, d, r⟩
  cases q with
  | head => rw [hP] at c; cases c; cases d
  | tail _ q => cases q
theorem ns_hid {h : Heap} {P a : Addr} {m : Str → Option Value} (hP : h.get? P = some (tabObj #[])) (x : h.Ns a m) : (hideAll h [P]).Ns a m := by
  obtain ⟨o, es, ep, e, hd, r⟩ := x
  refine ⟨o, es, ep, hid_iff.mpr ⟨e, fun q => ?_⟩, hd, r⟩
  cases q with
  | head => rw [hP] at e; cases e; cases hd
  | tail _ q => cases q
theorem Wd.Ok.hid {W : Wd} {h : Heap} {P : Addr} (x : W.Ok h) (hP : h.get? P = some (tabObj #[])) (hK : W.K.lookup P = none) : W.Ok (hideAll h [P]) where
  k := fun a o e => hid_iff.mpr ⟨x.k a o e, fun q => by
    cases q with
    | head => rw [hK] at e; cases e
    | tail _ q => cases q⟩
  g := ns_hid hP x.g
  b := ns_hid hP x.b
  lim := let ⟨mc, a, r⟩ := x.lim; ⟨mc, ns_hid hP a, r⟩
@[reducible] noncomputable def ghF (f : Fx) (P : Addr) : Fx := { f with base := { f.base with heap := hideAll f.base.heap [P] }, cb := [] }
theorem Ok.ghost {f : Fx} {hz : Heap} {bad : List Addr} {vs : List Slot} {s : Shared} {P : Addr} (O : Ok f ⟨hz, bad, [], vs⟩ s) (hP : f.base.heap.get? P = some (tabObj #[])) (hb : P ∈ bad) (hK : f.W.K.lookup P = none) :
    Ok (ghF f P) ⟨hz, bad, [.prd [P] (T0 P)], vs⟩ s := by
  have hPs : s.heap.get? P = some (tabObj #[]) := O.same.ext _ _ hP
  have gn : ∀ {b : Addr}, f.base.heap.get? b = none → (hideAll f.base.heap [P]).get? b = none := fun {b} e => by
    cases q : (hideAll f.base.heap [P]).get? b with
    | none => rfl
    | some o => rw [of_hideAll _ q] at e; cases e
  refine ⟨O.kind, O.glo, O.bui, O.room, O.wok.hid hP hK, O.nd, O.knd, O.gk, fun n hn c hc => gn (O.cellF n hn c hc), fun b hb => (nomatch hb), ?_, O.hz, O.live, gn O.locF, O.locB, O.cell, O.inj, ?_, by simp [Res.fp], O.vars⟩
  · obtain ⟨h, t, rfl, e⟩ := O.same
    exact ⟨h, t, rfl, fun b o q => e b o (of_hideAll _ q)⟩
  · intro r hr
    cases hr with
    | tail _ hr => cases hr
    | head =>
      refine ⟨⟨hPs, t0_frame⟩, fun a ha => ?_⟩
      cases ha with
      | tail _ ha => cases ha
      | head =>
        refine ⟨hb, hideAll_none _ (.head _), fun q => ?_, fun n hn => ?_⟩
        · have := O.locF; rw [← q, hP] at this; cases this
        · obtain ⟨_, _, ov, o, e, hd⟩ := O.cell n P hn
          rw [hPs] at e; cases e; cases hd
noncomputable def FnT (W : Wd) (cv : Value) (n : Nat) (P : Addr) (d : PyData) (R : Value → Prop) : Prop :=
  ∀ A s bad v, Room A n → W.Ok s.heap → (∀ b ∈ bad, ∃ o, s.heap.get? b = some o) → P ∈ bad → s.heap.get? P = some (tabObj #[]) → Bmod W s.heap → Rd (hideAll s.heap bad) v d →
    wpAny W.M A (PySem.call cv [v]) (fun u s' => (∃ h t, s' = { s with heap := h, toks := t } ∧ (∀ b o, b ≠ P → s.heap.get? b = some o → h.get? b = some o) ∧ GrownAt P h) ∧ R u) No s
noncomputable def RetT (f : Fx) (P : Addr) (R : Value → Prop) : Flow → Shared → Prop
  | .ret v, s' => Step f.base s' ∧ GrownAt P s'.heap ∧ R v
  | _, _ => False
theorem Ok.retT {f : Fx} {hz : Heap} {bad : List Addr} {led : List Res} {vs : List Slot} {s : Shared} {P : Addr} {R : Value → Prop} {v : Value} (O : Ok f ⟨hz, bad, .prd [P] (TG P) :: led, vs⟩ s) (h : R v) : RetT f P R (.ret v) s :=
  ⟨O.same, (O.led _ (.head _)).1.1, h⟩
theorem FnT.of_at {W : Wd} {a : Addr} {oc : Value} {od : Option Addr} {osl : Array (Option Value)} {fd : FuncData} {sc : Scope} {body : List Stmt} {nm gl : List Str} {p : Str} {d : PyData} {vs₀ : List Slot} {n : Nat} {P : Addr} {R : Value → Prop}
    (hk : W.K.lookup a = some ⟨oc, od, .func fd, osl⟩) (hcd : codeIn W.K fd.code fd.qualname = true) (hbody : fd.body = .stmts body) (hclo : fd.closure = []) (hg : fd.globals = mainGlobals) (hbi : fd.builtins = builtinsNs) (hsc : fd.scope = sc)
    (hchk : fnChk sc nm gl [p] = true) (hbind : ∀ vs : List Value, vs.length = 1 → bindArgs fd ⟨vs, []⟩ = pure ([p].zip vs)) (puts : Puts nm (nm.map fun _ => Slot.no) [p] [d] vs₀) (hKP : W.K.lookup P = none)
    (h : ∀ A s L hz bad bad', Bmod W (ghF (fnG W A n sc (fdAt W.K a) a L s nm gl bad) P).base.heap → Ex (ghF (fnG W A n sc (fdAt W.K a) a L s nm gl bad) P) ⟨hz, bad', [.prd [P] (T0 P)], vs₀⟩ body (RetT (ghF (fnG W A n sc (fdAt W.K a) a L s nm gl bad) P) P R)) :
    FnT W (.ref a) (n + 1) P d R := fun A s bad v hA w hb hPb hP hbm r => by
  have hchk' := fnChk_iff (by rw [← hsc] at hchk; exact hchk)
  have hfd : fdAt W.K a = fd := by unfold fdAt; rw [hk]
  refine wpAny_call ?_
  refine codeAny_call_function (Nat.lt_trans (Nat.lt_of_le_of_lt (Nat.le_add_right _ _) hA.dep) (by decide)) (w.k _ _ hk) rfl hchk'.co hchk'.gen hbody (codeRec_of w.k hcd) ?_
  rw [hbind [v] rfl, hclo]
  refine wpAny_pure ?_
  simp only [newFunctionEnv, Option.isSome_none, Bool.false_eq_true, if_false]
  refine wpAny_bind (wpAny_alloc ?_)
  refine wpAny_bind (wpAny_layCells _ (fun name kind cells => by cases hkc : kind == NameKind.cell <;> simp [hkc]) _ _ _ _ ?_)
  rw [show ({ s with heap := s.heap.push { cls := .type "frame", data := .dict #[] } } : Shared).heap.objs.size = s.heap.objs.size + 1 from Heap.size_push ..]
  obtain ⟨bad', O, kx⟩ := Ok.entry hA w hb (a := a) hchk' hg hbi
  have hPb' : P ∈ bad' := (O.cbB P hPb).1
  have Og := O.ghost hP hPb' hKP
  have O' : Ok { ghF (fnF W A n fd a s.heap.objs.size s nm gl bad) P with A := A.in1 } _ _ := Og.around hA.in1
  have hh := h A s s.heap.objs.size (hideAll s.heap bad) bad bad' (hbm.hid hP)
  rw [hfd] at hh
  subst hsc
  have q := bindOk (f := { ghF (fnF W A n fd a s.heap.objs.size s nm gl bad) P with A := A.in1 }) (fun x _ => do storeName (callEnvC fd s.heap.objs.size a) x.1 x.2; pure (.yield ⟨⟩)) (fun _ _ _ => rfl) [p] [v] [d] _ _ vs₀
    (fun _ s₂ => wpAny (model W.prog W.w) A.in1 (pure (callEnvC fd s.heap.objs.size a)) (fun env s₂ => s₂.heap.NoLimit ∧ codeAny (model W.prog W.w) A (.func body env) (fun r s' => match r with
      | .ok (.ret v) => (∃ h t, s' = { s with heap := h, toks := t } ∧ (∀ b o, b ≠ P → s.heap.get? b = some o → h.get? b = some o) ∧ GrownAt P h) ∧ R v
      | .ok _ => False | .error e => No e s') s₂) No s₂)
    O' (.cons (r.ext kx) .nil) puts hchk'.psk (fun s₂ O₂ => wpAny_pure ⟨(O₂.wok.ext O₂.same.ext).lim, codeAny_func (wpE (hh.run s₂ (O₂.around hA.deeper)) fun fl s₃ hfl => ?_)⟩)
  · exact wpAny_bind (wpE q fun _ _ h => h)
  · cases fl with
    | ret v =>
      obtain ⟨st, gr, hr⟩ := hfl
      obtain ⟨h3, t3, rfl, e3⟩ := st
      exact ⟨⟨h3, t3, rfl, fun b o hb e => e3 b o (hid_iff.mpr ⟨e, fun q => by cases q with | head => exact hb rfl | tail _ q => cases q⟩), gr⟩, hr⟩
    | _ => exact hfl.elim
theorem rd_hid_ints {h : Heap} {P a : Addr} {l : List Int} (hP : h.get? P = some (tabObj #[])) (r : Rd h (.ref a) (.list (l.map .int))) : Rd (hideAll h [P]) (.ref a) (.list (l.map .int)) := by
  obtain ⟨b, vs, n, e, hl, hr⟩ := r.list_inv
  cases e
  refine .list (hid_iff.mpr ⟨hl, fun q => ?_⟩) (RdAll.of_ints hr.ints)
  cases q with
  | head => have hl' : h.get? P = some _ := hl; rw [hP] at hl'; cases hl'
  | tail _ q => cases q
theorem law_endT {l : OpenLaw} {w : World} {s₁ : Shared} {cl : Str → Option Addr} {mean : ExcName → Option Value} {args : List WData} {W : Wd} {n : Nat} {a fa c P : Addr} {ns : List Int}
    (hp : W.prog = l.row.prog) (hw : W.w = w) (F : FnT W (.ref fa) n P (.list (ns.map .int)) (fun u => u = .bool true)) (hr : Room callerA n) (ok : W.Ok s₁.heap) (hbt : Bmod W s₁.heap) (hP : s₁.heap.get? P = some (tabObj #[])) (hC : CodeHd s₁.heap c P) (rd : Rd s₁.heap (.ref a) (.list (ns.map .int))) (hg : s₁.gens = #[])
    (hpost : l.row.claim.post args (.bool true) args = true) :
    wpAny (model l.row.prog w) callerA (PySem.call (.ref fa) [.ref a]) (fun v s' => GoodWG l.row.claim cl mean args s₁ (.ok (.ret v)) s') (fun e s' => GoodWG l.row.claim cl mean args s₁ (.error e) s') s₁ := by
  have key := F callerA s₁ [P] (.ref a) hr ok (fun b hb => by
    cases hb with
    | head => exact ⟨_, hP⟩
    | tail _ h => cases h) (.head _) hP hbt (rd_hid_ints hP rd)
  have e : W.M = model l.row.prog w := by show model W.prog W.w = _; rw [hp, hw]
  rw [e] at key
  refine wpAny_mono key (fun v s' h => ?_) fun e s' h => h.elim
  obtain ⟨⟨h', t', rfl, hx, ps, hps⟩, hv⟩ := h
  subst hv
  obtain ⟨o, vs, _, _, _, _, _, _, _, c1, c2, c3, c4, _⟩ := hC
  refine ⟨.inl ⟨.bool true, .bool true, [], rfl, fun cls => rfl, .bool _, hpost, fun _ => ⟨List.nodup_nil, fun a ha => nomatch ha⟩⟩, ⟨fun b o e => ?_, fun b o e => ?_⟩, rfl, .of_eq hg⟩
  · by_cases q : b = P
    · subst q
      rw [hP] at e; cases e
      refine .inr (.inl ⟨⟨c, _, vs, c1, c2, c3, c4⟩, rfl, #[], ps, rfl, ?_⟩)
      rw [hps]
      simp
    · exact .inl (hx b o q e)
  · by_cases q : b = P
    · subst q; exact ⟨_, hps⟩
    · exact ⟨o, hx b o q e⟩
end Mine
end
section
open PySem PySem.W PyProof.Rows PySem.Spec
set_option Elab.async false
set_option linter.all false
set_option maxRecDepth 100000
set_option maxHeartbeats 4000000
namespace Mine
noncomputable def runC (n : Nat) (cmp : Nat → Nat → Bool) {α : Type} : KasT α → Option α
  | .ret a => some a
  | .ask i j k => if i < n ∧ j < n then runC n cmp (k (cmp i j)) else none
theorem ints_getD {ks : List Value} {kz : List Int} (hk : IntsAre ks kz) {i : Nat} (h : i < kz.length) : ∃ t, ks.getD i Value.none = .int (kz.getD i 0) t := by
  obtain ⟨t, ht⟩ := hk.get i (kz[i]) (List.getElem?_eq_getElem h)
  refine ⟨t, ?_⟩
  rw [List.getD_eq_getElem?_getD, ht, List.getD_eq_getElem?_getD, List.getElem?_eq_getElem h]; rfl
theorem runC_wp {prog : Program} {w : World} {A : Around} {ks : List Value} {kz : List Int} (hk : IntsAre ks kz) {α : Type} : ∀ (t : KasT α) (a : α) (s : Shared), runC kz.length (fun i j => decide (kz.getD i 0 < kz.getD j 0)) t = some a →
    t.kasWp (kas_ask prog w A oneType' ks) (fun b s' => s' = s ∧ b = a) s
  | .ret b, a, s, h => by
    unfold runC at h; cases h; exact ⟨rfl, rfl⟩
  | .ask i j k, a, s, h => by
    unfold runC at h
    split at h
    · rename_i hij
      obtain ⟨t, ht⟩ := ints_getD hk hij.1
      obtain ⟨u, hu⟩ := ints_getD hk hij.2
      show kas_ask prog w A oneType' ks i j _ s
      unfold kas_ask
      rw [ht, hu]
      exact kat_lt_int (runC_wp hk _ a s h)
    · cases h
theorem sorts_run {prog : Program} {w : World} {kz : List Int} {vs : List Value} {p : Array Nat} (hlen : kz.length = vs.length) (h2 : 2 ≤ kz.length) (h64 : kz.length < 64) (hr : runC kz.length (fun i j => decide (kz.getD i 0 < kz.getD j 0)) (kas_sort kz.length) = some p)
    (hp : p.toList.Perm (List.range kz.length)) : SortsTo prog w kz vs fun keys arr => arr.map (·.2) = List.toArray (p.toList.map fun i => vs.getD i Value.none) := fun keys hk => by
  have hl : keys.toList.length = vs.length := hk.length.trans hlen
  refine ⟨fun h => by omega, fun _ A E s => ?_⟩
  have e : keys.toList.toArray = keys := Array.toArray_toList
  have hz : (keys.zip vs.toArray).size = vs.length := by simp at hl; simp [hl]
  have run := runC_wp (prog := prog) (w := w) (A := A) hk (kas_sort kz.length) p s hr
  rw [hlen] at run
  have := kat_run (E := E) (s := s) (ks := keys.toList) (vs := vs) (prog := prog) (w := w) (A := A) (κ := oneType') (Q := fun st' s' => s' = s ∧ ((arrOf st').Perm (keys.zip vs.toArray) ∧ failedOf st' = none ∧ (arrOf st').map (·.2) = List.toArray (p.toList.map fun i => vs.getD i Value.none))) hl (by omega) (by omega)
    (fun p' st' s' h1 h3 h4 h5 => ⟨h5.1, by
      obtain ⟨_, rfl⟩ := h5
      refine ⟨?_, h4, kat_snds hl h3⟩
      rw [h3, e]
      have e2 := kas_range (keys.zip vs.toArray)
      rw [hz, ← hlen] at e2
      have e3 : (keys.zip vs.toArray).toList = (List.range kz.length).map (kas_item (keys.zip vs.toArray)) := by
        conv => lhs; rw [← e2]
        rw [Array.toList_map]
      refine Array.perm_iff_toList_perm.mpr ?_
      rw [e3, Array.toList_map]
      exact hp.map _⟩) run
  rw [e] at this
  exact this
section
variable {prog : Program} {w : World} {A : Around} {E : Value → Shared → Prop} {s : Shared}
theorem ints_of_items {acc : Array Value} {n : Nat} (h : ItemsOf (fun i v => ∃ t, v = Value.int (0 + i * 1) t) acc n) : IntsAre acc.toList ((List.range n).map fun i : Nat => (i : Int)) := by
  obtain ⟨h1, h2⟩ := h
  have key : ∀ (l : List Value) (k : Nat), (∀ j v, l[j]? = some v → ∃ t, v = Value.int ((k + j : Nat) : Int) t) → IntsAre l ((List.range' k l.length).map fun i : Nat => (i : Int)) := by
    intro l
    induction l with
    | nil => intro k _; exact .nil
    | cons a l ih =>
      intro k hh
      obtain ⟨t, e⟩ := hh 0 a rfl
      subst e
      rw [List.length_cons, List.range'_succ, List.map_cons]
      refine .cons _ _ (ih (k + 1) fun j v e => ?_)
      obtain ⟨t, e'⟩ := hh (j + 1) v (by simpa using e)
      exact ⟨t, by rw [e']; congr 1; omega⟩
  have hl : acc.toList.length = n := by simp [h1]
  have := key acc.toList 0 fun j v e => by
    obtain ⟨t, e'⟩ := h2 j v (by simpa using e)
    exact ⟨t, by rw [e']; congr 1; omega⟩
  rw [hl] at this
  rw [List.range_eq_range']; exact this
theorem collect_range {r : Addr} {n : Nat} {t u v : Tok} (hh : A.handled = none) (hr : IsRange s.heap r 0 n 1 t u v) (hlen : n ≤ 64) :
    wpAny (model prog w) A (collect (.ref r)) (fun vs s1 => IntsAre vs ((List.range n).map fun i : Nat => (i : Int)) ∧ ∃ h1 t1, s1 = { s with heap := h1, toks := t1 } ∧ Ext s.heap h1 ∧ s.heap.objs.size ≤ h1.objs.size) E s := by
  have hn : Builtin.Range.rangeSize 0 n 1 = n := by
    have : ∀ k : Nat, k ≤ 64 → Builtin.Range.rangeSize 0 k 1 = k := by decide +kernel
    exact this n hlen
  have hsm : Builtin.Range.small 0 n 1 = true := by
    have : ∀ k : Nat, k ≤ 64 → Builtin.Range.small 0 k 1 = true := by decide +kernel
    exact this n hlen
  unfold collect
  refine wpAny_bind (wpAny_runValue (codeAny_builtin F.entry_proto_collect ?_))
  rw [Around.under_plainId F.plain_proto_collect _]
  show wpAny _ A.in1 (newList [] >>= fun l => again (.builtin "list.__iadd__" ⟨[l, .ref r], []⟩)) _ _ s
  refine wpAny_bind (wpAny_newObj_type ?_)
  refine wpAny_pure ⟨plainId_quiet F.plain_list_iadd _, codeAny_builtin F.entry_list_iadd ?_⟩
  rw [Around.under_plainId F.plain_list_iadd _]
  show wpAny _ A.in1 (Builtin.List.listExtendWith (.ref s.heap.objs.size) (.ref r) (.ref s.heap.objs.size)) _ _ _
  have hS : (s.heap.push { cls := .type "list", data := .seq ([] : List Value).toArray }).get? s.heap.objs.size = some { cls := .type "list", data := .seq #[] } := Heap.get?_push_size _ rfl
  let Post : Shared → Prop := fun s' => ∃ h' tk acc' c', s' = { s with heap := h', toks := tk } ∧ (∀ b o, s.heap.get? b = some o → h'.get? b = some o) ∧ h'.get? s.heap.objs.size = some { cls := .type "list", dict := none, data := .seq acc' c', slots := #[] } ∧ ItemsOf (fun i v => ∃ t, v = Value.int (0 + i * 1) t) acc' n
  have post : ∀ s', Post s' → wpAny (model prog w) A (do
      let o ← load s.heap.objs.size
      match o.data with
      | .seq xs _ => pure xs.toList
      | _ => unsupported "internal:collect") (fun vs s1 => IntsAre vs ((List.range n).map fun i : Nat => (i : Int)) ∧ ∃ h1 t1, s1 = { s with heap := h1, toks := t1 } ∧ Ext s.heap h1 ∧ s.heap.objs.size ≤ h1.objs.size) E s' := by
    rintro s' ⟨h', tk, acc', c', rfl, hk, hS', hacc⟩
    refine wpAny_bind (wpAny_load hS' ?_)
    exact wpAny_pure ⟨ints_of_items hacc, _, _, rfl, hk, Nat.le_of_lt (Heap.lt_size hS')⟩
  refine wpAny_mono (wpAny_extend_range (prog := prog) (w := w) (A := A) (R := fun r s' => r = .ok (.ret (.ref s.heap.objs.size)) ∧ Post s') (s := { s with heap := s.heap.push { cls := .type "list", data := .seq ([] : List Value).toArray } }) hh (Heap.get?_push_of_some _ hr) hsm hn (by omega) _ _ _ hS fun h' tk acc' c' hk hS' hacc => ⟨rfl, h', tk, acc', c', rfl, fun b o e => hk b o (Nat.ne_of_lt (Heap.lt_size e)) (Heap.get?_push_of_some _ e), hS', hacc⟩) (fun fin s' h => ?_) (fun e s' h => ?_)
  · cases fin with
    | done f =>
      obtain ⟨e, p⟩ := h
      cases e
      exact post s' p
    | again c' =>
      refine ⟨h.1, codeAny_mono h.2 fun r s'' hr => ?_⟩
      obtain ⟨e, p⟩ := hr
      subst e
      exact post s'' p
  · exact absurd h.1 (by intro q; cases q)
end
end Mine
end
section
open PySem PySem.W PyProof.Rows PySem.Spec
set_option Elab.async false
set_option linter.all false
set_option maxRecDepth 100000
set_option maxHeartbeats 4000000
namespace Mine
section
variable {prog : Program} {w : World} {A : Around} {E : Value → Shared → Prop} {s : Shared} {kz : List Int} {R : List Value → Array Value → Array Keyed → Prop}
theorem skx_sortedR {r q : Addr} {n : Nat} {t u v : Tok} {Q : Value → Shared → Prop} (hh : A.in1.handled = none) (hr : IsRange s.heap r 0 n 1 t u v) (hlen : kz.length = n) (h64 : n < 64)
    (hS : ∀ vs, IntsAre vs ((List.range n).map fun i : Nat => (i : Int)) → SortsTo prog w kz vs (R vs))
    (turn : ∀ (i : Nat) (v : Value) (k : Int) (t : Tok), v = .int (i : Int) t → kz[i]? = some k → ∀ (h : Heap) (tk : Nat), Ext s.heap h →
      wpAny (model prog w) A.in1.in1 (call (.ref q) [v]) (fun u s' => Step { s with heap := h, toks := tk } s' ∧ ∃ t, u = .int k t) No { s with heap := h, toks := tk })
    (h : ∀ vs, IntsAre vs ((List.range n).map fun i : Nat => (i : Int)) → ∀ D h' tk keys arr c, Ext s.heap h' → s.heap.get? D = none → h'.get? D = some (seqObj "list" (arr.map (·.2)) c) → IntsAre keys.toList kz → R vs keys arr → Q (.ref D) { s with heap := h', toks := tk }) :
    wpAny (model prog w) A (call (.builtin "sorted") [.ref r] [(Str.ofString "key", .ref q)]) Q E s := by
  refine call_function_entry_kw kind_sorted plain_sorted entry_sorted (ksk_s1 _ _) ?_
  unfold Builtin.«sorted»
  refine wpAny_bind (m := checkCount "sorted" 1 1 _) (wpAny_pure ?_)
  refine wpAny_bind (wpAny_mono (collect_range (E := fun _ _ => False) hh hr (Nat.le_of_lt h64)) (fun vs s₁ hv => ?_) fun _ _ e => e.elim)
  obtain ⟨hvs, h1, t1, rfl, x1, hsz⟩ := hv
  have hvl : vs.length = n := by rw [hvs.length]; simp
  refine wpAny_bind (wpAny_newList ?_ (by rw [hvl, sizeLine_eq]; omega))
  have hoL : (h1.push (seqObj "list" vs.toArray 0)).get? h1.objs.size = some (seqObj "list" vs.toArray 0) := Heap.get?_push_size _ rfl
  have keep : Ext s.heap (h1.push (seqObj "list" vs.toArray 0)) := x1.trans (ext_push _)
  show wpAny _ _ _ _ _ { s with heap := h1.push (seqObj "list" vs.toArray 0), toks := t1 }
  have fresh : ∀ b : Nat, s.heap.objs.size ≤ b → s.heap.get? b = none := fun b hb => Heap.get?_none_of_le hb
  refine wpAny_bind (wpAny_holding (wpAny_call_entry_kw slot_list_sort ⟨_, hoL, rfl⟩ entry_list_sort ?body (ksk_l1 _ _)))
  case body =>
    show wpAny (model prog w) A.in1.in1 (Builtin.«list.sort» ⟨[.ref h1.objs.size], [(Str.ofString "key", .ref q)]⟩) _ _ _
    rw [ksk_t1]
    generalize hH : h1.push (seqObj "list" vs.toArray 0) = H at hoL keep
    generalize ha : h1.objs.size = a at hoL hsz
    have ha1 : s.heap.get? a = none := fresh a hsz
    have s1 := Heap.SameBut.update H a (Obj.mapSeq fun _ => (#[] : Array Value))
    obtain ⟨e1, ho1⟩ : ∃ e1, (H.update a (Obj.mapSeq fun _ => (#[] : Array Value))).get? a = some (seqObj "list" #[] e1) := ⟨_, get?_update_seq hoL fun _ => #[]⟩
    have x1 : Ext s.heap (H.update a (Obj.mapSeq fun _ => (#[] : Array Value))) := ext_turn keep ha1
    have haH : a < H.objs.size := Heap.lt_size hoL
    have hkS : ((H.update a (Obj.mapSeq fun _ => (#[] : Array Value))).push (seqObj "tuple" vs.toArray 0)).objs.size = H.objs.size + 1 := by rw [size_push', Heap.size_update]
    unfold ksk_tree
    refine wpAny_bind (listItems_at hoL rfl ?_)
    refine wpAny_bind (listUpdate_at hoL rfl ?_ (by rw [List.size_toArray, sizeLine_eq]; omega) (Nat.zero_le _))
    refine wpAny_bind (seqEpoch_at ho1 rfl ?_)
    refine wpAny_bind (wpAny_newTuple ?_ (by show vs.length ≤ _; rw [sizeLine_eq]; omega))
    refine wpAny_bind (wpAny_newList ?_ (Nat.zero_le _))
    refine wpAny_holding ?_
    have hHs : s.heap.objs.size ≤ H.objs.size := Nat.le_trans hsz (Nat.le_of_lt haH)
    refine skx_rest (kz := kz) (R := R vs) (h0 := s.heap) (s := { s with heap := ((H.update a (Obj.mapSeq fun _ => (#[] : Array Value))).push (seqObj "tuple" vs.toArray 0)).push (seqObj "list" #[] 0), toks := t1 }) (kS := ((H.update a (Obj.mapSeq fun _ => (#[] : Array Value))).push (seqObj "tuple" vs.toArray 0)).objs.size)
      (fun b o e => Heap.get?_push_of_some _ (Heap.get?_push_of_some _ (x1 b o e))) (Heap.get?_push_size _ rfl) (Heap.get?_push_of_some _ (Heap.get?_push_of_some _ ho1)) (by rw [hkS]; exact Nat.ne_of_gt (Nat.lt_succ_of_lt haH)) (fresh _ (by rw [hkS]; exact Nat.le_succ_of_le hHs)) ha1 (hlen.trans hvl.symm) (by omega) (hS vs hvs)
      (fun i v k hv hk h tk hx => ?_)
      fun h' tk keys arr c a1 a2 a3 a4 => ⟨_, rfl, wpAny_pure ⟨_, rfl, h vs hvs a h' tk keys arr c a1 ha1 a2 a3 a4⟩⟩
    have hi : i < n := by rw [← hvl]; exact (List.getElem?_eq_some_iff.mp hv).1
    obtain ⟨t, ht⟩ := hvs.get i (i : Int) (by rw [List.getElem?_map, List.getElem?_range hi]; rfl)
    rw [hv] at ht
    exact turn i v k t (Option.some.inj ht) hk h tk hx
end
noncomputable def lamChk1 (scope : Scope) (fn : Str) : Bool := scope.names.all (fun q => q.2 != .free || q.1 == fn) && scope.names.lookup fn == some .free
section
variable {f : Fx} {hz : Heap} {bad : List Addr} {led : List Res} {vs : List Slot} {P : Addr}
theorem Ok.cellAt {s : Shared} {x : Sx} (O : Ok f x s) {n : Str} {d : PyData} (a : At f.nm x.vs n (.val d)) (hk : f.env.kindOf n = some .cell) : ∃ c v, f.env.cells.lookup n = some c ∧ s.heap.IsCell c (some v) ∧ Rd (hideAll s.heap x.bad) v d := by
  obtain ⟨m, _, hv⟩ := O.vars
  obtain ⟨i, e1, e2⟩ := a.get
  obtain ⟨v, hl, r⟩ := hv i n _ e1 e2
  rcases hl with ⟨q, _⟩ | ⟨_, c, hc, hi⟩
  · rw [hk] at q; cases q
  · exact ⟨c, v, hc, hi, r⟩
theorem EvG.sortKeyR {x rn : Str} {xp rp pr : Pos} {en lbody : Expr} {params : Arguments} {scope : Scope} {lp kp pos : Pos} {c : Addr} {p fn : Str} {gl : List Str} {m : Nat} {dF : PyData} {g : Nat → Int} {n : Nat} {pm : Array Nat}
    (hc : EvP f ⟨hz, bad, .prd [P] (T0 P) :: led, vs⟩ (.Name x xp) fun _ u => u = .builtin "sorted") (h1 : EvR f ⟨hz, bad, .prd [P] (T0 P) :: led, vs⟩ (.Call (.Name rn rp) [en] [] pr) 0 (m : Int) 1)
    (hcode : f.env.code = .ref c) (hK : codeHdIn f.W.K c P = true) (hdef : defaultsOf params f.env = ([], [])) (hbt : ∃ bm o, f.W.mg "__builtins__" = some (.ref bm) ∧ bm ≠ builtinsNs ∧ f.base.heap.get? bm = some o ∧ o.cls = .type "module" ∧ o.dict = some builtinsNs ∧ o.data = .plain)
    (hk : lamChk scope p gl = true) (hfr : lamChk1 scope fn = true) (hat : At f.nm vs fn (.val dF)) (hcell : f.env.kindOf fn = some .cell) (hbind : ∀ qual cl pm ct cd v, bindArgs (kla_fn "<lambda>" qual params lbody scope cl pm cd ct) ⟨[v], []⟩ = pure [(p, v)]) (h2 : 2 ≤ m) (h64 : m < 64) (hn : n + 3 ≤ f.rm)
    (hrun : runC m (fun i j => decide (((List.range m).map g).getD i 0 < ((List.range m).map g).getD j 0)) (kas_sort m) = some pm) (hpm : pm.toList.Perm (List.range m))
    (hbody : ∀ i : Nat, i < m → ∀ A qual L a c' cl base hz bad cb cc v, cl.lookup fn = some cc → base.heap.IsCell cc (some v) → Rd hz v dF → EvP (lamF f.W A n qual scope L a c' cl base [p] gl cb) ⟨hz, bad, [], [.val (nt i)]⟩ lbody fun _ u => ∃ t, u = .int (g i) t)
    (he : starEach [.Call (.Name rn rp) [en] [] pr] f.env = [(false, eval (.Call (.Name rn rp) [en] [] pr) f.env)] := by exact rfl) (hkw : eval (.Call (.Name x xp) [.Call (.Name rn rp) [en] [] pr] [⟨some (Str.ofString "key"), .Lambda params lbody scope lp, kp⟩] pos) f.env = (do let u ← eval (.Name x xp) f.env; callWith pos u [] (backTo pos (starEach [.Call (.Name rn rp) [en] [] pr] f.env)) (backToKw pos (keywordEach [⟨some (Str.ofString "key"), .Lambda params lbody scope lp, kp⟩] f.env))) := by exact rfl) :
    EvG f hz bad led vs P (.Call (.Name x xp) [.Call (.Name rn rp) [en] [] pr] [⟨some (Str.ofString "key"), .Lambda params lbody scope lp, kp⟩] pos) fun h v => ∃ d, d = .list (pm.toList.map nt) ∧ Rd (hideAll h bad) v d := .bx fun s O => by
  rw [hkw]
  refine wpAny_bind (wpN (hc.run s O) fun u s₁ ⟨k1, e1⟩ => ?_)
  subst e1
  have O₁ := O.step k1
  have hL := lamChk_iff hk
  refine callWith_kw ?_ (by rw [he]; rfl) (by rw [he]; rfl)
  rw [he]
  show wpAny f.W.M f.A (spliced [(false, eval (.Call (.Name rn rp) [en] [] pr) f.env)]) _ No s₁
  refine PySem.Calls.spliced_cons (wpAny_mono (h1.run s₁ O₁) (fun v s₂ hrr => ?_) fun _ _ e => e)
  refine PySem.Calls.spliced_nil ?_
  obtain ⟨k2, l, tt, tu, tv, rfl, hl⟩ := hrr
  have O₂ := O₁.step k2
  have W₂ := O₂.wok.ext O₂.same.ext
  have hP : s₂.heap.get? P = some (tabObj #[]) := (O₂.led _ (.head _)).1.1
  have hPb : P ∈ bad := ((O₂.led _ (.head _)).2 P (.head _)).1
  obtain ⟨bm, ob, b1, b2, b3, b4, b5, b6⟩ := hbt
  have b3' := O₂.same.ext _ _ b3
  have hgP : mainGlobals ≠ P := fun q => by
    obtain ⟨o, es, ep, e, hd, _⟩ := W₂.g
    rw [q, hP] at e; cases e; cases hd
  have hbP : bm ≠ P := fun q => by
    rw [q, hP] at b3'; cases b3'; cases b4
  have hbG : bm ≠ mainGlobals := fun q => by
    obtain ⟨o, es, ep, e, hd, _⟩ := W₂.g
    rw [q, e] at b3'; cases b3'; rw [hd] at b6; cases b6
  unfold lamChk1 at hfr
  rw [Bool.and_eq_true, beq_iff_eq] at hfr
  obtain ⟨hfr1, hfr2⟩ := hfr
  have hfree : ∀ q, (q, NameKind.free) ∈ scope.names → q = fn := fun q hq => by
    have := List.all_eq_true.mp hfr1 _ hq
    simpa using this
  obtain ⟨cc0, v0, hcc, _, _⟩ := O₂.cellAt hat hcell
  obtain ⟨cl, hcl, hcl1, hcl0⟩ := closure_ok (scope := scope) (env := f.env) (fun q hq => by rw [hfree q hq, hcc]; rfl)
  have hclf : cl.lookup fn = some cc0 := (hcl1 fn (mem_lookup hfr2)).trans hcc
  have hclO : ∀ q c, cl.lookup q = some c → q = fn ∧ c = cc0 := fun q c e => by
    by_cases hq : (q, NameKind.free) ∈ scope.names
    · have := hfree q hq
      subst this
      rw [hclf] at e; exact ⟨rfl, (Option.some.inj e).symm⟩
    · rw [hcl0 q hq] at e; cases e
  refine kws_cons (kla_eval hdef (kla_makeFunction hcl O.glo W₂.g hcode (codeHd_of_K W₂.k hK) hP trivial rfl hgP ⟨bm, ob, b1, b2, hbG, hbP, b3', b4, b5, b6⟩ fun c' ctv h' tk hx hge hlt hrec htb => ?_))
  refine kws_nil ?_
  show wpAny f.W.M f.A (PySem.call (.builtin "sorted") [.ref l] [(Str.ofString "key", .ref h'.objs.size)]) _ No _
  generalize hfo : kla_obj "<lambda>" (f.env.qual ++ "<lambda>") params lbody scope cl ((f.W.mg "__name__").getD .none) c' ctv = fo
  have e0 : (h'.push fo).get? h'.objs.size = some (kla_obj "<lambda>" (f.env.qual ++ "<lambda>") params lbody scope cl ((f.W.mg "__name__").getD .none) c' ctv) := by rw [← hfo]; exact Heap.get?_push_size _ rfl
  have xP : ∀ b o, b ∉ [P] → s₂.heap.get? b = some o → (h'.push fo).get? b = some o := fun b o hb e => Heap.get?_push_of_some _ (hx b o (fun q => hb (q ▸ .head _)) e)
  have O₃ : Ok f ⟨hz, bad, .prd [P] (TG P) :: led, vs⟩ { s₂ with heap := h'.push fo, toks := tk } := O₂.prd (P' := TG P) xP (fun b hb => by
      cases hb with
      | head => exact ⟨_, Heap.get?_push_of_some _ htb⟩
      | tail _ h => cases h) ⟨_, Heap.get?_push_of_some _ htb⟩ tg_frame
  have hlP : l ≠ P := fun q => by
    have hl' : s₂.heap.get? l = some _ := hl
    rw [q, hP] at hl'; cases hl'
  have hl₃ : IsRange (h'.push fo) l 0 m 1 tt tu tv := xP _ _ (fun q => hlP (List.mem_singleton.mp q)) hl
  refine skx_sortedR (kz := (List.range m).map g) (R := fun vs keys arr => arr.map (·.2) = List.toArray (pm.toList.map fun i => vs.getD i Value.none)) (s := { s₂ with heap := h'.push fo, toks := tk }) O₂.room.hd hl₃ (by simp) h64 (fun vs hvs => sorts_run (by rw [hvs.length]; simp) (by simpa using h2) (by simpa using h64) (by simpa using hrun) (by simpa using hpm)) (fun i v k t hv hkz h₄ tk₄ x₄ => ?_) fun ws hws D h₅ tk₅ keys arr cD x₅ nD hD hki hR => ?_
  · have hi : i < m := by
      have := (List.getElem?_eq_some_iff.mp hkz).1
      simpa using this
    have hkd : k = g i := by
      rw [List.getElem?_map, List.getElem?_range hi] at hkz
      exact (Option.some.inj hkz).symm
    subst hkd hv
    have O₄ : Ok f ⟨hz, bad, .prd [P] (TG P) :: led, vs⟩ { s₂ with heap := h₄, toks := tk₄ } := O₃.step (.mk' x₄)
    have hroom : Room f.A.in1.in1 (n + 1) := (O₃.room.le hn).in1.in1
    obtain ⟨cc, vF, hcc', hic, hrd⟩ := O₄.cellAt hat hcell
    obtain rfl : cc0 = cc := by rw [hcc] at hcc'; exact Option.some.inj hcc'
    obtain ⟨hcb, _, ov, hov⟩ := O₄.cell fn cc0 hcc
    refine lam_call (s := { s₂ with heap := h₄, toks := tk₄ }) (bad := bad) (R := fun u => ∃ t, u = .int (g i) t) hroom (O₄.wok.ext O₄.same.ext) O₄.live (x₄ _ _ e0) ?_ hL (fun cd v => hbind _ _ _ _ _ _) (fun q c hq => ?_) (fun q q' c h1 h2 => (hclO q c h1).1.trans (hclO q' c h2).1.symm) (.int _ _) fun L bad' => hbody i hi _ _ _ _ _ _ _ _ _ _ _ _ hclf hic hrd
    · exact (hrec.keeps fun b o e => Heap.get?_push_of_some _ e).keeps x₄
    · obtain ⟨rfl, rfl⟩ := hclO q c hq
      exact ⟨mem_lookup hfr2, hcb, ov, hov⟩
  · have O₅ : Ok f ⟨hz, bad, .prd [P] (TG P) :: led, vs⟩ { s₂ with heap := h₅, toks := tk₅ } := O₃.step (.mk' x₅)
    refine ⟨O₅, _, rfl, ?_⟩
    have hi : IntsAre (pm.toList.map fun i => ws.getD i Value.none) (pm.toList.map fun i : Nat => (i : Int)) := by
      have hlt : ∀ i ∈ pm.toList, i < m := fun i h => List.mem_range.mp (hpm.mem_iff.mp h)
      revert hlt
      generalize pm.toList = l
      intro hlt
      induction l with
      | nil => exact .nil
      | cons a l ih =>
        obtain ⟨t, ht⟩ := ints_getD hws (i := a) (by simpa using hlt a (.head _))
        rw [List.map_cons, List.map_cons, ht]
        have e : ((List.range m).map fun i : Nat => (i : Int)).getD a 0 = (a : Int) := by
          rw [List.getD_eq_getElem?_getD, List.getElem?_map, List.getElem?_range (hlt a (.head _))]; rfl
        rw [e]
        exact .cons _ _ (ih fun i h => hlt i (.tail _ h))
    have hrd : RdAll (hideAll h₅ bad) (pm.toList.map fun i => ws.getD i Value.none) (pm.toList.map nt) := by
      have := RdAll.of_ints (h := hideAll h₅ bad) hi
      rw [List.map_map] at this
      exact this
    refine .list (vs := pm.toList.map fun i => ws.getD i Value.none) (n := cD) (hid_iff.mpr ⟨?_, fun q => ?_⟩) hrd
    · rw [hD, hR]
    · obtain ⟨o, e⟩ := O₅.live D q
      obtain ⟨o', e'⟩ := O₃.live D q
      rw [nD] at e'; cases e'
end
end Mine
end
section
open PySem PySem.W PyProof.Rows PySem.Spec
set_option Elab.async false
set_option linter.all false
set_option maxRecDepth 100000
namespace Mine
open PySem.StrLaws PySem.Builtin PySem.Builtin.Str
noncomputable def undot (l : List Nat) : List Nat := l.dropWhile (· == 46)
theorem drop_tw {α : Type} (p : α → Bool) : ∀ l : List α, l.drop (l.takeWhile p).length = l.dropWhile p
  | [] => rfl
  | a :: r => by
    rw [List.takeWhile_cons, List.dropWhile_cons]
    by_cases h : p a = true
    · rw [if_pos h, if_pos h]; exact drop_tw p r
    · rw [if_neg h, if_neg h]; rfl
theorem contains46 : (fun c => (S [46]).cps.contains c) = fun c : Nat => c == 46 := by
  funext c
  show ([46].toArray).contains c = (c == 46)
  rw [List.contains_toArray]
  simp only [List.contains_cons, List.contains_nil, Bool.or_false]
variable {f : Fx} {x : Sx}
end Mine
end
section
open PySem PySem.W PyProof.Rows PySem.Spec
set_option Elab.async false
set_option linter.all false
set_option maxRecDepth 100000
set_option maxHeartbeats 1000000
namespace Mine
noncomputable def relab (scope sc : Scope) : Scope := { scope with names := scope.names.map fun p => if (p.2 == .free && sc.kind == .function && sc.names.lookup p.1 == some .cell) then (p.1, .cell) else p }
section
variable {f : Fx} {x : Sx}
theorem Ev.comp2 {scope0 : Scope} {C0 : Addr} {cs0 : List (Str × Addr)} {base0 : Shared} {nm0 gl0 sto0 : List Str} {cb0 : List Addr} {elt tgt iter : Expr} {ifs : List Expr} {scope : Scope} {k : ScopeKind} {names : List (Str × NameKind)} {g1 g2 : Bool} {more : List (Str × Const)} {pos : Pos} {α : Type} {xs : List α} {di g : α → PyData} {p : α → Bool} {own fr gl ns nm : List Str} {slots vs₀ : List Slot}
    (hI : Iter (compF f scope0 C0 cs0 base0 nm0 gl0 sto0 cb0) x tgt iter (xs.map di)) (hsc : f.env.scope = ⟨k, names, g1, g2, more⟩) (hc : compChk scope (relab scope0 ⟨k, names, g1, g2, more⟩) own fr gl = true) (ats : Ats nm0 x.vs fr slots) (hnm : nm = own ++ fr) (hvs : vs₀ = own.map (fun _ => Slot.no) ++ slots)
    (hns : ∀ n ∈ ns, n ∈ own) (hsz : xs.length ≤ sizeLine)
    (turn : ∀ a ∈ xs, ∀ C cs base hz bad led, ∃ vs', Tgt nm vs₀ tgt (di a) ns vs' ∧ Forget vs' vs₀ ∧ Ifs (compF (compF f scope0 C0 cs0 base0 nm0 gl0 sto0 cb0) scope C cs base nm gl own x.bad) ⟨hz, bad, led, vs'⟩ ifs (p a) ∧
      (p a = true → Ev (compF (compF f scope0 C0 cs0 base0 nm0 gl0 sto0 cb0) scope C cs base nm gl own x.bad) ⟨hz, bad, led, vs'⟩ elt (g a)))
    (hs : ∀ v, foldedSetIterable iter (compF f scope0 C0 cs0 base0 nm0 gl0 sto0 cb0).env v = pure v := by intro _; rfl) : Ev (compF f scope0 C0 cs0 base0 nm0 gl0 sto0 cb0) x (.ListComp elt [⟨tgt, iter, ifs, 0⟩] scope pos) (.list ((xs.filter p).map g)) :=
  have H := compChk_iff hc
  have hsc' : (compF f scope0 C0 cs0 base0 nm0 gl0 sto0 cb0).env.scope = relab scope0 ⟨k, names, g1, g2, more⟩ := by rw [← hsc]; rfl
  (EvN.comp (CompR.one hI hsc' H ats hnm hvs hns hsz turn) H.k1 H.nd hs rfl).ev
end
theorem RdAll.bools {h : Heap} : ∀ {bs : List Bool} {vs : List Value}, RdAll h vs (bs.map .bool) → LSm.BoolsAre vs bs
  | [], vs, r => by rw [r.nil_inv]; exact .nil
  | b :: bs, vs, r => by
    obtain ⟨v, r', rfl, r1, r2⟩ := r.cons_inv
    rw [r1.bool_inv]; exact .cons b (RdAll.bools r2)
section
variable {W : Wd} {n : Nat}
theorem Fn.all {bs : List Bool} : Fn W (.builtin "all") n [.list (bs.map .bool)] (.bool (bs.all id)) := fun A s bad vs hA w hb r => by
  obtain ⟨v, _, rfl, r, r'⟩ := r.cons_inv; rw [r'.nil_inv]
  obtain ⟨l, vs, k, rfl, p, q⟩ := r.list_inv
  have hbs := RdAll.bools q
  have hl : s.heap.IsList l vs.toArray := PL.isList (hid_iff.mp p).1
  have hlt : l < s.heap.objs.size := by obtain ⟨_, e, _⟩ := hl; exact Heap.lt_size e
  refine call_all_walk (wpAny_pyIter_list hl ?_)
  refine ⟨s.heap.objs.size, [s.heap.objs.size, l], [s.heap.objs.size], vs.toArray.size, _, _, fun i => (bs[i]?).getD true, rfl, Walks.list (A := A.in1) hA.hd _ l (Nat.ne_of_lt hlt) vs.toArray,
    ⟨⟨_, Heap.get?_push_size _ rfl, rfl, rfl⟩, hl.push _⟩, fun i v s' Q' E' hP hQ => ?_, fun h' tk hk => ?_⟩
  · obtain ⟨b, e, rfl⟩ := hbs.get i v (by simpa using hP)
    simp only [e, Option.getD_some] at hQ
    exact wpAny_truthy_bool hQ
  · have e : ((List.range vs.toArray.size).all fun i => (bs[i]?).getD true) = bs.all id := by
      rw [List.size_toArray, hbs.length]; exact LSm.range_all bs
    rw [e]
    exact ⟨.mk' (LSm.kept_iter hk), .bool _⟩
end
section
variable {f : Fx} {x : Sx}
theorem listRecv {h : Heap} {bad : List Addr} {v : Value} {ds : List PyData} (r : Rd (hideAll h bad) v (.list ds)) : Recv "list" h v := by
  obtain ⟨a, vs, n, rfl, p, _⟩ := r.list_inv
  have e := (hid_iff.mp p).1
  exact ⟨fun s hs => ⟨_, by rw [hs]; exact e, rfl⟩, fun b q => by cases q; exact ⟨_, e, rfl⟩⟩
theorem Ev.index {o e : Expr} {apos pos} {ns : List Int} {k : Int} {j : Nat} (h0 : Ev f x o (.list (ns.map .int))) (h1 : Ev f x e (.int k)) (hj : ns[j]? = some k) (hno : ∀ i y, i < j → ns[i]? = some y → y ≠ k) (hn : ns.length ≤ sizeLine)
    (hbase : attributeBase o (Str.ofString "index") f.env (eval o f.env) = eval o f.env := by exact rfl) (hline : (apos.endLine == pos.line) = true := by exact rfl)
    (hfew : ((backTo pos (starEach [e] f.env)).all (fun x => !x.1) && (backToKw pos (keywordEach [] f.env)).all (fun x => x.1.isSome)
      && decide (([e] : List Expr).length + ([] : List Keyword).length + (if ([] : List Keyword).isEmpty then 0 else 1) < 30)) = true := by exact rfl)
    (he : starEach [e] f.env = (false, eval e f.env) :: starEach [] f.env := by exact rfl) :
    Ev f x (.Call (.Attribute o (Str.ofString "index") apos) [e] [] pos) (nt j) :=
  EvP.meth (ds := [.int k]) (T := "list") (id := "list.index") (P0 := fun h v => Rd (hideAll h x.bad) v (.list (ns.map .int))) h0 PySem.F.plainAttrs_list PySem.F.slot_list_index PySem.F.type_list_index (fun h v r => listRecv r) (fun h h' v r k => r.ext (hid_ext k)) (.cons h1 .nil he)
    (fun s v vs O r rr => by
      obtain ⟨v', _, rfl, r1, r2⟩ := rr.cons_inv; rw [r2.nil_inv]
      obtain ⟨t, rfl⟩ := r1.int_inv
      obtain ⟨l, ws, n, rfl, p, q⟩ := r.list_inv
      have hi := q.ints
      have p' := (hid_iff.mp p).1
      have hl := hi.length
      have hjl : j < ns.length := (List.getElem?_eq_some_iff.mp hj).1
      have at_ : ∀ (i : Nat) (y : Int), ns[i]? = some y → ∃ t, ws[i]? = some (.int y t) := fun i y e => hi.get i y e
      have eqg : ∀ y, y ∈ ws.toArray → MeetsSeq.EqGives y (.int k t) (isInt k y) := fun y hy => by
        obtain ⟨i, hi1, hi2⟩ := List.getElem_of_mem (show y ∈ ws by simpa using hy)
        obtain ⟨u, hu⟩ := at_ i (ns[i]'(by omega)) (List.getElem?_eq_getElem (by omega))
        rw [List.getElem?_eq_getElem hi1, hi2] at hu
        cases hu
        exact MeetsSeq.EqGives.int _ k u t
      have sz : sizeLine = 16777216 := by decide
      refine call_meets PySem.F.slot_list_index ⟨_, p', rfl⟩ PySem.F.entry_list_index (PySem.F.args_list_index_2 _ _)
        (MeetsSeq.list_index l ws.toArray n (.int k t) (isInt k) eqg j (by rw [List.size_toArray]; omega) (by omega) ?_ (fun m hm hlt => ?_)) ⟨p', .tok, .int _ _⟩
      · obtain ⟨u, hu⟩ := at_ j k hj
        have : ws.toArray[j]'(by rw [List.size_toArray]; omega) = .int k u := by
          rw [List.getElem?_eq_getElem (by omega)] at hu
          simpa using hu
        rw [this]; simp [isInt]
      · have hm' : m < ns.length := by rw [List.size_toArray] at hm; omega
        obtain ⟨u, hu⟩ := at_ m _ (List.getElem?_eq_getElem hm')
        have : ws.toArray[m] = .int ns[m] u := by
          rw [List.getElem?_eq_getElem (by omega)] at hu
          simpa using hu
        have hne := hno m _ hlt (List.getElem?_eq_getElem hm')
        rw [this]; simp [isInt, hne]) hbase hfew hline he rfl
end
open PySem.StrLaws PySem.Builtin PySem.Builtin.Str
noncomputable def bare (l : List Nat) : List Nat := (Txt.stripChars (S l) (S [46])).cps.toList
theorem tw_lt {α : Type} (p : α → Bool) (c : α) (hc : p c = false) : ∀ l : List α, ((l ++ [c]).takeWhile p).length ≤ l.length
  | [] => by rw [List.nil_append, List.takeWhile_cons, hc]; simp
  | a :: r => by
    rw [List.cons_append, List.takeWhile_cons]
    split
    · have := tw_lt p c hc r; rw [List.length_cons, List.length_cons]; omega
    · exact Nat.zero_le _
theorem bare_eq (l : List Nat) : bare l = (undot l).take ((undot l).length - ((undot l).reverse.takeWhile (· == 46)).length) := by
  unfold bare
  have e : Txt.stripChars (S l) (S [46]) = Txt.stripBy (fun c => (S [46]).cps.contains c) true true (S l) := rfl
  have hu : l.drop (l.takeWhile (· == 46)).length = undot l := drop_tw _ l
  rw [e, contains46, PyProof.Rows.stripBy_eq]
  have h1 : stripLo (fun c : Nat => c == 46) true (S l) = (l.takeWhile (· == 46)).length := by
    simp only [stripLo, if_true]; rw [S_toList]
  have h2 : stripHi (fun c : Nat => c == 46) true (S l) ((l.takeWhile (· == 46)).length) = l.length - ((undot l).reverse.takeWhile (· == 46)).length := by
    simp only [stripHi, if_true]; rw [S_len, S_toList, hu]
  rw [h1, h2, strSub_toList, S_toList, hu]
  have h3 : (undot l).length = l.length - (l.takeWhile (· == 46)).length := by rw [← hu, List.length_drop]
  rw [h3]
  congr 1
  omega
theorem undot_all : ∀ {l : List Nat}, (∀ c ∈ l, c = 46) → undot l = []
  | [], _ => rfl
  | a :: r, h => by
    have := undot_all fun c hc => h c (.tail _ hc)
    unfold undot at this ⊢
    rw [List.dropWhile_cons, if_pos (by simpa using h a (.head _))]; exact this
theorem undot_some : ∀ {l : List Nat} {c : Nat}, c ∈ l → c ≠ 46 → ∃ a t, undot l = a :: t ∧ a ≠ 46
  | a :: r, c, hc, h => by
    by_cases q : a = 46
    · have : c ∈ r := by
        rcases List.mem_cons.mp hc with e | e
        · exact absurd (e.trans q) h
        · exact e
      obtain ⟨b, t, e, hb⟩ := undot_some this h
      refine ⟨b, t, ?_, hb⟩
      unfold undot at e ⊢
      rw [List.dropWhile_cons, if_pos (by simpa using q)]; exact e
    · exact ⟨a, r, by unfold undot; rw [List.dropWhile_cons, if_neg (by simpa using q)], q⟩
theorem bare_nil {l : List Nat} (h : ∀ c ∈ l, c = 46) : bare l = [] := by rw [bare_eq, undot_all h]; rfl
theorem bare_some {l : List Nat} {c : Nat} (hc : c ∈ l) (h : c ≠ 46) : bare l ≠ [] := by
  obtain ⟨a, t, e, ha⟩ := undot_some hc h
  rw [bare_eq, e, List.reverse_cons]
  have := tw_lt (fun c : Nat => c == 46) a (by simpa using ha) t.reverse
  intro q
  have := congrArg List.length q
  rw [List.length_take, List.length_cons, List.length_nil] at this
  rw [List.length_reverse] at *
  omega
section
variable {f : Fx} {x : Sx}
theorem Ev.strip {o e : Expr} {apos pos} {l : List Nat} (h0 : Ev f x o (st l)) (h1 : Ev f x e (st [46])) (hn : l.length ≤ sizeLine)
    (hbase : attributeBase o (Str.ofString "strip") f.env (eval o f.env) = eval o f.env := by exact rfl) (hline : (apos.endLine == pos.line) = true := by exact rfl)
    (hfew : ((backTo pos (starEach [e] f.env)).all (fun x => !x.1) && (backToKw pos (keywordEach [] f.env)).all (fun x => x.1.isSome)
      && decide (([e] : List Expr).length + ([] : List Keyword).length + (if ([] : List Keyword).isEmpty then 0 else 1) < 30)) = true := by exact rfl)
    (he : starEach [e] f.env = (false, eval e f.env) :: starEach [] f.env := by exact rfl) :
    Ev f x (.Call (.Attribute o (Str.ofString "strip") apos) [e] [] pos) (st (bare l)) :=
  EvP.meth (ds := [st [46]]) h0.toStr F.plainAttrs_str F.slot_str_strip F.type_str_strip (fun h v e => strRecv e) (fun _ _ _ b _ => b) (.cons h1 .nil he)
    (fun s v vs O ⟨t, ev⟩ r => by
      subst ev
      obtain ⟨v', _, rfl, r1, r2⟩ := r.cons_inv; rw [r2.nil_inv]
      obtain ⟨u, rfl⟩ := r1.str_inv
      refine SC.stripChars (fun t' k => ?_) (by rw [S_len]; exact hn)
      have e : Txt.stripChars (S l) (S [46]) = S (bare l) := (S_of _).symm
      rw [e]
      exact ⟨.tok, .str _ _⟩) hbase hfew hline he rfl
end
end Mine
end
section
open PySem PySem.W PyProof.Rows PySem.Spec
set_option Elab.async false
set_option linter.all false
set_option maxRecDepth 100000
namespace Mine
open PySem.StrLaws PySem.Builtin PySem.Builtin.Str
theorem at_crlf (x : List Nat) (k : Nat) : StrLaws.At (S x) (S CRLF) (S x).length k ↔ ∃ r, x.drop k = 13 :: 10 :: r := by
  unfold StrLaws.At
  rw [subAt_eq, S_toList, S_toList, S_len, S_len]
  constructor
  · rintro ⟨h1, h2⟩
    have h2' := eq_of_beq h2
    refine ⟨(x.drop k).drop 2, ?_⟩
    have := List.take_append_drop 2 (x.drop k)
    rw [show CRLF.length = 2 from rfl] at h2'
    rw [h2'] at this
    exact this.symm
  · rintro ⟨r, h⟩
    have hl : (x.drop k).length = r.length + 2 := by rw [h]; rfl
    rw [List.length_drop] at hl
    refine ⟨by show k + 2 ≤ _; omega, ?_⟩
    rw [h]; simp [CRLF]
theorem no_at {x y r : List Nat} {a k : Nat} (h : x.drop a = y ++ r) (hy : 13 ∉ y) (h1 : a ≤ k) (h2 : k < a + y.length) : ¬ ∃ r', x.drop k = 13 :: 10 :: r' := by
  rintro ⟨r', e⟩
  have e2 : x.drop k = (x.drop a).drop (k - a) := by rw [List.drop_drop]; congr 1; omega
  rw [e2, h, List.drop_append_of_le_length (by omega)] at e
  have h3 : k - a < y.length := by omega
  rw [List.drop_eq_getElem_cons h3] at e
  simp only [List.cons_append] at e
  injection e with e1 _
  exact hy (e1 ▸ List.getElem_mem h3)
theorem sub_list (x : List Nat) (a b : Nat) : (strSub (S x) a b).cps.toList = (x.drop a).take (b - a) := by rw [strSub_toList, S_toList]
theorem spl_parts (x : List Nat) : ∀ (ys : List (List Nat)) (cuts : List Nat) (a f : Nat), ys ≠ [] → (∀ y ∈ ys, 13 ∉ y) → x.drop a = jn CRLF ys → ChainG (S x) (S CRLF) (S x).length a cuts f → (∀ k, f ≤ k → ¬ StrLaws.At (S x) (S CRLF) (S x).length k) →
    (partsFrom (S x) 2 a cuts).map (fun z => z.cps.toList) = ys
  | [], _, _, _, h, _, _, _, _ => absurd rfl h
  | [y], cuts, a, f, _, hy, hx, hc, hn => by
    have hx' : x.drop a = y ++ [] := by rw [hx]; simp [jn]
    have h13 := hy y (.head _)
    cases cuts with
    | nil =>
      show [(strSub (S x) a (S x).length).cps.toList] = _
      rw [sub_list, S_len, List.take_of_length_le (by simp), hx']; simp
    | cons c r =>
      obtain ⟨h1, h2, _⟩ := hc
      have h2' := (at_crlf x c).mp h2
      have hlen : (x.drop a).length = y.length := by rw [hx']; simp
      rw [List.length_drop] at hlen
      exact absurd h2' (no_at hx' h13 h1 (by obtain ⟨r', e⟩ := h2'; have : (x.drop c).length = r'.length + 2 := by rw [e]; rfl
                                             rw [List.length_drop] at this; omega))
  | y :: z :: r, cuts, a, f, _, hy, hx, hc, hn => by
    have hx' : x.drop a = y ++ (13 :: 10 :: jn CRLF (z :: r)) := by rw [hx, jn]; simp [CRLF]
    have h13 := hy y (.head _)
    have hd : x.drop (a + y.length) = 13 :: 10 :: jn CRLF (z :: r) := by
      rw [← List.drop_drop, hx', List.drop_left]
    have hat := (at_crlf x (a + y.length)).mpr ⟨_, hd⟩
    cases cuts with
    | nil =>
      have e : f = a := hc
      exact absurd hat (hn _ (by rw [e]; exact Nat.le_add_right _ _))
    | cons c cs =>
      obtain ⟨h1, h2, h3, h4⟩ := hc
      have h2' := (at_crlf x c).mp h2
      have hce : c = a + y.length := by
        rcases Nat.lt_trichotomy c (a + y.length) with q | q | q
        · exact absurd h2' (no_at hx' h13 h1 q)
        · exact q
        · exact absurd hat (h3 _ (Nat.le_add_right _ _) q)
      subst hce
      show (strSub (S x) a (a + y.length)).cps.toList :: (partsFrom (S x) 2 (a + y.length + 2) cs).map _ = _
      rw [sub_list, hx', Nat.add_sub_cancel_left, List.take_left]
      congr 1
      refine spl_parts x (z :: r) cs _ f (by simp) (fun u hu => hy u (.tail _ hu)) ?_ h4 hn
      rw [← List.drop_drop, hd]; rfl
theorem spl_jn {ys : List (List Nat)} (h0 : ys ≠ []) (hy : ∀ y ∈ ys, 13 ∉ y) : spl (jn CRLF ys) CRLF = ys := by
  obtain ⟨f, hG, hn⟩ := occ_tight (S (jn CRLF ys)) (S CRLF) (by rw [S_len]; decide)
  have key := spl_parts (jn CRLF ys) ys _ 0 f h0 hy (by simp) hG hn
  unfold spl Txt.split
  split
  · rename_i hc
    have hk : ¬ Builtin.Str.strKind (S (jn CRLF ys)) < Builtin.Str.strKind (S CRLF) := by
      have : Builtin.Str.strKind (S CRLF) = Builtin.Str.strKind (S []) := by decide +kernel
      rw [this]
      have h2 : ∀ z, Builtin.Str.strKind (S []) ≤ Builtin.Str.strKind z := by
        intro z; rw [show Builtin.Str.strKind (S []) = 1 from by decide +kernel]; unfold Builtin.Str.strKind; split <;> (try split) <;> omega
      exact Nat.not_lt.mpr (h2 _)
    rw [Bool.or_eq_true, decide_eq_true_eq, decide_eq_true_eq] at hc
    have hl := hc.resolve_right hk
    rw [S_len, S_len] at hl
    have : Builtin.Str.occurrences (S (jn CRLF ys)) (S CRLF) 0 (S (jn CRLF ys)).length ((S (jn CRLF ys)).length + 1) = [] := by
      cases q : Builtin.Str.occurrences (S (jn CRLF ys)) (S CRLF) 0 (S (jn CRLF ys)).length ((S (jn CRLF ys)).length + 1) with
      | nil => rfl
      | cons c cs =>
        rw [q] at hG
        have := hG.2.1.1
        rw [S_len, S_len] at this
        omega
    rw [this] at key
    simpa [partsFrom, sub_whole, sub_list, S_len, S_toList] using key
  · split
    · rename_i he
      have e0 := List.isEmpty_iff.mp he
      rw [e0] at key
      simpa [partsFrom, sub_list, S_len, S_toList] using key
    · rw [partsBetween_eq]; exact key
end Mine
end
section
open PySem PySem.W PyProof.Rows PySem.Spec
set_option Elab.async false
set_option linter.all false
set_option maxRecDepth 100000
namespace Mine
noncomputable def Plain (y : List Nat) : Prop := ∀ c ∈ y, c ≠ 10 ∧ c ≠ 13
theorem Plain.nil : Plain [] := fun c h => nomatch h
theorem Plain.cons {c y} (h : c ≠ 10 ∧ c ≠ 13) (hy : Plain y) : Plain (c :: y) := fun d hd => by
  rcases List.mem_cons.mp hd with rfl | hd
  · exact h
  · exact hy d hd
theorem Plain.tail {c y} (h : Plain (c :: y)) : Plain y := fun d hd => h d (.tail _ hd)
theorem Plain.append {x y} (h : Plain x) (hy : Plain y) : Plain (x ++ y) := fun d hd => by
  rcases List.mem_append.mp hd with hd | hd
  · exact h d hd
  · exact hy d hd
theorem Plain.dots (n : Nat) : Plain (List.replicate n 46) := fun c h => by rw [List.eq_of_mem_replicate h]; decide
theorem crlf_plain {y : List Nat} (h : Plain y) (r : List Nat) : crlf (y ++ r) = y ++ crlf r := by
  induction y with
  | nil => rfl
  | cons c y ih =>
    have hc := h c (.head _)
    rw [List.cons_append, crlf, ih h.tail]
    · rfl
    · intro r' z _; exact hc.2 z
    · exact hc.1
    · exact hc.2
theorem crlf_self {y : List Nat} (h : Plain y) : crlf y = y := by have := crlf_plain h []; simpa [crlf] using this
theorem crlf_crlf (r : List Nat) : crlf (CRLF ++ r) = CRLF ++ crlf r := by show crlf (13 :: 10 :: r) = _; rw [crlf]; rfl
theorem crlf_mail {ys : List (List Nat)} (h : ∀ y ∈ ys, Plain y) : crlf (jn CRLF ys) = jn CRLF ys := by
  induction ys with
  | nil => rfl
  | cons y ys ih =>
    cases ys with
    | nil => exact crlf_self (h y (.head _))
    | cons z r =>
      rw [jn, List.append_assoc, crlf_plain (h y (.head _)), crlf_crlf, ih fun u hu => h u (.tail _ hu)]
theorem crlf_lines {ys : List (List Nat)} (h : ∀ y ∈ ys, Plain y) (r : List Nat) : crlf ((ys.flatMap fun y => y ++ CRLF) ++ r) = (ys.flatMap fun y => y ++ CRLF) ++ crlf r := by
  induction ys with
  | nil => rfl
  | cons y ys ih =>
    rw [List.flatMap_cons, List.append_assoc, List.append_assoc, crlf_plain (h y (.head _)), crlf_crlf, ih fun u hu => h u (.tail _ hu)]
    simp
theorem jn_lines (ys zs : List (List Nat)) (hz : zs ≠ []) : (ys.flatMap fun y => y ++ CRLF) ++ jn CRLF zs = jn CRLF (ys ++ zs) := by
  induction ys with
  | nil => rfl
  | cons y ys ih =>
    rw [List.flatMap_cons, List.append_assoc, ih, List.append_assoc]
    cases q : ys ++ zs with
    | nil => simp at q; exact absurd q.2 hz
    | cons u r => rw [List.cons_append, q, jn]; simp
theorem stuff_plain {y : List Nat} (h : Plain y) (r : List Nat) : stuff false (y ++ r) = y ++ stuff false r := by
  induction y with
  | nil => rfl
  | cons c y ih =>
    have hc := h c (.head _)
    rw [List.cons_append, stuff, if_neg (by simp)]
    have : (c == 10) = false := by simpa using hc.1
    rw [this, ih h.tail]; rfl
theorem stuff_crlf (b : Bool) (r : List Nat) : stuff b (CRLF ++ r) = CRLF ++ stuff true r := by
  show stuff b (13 :: 10 :: r) = _
  rw [stuff, if_neg (by simp)]
  show 13 :: stuff false (10 :: r) = _
  rw [stuff, if_neg (by simp)]; rfl
noncomputable def RowOk (r : Row) : Prop := Plain r.2 ∧ (r.1 = 0 → ∀ c t, r.2 = c :: t → c ≠ 46)
noncomputable def more1 (k : Nat) (r : Row) : Row := (if r.1 = 0 then 0 else r.1 + k, r.2)
theorem rowL_more1 (k : Nat) (r : Row) : rowL 0 (more1 k r) = rowL k r := by
  unfold rowL more1
  by_cases h : r.1 = 0
  · simp [h]
  · simp only [if_neg h]
    rw [if_neg (by omega)]; rfl
theorem rowL_plain {k : Nat} {r : Row} (h : RowOk r) : Plain (rowL k r) := by
  unfold rowL; rw [reps_one]; exact (Plain.dots _).append h.1
theorem stuff_row {k : Nat} {r : Row} (h : RowOk r) (x : List Nat) (hx : r.1 = 0 → r.2 = [] → ∀ c t, x = c :: t → c ≠ 46) : stuff true (rowL k r ++ x) = rowL (k + 1) r ++ stuff (rowL k r == []) x := by
  unfold rowL
  rw [reps_one, reps_one]
  by_cases h0 : r.1 = 0
  · rw [if_pos h0, if_pos h0]
    simp only [List.replicate_zero, List.nil_append]
    cases hr : r.2 with
    | nil => rfl
    | cons c t =>
      have hc := h.2 h0 c t hr
      have hp : Plain (c :: t) := hr ▸ h.1
      have h10 : (c == 10) = false := by simpa using (hp c (.head _)).1
      rw [List.cons_append, stuff, if_neg (fun z => hc z.2), h10, stuff_plain hp.tail]
      rfl
  · rw [if_neg h0, if_neg h0]
    obtain ⟨d, hd⟩ : ∃ d, r.1 + k = d + 1 := ⟨r.1 + k - 1, by omega⟩
    rw [hd, show r.1 + (k + 1) = d + 1 + 1 by omega]
    rw [List.replicate_succ, List.cons_append, List.cons_append, stuff, if_pos ⟨rfl, rfl⟩, List.append_assoc, stuff_plain (Plain.dots d), stuff_plain h.1]
    simp [List.replicate_succ]
theorem stuff_mail {k : Nat} : ∀ {rows : List Row}, rows ≠ [] → (∀ r ∈ rows, RowOk r) → ∀ z : List Nat, (∀ c t, z = c :: t → c = 13) → stuff true (mailL k rows ++ z) = mailL (k + 1) rows ++ stuff (rowL k (rows.getLastD (0, [])) == []) z
  | [], h, _, z, _ => absurd rfl h
  | [r], _, h, z, hz => by
    show stuff true (rowL k r ++ z) = rowL (k + 1) r ++ _
    exact stuff_row (h r (.head _)) z fun _ _ c t e => by have := hz c t e; omega
  | r :: s :: rest, _, h, z, hz => by
    have ih := stuff_mail (k := k) (rows := s :: rest) (by simp) (fun u hu => h u (.tail _ hu)) z hz
    unfold mailL at ih ⊢
    simp only [List.map_cons, jn] at ih ⊢
    rw [List.append_assoc, List.append_assoc, stuff_row (h r (.head _)) _ (fun _ _ c t e => by simp [CRLF] at e; omega), stuff_crlf, ih]
    simp
noncomputable def aged0 (rows : List Row) : List Row := rows.map (more1 1)
theorem mail_more1 (k : Nat) (rows : List Row) : mailL 0 (rows.map (more1 k)) = mailL k rows := by
  unfold mailL; rw [List.map_map]; congr 1
  refine List.map_congr_left fun r _ => rowL_more1 k r
theorem mail_plain {rows : List Row} (h : ∀ r ∈ rows, RowOk r) : ∀ y ∈ rows.map (rowL 0), Plain y := fun y hy => by
  obtain ⟨r, hr, rfl⟩ := List.mem_map.mp hy
  exact rowL_plain (h r hr)
theorem stuff_all {rows : List Row} (h0 : rows ≠ []) (h : ∀ r ∈ rows, RowOk r) : stuff true (mailL 0 rows) = mailL 0 (aged0 rows) := by
  have := stuff_mail (k := 0) h0 h [] (fun c t e => nomatch e)
  rw [List.append_nil] at this
  rw [this]
  unfold aged0
  rw [mail_more1]
  simp [stuff]
theorem qd_ends {rows : List Row} (h0 : rows ≠ []) (h : ∀ r ∈ rows, RowOk r) (k : Nat) (hk : k < 5) : qd (mailL 0 rows ++ endsL.getD k []) = mailL 1 rows ++ duesL.getD k [] := by
  have hp : crlf (mailL 0 rows ++ endsL.getD k []) = mailL 0 rows ++ crlf (endsL.getD k []) := by
    unfold mailL
    obtain ⟨ys, y, e⟩ : ∃ ys y, rows.map (rowL 0) = ys ++ [y] := by
      have : rows.map (rowL 0) ≠ [] := by simpa using h0
      exact ⟨_, _, (List.dropLast_concat_getLast this).symm⟩
    have hpl := mail_plain h
    rw [e] at hpl ⊢
    rw [← jn_lines ys [y] (by simp), List.append_assoc, crlf_lines (fun u hu => hpl u (List.mem_append_left _ hu)), List.append_assoc]
    congr 1
    exact crlf_plain (hpl y (by simp)) _
  unfold qd
  rw [hp]
  have hc : ∃ w, crlf (endsL.getD k []) = 13 :: 10 :: w ∧ ∀ b, stuff b (13 :: 10 :: w) = duesL.getD k [] := by
    have : k = 0 ∨ k = 1 ∨ k = 2 ∨ k = 3 ∨ k = 4 := by omega
    rcases this with h | h | h | h | h <;> subst h
    · exact ⟨[], by rfl, fun b => by cases b <;> rfl⟩
    · exact ⟨[], by rfl, fun b => by cases b <;> rfl⟩
    · exact ⟨[], by rfl, fun b => by cases b <;> rfl⟩
    · exact ⟨[46], by rfl, fun b => by cases b <;> rfl⟩
    · exact ⟨[13, 10], by rfl, fun b => by cases b <;> rfl⟩
  obtain ⟨w, e1, e2⟩ := hc
  rw [e1, stuff_mail h0 h _ (fun c t e => by injection e with e _; exact e.symm), e2]
theorem crlf_cr {B : List Nat} (h : ∀ c t, B = c :: t → c ≠ 10) : crlf (13 :: B) = 13 :: 10 :: crlf B := by
  cases B with
  | nil => rfl
  | cons c t => rw [crlf]; intro r z; injection z with z _; exact h c t rfl z
theorem mail_head {zs : List (List Nat)} (h : ∀ y ∈ zs, Plain y) : ∀ c t, jn CRLF zs = c :: t → c ≠ 10 := by
  intro c t e
  cases zs with
  | nil => cases e
  | cons y r =>
    cases y with
    | cons d y =>
      have : c = d := by
        cases r with
        | nil => injection e with e _; exact e.symm
        | cons z r => rw [jn] at e; injection e with e _; exact e.symm
      subst this
      exact (h _ (.head _) c (.head _)).1
    | nil =>
      cases r with
      | nil => cases e
      | cons z r => rw [jn] at e; simp [CRLF] at e; omega
noncomputable def ends7 : List (List Nat) := [[10], [13], [13, 10], [13, 13, 10], [10, 13, 46, 13, 13, 10], [11, 46, 10], [133, 46, 13]]
noncomputable def tailL (k : Nat) : List Nat := ([[], [], [], [], [], [11, 46], [133, 46]] : List (List Nat)).getD k []
theorem crlf_ends {B : List Nat} (h : ∀ c t, B = c :: t → c ≠ 10) (k : Nat) (hk : k < 7) : crlf (ends7.getD k [] ++ B) = tailL k ++ CRLF ++ (((moreL k).map (rowL 0)).flatMap fun y => y ++ CRLF) ++ crlf B := by
  have : k = 0 ∨ k = 1 ∨ k = 2 ∨ k = 3 ∨ k = 4 ∨ k = 5 ∨ k = 6 := by omega
  rcases this with q | q | q | q | q | q | q <;> subst q
  · show crlf (10 :: B) = _; rw [crlf]; rfl
  · show crlf (13 :: B) = _; rw [crlf_cr h]; rfl
  · show crlf (13 :: 10 :: B) = _; rw [crlf]; rfl
  · show crlf (13 :: (13 :: 10 :: B)) = _; rw [crlf_cr (fun c t e => by injection e with e _; omega), crlf]; rfl
  · show crlf (10 :: 13 :: 46 :: 13 :: 13 :: 10 :: B) = _
    rw [crlf, crlf_cr (fun c t e => by injection e with e _; omega)]
    have e1 : crlf (46 :: 13 :: 13 :: 10 :: B) = 46 :: crlf (13 :: 13 :: 10 :: B) := crlf_plain (y := [46]) (by intro c hc; simp at hc; omega) _
    rw [e1, crlf_cr (fun c t e => by injection e with e _; omega), crlf]; rfl
  · have e1 : crlf ([11, 46] ++ (10 :: B)) = [11, 46] ++ crlf (10 :: B) := crlf_plain (by intro c hc; simp at hc; omega) _
    show crlf ([11, 46] ++ (10 :: B)) = _
    rw [e1, crlf]; rfl
  · have e1 : crlf ([133, 46] ++ (13 :: B)) = [133, 46] ++ crlf (13 :: B) := crlf_plain (by intro c hc; simp at hc; omega) _
    show crlf ([133, 46] ++ (13 :: B)) = _
    rw [e1, crlf_cr h]; rfl
theorem qd_laid {rows : List Row} (h : ∀ r ∈ rows, RowOk r) {place k : Nat} (hp : place < rows.length) (hk : k < 7) {body : List Nat} (hb : Plain body) (ht : Plain (tailL k)) (hm : ∀ r ∈ moreL k, RowOk r) :
    qd (((rows.take place).map (rowL 0)).flatMap (fun y => y ++ CRLF) ++ (46 :: body ++ ends7.getD k []) ++ jn CRLF ((rows.drop place).map (rowL 0))) =
      mailL 0 (aged0 (rows.take place ++ [(1, body ++ tailL k)] ++ moreL k ++ rows.drop place)) := by
  have hd0 : rows.drop place ≠ [] := fun z => by rw [List.drop_eq_nil_iff] at z; omega
  have hT : ∀ r ∈ rows.take place, RowOk r := fun r hr => h r (List.mem_of_mem_take hr)
  have hD : ∀ r ∈ rows.drop place, RowOk r := fun r hr => h r (List.mem_of_mem_drop hr)
  have h1 : RowOk (1, body ++ tailL k) := ⟨hb.append ht, fun z => by cases z⟩
  have key : crlf (((rows.take place).map (rowL 0)).flatMap (fun y => y ++ CRLF) ++ (46 :: body ++ ends7.getD k []) ++ jn CRLF ((rows.drop place).map (rowL 0))) = mailL 0 (rows.take place ++ [(1, body ++ tailL k)] ++ moreL k ++ rows.drop place) := by
    rw [List.append_assoc, crlf_lines (mail_plain hT), List.append_assoc, crlf_plain (y := 46 :: body) (hb.cons (by decide)), crlf_ends (mail_head (mail_plain hD)) k hk, crlf_mail (mail_plain hD)]
    unfold mailL
    rw [List.map_append, ← jn_lines _ _ (by simpa using hd0)]
    simp only [List.map_append, List.map_cons, List.map_nil, List.flatMap_append, List.flatMap_cons, List.flatMap_nil, rowL]
    simp [reps_one]
  unfold qd
  rw [key]
  refine stuff_all (by simp) fun r hr => ?_
  simp only [List.mem_append, List.mem_singleton] at hr
  rcases hr with ((hr | rfl) | hr) | hr
  · exact hT r hr
  · exact h1
  · exact hm r hr
  · exact hD r hr
end Mine
end
section
open PySem PySem.W PyProof.Rows PySem.Spec
set_option Elab.async false
set_option linter.all false
set_option maxRecDepth 100000
namespace Mine
theorem lett_succ (n k : Nat) : lett n (k + 1) = lett (n / 16) k ++ (if 1 ≤ n then [65 + n % 16] else []) := by
  unfold lett
  rw [List.range_succ_eq_map, List.reverse_cons, List.filter_append, List.map_append, ← List.map_reverse, List.filter_map, List.map_map]
  congr 1
  · have e : ((fun i => decide (16 ^ i ≤ n)) ∘ Nat.succ) = fun i => decide (16 ^ i ≤ n / 16) := by
      funext i
      show decide (16 ^ (i + 1) ≤ n) = _
      rw [Nat.pow_succ]
      refine decide_eq_decide.mpr ?_
      rw [Nat.le_div_iff_mul_le (by decide)]
    rw [e]
    refine List.map_congr_left fun i _ => ?_
    show 65 + n / 16 ^ (i + 1) % 16 = _
    rw [Nat.pow_succ, Nat.mul_comm, Nat.div_div_eq_div_mul]
  · by_cases h : 1 ≤ n
    · simp [h]
    · simp [h]
theorem lett_ap : ∀ (k n : Nat), n < 16 ^ k → lett n k = ap n
  | 0, n, h => by
    have : n = 0 := by simpa using h
    subst this; rw [ap_zero]; rfl
  | k + 1, n, h => by
    rw [lett_succ, lett_ap k (n / 16) (by rw [Nat.pow_succ] at h; omega)]
    by_cases h0 : n = 0
    · subst h0; simp [ap_zero]
    · rw [ap_pos h0, if_pos (by omega)]
noncomputable def Let (y : List Nat) : Prop := ∀ c ∈ y, 65 ≤ c ∧ c < 81
theorem Let.plain {y} (h : Let y) : Plain y := fun c hc => by have := h c hc; omega
noncomputable def wv (v : Int) (y : List Nat) : Int := y.foldl (fun (v : Int) (c : Nat) => 256 + 16 * (v - 256) + (c : Int) - 65) v
theorem wv_ap (n : Nat) : wv 256 (ap n) = 256 + (n : Int) := by
  induction n using Nat.strongRecOn with
  | ind n ih =>
    by_cases h : n = 0
    · subst h; rw [ap_zero]; rfl
    · rw [ap_pos h]
      unfold wv at ih ⊢
      rw [List.foldl_append, ih (n / 16) (by omega)]
      simp only [List.foldl_cons, List.foldl_nil]
      omega
theorem Lx.words {stop y r v out} (hy : Let y) (hs : ∀ c ∈ stop, c < 65 ∨ 81 ≤ c) (h : Lx stop r (wv v y) out) : Lx stop (y ++ r) v out := by
  induction y generalizing v with
  | nil => exact h
  | cons c y ih =>
    have hc := hy c (.head _)
    exact Lx.word (fun m => by have := hs c m; omega) hc.1 hc.2 (ih (fun d hd => hy d (.tail _ hd)) h)
theorem look_mem {l : List Nat} {k : Nat} : ∀ {t : List (List Nat × Nat)}, t.lookup l = some k → (l, k) ∈ t
  | [], h => nomatch h
  | (a, b) :: t, h => by
    rw [List.lookup_cons] at h
    by_cases e : (l == a) = true
    · rw [e] at h
      have := eq_of_beq e
      subst this
      cases h; exact .head _
    · rw [Bool.eq_false_iff.mpr e] at h
      exact .tail _ (look_mem h)
end Mine
end
section
open PySem PySem.W PyProof.Rows PySem.Spec
set_option Elab.async false
set_option linter.all false
set_option maxRecDepth 100000
set_option maxHeartbeats 1000000
namespace Mine
theorem rng_down28 : rng 27 (-1) 28 = ((List.range 28).reverse).map fun k : Nat => PyData.int k := by rfl
noncomputable def sgn (v : Int) : List Nat := if v < 0 then [45] else [43]
noncomputable def putL (a : Nat) (v : Int) : List Nat := ap a ++ sgn v ++ ap v.natAbs
theorem lay_ints : ∀ l : List Int, PyData.canLayAll0 (l.map PyData.int) = true
  | [] => rfl
  | a :: l => by simp only [List.map_cons, PyData.canLayAll0, PyData.canLay0, Bool.true_and]; exact lay_ints l
theorem dep_ints : ∀ l : List Int, PyData.depthAll (l.map PyData.int) = 0
  | [] => rfl
  | a :: l => by simp only [List.map_cons, PyData.depthAll, PyData.depth, dep_ints l]; rfl
theorem shaped_ints (l : List Int) : SeqAt.shaped (.list (l.map .int)) = true := by
  rw [SeqAt.shaped, Bool.and_eq_true, decide_eq_true_eq]
  refine ⟨?_, ?_⟩
  · rw [PyData.canLay0]; exact lay_ints l
  · rw [PyData.depth, dep_ints]; omega
theorem eqv_ints : ∀ l m : List Int, PyData.eqvAll (l.map .int) (m.map .int) = decide (l = m)
  | [], [] => rfl
  | [], _ :: _ => rfl
  | _ :: _, [] => rfl
  | a :: l, b :: m => by
    simp only [List.map_cons, PyData.eqvAll, PyData.eqv, eqv_ints l m, List.cons.injEq]
    by_cases h : a = b <;> simp [h]
theorem eqvI (l m : List Int) : PyData.eqv (.list (l.map .int)) (.list (m.map .int)) = decide (l = m) := by rw [PyData.eqv]; exact eqv_ints l m
noncomputable def rowF : List Int → Nat → Int → Int → Int → Nat × Int × Int
  | [], d, n, s, h => (d, n, s * h)
  | x :: r, d, n, s, h => if x = 0 then (d, n, s * h) else if 256 ≤ x then rowF r d n s (x - 256) else if x = 23 ∨ x = 52 then rowF r (d + if x = 23 then 1 else 3) n s h else rowF r d h (29 - 2 * x) h
noncomputable def rowD3 (t : Nat × Int × Int) : PyData := .list [nt t.1, .int t.2.1, .int t.2.2]
noncomputable def SmS (z : Int) : Prop := z.natAbs < 2 ^ 60
theorem SmS.bits {z : Int} (h : SmS z) : Builtin.Int.intBits z ≤ 64 := by
  unfold Builtin.Int.intBits
  split
  · omega
  · rename_i h0
    have h1 : z.natAbs ≠ 0 := fun q => h0 (by simp at q; simp [q])
    have := (Nat.log2_lt h1).mpr h
    omega
noncomputable def struckF : List Int → List Int → List Int
  | [], pile => pile
  | m :: r, pile => if pile.getLast? = some m then struckF r pile.dropLast else struckF r (pile ++ [m])
theorem slc_last {α : Type} (l : List α) : slc l (some (-1)) none = l.drop (l.length - 1) := by
  unfold slc
  have h : clipAt l.length (-1) = l.length - 1 := by
    have := clipAt_cast l.length (-1)
    rw [if_pos (by omega)] at this
    omega
  simp only [Option.elim, h]
  rw [List.take_of_length_le (by rw [List.length_drop]; omega)]
theorem drop_last {α : Type} (l : List α) (m : α) : (l.drop (l.length - 1) = [m]) ↔ l.getLast? = some m := by
  rcases List.eq_nil_or_concat l with rfl | ⟨r, a, rfl⟩
  · simp
  · simp
theorem EvB.call {f : Fx} {x : Sx} {n : Str} {p pos} {e : Expr} {es : List Expr} {cv : Value} {ds : List PyData} {m : Nat} {l : List UInt8}
    (hc : EvP f x (.Name n p) fun _ u => u = cv) (c : Callee f.W cv) (ha : EvL f x (e :: es) ds) (F : FnP f.W cv m ds fun _ _ v => B l v) (hm : m ≤ f.rm)
    (he : starEach (e :: es) f.env = (false, eval e f.env) :: starEach es f.env := by exact rfl) (hp : (backTo pos (starEach es f.env)).any (·.1) = false := by exact rfl) :
    EvB f x (.Call (.Name n p) (e :: es) [] pos) l := EvP.call hc c ha F hm he hp
section
variable {prog : Program} {w : World} {mg mb : Str → Option Value}
theorem c_put (G : (WL prog w mg mb).Glob) (a : Nat) (v : Int) (ha : (ap a).length ≤ 1000) (hv : (ap v.natAbs).length ≤ 1000) : Fn (WL prog w mg mb) (.ref 86) 2 [nt a, .int v] (st (putL a v)) := by
  have sz : sizeLine = 16777216 := by decide
  refine Fn.of_at (nm := ["name", "value"]) (gl := ["Int2AP"]) (ps := ["name", "value"]) rfl rfl rfl rfl rfl rfl rfl (by decide +kernel) (bind2 fun _ _ => rfl) (.cons Put.i0 (.cons Put.i1 .nil)) fun A s L hz bad bad' => ?_
  refine Ex.ret (d := st (putL a v)) (Ev.eq (Ev.cat (Ev.cat (Ev.decode (EvB.call (Ev.glob Mem.i0 (G.g _ _ g_int2ap)) (.fn rfl rfl) (.cons (Ev.name At.i0) .nil) (c_int2ap G (a : Int) (by simpa using ha)) (Nat.le_of_ble_eq_true rfl)) (apB_lt _) ?h1) (Ev.iteS (da := [45]) (db := [43]) (Tst.cmp (EvC.lt (Ev.name At.i1) Ev.int)) Ev.strE Ev.strE) ?h2) (Ev.decode (EvB.call (Ev.glob Mem.i0 (G.g _ _ g_int2ap)) (.fn rfl rfl) (.cons (Ev.name At.i1) .nil) (c_int2ap G v hv) (Nat.le_of_ble_eq_true rfl)) (apB_lt _) ?h3) ?h4) ?h5) fun s v O r => O.retD r
  case h1 => unfold apB; rw [List.length_map, sz]; simp; omega
  case h2 => rw [apB_nat, sz]; simp; split <;> simp <;> omega
  case h3 => unfold apB; rw [List.length_map, sz]; omega
  case h4 => rw [apB_nat, apB_nat, sz]; simp; split <;> simp <;> omega
  case h5 => rw [apB_nat, apB_nat]; unfold putL sgn; by_cases q : v < 0 <;> simp [q]
theorem c_due (G : (WL prog w mg mb).Glob) (a : Nat) (v : Int) : Fn (WL prog w mg mb) (.ref 91) 1 [nt a, .int v] (st (lett a 28 ++ sgn v ++ lett v.natAbs 28)) := by
  have sz : sizeLine = 16777216 := by decide
  refine Fn.of_at (nm := ["name", "value", "both"]) (gl := ["abs"]) (ps := ["name", "value"]) rfl rfl rfl rfl rfl rfl rfl (by decide +kernel) (bind2 fun _ _ => rfl) (.cons Put.i0 (.cons Put.i1 .nil)) fun A s L hz bad bad' => ?_
  refine Ex.cmp1 (xs := [a, v.natAbs]) (di := nt) (g := fun n => st (lett n 28)) (p := fun _ => true) (own := ["n"]) (fr := []) (gl := ["range"]) (ns := ["n"])
    (Iter.tuple (Ev.tuple (.cons (Ev.name At.i0) (.cons (Ev.call (Ev.blt Mem.i0 (z_abs G)) (.builtin _) (.cons (Ev.name At.i1) .nil) Fn.abs (Nat.zero_le _)) .nil)) (Nat.le_of_ble_eq_true rfl))) rfl (by decide +kernel) .nil rfl rfl one_in (Nat.le_of_ble_eq_true rfl)
    (fun n hn C cs base hz bad led => ⟨_, .name .here, .drop .nil, .nil, fun _ => ?_⟩) Put.i2 ?_
  · refine Ev.eq (Ev.join (g := []) (ys := (lett n 28).map fun c => [c]) (Ev.strE (l := [])) (Ev.eq (Ev.comp2 (xs := (List.range 28).reverse) (di := fun k => .int k) (g := fun k => st [65 + n / 16 ^ k % 16]) (p := fun k => decide (16 ^ k ≤ n)) (own := ["k"]) (fr := ["n"]) (gl := [])
      (ns := ["k"]) (rng_down28 ▸ Iter.range (EvR.three (Ev.blt Mem.i0 (z_range G)) Ev.int (Ev.neg Ev.int) (Ev.neg Ev.int) (by decide) (by decide)) (by decide) (by decide)) rfl (by decide +kernel) (Ats.one At.i0) rfl rfl one_in (by decide) fun k hk C cs base hz bad led => ?_) ?_) ?_) (by rw [jn_sing])
    · have hk' : k < 28 := by simpa using hk
      refine ⟨_, .name .here, .drop (.keep .nil), .one (Tst.cmp (EvC.geN (Ev.name At.i1) (Ev.powN (Ev.nat (n := 16)) (Ev.name At.i0) (bits16 _ (by omega))))), fun hp => ?_⟩
      exact Ev.itemSN (ds := AZ) (Ev.strE (l := AZ)) (Ev.fmodN (Ev.fdivN (Ev.name At.i1) (Ev.powN (Ev.nat (n := 16)) (Ev.name At.i0) (bits16 _ (by omega))) (Nat.ne_of_gt (Nat.pow_pos (by decide))) (log16 _ (by omega))) (Ev.nat (n := 16)) (by decide)) (AZ_get (Nat.mod_lt _ (by decide))) (by decide)
    · rw [List.map_map]
      unfold lett
      rw [List.map_map]
      rfl
    · rw [sing_sum]
      have := lett_len n 28
      simp; omega
  · have h1 := lett_len a 28
    have h2 := lett_len v.natAbs 28
    refine Ex.ret (Ev.eq (Ev.cat (Ev.cat (Ev.itemLN (Ev.name At.i2) (Ev.nat (n := 0)) rfl (Nat.le_of_ble_eq_true rfl)) (Ev.iteS (da := [45]) (db := [43]) (Tst.cmp (EvC.lt (Ev.name At.i1) Ev.int)) Ev.strE Ev.strE) ?g1) (Ev.itemLN (Ev.name At.i2) (Ev.nat (n := 1)) rfl (Nat.le_of_ble_eq_true rfl)) ?g2) ?g3) fun s v O r => O.retD r
    case g1 => rw [sz]; simp only [decide_eq_true_eq]; split <;> simp <;> omega
    case g2 => rw [sz, List.length_append]; simp only [decide_eq_true_eq]; split <;> simp <;> omega
    case g3 => unfold sgn; by_cases q : v < 0 <;> simp [q]
theorem c_row (G : (WL prog w mg mb).Glob) (l : List Int) (hl : ∀ x ∈ l, -1000 ≤ x) : Fn (WL prog w mg mb) (.ref 103) 2 [.list (l.map .int)] (rowD3 (rowF l 0 0 0 0)) := by
  refine Fn.of_at (nm := ["symbols", "dots", "name", "sign", "held", "s"]) (gl := ["ISEOF", "ISTERMINAL"]) (ps := ["symbols"]) rfl rfl rfl rfl rfl rfl rfl (by decide +kernel) (bind1 fun _ => rfl) (.cons Put.i0 .nil) fun A s L hz bad bad' => ?_
  refine Ex.unp (ds := [nt 0, .int 0, .int 0, .int 0]) (Ev.tuple (.cons (Ev.nat (n := 0)) (.cons Ev.int (.cons Ev.int (.cons Ev.int .nil)))) (Nat.le_of_ble_eq_true rfl)) (.cons (.cons (.cons (.cons .nil)))) (.inr rfl) (.cons Put.i1 (.cons Put.i2 (.cons Put.i3 (.cons Put.i4 .nil)))) ?_
  refine Ex.for (ns := ["s"]) (Iter.list (Ev.name At.i0))
    (fun k vs led => led = [] ∧ ∃ (d : Nat) (n s h : Int), SmS s ∧ rowF (l.drop k) d n s h = rowF l 0 0 0 0 ∧ vs = [.val (.list (l.map .int)), .val (nt d), .val (.int n), .val (.int s), .val (.int h), .no])
    (fun vs led => led = [] ∧ ∃ (d : Nat) (n s h : Int), SmS s ∧ (d, n, s * h) = rowF l 0 0 0 0 ∧ vs = [.val (.list (l.map .int)), .val (nt d), .val (.int n), .val (.int s), .val (.int h), .no]) ⟨rfl, 0, 0, 0, 0, by unfold SmS; decide, rfl, rfl⟩ ?_ ?_ ?_ ?_
  · rintro k dd vs led hz' bad'' fp P hdd ⟨rfl, d, n, s, h, hs, hJ, rfl⟩
    rw [List.getElem?_map] at hdd
    cases hlk : l[k]? with
    | none => rw [hlk] at hdd; cases hdd
    | some y =>
    rw [hlk] at hdd; cases hdd
    have hdrop : l.drop k = y :: l.drop (k + 1) := by
      have hk := (List.getElem?_eq_some_iff.mp hlk)
      obtain ⟨h1, h2⟩ := hk
      rw [List.drop_eq_getElem_cons h1, h2]
    have hy := hl y (List.mem_of_getElem? hlk)
    rw [hdrop, rowF] at hJ
    refine ⟨_, .name Put.i5, ?_⟩
    refine Ex.ite (c := decide (y = 0)) (Tst.val (Ev.call (Ev.glob Mem.i0 (G.g _ _ g_eof)) (.fn rfl rfl) (.cons (Ev.name At.i5) .nil) (c_eof G y) (Nat.le_of_ble_eq_true rfl)) trivial rfl) (fun hc => ?_) (fun hc => Ex.next ?_)
    · have h0 : y = 0 := by simpa using hc
      rw [if_pos h0] at hJ
      exact Ex.brk fun s₂ O₂ => ⟨_, _, [], ⟨rfl, d, n, s, h, hs, hJ, rfl⟩, O₂.forget (.keep (.keep (.keep (.keep (.keep (.drop .nil))))))⟩
    · have h0 : ¬ y = 0 := by simpa using hc
      rw [if_neg h0] at hJ
      refine Ex.ite (c := !decide (y < 256)) (Tst.not (Tst.val (Ev.call (Ev.glob Mem.i1 (G.g _ _ g_term)) (.fn rfl rfl) (.cons (Ev.name At.i5) .nil) (c_term G y) (Nat.le_of_ble_eq_true rfl)) trivial rfl)) (fun hc => ?_) (fun hc => ?_)
      · have h1 : 256 ≤ y := by simpa using hc
        rw [if_pos h1] at hJ
        refine Ex.asg (d := .int (y - 256)) (Ev.sub (Ev.name At.i5) Ev.int) Put.i4 (Ex.next (Ex.nil fun s₂ O₂ => ⟨_, _, [], ⟨rfl, d, n, s, y - 256, hs, hJ, rfl⟩, O₂.forget (.keep (.keep (.keep (.keep (.keep (.drop .nil))))))⟩))
      · have h1 : ¬ 256 ≤ y := by have : y < 256 := by simpa using hc
                                  omega
        rw [if_neg h1] at hJ
        refine Ex.ite (c := decide (y = 23 ∨ y = 52)) (Tst.eq (Tst.or (Tst.cmp (EvC.eq (Ev.name At.i5) Ev.int)) fun _ => Tst.or (Tst.cmp (EvC.eq (Ev.name At.i5) Ev.int)) fun _ => Tst.orN) ?_) (fun hc => ?_) (fun hc => ?_)
        · by_cases q1 : y = 23 <;> by_cases q2 : y = 52 <;> simp [q1, q2]
        · have h2 : y = 23 ∨ y = 52 := by simpa using hc
          rw [if_pos h2] at hJ
          refine Ex.augN At.i1 (Ev.iteN (da := 1) (db := 3) (Tst.cmp (EvC.eq (Ev.name At.i5) Ev.int)) (Ev.nat (n := 1)) (Ev.nat (n := 3))) Put.i1 (Ex.next (Ex.next (Ex.nil fun s₂ O₂ => ⟨bad'', [.val (.list (l.map .int)), .val (nt (d + if y = 23 then 1 else 3)), .val (.int n), .val (.int s), .val (.int h), .no], [], ⟨rfl, _, n, s, h, hs, hJ, rfl⟩, ?_⟩)))
          have e : (if decide (y = 23) = true then 1 else 3) = (if y = 23 then 1 else 3) := by by_cases q : y = 23 <;> simp [q]
          rw [e] at O₂
          exact O₂.forget (.keep (.keep (.keep (.keep (.keep (.drop .nil))))))
        · have h2 : ¬ (y = 23 ∨ y = 52) := by simpa using hc
          rw [if_neg h2] at hJ
          refine Ex.unpackSw (ns := ["name", "sign"]) (ds := [.int h, .int (29 - 2 * y)]) (Ev.tuple (.cons (Ev.name At.i4) (.cons (Ev.sub Ev.int (Ev.mul Ev.int (Ev.name At.i5) mulK)) .nil)) (Nat.le_of_ble_eq_true rfl)) (.inr rfl) (.cons Put.i3 (.cons Put.i2 .nil)) (Ex.next (Ex.next (Ex.nil fun s₂ O₂ => ⟨_, _, [], ⟨rfl, d, h, 29 - 2 * y, h, ?_, hJ, rfl⟩, O₂.forget (.keep (.keep (.keep (.keep (.keep (.drop .nil))))))⟩)))
          unfold SmS
          omega
  · rintro vs led ⟨rfl, d, n, s, h, hs, hJ, rfl⟩
    rw [List.drop_of_length_le (by rw [List.length_map]; exact Nat.le_refl _), rowF] at hJ
    exact ⟨rfl, d, n, s, h, hs, hJ, rfl⟩
  · rintro vs led bad ⟨rfl, d, n, s, h, hs, hJ, rfl⟩
    refine Ex.ret (Ev.eq (Ev.list (ds := [nt d, .int n, .int (s * h)]) (.cons (Ev.name At.i1) (.cons (Ev.name At.i2) (.cons (Ev.mul (Ev.name At.i3) (Ev.name At.i4) (.of_left hs.bits)) .nil))) (Nat.le_of_ble_eq_true rfl)) ?_) fun s v O r => O.retD r
    unfold rowD3; rw [← hJ]
  · exact fun n hn => by
      cases hn with
      | head => exact Mem.i5
      | tail _ h => cases h
theorem c_struck (G : (WL prog w mg mb).Glob) (l : List Int) (hl : l.length ≤ 100) : Fn (WL prog w mg mb) (.ref 136) 1 [.list (l.map .int)] (.list ((struckF l []).map .int)) := by
  have sz : sizeLine = 16777216 := by decide
  refine Fn.of_at (nm := ["moves", "pile", "move"]) (gl := []) (ps := ["moves"]) rfl rfl rfl rfl rfl rfl rfl (by decide +kernel) (bind1 fun _ => rfl) (.cons Put.i0 .nil) fun A s L hz bad bad' => ?_
  refine Ex.ownL (EvN.list .nil (Nat.le_of_ble_eq_true rfl)) (fun a => Put.i1) (fun a => ?_)
  refine Ex.for (ns := ["move"]) (Iter.list (Ev.name At.i0))
    (fun k vs led => ∃ p : List Int, p.length ≤ k ∧ k ≤ l.length ∧ struckF (l.drop k) p = struckF l [] ∧ led = [.lst a (p.map .int)] ∧ vs = [.val (.list (l.map .int)), .ptr a, .no])
    (fun vs led => led = [.lst a ((struckF l []).map .int)] ∧ vs = [.val (.list (l.map .int)), .ptr a, .no]) ⟨[], Nat.le_refl _, Nat.zero_le _, rfl, rfl, rfl⟩ ?_ ?_ ?_ ?_
  · rintro k dd vs led hz' bad'' fp P hdd ⟨p, hpk, hkl, hJ, rfl, rfl⟩
    rw [List.getElem?_map] at hdd
    cases hlk : l[k]? with
    | none => rw [hlk] at hdd; cases hdd
    | some y =>
    rw [hlk] at hdd; cases hdd
    have hk1 := (List.getElem?_eq_some_iff.mp hlk).1
    have hdrop : l.drop k = y :: l.drop (k + 1) := by
      obtain ⟨h1, h2⟩ := (List.getElem?_eq_some_iff.mp hlk)
      rw [List.drop_eq_getElem_cons h1, h2]
    rw [hdrop, struckF] at hJ
    have hpl : (p.map PyData.int).length ≤ sizeLine := by rw [List.length_map, sz]; omega
    refine ⟨_, .name Put.i2, ?_⟩
    refine Ex.ite (c := decide (p.getLast? = some y)) ?t1 (fun hc => ?_) (fun hc => ?_)
    case t1 =>
      refine Tst.thaw (x := ⟨hz', bad'', [.prd fp P, .lst a (p.map .int)], [.val (.list (l.map .int)), .ptr a, .val (.int y)]⟩) (l' := [.prd fp P]) (vs' := [.val (.list (l.map .int)), .val (.list (p.map .int)), .val (.int y)]) At.i1 (.there .here) Put.i1 ?_
      refine Tst.eq (Tst.cmp (EvC.eqD (a := .list ((p.drop (p.length - 1)).map .int)) (b := .list ([y].map .int)) (Ev.eq (Ev.sliceL (Ev.name At.i1) (EvO.some (Ev.neg Ev.int)) EvO.none hpl) ?e1) (Ev.list (.cons (Ev.name At.i2) .nil) (Nat.le_of_ble_eq_true rfl)) (shaped_ints _) (shaped_ints _))) ?e2
      case e1 => rw [slc_last, List.length_map, List.map_drop]
      case e2 => rw [eqvI]; exact decide_eq_decide.mpr (drop_last p y)
    · have hc' : p.getLast? = some y := by simpa using hc
      rw [if_pos hc'] at hJ
      have hne : p.map PyData.int ≠ [] := fun q => by
        have : p = [] := by simpa using q
        rw [this] at hc'; simp at hc'
      refine Ex.pop (l' := [.prd fp P, .lst a ((p.map .int).dropLast)]) At.i1 (.there .here) hne hpl (Ex.next (Ex.nil fun s₂ O₂ => ⟨_, _, [.lst a ((p.map .int).dropLast)], ⟨p.dropLast, by rw [List.length_dropLast]; omega, by omega, hJ, by rw [List.map_dropLast], rfl⟩, O₂.forget (.keep (.keep (.drop .nil)))⟩))
    · have hc' : ¬ p.getLast? = some y := by simpa using hc
      rw [if_neg hc'] at hJ
      refine Ex.app (l' := [.prd fp P, .lst a (p.map .int ++ [.int y])]) At.i1 (.there .here) (Ev.name At.i2) hpl (Ex.next (Ex.nil fun s₂ O₂ => ⟨_, _, [.lst a (p.map .int ++ [.int y])], ⟨p ++ [y], by simp; omega, by omega, hJ, by simp, rfl⟩, O₂.forget (.keep (.keep (.drop .nil)))⟩))
  · rintro vs led ⟨p, hpk, hkl, hJ, rfl, rfl⟩
    rw [List.drop_of_length_le (by rw [List.length_map]; exact Nat.le_refl _), struckF] at hJ
    rw [hJ]; exact ⟨rfl, rfl⟩
  · rintro vs led bad ⟨rfl, rfl⟩
    exact Ex.frz At.i1 .here Put.i1 (Ex.ret (Ev.name At.i1) fun s v O r => O.retD r)
  · exact fun n hn => by
      cases hn with
      | head => exact Mem.i2
      | tail _ h => cases h
end
end Mine
end
section
open PySem PySem.W PyProof.Rows PySem.Spec
set_option Elab.async false
set_option linter.all false
set_option maxRecDepth 100000
set_option maxHeartbeats 1000000
namespace Mine
theorem tail_cases {k : Nat} (h : k < 7) : tailL k = [] ∨ tailL k = [11, 46] ∨ tailL k = [133, 46] := by
  have : k = 0 ∨ k = 1 ∨ k = 2 ∨ k = 3 ∨ k = 4 ∨ k = 5 ∨ k = 6 := by omega
  rcases this with q | q | q | q | q | q | q <;> subst q <;> first | exact .inl rfl | exact .inr (.inl rfl) | exact .inr (.inr rfl)
theorem tail_plain (k : Nat) : Plain (tailL k) := by
  have : ∀ y ∈ ([[], [], [], [], [], [11, 46], [133, 46]] : List (List Nat)), Plain y := by unfold Plain; decide
  unfold tailL
  rw [List.getD_eq_getElem?_getD]
  cases q : ([[], [], [], [], [], [11, 46], [133, 46]] : List (List Nat))[k]? with
  | none => exact Plain.nil
  | some y => exact this y (List.mem_of_getElem? q)
theorem more_txt (k : Nat) : ∀ r ∈ moreL k, r.2 = [] ∧ r.1 ≤ 1 := by
  have : ∀ y ∈ ([[], [], [], [(0, [])], [(0, []), (1, []), (0, [])], [], []] : List (List Row)), ∀ r ∈ y, r.2 = [] ∧ r.1 ≤ 1 := by decide
  unfold moreL
  rw [List.getD_eq_getElem?_getD]
  cases q : ([[], [], [], [(0, [])], [(0, []), (1, []), (0, [])], [], []] : List (List Row))[k]? with
  | none => intro r h; exact nomatch h
  | some y => exact this y (List.mem_of_getElem? q)
theorem more_ok (k : Nat) : ∀ r ∈ moreL k, RowOk r := fun r hr => by
  have := (more_txt k r hr).1
  exact ⟨by rw [this]; exact Plain.nil, fun _ c t e => by rw [this] at e; cases e⟩
theorem sum_le {l : List Nat} {n : Nat} (h : ∀ a ∈ l, a ≤ n) : l.sum ≤ l.length * n := by
  induction l with
  | nil => simp
  | cons a l ih =>
    have := ih fun b hb => h b (.tail _ hb)
    have := h a (.head _)
    simp [Nat.add_mul]; omega
theorem mail_size {rows : List Row} {k d n : Nat} (h : ∀ r ∈ rows, r.1 ≤ d ∧ r.2.length ≤ n) : (mailL k rows).length ≤ (rows.length + 1) * (d + k + n + 2) := by
  have h1 := jn_len CRLF (rows.map (rowL k))
  have h2 : ((rows.map (rowL k)).map (·.length)).sum ≤ rows.length * (d + k + n) := by
    have := sum_le (l := (rows.map (rowL k)).map (·.length)) (n := d + k + n) (by
      intro a ha
      obtain ⟨y, hy, rfl⟩ := List.mem_map.mp ha
      obtain ⟨r, hr, rfl⟩ := List.mem_map.mp hy
      have := h r hr
      unfold rowL
      rw [reps_one, List.length_append, List.length_replicate]
      split <;> omega)
    simpa using this
  have h3 : CRLF.length = 2 := rfl
  unfold mailL
  rw [h3] at h1
  have h4 : (if rows.map (rowL k) = [] then 1 else (rows.map (rowL k)).length) ≤ rows.length + 1 := by split <;> simp
  have e1 : (rows.length + 1) * (d + k + n + 2) = rows.length * (d + k + n) + rows.length * 2 + (d + k + n + 2) := by rw [Nat.add_mul, Nat.mul_add]; omega
  rw [e1]
  omega
theorem ends7_len (k : Nat) : (ends7.getD k []).length ≤ 6 := by
  have : ∀ y ∈ ends7, y.length ≤ 6 := by decide
  rw [List.getD_eq_getElem?_getD]
  cases q : ends7[k]? with
  | none => simp
  | some y => exact this y (List.mem_of_getElem? q)
theorem mem_le_jn {y : List Nat} {ys : List (List Nat)} (h : y ∈ ys) : y.length ≤ (jn CRLF ys).length := by
  have h1 := jn_len CRLF ys
  have h2 : y.length ≤ (ys.map (·.length)).sum := le_sum (List.mem_map.mpr ⟨y, h, rfl⟩)
  have h3 : ys ≠ [] := fun q => by rw [q] at h; exact nomatch h
  rw [if_neg h3] at h1
  have h4 : 1 ≤ ys.length := List.length_pos_iff.mpr h3
  have h5 : CRLF.length = 2 := rfl
  rw [h5] at h1
  omega
theorem spl_rows {rows : List Row} (h0 : rows ≠ []) (h : ∀ r ∈ rows, RowOk r) : spl (mailL 0 rows) CRLF = rows.map (rowL 0) :=
  spl_jn (by simpa using h0) fun y hy hc => (mail_plain h y hy 13 hc).2 rfl
theorem fmodNat {a : Int} {n : Nat} (h : n ≠ 0) : a.fmod n = ((a.fmod n).toNat : Int) ∧ (a.fmod n).toNat < n := by
  have h1 : 0 ≤ a.fmod n := Int.fmod_nonneg_of_pos _ (by omega)
  have h2 : a.fmod n < n := Int.fmod_lt_of_pos _ (by omega)
  omega

theorem op43 : ∀ p ∈ opsL, p.1.getD 0 0 = 43 → p.1 = [43] ∨ p.1 = [43, 61] := by decide +kernel
theorem op45 : ∀ p ∈ opsL, p.1.getD 0 0 = 45 → p.1 = [45] ∨ p.1 = [45, 61] ∨ p.1 = [45, 62] := by decide +kernel
theorem op46 : ∀ p ∈ opsL, p.1.getD 0 0 = 46 → p.1 = [46] ∨ p.1 = [46, 46, 46] := by decide +kernel
theorem nolookE {l : List Nat} (h : ∀ k, (l, k) ∉ opsL) : opsL.lookup l = none := by
  cases q : opsL.lookup l with
  | none => rfl
  | some k => exact absurd (look_mem q) (h k)
noncomputable def Soft (r : List Nat) : Prop := ∀ c t, r = c :: t → c ≠ 61 ∧ c ≠ 62 ∧ c ≠ 46
theorem Lx.sign {stop : List Nat} {c k : Nat} {r : List Nat} {v : Int} {out : List Int} (hc : c = 43 ∧ k = 14 ∨ c = 45 ∧ k = 15) (hs : c ∉ stop) (hr : Soft r) (h : Lx stop r 256 out) : Lx stop (c :: r) v (v :: (k : Int) :: out) := by
  have key : ∀ n, 1 < n → n ≤ 3 → n ≤ (c :: r).length → opsL.lookup ((c :: r).take n) = none := by
    intro n h1 h3 hl
    cases r with
    | nil => simp at hl; omega
    | cons d t =>
      have hd := hr d t rfl
      obtain ⟨m, rfl⟩ : ∃ m, n = m + 2 := ⟨n - 2, by omega⟩
      refine nolookE fun k' hk => ?_
      rw [List.take_succ_cons, List.take_succ_cons] at hk
      rcases hc with ⟨rfl, _⟩ | ⟨rfl, _⟩
      · rcases op43 _ hk rfl with q | q <;> simp at q; exact hd.1 q.1
      · rcases op45 _ hk rfl with q | q | q <;> simp at q
        · exact hd.1 q.1
        · exact hd.2.1 q.1
  refine Lx.op (o := []) hs (by rcases hc with ⟨rfl, _⟩ | ⟨rfl, _⟩ <;> decide) ?_ (by decide) (fun n h1 h3 hl => key n (by simpa using h1) h3 (by simpa using hl)) h
  rcases hc with ⟨rfl, rfl⟩ | ⟨rfl, rfl⟩ <;> rfl
theorem Lx.dot {stop : List Nat} {r : List Nat} {v : Int} {out : List Int} (hs : 46 ∉ stop) (hr : ∀ t, r ≠ 46 :: 46 :: t) (h : Lx stop r 256 out) : Lx stop (46 :: r) v (v :: 23 :: out) := by
  refine Lx.op (o := []) (k := 23) hs (by decide) rfl (by decide) (fun n h1 h3 hl => ?_) h
  refine nolookE fun k' hk => ?_
  have hn : 1 < n := by simpa using h1
  rw [List.nil_append] at hk hl
  obtain ⟨m, rfl⟩ : ∃ m, n = m + 1 := ⟨n - 1, by omega⟩
  rw [List.take_succ_cons] at hk
  rcases op46 _ hk rfl with q | q
  · simp at q; cases r with
    | nil => simp at hl; omega
    | cons d t => simp at q; omega
  · simp only [List.cons.injEq, true_and] at q
    cases r with
    | nil => simp at q
    | cons d t =>
      cases t with
      | nil =>
        have := congrArg List.length q
        rw [List.length_take] at this
        simp at this
        omega
      | cons e t =>
        obtain ⟨m', rfl⟩ : ∃ m', m = m' + 2 := ⟨m - 2, by
          have := congrArg List.length q
          rw [List.length_take] at this
          simp at this
          omega⟩
        rw [List.take_succ_cons, List.take_succ_cons] at q
        simp only [List.cons.injEq] at q
        exact hr t (by rw [q.1, q.2.1])
theorem Lx.dot3 {stop : List Nat} {r : List Nat} {v : Int} {out : List Int} (hs : 46 ∉ stop) (h : Lx stop r 256 out) : Lx stop (46 :: 46 :: 46 :: r) v (v :: 52 :: out) :=
  Lx.op (o := [46, 46]) (k := 52) hs (by decide) rfl (by decide) (fun n h1 h3 hl => by simp at h1; omega) h
noncomputable def dotsO : Nat → List Int
  | 0 => []
  | 1 => [256, 23]
  | 2 => [256, 23, 256, 23]
  | n + 3 => 256 :: 52 :: dotsO n
theorem Lx.dots {stop : List Nat} {y : List Nat} {out : List Int} (hs : 46 ∉ stop) (hy : ∀ t, y ≠ 46 :: t) (h : Lx stop y 256 out) : ∀ d, Lx stop (List.replicate d 46 ++ y) 256 (dotsO d ++ out)
  | 0 => h
  | 1 => Lx.dot hs (fun t e => hy _ e) h
  | 2 => Lx.dot hs (fun t e => by
      have : y = 46 :: t := by simpa using e
      exact hy _ this) (Lx.dot hs (fun t e => hy _ e) h)
  | n + 3 => Lx.dot3 hs (Lx.dots hs hy h n)
noncomputable def signK (v : Int) : Int := if v < 0 then 15 else 14
noncomputable def symR (d a : Nat) (v : Int) : List Int := dotsO d ++ [256 + (a : Int), signK v, 256 + (v.natAbs : Int)]
theorem ap_let (n : Nat) : Let (ap n) := fun c hc => ap_lt n c hc
theorem head_let {y r : List Nat} (hy : Let y) (hr : Soft r) : Soft (y ++ r) := fun c t e => by
  cases y with
  | nil => exact hr c t e
  | cons d y =>
    have := hy d (.head _)
    simp only [List.cons_append, List.cons.injEq] at e
    omega
theorem soft_tail {k : Nat} (hk : k < 7) : Soft (tailL k) := fun c t e => by
  rcases tail_cases hk with q | q | q <;> rw [q] at e <;> simp at e <;> omega
theorem row_reads (d a : Nat) (v : Int) {k : Nat} (hk : k < 7) : Lx [11, 133] (List.replicate d 46 ++ (putL a v ++ tailL k)) 256 (symR d a v) := by
  refine Lx.dots (by decide) (fun t e => ?_) ?_ d
  · unfold putL sgn at e
    cases q : ap a with
    | nil => rw [q] at e; by_cases hv : v < 0 <;> simp [hv] at e
    | cons c y =>
      have := ap_let a c (by rw [q]; exact .head _)
      rw [q] at e
      simp at e
      omega
  · have hst : ∀ c ∈ ([11, 133] : List Nat), c < 65 ∨ 81 ≤ c := by decide
    have hend : Lx [11, 133] (tailL k) (wv 256 (ap v.natAbs)) [256 + (v.natAbs : Int)] := by
      rw [wv_ap]
      rcases tail_cases hk with q | q | q <;> rw [q]
      · exact .done
      · exact .stop (by decide)
      · exact .stop (by decide)
    have h2 : Lx [11, 133] (ap v.natAbs ++ tailL k) 256 [256 + (v.natAbs : Int)] := Lx.words (ap_let _) hst hend
    have h3 := head_let (ap_let v.natAbs) (soft_tail hk)
    have e : putL a v ++ tailL k = ap a ++ (sgn v ++ (ap v.natAbs ++ tailL k)) := by unfold putL; simp
    rw [e]
    refine Lx.words (ap_let _) hst ?_
    rw [wv_ap]
    unfold sgn signK
    by_cases hv : v < 0
    · rw [if_pos hv, if_pos hv]
      exact Lx.sign (k := 15) (.inr ⟨rfl, rfl⟩) (by decide) h3 h2
    · rw [if_neg hv, if_neg hv]
      exact Lx.sign (k := 14) (.inl ⟨rfl, rfl⟩) (by decide) h3 h2
theorem rowF_dots (l : List Int) : ∀ d d0 : Nat, rowF (dotsO d ++ l) d0 0 0 0 = rowF l (d0 + d) 0 0 0
  | 0, _ => rfl
  | 1, _ => by simp [dotsO, rowF]
  | 2, d0 => by simp [dotsO, rowF]
  | n + 3, d0 => by
    have h := rowF_dots l n (d0 + 3)
    simp only [dotsO, List.cons_append, rowF]
    simp
    rw [h]
    congr 1
    omega
theorem row_tells (d a : Nat) (v : Int) : rowF (symR d a v ++ [0]) 0 0 0 0 = (d, (a : Int), v) := by
  unfold symR signK
  rw [List.append_assoc, rowF_dots, Nat.zero_add]
  have h1 : ¬ (256 + (a : Int) = 0) := by omega
  have h2 : ¬ (256 + (v.natAbs : Int) = 0) := by omega
  have h3 : 256 ≤ 256 + (a : Int) := by omega
  have h4 : 256 ≤ 256 + (v.natAbs : Int) := by omega
  by_cases hv : v < 0
  · rw [if_pos hv]
    show rowF [256 + (a : Int), 15, 256 + (v.natAbs : Int), 0] d 0 0 0 = _
    rw [rowF, if_neg h1, if_pos h3, rowF, if_neg (by decide), if_neg (by decide), if_neg (by decide), rowF, if_neg h2, if_pos h4, rowF, if_pos rfl]
    refine Prod.ext rfl (Prod.ext ?_ ?_)
    · show 256 + (a : Int) - 256 = a; omega
    · show (29 - 2 * 15) * (256 + (v.natAbs : Int) - 256) = v; omega
  · rw [if_neg hv]
    show rowF [256 + (a : Int), 14, 256 + (v.natAbs : Int), 0] d 0 0 0 = _
    rw [rowF, if_neg h1, if_pos h3, rowF, if_neg (by decide), if_neg (by decide), if_neg (by decide), rowF, if_neg h2, if_pos h4, rowF, if_pos rfl]
    refine Prod.ext rfl (Prod.ext ?_ ?_)
    · show 256 + (a : Int) - 256 = a; omega
    · show (29 - 2 * 14) * (256 + (v.natAbs : Int) - 256) = v; omega
noncomputable def altB : List Int → Bool
  | a :: b :: r => decide (256 ≤ a) && decide (b < 256) && altB r
  | [] => true
  | _ => false
theorem alt_good : ∀ (l : List Int), altB l = true → ∀ k s, l[k]? = some s → kgood k s = true
  | [], _, k, s, h => by simp at h
  | [_], h, _, _, _ => by cases h
  | a :: b :: r, h, k, s, hk => by
    simp only [altB, Bool.and_eq_true, decide_eq_true_eq] at h
    match k with
    | 0 => simp at hk; subst hk; unfold kgood; simp; omega
    | 1 => simp at hk; subst hk; unfold kgood; simp; omega
    | k + 2 =>
      have := alt_good r h.2 k s (by simpa using hk)
      unfold kgood at this ⊢
      rwa [show (k + 2) % 2 = k % 2 by omega]
theorem alt_dots (l : List Int) (h : altB l = true) : ∀ d, altB (dotsO d ++ l) = true
  | 0 => h
  | 1 => by simp [dotsO, altB, h]
  | 2 => by simp [dotsO, altB, h]
  | n + 3 => by simp [dotsO, altB, alt_dots l h n]
theorem row_kinds (d a : Nat) (v : Int) : kindsB (symR d a v ++ [0]) = true := by
  refine kindsB_true (alt_good _ ?_)
  unfold symR
  rw [List.append_assoc]
  refine alt_dots _ ?_ d
  unfold signK
  by_cases hv : v < 0 <;> simp [altB, hv] <;> omega
theorem dotsO_nn : ∀ d, ∀ x ∈ dotsO d, -1000 ≤ x
  | 0, x, h => by cases h
  | 1, x, h => by simp [dotsO] at h; omega
  | 2, x, h => by simp [dotsO] at h; omega
  | n + 3, x, h => by
    simp only [dotsO, List.mem_cons] at h
    rcases h with h | h | h
    · omega
    · omega
    · exact dotsO_nn n x h
theorem symR_nn (d a : Nat) (v : Int) : ∀ x ∈ symR d a v ++ [0], -1000 ≤ x := by
  intro x hx
  unfold symR signK at hx
  simp only [List.mem_append, List.mem_cons, List.not_mem_nil, or_false] at hx
  rcases hx with (hx | hx | hx | hx) | hx
  · exact dotsO_nn d x hx
  · omega
  · split at hx <;> omega
  · omega
  · omega
theorem dotsO_len : ∀ d, (dotsO d).length ≤ 2 * d
  | 0 => by decide
  | 1 => by decide
  | 2 => by decide
  | n + 3 => by
    have := dotsO_len n
    simp only [dotsO, List.length_cons]; omega
theorem symR_len (d a : Nat) (v : Int) : (symR d a v).length ≤ 2 * d + 3 := by
  have := dotsO_len d
  unfold symR
  simp; omega
end Mine
end
section
open PySem PySem.W PyProof.Rows PySem.Spec
set_option Elab.async false
set_option linter.all false
set_option maxRecDepth 100000
set_option maxHeartbeats 1000000
namespace Mine
noncomputable def mxI (l : List Int) : Int := match l with
  | [] => 0
  | a :: r => r.foldl max a
noncomputable def atI (l : List Int) (k : Int) : Nat := l.findIdx (· == k)
noncomputable def backI (l : List Int) : List Int := l.take (atI l (mxI l)) ++ [2 * l.sum - 3 * l.getD (atI l (mxI l)) 0] ++ l.drop (atI l (mxI l) + 1)
noncomputable def homeF : Nat → List Int → List Int → List Int × List Int
  | 0, l, word => (word, l)
  | n + 1, l, word => if l.sum < 2 * mxI l then homeF n (backI l) (word ++ [(atI l (mxI l) : Int)]) else (word, l)
theorem fold_max : ∀ (r : List Int) (a : Int), r.foldl max a ∈ a :: r ∧ ∀ x ∈ a :: r, x ≤ r.foldl max a
  | [], a => ⟨.head _, fun x h => by cases h with | head => exact Int.le_refl _ | tail _ h => cases h⟩
  | b :: r, a => by
    obtain ⟨h1, h2⟩ := fold_max r (max a b)
    rw [List.foldl_cons]
    refine ⟨?_, fun x hx => ?_⟩
    · rcases List.mem_cons.mp h1 with e | e
      · rw [e]
        by_cases q : a ≤ b
        · rw [Int.max_eq_right q]; exact .tail _ (.head _)
        · rw [Int.max_eq_left (by omega)]; exact .head _
      · exact .tail _ (.tail _ e)
    · have hm := h2 (max a b) (.head _)
      rcases List.mem_cons.mp hx with e | hx
      · subst e; exact Int.le_trans (Int.le_max_left ..) hm
      · rcases List.mem_cons.mp hx with e | hx
        · subst e; exact Int.le_trans (Int.le_max_right ..) hm
        · exact h2 x (.tail _ hx)
theorem mx_spec {l : List Int} (h : l ≠ []) : mxI l ∈ l ∧ ∀ x ∈ l, x ≤ mxI l := by
  cases l with
  | nil => exact absurd rfl h
  | cons a r => exact fold_max r a
theorem at_spec {l : List Int} {k : Int} (h : k ∈ l) : l[atI l k]? = some k ∧ ∀ (i : Nat) (y : Int), i < atI l k → l[i]? = some y → y ≠ k := by
  have hlt : atI l k < l.length := List.findIdx_lt_length_of_exists ⟨k, h, by simp⟩
  refine ⟨?_, fun i y hi hy => ?_⟩
  · rw [List.getElem?_eq_getElem hlt]
    have := List.findIdx_getElem (p := (· == k)) (w := hlt)
    simp at this
    exact congrArg some this
  · have := List.not_of_lt_findIdx (p := (· == k)) (xs := l) hi
    obtain ⟨h1, h2⟩ := List.getElem?_eq_some_iff.mp hy
    rw [h2] at this
    simpa using this
theorem back_len {l : List Int} (h : l ≠ []) : (backI l).length = l.length := by
  have := (List.getElem?_eq_some_iff.mp (at_spec (mx_spec h).1).1).1
  unfold backI
  simp only [List.length_append, List.length_take, List.length_drop, List.length_cons, List.length_nil]
  omega
section
variable {prog : Program} {w : World} {mg mb : Str → Option Value}
theorem c_home (G : (WL prog w mg mb).Glob) (l : List Int) (h0 : l.length = 4) : Fn (WL prog w mg mb) (.ref 129) 1 [.list (l.map .int)] (.list [.list ((homeF 9 l []).1.map .int), .list ((homeF 9 l []).2.map .int)]) := by
  have sz : sizeLine = 16777216 := by decide
  refine Fn.of_at (nm := ["four", "word", "place"]) (gl := ["max", "sum", "len"]) (ps := ["four"]) rfl rfl rfl rfl rfl rfl rfl (by decide +kernel) (bind1 fun _ => rfl) (.cons Put.i0 .nil) fun A s L hz bad bad' => ?_
  refine Ex.ownL (EvN.list .nil (Nat.le_of_ble_eq_true rfl)) (fun a => Put.i1) (fun a => ?_)
  refine Ex.while (J := fun n y => ∃ (m : List Int) (wd : List Int) (pl : Slot) (b : List Addr), m.length = 4 ∧ n + wd.length = 9 ∧ homeF n m wd = homeF 9 l [] ∧ y = ⟨hz, b, [.lst a (wd.map .int)], [.val (.list (m.map .int)), .ptr a, pl]⟩)
    (D := fun y => ∃ (pl : Slot) (b : List Addr), y = ⟨hz, b, [.lst a ((homeF 9 l []).1.map .int)], [.val (.list ((homeF 9 l []).2.map .int)), .ptr a, pl]⟩) (n := 9) ⟨l, [], .no, _, h0, rfl, rfl, rfl⟩ ?_ ?_
  · rintro n y ⟨m, wd, pl, b, hm, hn, hJ, rfl⟩
    have hne : m ≠ [] := fun q => by rw [q] at hm; simp at hm
    obtain ⟨hx1, hx2⟩ := mx_spec hne
    obtain ⟨ha1, ha2⟩ := at_spec hx1
    have hml : (m.map PyData.int).length ≤ sizeLine := by rw [List.length_map, sz]; omega
    have hwl : (wd.map PyData.int).length ≤ sizeLine := by rw [List.length_map, sz]; omega
    have hal := (List.getElem?_eq_some_iff.mp ha1).1
    refine ⟨decide (m.sum < 2 * mxI m) && decide (wd.length < 9), ?hT, fun h => ?_, fun h => ?_⟩
    case hT =>
      refine Tst.thaw (x := ⟨hz, b, [.lst a (wd.map .int)], [.val (.list (m.map .int)), .ptr a, pl]⟩) (l' := []) (vs' := [.val (.list (m.map .int)), .val (.list (wd.map .int)), pl]) At.i1 .here Put.i1 ?_
      refine Tst.and (Tst.cmp (EvC.gt (Ev.mul Ev.int (Ev.call (Ev.blt Mem.i0 (z_max G)) (.builtin _) (.cons (Ev.name At.i0) .nil) (Fn.max hx1 hx2) (Nat.zero_le _)) mulK) (Ev.call (Ev.blt Mem.i1 (z_sum G)) (.builtin _) (.cons (Ev.name At.i0) .nil) Fn.sum (Nat.zero_le _)))) fun _ => Tst.eq (Tst.and (Tst.cmp (EvC.ltN (Ev.eq (Ev.call (Ev.blt Mem.i2 (z_len G)) (.builtin _) (.cons (Ev.name At.i1) .nil) (Fn.len_list (by rw [List.length_map]; omega)) (Nat.zero_le _)) (b := nt wd.length) (by rw [List.length_map])) (Ev.nat (n := 9)))) fun _ => Tst.andN) (Bool.and_true _)
    · refine ⟨pl, b, ?_⟩
      have e : homeF n m wd = (wd, m) := by
        cases n with
        | zero => rfl
        | succ n =>
          have h9 : wd.length < 9 := by omega
          rw [homeF, if_neg]
          simpa [h9] using h
      rw [← hJ, e]
    · rw [Bool.and_eq_true, decide_eq_true_eq, decide_eq_true_eq] at h
      obtain ⟨h1, h2⟩ := h
      obtain ⟨n', rfl⟩ : ∃ n', n = n' + 1 := ⟨n - 1, by omega⟩
      rw [homeF, if_pos h1] at hJ
      refine Ex.asg (d := nt (atI m (mxI m))) (Ev.index (Ev.name At.i0) (Ev.call (Ev.blt Mem.i0 (z_max G)) (.builtin _) (.cons (Ev.name At.i0) .nil) (Fn.max hx1 hx2) (Nat.zero_le _)) ha1 ha2 (by omega)) Put.i2 ?_
      refine Ex.app (l' := [.lst a (wd.map .int ++ [nt (atI m (mxI m))])]) At.i1 .here (Ev.name At.i2) hwl ?_
      refine Ex.asg (d := .list ((backI m).map .int)) (Ev.eq (Ev.catL (Ev.catL (Ev.takeL (Ev.name At.i0) (Ev.name At.i2) hml) (Ev.list (ds := [.int (2 * m.sum - 3 * m.getD (atI m (mxI m)) 0)]) (.cons (Ev.sub (Ev.mul Ev.int (Ev.call (Ev.blt Mem.i1 (z_sum G)) (.builtin _) (.cons (Ev.name At.i0) .nil) Fn.sum (Nat.zero_le _)) mulK) (Ev.mul Ev.int (Ev.itemLN (Ev.name At.i0) (Ev.name At.i2) (d := .int (m.getD (atI m (mxI m)) 0)) ?i1 hml) mulK)) .nil) (Nat.le_of_ble_eq_true rfl)) ?i2) (Ev.dropL (Ev.name At.i0) (Ev.addN (Ev.name At.i2) (Ev.nat (n := 1))) hml) ?i3) ?i4) Put.i0 ?_
      case i1 => rw [List.getElem?_map, ha1, List.getD_eq_getElem?_getD, ha1]; rfl
      case i2 => rw [List.length_take, List.length_map]; simp; omega
      case i3 => rw [List.length_append, List.length_take, List.length_drop, List.length_map]; simp; omega
      case i4 => unfold backI; simp only [List.map_append, List.map_take, List.map_drop, List.map_cons, List.map_nil]
      refine Ex.nil fun s₂ O₂ => ⟨n', ⟨hz, b, [.lst a ((wd ++ [(atI m (mxI m) : Int)]).map .int)], [.val (.list ((backI m).map .int)), .ptr a, .val (nt (atI m (mxI m)))]⟩, by omega, ⟨backI m, wd ++ [(atI m (mxI m) : Int)], _, _, (back_len hne).trans hm, by simp; omega, hJ, rfl⟩, ?_⟩
      rw [List.map_append]; exact O₂
  · rintro y ⟨pl, b, rfl⟩
    exact Ex.frz At.i1 .here Put.i1 (Ex.ret (Ev.list (.cons (Ev.name At.i1) (.cons (Ev.name At.i0) .nil)) (Nat.le_of_ble_eq_true rfl)) fun s v O r => O.retD r)
end
end Mine
end
section
open PySem PySem.W PyProof.Rows PySem.Spec
set_option Elab.async false
set_option linter.all false
set_option maxRecDepth 100000
set_option maxHeartbeats 1000000
namespace Mine
noncomputable abbrev Crd := Nat × Int × Nat
noncomputable def rootsL : List (List Int) := [[-3, 5, 8, 8], [-4, 8, 9, 9], [-7, 12, 17, 20], [-8, 13, 21, 24]]
noncomputable def rootL (r : Nat) : List Int := rootsL.getD r []
noncomputable def K0 (r : Nat) : List Crd := (List.range 4).map fun j => (j, (rootL r).getD j 0, 0)
noncomputable def stepK (t m : Nat) (K : List Crd) : List Crd := (m, 2 * (K.map fun c => c.2.1).sum - 3 * ((K.filter fun c => c.1 == m).map fun c => c.2.1).sum, t + 1) :: K.filter fun c => c.1 != m
noncomputable def runK : List Nat → Nat → List Crd → List Crd
  | [], _, K => K
  | m :: r, t, K => runK r (t + 1) (stepK t m K)
noncomputable def hits (moves : List Nat) (j : Nat) : List Nat := (List.range moves.length).filter fun t => moves.getD t 0 == j
noncomputable def lastI (moves : List Nat) (j : Nat) : Int := mxI (-1 :: (hits moves j).map fun t : Nat => (t : Int))
noncomputable def keysL (moves : List Nat) : List Int := (List.range 4).map fun j => -lastI moves j
noncomputable def fourK (K : List Crd) : List Int := (List.range 4).map fun j => ((K.filter fun c => c.1 == j).map fun c => c.2.1).sum
noncomputable def pl (c : Crd) : Nat × Nat := (c.1, c.2.2)
noncomputable def stepP (t m : Nat) (P : List (Nat × Nat)) : List (Nat × Nat) := (m, t + 1) :: P.filter fun c => c.1 != m
noncomputable def runP : List Nat → Nat → List (Nat × Nat) → List (Nat × Nat)
  | [], _, P => P
  | m :: r, t, P => runP r (t + 1) (stepP t m P)
theorem run_pl : ∀ (moves : List Nat) (t : Nat) (K : List Crd), (runK moves t K).map pl = runP moves t (K.map pl)
  | [], _, _ => rfl
  | m :: r, t, K => by
    rw [runK, runP, run_pl r]
    congr 1
    unfold stepK stepP
    rw [List.map_cons, List.filter_map]
    rfl
noncomputable def chkO (moves : List Nat) : Bool :=
  let P := runP moves 0 [(0, 0), (1, 0), (2, 0), (3, 0)]
  (match runC 4 (fun a b => decide ((keysL moves).getD a 0 < (keysL moves).getD b 0)) (kas_sort 4) with
    | some p => p.toList == P.map (·.1)
    | none => false)
  && (P.map (·.1)).isPerm (List.range 4) && P.all (fun c => ((c.2 : Int) == lastI moves c.1 + 1))
  && decide ((P.headD (0, 0)).2 = moves.length) && P.tail.all (fun c => decide (c.2 < moves.length))
noncomputable def chkN (r : Nat) (moves : List Nat) : Bool :=
  let K := runK moves 0 (K0 r)
  K.all (fun c => decide (c.2.1.natAbs < 16 ^ 8)) && decide (homeF 9 (fourK K) [] = ((struckF (moves.map fun m : Nat => (m : Int)) []).reverse, rootL r))
noncomputable def allL : Nat → List (List Nat)
  | 0 => [[]]
  | n + 1 => (allL n).flatMap fun l => [0, 1, 2, 3].map fun x => x :: l
theorem all_mem : ∀ l : List Nat, (∀ x ∈ l, x < 4) → l ∈ allL l.length
  | [], _ => .head _
  | x :: l, h => by
    refine List.mem_flatMap.mpr ⟨l, all_mem l fun y hy => h y (.tail _ hy), List.mem_map.mpr ⟨x, ?_, rfl⟩⟩
    have := h x (.head _)
    have : x = 0 ∨ x = 1 ∨ x = 2 ∨ x = 3 := by omega
    rcases this with q | q | q | q <;> subst q <;> simp
theorem o14 : ((allL 1).all chkO && (allL 2).all chkO && (allL 3).all chkO && (allL 4).all chkO) = true := by decide +kernel
theorem o5_0 : ((allL 4).all fun l => chkO (0 :: l)) = true := by decide +kernel
theorem o5_1 : ((allL 4).all fun l => chkO (1 :: l)) = true := by decide +kernel
theorem o5_2 : ((allL 4).all fun l => chkO (2 :: l)) = true := by decide +kernel
theorem o5_3 : ((allL 4).all fun l => chkO (3 :: l)) = true := by decide +kernel
theorem n0_14 : ((allL 1).all (chkN 0) && (allL 2).all (chkN 0) && (allL 3).all (chkN 0) && (allL 4).all (chkN 0)) = true := by decide +kernel
theorem n0_5_0 : ((allL 4).all fun l => chkN 0 (0 :: l)) = true := by decide +kernel
theorem n0_5_1 : ((allL 4).all fun l => chkN 0 (1 :: l)) = true := by decide +kernel
theorem n0_5_2 : ((allL 4).all fun l => chkN 0 (2 :: l)) = true := by decide +kernel
theorem n0_5_3 : ((allL 4).all fun l => chkN 0 (3 :: l)) = true := by decide +kernel
theorem n1_14 : ((allL 1).all (chkN 1) && (allL 2).all (chkN 1) && (allL 3).all (chkN 1) && (allL 4).all (chkN 1)) = true := by decide +kernel
theorem n1_5_0 : ((allL 4).all fun l => chkN 1 (0 :: l)) = true := by decide +kernel
theorem n1_5_1 : ((allL 4).all fun l => chkN 1 (1 :: l)) = true := by decide +kernel
theorem n1_5_2 : ((allL 4).all fun l => chkN 1 (2 :: l)) = true := by decide +kernel
theorem n1_5_3 : ((allL 4).all fun l => chkN 1 (3 :: l)) = true := by decide +kernel
theorem n2_14 : ((allL 1).all (chkN 2) && (allL 2).all (chkN 2) && (allL 3).all (chkN 2) && (allL 4).all (chkN 2)) = true := by decide +kernel
theorem n2_5_0 : ((allL 4).all fun l => chkN 2 (0 :: l)) = true := by decide +kernel
theorem n2_5_1 : ((allL 4).all fun l => chkN 2 (1 :: l)) = true := by decide +kernel
theorem n2_5_2 : ((allL 4).all fun l => chkN 2 (2 :: l)) = true := by decide +kernel
theorem n2_5_3 : ((allL 4).all fun l => chkN 2 (3 :: l)) = true := by decide +kernel
theorem n3_14 : ((allL 1).all (chkN 3) && (allL 2).all (chkN 3) && (allL 3).all (chkN 3) && (allL 4).all (chkN 3)) = true := by decide +kernel
theorem n3_5_0 : ((allL 4).all fun l => chkN 3 (0 :: l)) = true := by decide +kernel
theorem n3_5_1 : ((allL 4).all fun l => chkN 3 (1 :: l)) = true := by decide +kernel
theorem n3_5_2 : ((allL 4).all fun l => chkN 3 (2 :: l)) = true := by decide +kernel
theorem n3_5_3 : ((allL 4).all fun l => chkN 3 (3 :: l)) = true := by decide +kernel
theorem spread {f : List Nat → Bool} (h14 : ((allL 1).all f && (allL 2).all f && (allL 3).all f && (allL 4).all f) = true) (h50 : ((allL 4).all fun l => f (0 :: l)) = true) (h51 : ((allL 4).all fun l => f (1 :: l)) = true)
    (h52 : ((allL 4).all fun l => f (2 :: l)) = true) (h53 : ((allL 4).all fun l => f (3 :: l)) = true) {moves : List Nat} (h4 : ∀ x ∈ moves, x < 4) (h1 : 1 ≤ moves.length) (h5 : moves.length ≤ 5) : f moves = true := by
  have hm := all_mem moves h4
  simp only [Bool.and_eq_true] at h14
  obtain ⟨⟨⟨a1, a2⟩, a3⟩, a4⟩ := h14
  by_cases q5 : moves.length = 5
  · cases moves with
    | nil => simp at q5
    | cons m l =>
      have hl : l.length = 4 := by simpa using q5
      have hm' := all_mem l fun x hx => h4 x (.tail _ hx)
      rw [hl] at hm'
      have := h4 m (.head _)
      have : m = 0 ∨ m = 1 ∨ m = 2 ∨ m = 3 := by omega
      rcases this with q | q | q | q <;> subst q
      · exact List.all_eq_true.mp h50 _ hm'
      · exact List.all_eq_true.mp h51 _ hm'
      · exact List.all_eq_true.mp h52 _ hm'
      · exact List.all_eq_true.mp h53 _ hm'
  · generalize hn : moves.length = n at hm h1 h5 q5
    have : n = 1 ∨ n = 2 ∨ n = 3 ∨ n = 4 := by omega
    rcases this with q | q | q | q <;> subst q
    · exact List.all_eq_true.mp a1 _ hm
    · exact List.all_eq_true.mp a2 _ hm
    · exact List.all_eq_true.mp a3 _ hm
    · exact List.all_eq_true.mp a4 _ hm
end Mine
end
section
open PySem PySem.W PyProof.Rows PySem.Spec
set_option Elab.async false
set_option linter.all false
set_option maxRecDepth 100000
set_option maxHeartbeats 1000000
namespace Mine
structure KOk (r : Nat) (moves : List Nat) (K : List Crd) : Prop where
  run : ∃ p, runC 4 (fun a b => decide ((keysL moves).getD a 0 < (keysL moves).getD b 0)) (kas_sort 4) = some p ∧ p.toList = K.map (·.1)
  perm : (K.map (·.1)).Perm (List.range 4)
  last : ∀ c ∈ K, (c.2.2 : Int) = lastI moves c.1 + 1
  small : ∀ c ∈ K, c.2.1.natAbs < 16 ^ 8
  top : (K.headD (0, 0, 0)).2.2 = moves.length
  below : ∀ c ∈ K.tail, c.2.2 < moves.length
  home : homeF 9 (fourK K) [] = ((struckF (moves.map fun m : Nat => (m : Int)) []).reverse, rootL r)
theorem numOk {r : Nat} (hr : r < 4) {moves : List Nat} (h4 : ∀ x ∈ moves, x < 4) (h1 : 1 ≤ moves.length) (h5 : moves.length ≤ 5) : chkN r moves = true := by
  have : r = 0 ∨ r = 1 ∨ r = 2 ∨ r = 3 := by omega
  rcases this with q | q | q | q <;> subst q
  · exact spread n0_14 n0_5_0 n0_5_1 n0_5_2 n0_5_3 h4 h1 h5
  · exact spread n1_14 n1_5_0 n1_5_1 n1_5_2 n1_5_3 h4 h1 h5
  · exact spread n2_14 n2_5_0 n2_5_1 n2_5_2 n2_5_3 h4 h1 h5
  · exact spread n3_14 n3_5_0 n3_5_1 n3_5_2 n3_5_3 h4 h1 h5
theorem kok {r : Nat} (hr : r < 4) {moves : List Nat} (h4 : ∀ x ∈ moves, x < 4) (h1 : 1 ≤ moves.length) (h5 : moves.length ≤ 5) : KOk r moves (runK moves 0 (K0 r)) := by
  have hN := numOk hr h4 h1 h5
  have hO : chkO moves = true := spread o14 o5_0 o5_1 o5_2 o5_3 h4 h1 h5
  have hP := run_pl moves 0 (K0 r)
  rw [show (K0 r).map pl = [(0, 0), (1, 0), (2, 0), (3, 0)] from rfl] at hP
  unfold chkN at hN
  unfold chkO at hO
  simp only [Bool.and_eq_true, decide_eq_true_eq, ← hP] at hN hO
  obtain ⟨c1, c2⟩ := hN
  obtain ⟨⟨⟨⟨b1, b2⟩, b3⟩, b5⟩, b6⟩ := hO
  clear hP
  generalize runK moves 0 (K0 r) = K at c1 c2 b1 b2 b3 b5 b6 ⊢
  have e1 : (K.map pl).map (fun c => c.1) = K.map (·.1) := by rw [List.map_map]; rfl
  rw [e1] at b1 b2
  refine ⟨?_, List.isPerm_iff.mp b2, fun c hc => by simpa [pl] using List.all_eq_true.mp b3 (pl c) (List.mem_map_of_mem hc), fun c hc => by simpa using List.all_eq_true.mp c1 c hc, ?_, fun c hc => ?_, c2⟩
  · cases hp : runC 4 (fun a b => decide ((keysL moves).getD a 0 < (keysL moves).getD b 0)) (kas_sort 4) with
    | none => rw [hp] at b1; cases b1
    | some p => rw [hp] at b1; exact ⟨p, rfl, by simpa using b1⟩
  · cases K with
    | nil => exact b5
    | cons c K => exact b5
  · cases K with
    | nil => cases hc
    | cons c' K => exact of_decide_eq_true (List.all_eq_true.mp b6 (pl c) (List.mem_map_of_mem hc))
end Mine
end
section
open PySem PySem.W PyProof.Rows PySem.Spec
set_option Elab.async false
set_option linter.all false
set_option maxRecDepth 100000
set_option maxHeartbeats 1000000
namespace Mine
noncomputable abbrev Q4 := Nat × Nat × Int × Nat
noncomputable def qtxt (q : Q4) : List Nat := putL q.2.1 q.2.2.1 ++ tailL q.2.2.2
noncomputable def qrow (q : Q4) : Row := (q.1, qtxt q)
noncomputable def qstr (q : Q4) : List Nat := List.replicate q.1 46 ++ qtxt q
noncomputable def endOf (es : List Nat) (l : Nat) : Nat := if l = 0 then 0 else es.getD (l - 1) 0
noncomputable def cardQ (u : Int) (es : List Nat) (t : Nat) (c : Crd) : Q4 := (2 + t - c.2.2, c.1, u * c.2.1, endOf es c.2.2)
noncomputable def lastQ (u : Int) : Q4 := (0, 0, u, 0)
noncomputable def Kt (r : Nat) (ms : List Nat) (t : Nat) : List Crd := runK (ms.take t) 0 (K0 r)
noncomputable def Qt (r : Nat) (ms : List Nat) (u : Int) (es : List Nat) (t : Nat) : List Q4 := (Kt r ms t).map (cardQ u es t) ++ [lastQ u]
theorem run_snoc : ∀ (l : List Nat) (m t : Nat) (K : List Crd), runK (l ++ [m]) t K = stepK (t + l.length) m (runK l t K)
  | [], m, t, K => rfl
  | a :: l, m, t, K => by
    rw [List.cons_append, runK, runK, run_snoc l, List.length_cons]
    congr 1
    omega
theorem Kt_succ {r : Nat} {ms : List Nat} {t : Nat} (h : t < ms.length) : Kt r ms (t + 1) = stepK t (ms.getD t 0) (Kt r ms t) := by
  unfold Kt
  have e : ms.take (t + 1) = ms.take t ++ [ms.getD t 0] := by
    rw [List.take_add_one, List.getD_eq_getElem?_getD, List.getElem?_eq_getElem h]; rfl
  rw [e, run_snoc, List.length_take, Nat.min_eq_left (by omega), Nat.zero_add]
theorem Kt_age (r : Nat) (ms : List Nat) : ∀ t, t ≤ ms.length → ∀ c ∈ Kt r ms t, c.2.2 ≤ t
  | 0, _, c, h => by
    unfold Kt at h
    rw [List.take_zero, runK] at h
    unfold K0 at h
    obtain ⟨j, _, rfl⟩ := List.mem_map.mp h
    exact Nat.le_refl _
  | t + 1, ht, c, h => by
    rw [Kt_succ ht] at h
    unfold stepK at h
    rcases List.mem_cons.mp h with rfl | h
    · exact Nat.le_refl _
    · have := Kt_age r ms t (by omega) c (List.mem_filter.mp h).1
      omega
theorem Kt_len (r : Nat) (ms : List Nat) : ∀ t, t ≤ ms.length → (Kt r ms t).length ≤ 4 + t
  | 0, _ => by unfold Kt; rw [List.take_zero, runK]; unfold K0; simp
  | t + 1, ht => by
    rw [Kt_succ ht]
    unfold stepK
    have := Kt_len r ms t (by omega)
    have h2 := List.length_filter_le (fun c : Crd => c.1 != ms.getD t 0) (Kt r ms t)
    rw [List.length_cons]; omega
theorem K0_small : ∀ r, r < 4 → ∀ c ∈ K0 r, c.2.1.natAbs < 16 ^ 8 ∧ c.1 < 4 := by decide
theorem Kt_small {r : Nat} (hr : r < 4) {ms : List Nat} (h4 : ∀ x ∈ ms, x < 4) (h5 : ms.length ≤ 5) {t : Nat} (ht : t ≤ ms.length) : ∀ c ∈ Kt r ms t, c.2.1.natAbs < 16 ^ 8 ∧ c.1 < 4 := by
  cases t with
  | zero => unfold Kt; rw [List.take_zero, runK]; exact K0_small r hr
  | succ t =>
    have hl : (ms.take (t + 1)).length = t + 1 := by rw [List.length_take]; omega
    have k := kok hr (moves := ms.take (t + 1)) (fun x hx => h4 x (List.mem_of_mem_take hx)) (by omega) (by omega)
    intro c hc
    refine ⟨k.small c hc, ?_⟩
    have : c.1 ∈ List.range 4 := k.perm.mem_iff.mp (List.mem_map_of_mem hc)
    simpa using this
theorem putL_plain (a : Nat) (v : Int) : Plain (putL a v) := by
  unfold putL sgn
  refine ((Let.plain (ap_let a)).append ?_).append (Let.plain (ap_let _))
  split <;> (intro c hc; simp at hc; omega)
theorem putL_head (a : Nat) (v : Int) (r : List Nat) : ∀ c t, putL a v ++ r = c :: t → c ≠ 46 ∧ c ≠ 10 := by
  intro c t e
  unfold putL sgn at e
  cases q : ap a with
  | nil => rw [q] at e; by_cases hv : v < 0 <;> simp [hv] at e <;> omega
  | cons d y =>
    have := ap_let a d (by rw [q]; exact .head _)
    rw [q] at e
    simp at e
    omega
theorem putL_sign (a : Nat) (v : Int) : ∃ c ∈ putL a v, c ≠ 46 := by
  unfold putL sgn
  by_cases hv : v < 0
  · exact ⟨45, by simp [hv], by decide⟩
  · exact ⟨43, by simp [hv], by decide⟩
theorem qtxt_plain (q : Q4) : Plain (qtxt q) := (putL_plain _ _).append (tail_plain _)
theorem qtxt_head (q : Q4) : ∀ c t, qtxt q = c :: t → c ≠ 46 ∧ c ≠ 10 := putL_head _ _ _
theorem qtxt_sign (q : Q4) : ∃ c ∈ qtxt q, c ≠ 46 := by
  obtain ⟨c, h1, h2⟩ := putL_sign q.2.1 q.2.2.1
  exact ⟨c, List.mem_append_left _ h1, h2⟩
theorem qrow_ok (q : Q4) : RowOk (qrow q) := ⟨qtxt_plain q, fun _ c t e => (qtxt_head q c t e).1⟩
theorem rowL_zero (r : Row) : rowL 0 r = List.replicate r.1 46 ++ r.2 := by
  unfold rowL
  rw [reps_one]
  by_cases h : r.1 = 0
  · rw [if_pos h, h]
  · rw [if_neg h]; rfl
theorem rowL_q (q : Q4) : rowL 0 (qrow q) = qstr q := rowL_zero _
noncomputable def liveR (r : Row) : Bool := decide (r.2 ≠ [])
noncomputable def RowG (r : Row) : Prop := RowOk r ∧ (r.2 = [] ∨ ∃ c ∈ r.2, c ≠ 46)
theorem qrow_g (q : Q4) : RowG (qrow q) := ⟨qrow_ok q, .inr (qtxt_sign q)⟩
theorem more_g {k : Nat} : ∀ r ∈ moreL k, RowG r := fun r hr => ⟨more_ok k r hr, .inl (more_txt k r hr).1⟩
theorem more1_ok {r : Row} (h : RowOk r) : RowOk (more1 1 r) := ⟨h.1, fun e => h.2 (by unfold more1 at e; dsimp only at e; split at e <;> omega)⟩
theorem more1_g {r : Row} (h : RowG r) : RowG (more1 1 r) := ⟨more1_ok h.1, h.2⟩
theorem bare_row {r : Row} (h : RowG r) : decide (bare (rowL 0 r) ≠ []) = liveR r := by
  unfold liveR
  rw [rowL_zero]
  rcases h.2 with e | ⟨c, hc, h46⟩
  · rw [e, List.append_nil, bare_nil (fun c hc => List.eq_of_mem_replicate hc)]
  · have h1 := bare_some (l := List.replicate r.1 46 ++ r.2) (List.mem_append_right _ hc) h46
    have h2 : r.2 ≠ [] := fun q => by rw [q] at hc; cases hc
    rw [decide_eq_true h1, decide_eq_true h2]
noncomputable def keepQ (m : Nat) (q : Q4) : Bool := decide (q.1 = 0) || decide (q.2.1 ≠ m)
noncomputable def rowsN (m k : Nat) (v : Int) (Q : List Q4) : List Row := aged0 ([(1, putL m v ++ tailL k)] ++ moreL k ++ Q.map qrow)
theorem rowsN_g (m k : Nat) (v : Int) (Q : List Q4) : ∀ r ∈ rowsN m k v Q, RowG r := by
  intro r hr
  unfold rowsN aged0 at hr
  obtain ⟨r', hr', rfl⟩ := List.mem_map.mp hr
  refine more1_g ?_
  simp only [List.mem_append, List.mem_singleton, List.mem_map] at hr'
  rcases hr' with (rfl | h) | ⟨q, _, rfl⟩
  · exact qrow_g (1, m, v, k)
  · exact more_g r' h
  · exact qrow_g q
noncomputable def ageQ (q : Q4) : Q4 := (if q.1 = 0 then 0 else q.1 + 1, q.2)
theorem live_q (q : Q4) : liveR (qrow q) = true := by
  unfold liveR
  obtain ⟨c, hc, _⟩ := qtxt_sign q
  exact decide_eq_true fun e => by
    have e' : qtxt q = [] := e
    rw [e'] at hc; cases hc
theorem filt_live (Q : List Q4) : (Q.map qrow).filter liveR = Q.map qrow := List.filter_eq_self.mpr fun r hr => by
  obtain ⟨q, _, rfl⟩ := List.mem_map.mp hr
  exact live_q q
theorem rowsN_live (m k : Nat) (v : Int) (Q : List Q4) : (rowsN m k v Q).filter liveR = ((2, m, v, k) :: Q.map ageQ).map qrow := by
  unfold rowsN aged0
  rw [List.map_append, List.map_append, List.filter_append, List.filter_append]
  have e1 : ((moreL k).map (more1 1)).filter liveR = [] := by
    rw [List.filter_eq_nil_iff]
    intro r hr
    obtain ⟨r', hr', rfl⟩ := List.mem_map.mp hr
    have := (more_txt k r' hr').1
    unfold liveR more1
    simp [this]
  have e2 : (Q.map qrow).map (more1 1) = (Q.map ageQ).map qrow := by rw [List.map_map, List.map_map]; rfl
  rw [e1, e2, filt_live]
  have e3 : ([(1, putL m v ++ tailL k)].map (more1 1)).filter liveR = [qrow (2, m, v, k)] := filt_live [(2, m, v, k)]
  rw [e3]; rfl
theorem page_next {m k : Nat} (hk : k < 7) (v : Int) {Q : List Q4} (h0 : Q ≠ []) : qd (46 :: putL m v ++ ends7.getD k [] ++ jn CRLF (Q.map qstr)) = mailL 0 (rowsN m k v Q) := by
  have h := qd_laid (rows := Q.map qrow) (fun r hr => by
    obtain ⟨q, _, rfl⟩ := List.mem_map.mp hr
    exact qrow_ok q) (place := 0) (k := k) (by rw [List.length_map]; exact List.length_pos_iff.mpr h0) hk (putL_plain m v) (tail_plain k) (more_ok k)
  rw [List.take_zero, List.drop_zero, List.map_nil, List.flatMap_nil, List.nil_append, List.nil_append, List.map_map] at h
  have e : (rowL 0 ∘ qrow) = qstr := funext rowL_q
  rw [e] at h
  exact h
theorem page_zero {p0 p1 p2 p3 U : List Nat} (h0 : Plain p0) (h1 : Plain p1) (h2 : Plain p2) (h3 : Plain p3) (hU : Plain U) (hd : ∀ c t, U = c :: t → c ≠ 46 ∧ c ≠ 10) :
    qd ((46 :: p0 ++ ends7.getD 0 []) ++ ((46 :: p1 ++ ends7.getD 1 []) ++ ((46 :: p2 ++ ends7.getD 2 []) ++ ((46 :: p3 ++ ends7.getD 3 []) ++ U)))) = mailL 0 [(2, p0), (2, p1), (2, p2), (2, p3), (0, []), (0, U)] := by
  have hh : ∀ (y r : List Nat), ∀ c t, (46 :: y) ++ r = c :: t → c ≠ 10 := fun y r c t e => by
    simp only [List.cons_append, List.cons.injEq] at e; omega
  have hk : ∀ k, k < 4 → tailL k = [] := by decide
  unfold qd
  have e : crlf ((46 :: p0 ++ ends7.getD 0 []) ++ ((46 :: p1 ++ ends7.getD 1 []) ++ ((46 :: p2 ++ ends7.getD 2 []) ++ ((46 :: p3 ++ ends7.getD 3 []) ++ U)))) = mailL 0 [(1, p0), (1, p1), (1, p2), (1, p3), (0, []), (0, U)] := by
    rw [List.append_assoc, crlf_plain (y := 46 :: p0) (h0.cons (by decide)), crlf_ends (by rw [List.append_assoc]; exact hh _ _) 0 (by decide)]
    rw [List.append_assoc (46 :: p1), crlf_plain (y := 46 :: p1) (h1.cons (by decide)), crlf_ends (by rw [List.append_assoc]; exact hh _ _) 1 (by decide)]
    rw [List.append_assoc (46 :: p2), crlf_plain (y := 46 :: p2) (h2.cons (by decide)), crlf_ends (by rw [List.append_assoc]; exact hh _ _) 2 (by decide)]
    rw [List.append_assoc (46 :: p3), crlf_plain (y := 46 :: p3) (h3.cons (by decide)), crlf_ends (fun c t e => (hd c t e).2) 3 (by decide), crlf_self hU]
    rw [hk 0 (by decide), hk 1 (by decide), hk 2 (by decide), hk 3 (by decide)]
    unfold mailL
    simp only [List.map_cons, List.map_nil, rowL_zero, jn_cons]
    simp [moreL, rowL_zero, CRLF]
  rw [e, stuff_all (by simp)]
  · rfl
  · intro r hr
    simp only [List.mem_cons, List.not_mem_nil, or_false] at hr
    rcases hr with rfl | rfl | rfl | rfl | rfl | rfl
    · exact ⟨h0, fun e => by cases e⟩
    · exact ⟨h1, fun e => by cases e⟩
    · exact ⟨h2, fun e => by cases e⟩
    · exact ⟨h3, fun e => by cases e⟩
    · exact ⟨Plain.nil, fun _ c t e => by cases e⟩
    · exact ⟨hU, fun _ c t e => (hd c t e).1⟩
end Mine
end
section
open PySem PySem.W PyProof.Rows PySem.Spec
set_option Elab.async false
set_option linter.all false
set_option maxRecDepth 100000
set_option maxHeartbeats 1000000
namespace Mine
noncomputable def intsD (l : List Int) : PyData := .list (l.map .int)
theorem lay_intss : ∀ l : List (List Int), PyData.canLayAll0 (l.map intsD) = true
  | [] => rfl
  | a :: l => by simp only [List.map_cons, PyData.canLayAll0, intsD, PyData.canLay0, lay_ints, Bool.true_and]; exact lay_intss l
theorem dep_intss : ∀ l : List (List Int), PyData.depthAll (l.map intsD) ≤ 1
  | [] => by simp [PyData.depthAll]
  | a :: l => by simp only [List.map_cons, PyData.depthAll, intsD, PyData.depth, dep_ints]; have := dep_intss l; omega
theorem shaped_intss (l : List (List Int)) : SeqAt.shaped (.list (l.map intsD)) = true := by
  rw [SeqAt.shaped, Bool.and_eq_true, decide_eq_true_eq]
  refine ⟨?_, ?_⟩
  · rw [PyData.canLay0]; exact lay_intss l
  · rw [PyData.depth]; have := dep_intss l; omega
theorem eqv_intss : ∀ l m : List (List Int), PyData.eqvAll (l.map intsD) (m.map intsD) = decide (l = m)
  | [], [] => rfl
  | [], _ :: _ => rfl
  | _ :: _, [] => rfl
  | a :: l, b :: m => by
    have h : PyData.eqv (intsD a) (intsD b) = decide (a = b) := eqvI a b
    simp only [List.map_cons, PyData.eqvAll, h, eqv_intss l m, List.cons.injEq]
    by_cases q : a = b <;> simp [q]
theorem eqvII (l m : List (List Int)) : PyData.eqv (.list (l.map intsD)) (.list (m.map intsD)) = decide (l = m) := by rw [PyData.eqv]; exact eqv_intss l m
theorem fold_scale {s : Int} (hs : 0 < s) : ∀ (r : List Int) (a : Int), (r.map (s * ·)).foldl max (s * a) = s * r.foldl max a
  | [], a => rfl
  | b :: r, a => by
    have e : max (s * a) (s * b) = s * max a b := by
      by_cases h : a ≤ b
      · rw [Int.max_eq_right h, Int.max_eq_right (Int.mul_le_mul_of_nonneg_left h (Int.le_of_lt hs))]
      · have hba : b ≤ a := by omega
        rw [Int.max_eq_left hba, Int.max_eq_left (Int.mul_le_mul_of_nonneg_left hba (Int.le_of_lt hs))]
    rw [List.map_cons, List.foldl_cons, List.foldl_cons, e, fold_scale hs r]
theorem mx_scale {s : Int} (hs : 0 < s) (l : List Int) : mxI (l.map (s * ·)) = s * mxI l := by
  cases l with
  | nil => simp [mxI]
  | cons a r => exact fold_scale hs r a
theorem at_scale {s : Int} (hs : 0 < s) (l : List Int) (k : Int) : atI (l.map (s * ·)) (s * k) = atI l k := by
  unfold atI
  rw [List.findIdx_map]
  congr 1
  funext x
  show (s * x == s * k) = (x == k)
  have hs' : s ≠ 0 := by omega
  by_cases h : x = k
  · subst h; simp
  · have : s * x ≠ s * k := fun q => h (Int.eq_of_mul_eq_mul_left hs' q)
    rw [beq_eq_false_iff_ne.mpr this, beq_eq_false_iff_ne.mpr h]
theorem sum_scale (s : Int) : ∀ l : List Int, (l.map (s * ·)).sum = s * l.sum
  | [] => by simp
  | a :: l => by rw [List.map_cons, List.sum_cons, List.sum_cons, sum_scale s l, Int.mul_add]
theorem getD_scale (s : Int) (l : List Int) (i : Nat) : (l.map (s * ·)).getD i 0 = s * l.getD i 0 := by
  rw [List.getD_eq_getElem?_getD, List.getD_eq_getElem?_getD, List.getElem?_map]
  cases l[i]? <;> simp
theorem back_scale {s : Int} (hs : 0 < s) (l : List Int) : backI (l.map (s * ·)) = (backI l).map (s * ·) := by
  unfold backI
  rw [mx_scale hs, at_scale hs, sum_scale, getD_scale]
  simp only [List.map_append, List.map_take, List.map_drop, List.map_cons, List.map_nil]
  congr 2
  rw [Int.mul_sub]
  congr 1
  have h1 : 2 * (s * l.sum) = s * (2 * l.sum) := by rw [← Int.mul_assoc, ← Int.mul_assoc, Int.mul_comm 2 s]
  have h2 : 3 * (s * l.getD (atI l (mxI l)) 0) = s * (3 * l.getD (atI l (mxI l)) 0) := by rw [← Int.mul_assoc, ← Int.mul_assoc, Int.mul_comm 3 s]
  rw [h1, h2]
theorem home_scale {s : Int} (hs : 0 < s) : ∀ (n : Nat) (l wd : List Int), homeF n (l.map (s * ·)) wd = ((homeF n l wd).1, (homeF n l wd).2.map (s * ·))
  | 0, _, _ => rfl
  | n + 1, l, wd => by
    have e : ((l.map (s * ·)).sum < 2 * mxI (l.map (s * ·))) ↔ l.sum < 2 * mxI l := by
      rw [mx_scale hs, sum_scale]
      have h1 : 2 * (s * mxI l) = s * (2 * mxI l) := by rw [← Int.mul_assoc, ← Int.mul_assoc, Int.mul_comm 2 s]
      rw [h1]
      exact ⟨fun h => Int.lt_of_mul_lt_mul_left h (Int.le_of_lt hs), fun h => Int.mul_lt_mul_of_pos_left h hs⟩
    rw [homeF, homeF]
    by_cases h : l.sum < 2 * mxI l
    · rw [if_pos (e.mpr h), if_pos h, back_scale hs, mx_scale hs, at_scale hs, home_scale hs n]
    · rw [if_neg (fun q => h (e.mp q)), if_neg h]
noncomputable def ringW (t m : Nat) (K : List Crd) : Int := 2 * (K.map fun c => c.2.1).sum - 3 * ((K.filter fun c => c.1 == m).map fun c => c.2.1).sum
noncomputable def rowsP (r : Nat) (ms : List Nat) (u : Int) (es : List Nat) : Nat → List Row
  | 0 => [(2, putL 0 (u * (rootL r).getD 0 0)), (2, putL 1 (u * (rootL r).getD 1 0)), (2, putL 2 (u * (rootL r).getD 2 0)), (2, putL 3 (u * (rootL r).getD 3 0)), (0, []), (0, putL 0 u)]
  | t + 1 => rowsN (ms.getD t 0) (es.getD t 0) (u * ringW t (ms.getD t 0) (Kt r ms t)) ((Qt r ms u es t).filter (keepQ (ms.getD t 0)))
section
variable {r : Nat} {ms es : List Nat} {u : Int}
theorem Q_next {t : Nat} (ht : t < ms.length) : Qt r ms u es (t + 1) = (2, ms.getD t 0, u * ringW t (ms.getD t 0) (Kt r ms t), es.getD t 0) :: ((Qt r ms u es t).filter (keepQ (ms.getD t 0))).map ageQ := by
  unfold Qt
  rw [Kt_succ ht, List.filter_append, List.map_append]
  have e1 : ([lastQ u].filter (keepQ (ms.getD t 0))).map ageQ = [lastQ u] := rfl
  have hage := Kt_age r ms t (by omega)
  rw [e1]
  unfold stepK
  rw [List.map_cons, List.cons_append]
  congr 1
  · show (2 + (t + 1) - (t + 1), _, _, endOf es (t + 1)) = _
    rw [show 2 + (t + 1) - (t + 1) = 2 by omega]; rfl
  · congr 1
    rw [List.filter_map, List.map_map]
    have e2 : (Kt r ms t).filter (keepQ (ms.getD t 0) ∘ cardQ u es t) = (Kt r ms t).filter fun c => c.1 != ms.getD t 0 := by
      refine List.filter_congr fun c hc => ?_
      have := hage c hc
      show (decide (2 + t - c.2.2 = 0) || decide (c.1 ≠ ms.getD t 0)) = _
      rw [decide_eq_false (by omega), Bool.false_or]
      generalize ms.getD t 0 = m
      by_cases q : c.1 = m <;> simp [q]
    rw [e2]
    refine List.map_congr_left fun c hc => ?_
    have := hage c (List.mem_filter.mp hc).1
    show (2 + (t + 1) - c.2.2, c.1, u * c.2.1, endOf es c.2.2) = (if 2 + t - c.2.2 = 0 then 0 else 2 + t - c.2.2 + 1, c.1, u * c.2.1, endOf es c.2.2)
    rw [if_neg (by omega), show 2 + (t + 1) - c.2.2 = 2 + t - c.2.2 + 1 by omega]
theorem put0 (a : Nat) (v : Int) (d k : Nat) (hk : tailL k = []) : qrow (d, a, v, k) = (d, putL a v) := by
  unfold qrow qtxt; dsimp only; rw [hk, List.append_nil]
theorem Q_zero : (Qt r ms u es 0).map qrow = [(2, putL 0 (u * (rootL r).getD 0 0)), (2, putL 1 (u * (rootL r).getD 1 0)), (2, putL 2 (u * (rootL r).getD 2 0)), (2, putL 3 (u * (rootL r).getD 3 0)), (0, putL 0 u)] := by
  have e : Qt r ms u es 0 = [(2, 0, u * (rootL r).getD 0 0, 0), (2, 1, u * (rootL r).getD 1 0, 0), (2, 2, u * (rootL r).getD 2 0, 0), (2, 3, u * (rootL r).getD 3 0, 0), (0, 0, u, 0)] := by
    unfold Qt Kt; rw [List.take_zero, runK]; rfl
  have h0 : tailL 0 = [] := rfl
  rw [e]
  simp only [List.map_cons, List.map_nil, put0 _ _ _ _ h0]
theorem P_ok : ∀ t, t ≤ ms.length → (rowsP r ms u es t).filter liveR = (Qt r ms u es t).map qrow ∧ (∀ x ∈ rowsP r ms u es t, RowG x) ∧ rowsP r ms u es t ≠ []
  | 0, _ => by
    have hl : ∀ (d a : Nat) (v : Int), liveR (d, putL a v) = true := fun d a v => by
      obtain ⟨c, hc, _⟩ := putL_sign a v
      exact decide_eq_true fun e => by
        have e' : putL a v = [] := e
        rw [e'] at hc; cases hc
    have hg : ∀ (d a : Nat) (v : Int), RowG (d, putL a v) := fun d a v => ⟨⟨putL_plain a v, fun _ c t e => (putL_head a v [] c t (by rw [List.append_nil]; exact e)).1⟩, .inr (putL_sign a v)⟩
    refine ⟨?_, fun x hx => ?_, by simp [rowsP]⟩
    · rw [Q_zero]
      unfold rowsP
      have hn : liveR (0, ([] : List Nat)) = false := rfl
      simp only [List.filter_cons, List.filter_nil, hl, hn, if_true, Bool.false_eq_true, if_false]
    · unfold rowsP at hx
      simp only [List.mem_cons, List.not_mem_nil, or_false] at hx
      rcases hx with rfl | rfl | rfl | rfl | rfl | rfl
      · exact hg _ _ _
      · exact hg _ _ _
      · exact hg _ _ _
      · exact hg _ _ _
      · exact ⟨⟨Plain.nil, fun _ c t e => by cases e⟩, .inl rfl⟩
      · exact hg _ _ _
  | t + 1, ht => by
    refine ⟨?_, rowsN_g _ _ _ _, by simp [rowsP, rowsN, aged0]⟩
    rw [Q_next ht]
    exact rowsN_live _ _ _ _
theorem P_last {t : Nat} (ht : t < ms.length) : rowsP r ms u es (t + 1) = ((Qt r ms u es (t + 1)).headD (0, 0, 0, 0) |> qrow) :: (aged0 (moreL (es.getD t 0)) ++ (Qt r ms u es (t + 1)).tail.map qrow) := by
  rw [Q_next ht]
  show rowsN _ _ _ _ = _
  unfold rowsN aged0
  rw [List.map_append, List.map_append]
  simp only [List.map_cons, List.map_nil, List.headD_cons, List.tail_cons, List.cons_append, List.nil_append, List.append_assoc]
  congr 2
  rw [List.map_map, List.map_map]; rfl
theorem sum_mul (u : Int) (K : List Crd) : (K.map fun c => u * c.2.1).sum = u * (K.map fun c => c.2.1).sum := by
  have := sum_scale u (K.map fun c => c.2.1)
  rw [List.map_map] at this
  exact this
theorem Q_total {t : Nat} (ht : t ≤ ms.length) : (((Qt r ms u es t).filter fun q => decide (q.1 ≠ 0)).map fun q => q.2.2.1).sum = u * ((Kt r ms t).map fun c => c.2.1).sum := by
  have hage := Kt_age r ms t ht
  unfold Qt
  rw [List.filter_append, List.map_append]
  have e1 : ([lastQ u].filter fun q => decide (q.1 ≠ 0)) = [] := rfl
  rw [e1, List.map_nil, List.append_nil, List.filter_eq_self.mpr, List.map_map]
  · exact sum_mul u _
  · intro q hq
    obtain ⟨c, hc, rfl⟩ := List.mem_map.mp hq
    have := hage c hc
    show decide (2 + t - c.2.2 ≠ 0) = true
    exact decide_eq_true (by omega)
theorem Q_own {t : Nat} (ht : t ≤ ms.length) (m : Nat) : (((Qt r ms u es t).filter fun q => decide (q.1 ≠ 0) && decide (q.2.1 = m)).map fun q => q.2.2.1).sum = u * (((Kt r ms t).filter fun c => c.1 == m).map fun c => c.2.1).sum := by
  have hage := Kt_age r ms t ht
  unfold Qt
  rw [List.filter_append, List.map_append]
  have e1 : ([lastQ u].filter fun q => decide (q.1 ≠ 0) && decide (q.2.1 = m)) = [] := rfl
  rw [e1, List.map_nil, List.append_nil, List.filter_map, List.map_map]
  have e2 : (Kt r ms t).filter ((fun q : Q4 => decide (q.1 ≠ 0) && decide (q.2.1 = m)) ∘ cardQ u es t) = (Kt r ms t).filter fun c => c.1 == m := by
    refine List.filter_congr fun c hc => ?_
    have := hage c hc
    show (decide (2 + t - c.2.2 ≠ 0) && decide (c.1 = m)) = _
    rw [decide_eq_true (by omega), Bool.true_and]
    by_cases q : c.1 = m <;> simp [q]
  rw [e2]
  exact sum_mul u _
theorem ring_eq {t : Nat} (ht : t ≤ ms.length) (m : Nat) : 2 * (((Qt r ms u es t).filter fun q => decide (q.1 ≠ 0)).map fun q => q.2.2.1).sum - 3 * (((Qt r ms u es t).filter fun q => decide (q.1 ≠ 0) && decide (q.2.1 = m)).map fun q => q.2.2.1).sum = u * ringW t m (Kt r ms t) := by
  rw [Q_total ht, Q_own ht]
  unfold ringW
  rw [Int.mul_sub]
  congr 1
  · rw [← Int.mul_assoc, ← Int.mul_assoc, Int.mul_comm 2 u]
  · rw [← Int.mul_assoc, ← Int.mul_assoc, Int.mul_comm 3 u]
theorem ap_len28 {n : Nat} (h : n < 16 ^ 28) : (ap n).length ≤ 28 := by rw [← lett_ap 28 n h]; exact lett_len _ _
noncomputable def QSm (q : Q4) : Prop := q.1 ≤ 7 ∧ q.2.1 < 4 ∧ q.2.2.1.natAbs < 16 ^ 28 ∧ q.2.2.2 < 7
theorem putL_len {a : Nat} {v : Int} (ha : a < 4) (hv : v.natAbs < 16 ^ 28) : (putL a v).length ≤ 57 := by
  have h1 := ap_len28 (n := a) (Nat.lt_of_lt_of_le ha (by decide))
  have h2 := ap_len28 hv
  unfold putL sgn
  split <;> simp <;> omega
theorem tail_len (k : Nat) : (tailL k).length ≤ 2 := by
  have : ∀ y ∈ ([[], [], [], [], [], [11, 46], [133, 46]] : List (List Nat)), y.length ≤ 2 := by decide
  unfold tailL
  rw [List.getD_eq_getElem?_getD]
  cases q : ([[], [], [], [], [], [11, 46], [133, 46]] : List (List Nat))[k]? with
  | none => simp
  | some y => exact this y (List.mem_of_getElem? q)
theorem qtxt_len {q : Q4} (h : QSm q) : (qtxt q).length ≤ 59 := by
  have h1 := putL_len h.2.1 h.2.2.1
  have h2 := tail_len q.2.2.2
  unfold qtxt
  rw [List.length_append]; omega
theorem mul_small {u w : Int} (hu : u.natAbs ≤ 16 ^ 17) (hw : w.natAbs < 16 ^ 8) : (u * w).natAbs < 16 ^ 28 := by
  rw [Int.natAbs_mul]
  calc u.natAbs * w.natAbs ≤ 16 ^ 17 * 16 ^ 8 := Nat.mul_le_mul hu (Nat.le_of_lt hw)
    _ < 16 ^ 28 := by decide
theorem endOf_lt {es : List Nat} (h : ∀ x ∈ es, x < 7) (l : Nat) : endOf es l < 7 := by
  unfold endOf
  split
  · decide
  · rw [List.getD_eq_getElem?_getD]
    cases q : es[l - 1]? with
    | none => decide
    | some y => exact h y (List.mem_of_getElem? q)
theorem Q_small (hr : r < 4) (h4 : ∀ x ∈ ms, x < 4) (h5 : ms.length ≤ 5) (h7 : ∀ x ∈ es, x < 7) (hu : u.natAbs ≤ 16 ^ 17) {t : Nat} (ht : t ≤ ms.length) : ∀ q ∈ Qt r ms u es t, QSm q := by
  intro q hq
  unfold Qt at hq
  rcases List.mem_append.mp hq with hq | hq
  · obtain ⟨c, hc, rfl⟩ := List.mem_map.mp hq
    have hs := Kt_small hr h4 h5 ht c hc
    refine ⟨?_, hs.2, mul_small hu hs.1, endOf_lt h7 _⟩
    show 2 + t - c.2.2 ≤ 7
    omega
  · rw [List.mem_singleton.mp hq]
    exact ⟨Nat.zero_le _, (by decide : (0 : Nat) < 4), Nat.lt_of_le_of_lt hu (by decide), (by decide : (0 : Nat) < 7)⟩
theorem P_size (hr : r < 4) (h4 : ∀ x ∈ ms, x < 4) (h5 : ms.length ≤ 5) (h7 : ∀ x ∈ es, x < 7) (hu : u.natAbs ≤ 16 ^ 17) {t : Nat} (ht : t ≤ ms.length) : (∀ x ∈ rowsP r ms u es t, x.1 ≤ 8 ∧ x.2.length ≤ 59) ∧ (rowsP r ms u es t).length ≤ 20 := by
  have hput : ∀ {a : Nat} {w : Int}, a < 4 → w.natAbs < 16 ^ 8 → (putL a (u * w)).length ≤ 59 := fun ha hw => by have := putL_len ha (mul_small hu hw); omega
  cases t with
  | zero =>
    have hw : ∀ r, r < 4 → ∀ j, j < 4 → ((rootL r).getD j 0).natAbs < 16 ^ 8 := by decide
    refine ⟨fun x hx => ?_, by simp [rowsP]⟩
    unfold rowsP at hx
    simp only [List.mem_cons, List.not_mem_nil, or_false] at hx
    rcases hx with rfl | rfl | rfl | rfl | rfl | rfl
    · exact ⟨(by decide : 2 ≤ 8), hput (by decide) (hw r hr 0 (by decide))⟩
    · exact ⟨(by decide : 2 ≤ 8), hput (by decide) (hw r hr 1 (by decide))⟩
    · exact ⟨(by decide : 2 ≤ 8), hput (by decide) (hw r hr 2 (by decide))⟩
    · exact ⟨(by decide : 2 ≤ 8), hput (by decide) (hw r hr 3 (by decide))⟩
    · exact ⟨by decide, by decide⟩
    · have := putL_len (a := 0) (v := u) (by decide) (Nat.lt_of_le_of_lt hu (by decide))
      exact ⟨(by decide : 0 ≤ 8), by show (putL 0 u).length ≤ 59; omega⟩
  | succ t =>
    have hq := Q_small (es := es) hr h4 h5 h7 hu ht
    have hP := P_last (r := r) (u := u) (es := es) (t := t) ht
    have hN := Q_next (r := r) (u := u) (es := es) (t := t) ht
    have hl : (Qt r ms u es (t + 1)).length ≤ 10 := by
      unfold Qt
      have := Kt_len r ms (t + 1) ht
      rw [List.length_append, List.length_map]; simp; omega
    rw [hP]
    generalize Qt r ms u es (t + 1) = Q at hq hN hl
    cases Q with
    | nil => cases hN
    | cons q Q =>
      have hrow : ∀ q' ∈ q :: Q, (qrow q').1 ≤ 8 ∧ (qrow q').2.length ≤ 59 := fun q' h' => ⟨Nat.le_trans (hq q' h').1 (by decide), qtxt_len (hq q' h')⟩
      have hml : (aged0 (moreL (es.getD t 0))).length ≤ 3 := by
        unfold aged0
        rw [List.length_map]
        have : ∀ y ∈ ([[], [], [], [(0, [])], [(0, []), (1, []), (0, [])], [], []] : List (List Row)), y.length ≤ 3 := by decide
        unfold moreL
        rw [List.getD_eq_getElem?_getD]
        cases qq : ([[], [], [], [(0, [])], [(0, []), (1, []), (0, [])], [], []] : List (List Row))[es.getD t 0]? with
        | none => simp
        | some y => exact this y (List.mem_of_getElem? qq)
      refine ⟨fun x hx => ?_, ?_⟩
      · rcases List.mem_cons.mp hx with rfl | hx
        · exact hrow q (.head _)
        · rcases List.mem_append.mp hx with hx | hx
          · unfold aged0 at hx
            obtain ⟨x', hx', rfl⟩ := List.mem_map.mp hx
            have := more_txt _ x' hx'
            refine ⟨?_, by show x'.2.length ≤ 59; rw [this.1]; decide⟩
            unfold more1
            dsimp only
            split <;> omega
          · obtain ⟨q', hq', rfl⟩ := List.mem_map.mp hx
            exact hrow q' (.tail _ hq')
      · simp only [List.length_cons, List.length_append, List.length_map, List.tail_cons] at hl ⊢
        omega
end
end Mine
end
section
open PySem PySem.W PyProof.Rows PySem.Spec
set_option Elab.async false
set_option linter.all false
set_option maxRecDepth 100000
set_option maxHeartbeats 1000000
namespace Mine
noncomputable def firstI (script : List Int) : Int := (script ++ [0]).headD 0
noncomputable def rootI (script : List Int) : Nat := ((firstI script).fmod 4).toNat
noncomputable def sizeI (script : List Int) : Nat := ((firstI script).fdiv 4).natAbs % 16 ^ 17 + 1
noncomputable def unitI (script : List Int) : Int := if 0 ≤ firstI script then (sizeI script : Int) else -(sizeI script : Int)
noncomputable def movesI (script : List Int) : List Nat := ((slc script (some 1) (some 5)).map fun x => (x.fmod 4).toNat) ++ [script.length % 4]
noncomputable def endsI (script : List Int) : List Nat := ((slc script (some 1) (some 5)).map fun x => ((x.fdiv 4).fmod 7).toNat) ++ [(script.sum.fmod 7).toNat]
@[reducible] noncomputable def rdQ (q : Q4) : PyData := .list [nt q.1, nt q.2.1, .int q.2.2.1]
theorem slc_map {α β : Type} (g : α → β) (l : List α) (a b : Option Int) : slc (l.map g) a b = (slc l a b).map g := by
  unfold slc; rw [List.map_take, List.map_drop, List.length_map]
theorem rng_up {n : Nat} : rng 0 1 n = (List.range n).map nt := by
  unfold rng
  refine List.map_congr_left fun i _ => ?_
  show PyData.int (0 + (i : Int) * 1) = nt i
  congr 1; omega
theorem zips_map {α : Type} (l : List α) (f g : α → PyData) : zips (l.map f) (l.map g) = l.map fun a => .tuple [f a, g a] := by
  unfold zips
  rw [List.zip_map', List.map_map]; rfl
theorem rootI_lt (script : List Int) : rootI script < 4 := (fmodNat (a := firstI script) (n := 4) (by decide)).2
theorem moves_len (script : List Int) : (movesI script).length = (endsI script).length ∧ 1 ≤ (movesI script).length ∧ (movesI script).length ≤ 5 := by
  unfold movesI endsI
  have h : (slc script (some 1) (some 5)).length ≤ 4 := by
    unfold slc
    rw [List.length_take]
    have h1 : (some (1 : Int)).elim 0 (clipAt script.length) = clipAt script.length 1 := rfl
    have h2 : (some (5 : Int)).elim script.length (clipAt script.length) = clipAt script.length 5 := rfl
    rw [h1, h2]
    have e1 := clipAt_nat script.length 1
    have e2 := clipAt_nat script.length 5
    have f1 : clipAt script.length (1 : Int) = min 1 script.length := by simpa using e1
    have f2 : clipAt script.length (5 : Int) = min 5 script.length := by simpa using e2
    rw [f1, f2]
    omega
  refine ⟨by simp, by simp, ?_⟩
  rw [List.length_append, List.length_map]; simp; omega
theorem moves_lt (script : List Int) : ∀ x ∈ movesI script, x < 4 := by
  intro x hx
  unfold movesI at hx
  rcases List.mem_append.mp hx with hx | hx
  · obtain ⟨y, _, rfl⟩ := List.mem_map.mp hx
    exact (fmodNat (a := y) (n := 4) (by decide)).2
  · rw [List.mem_singleton.mp hx]; exact Nat.mod_lt _ (by decide)
theorem ends_lt (script : List Int) : ∀ x ∈ endsI script, x < 7 := by
  intro x hx
  unfold endsI at hx
  rcases List.mem_append.mp hx with hx | hx
  · obtain ⟨y, _, rfl⟩ := List.mem_map.mp hx
    exact (fmodNat (a := y.fdiv 4) (n := 7) (by decide)).2
  · rw [List.mem_singleton.mp hx]; exact (fmodNat (a := script.sum) (n := 7) (by decide)).2
theorem size_le (script : List Int) : sizeI script ≤ 16 ^ 17 ∧ 1 ≤ sizeI script := by
  unfold sizeI
  have := Nat.mod_lt ((firstI script).fdiv 4).natAbs (Nat.pow_pos (n := 17) (show 0 < 16 by decide))
  omega
theorem unit_le (script : List Int) : (unitI script).natAbs ≤ 16 ^ 17 := by
  have := size_le script
  unfold unitI
  split <;> omega
noncomputable def SmB (z : Int) : Prop := z.natAbs < 2 ^ 200
theorem SmB.bits {z : Int} (h : SmB z) : Builtin.Int.intBits z ≤ 200 := by
  unfold Builtin.Int.intBits
  split
  · omega
  · rename_i h0
    have h1 : z.natAbs ≠ 0 := fun q => h0 (by simp at q; simp [q])
    have := (Nat.log2_lt h1).mpr h
    omega
theorem SmB.mul {a b : Int} (ha : SmB a) (hb : SmB b) : IntMulOk a b := PyProof.Rows.mulOk_of_bits ha.bits hb.bits (by decide)
theorem unit_sm (script : List Int) : SmB (unitI script) := Nat.lt_of_le_of_lt (unit_le script) (by decide)
theorem page_start (r : Nat) (ms es : List Nat) (u : Int) : qd (jn [] ((List.range 4).map fun j => 46 :: putL j (u * (rootL r).getD j 0) ++ ends7.getD j []) ++ putL 0 u) = mailL 0 (rowsP r ms u es 0) := by
  have h := page_zero (putL_plain 0 (u * (rootL r).getD 0 0)) (putL_plain 1 (u * (rootL r).getD 1 0)) (putL_plain 2 (u * (rootL r).getD 2 0)) (putL_plain 3 (u * (rootL r).getD 3 0)) (putL_plain 0 u) (fun c t e => putL_head 0 u [] c t (by rw [List.append_nil]; exact e))
  rw [jn_nil]
  show qd (([_, _, _, _] : List (List Nat)).flatten ++ _) = _
  have e : ∀ a b c d U : List Nat, ([a, b, c, d] : List (List Nat)).flatten ++ U = a ++ (b ++ (c ++ (d ++ U))) := fun a b c d U => by simp
  rw [e]
  exact h
theorem undot_le' (l : List Nat) : (undot l).length ≤ l.length := by
  unfold undot
  induction l with
  | nil => simp
  | cons a r ih => rw [List.dropWhile_cons]; split <;> simp <;> omega
theorem bare_len (l : List Nat) : (bare l).length ≤ l.length := by
  rw [bare_eq]
  have := undot_le' l
  rw [List.length_take]; omega
theorem bare_sm {l : List Nat} (h : l.length ≤ sizeLine) : sm (st (bare l)) := by
  show (S (bare l)).length ≤ sizeLine
  rw [S_len]; exact Nat.le_trans (bare_len l) h
theorem tr_nt (n : Nat) : tr (nt n) = decide (n ≠ 0) := by
  show ((n : Int) != 0) = _
  by_cases h : n = 0 <;> simp [h]
theorem bare_tr (l : List Nat) : tr (st (bare l)) = decide (bare l ≠ []) := by
  show ((S (bare l)).length != 0) = _
  rw [S_len]
  cases bare l <;> rfl
section
variable {f : Fx} {x : Sx}
theorem EvC.inTI {l r : Expr} {a : Int} {ns : List Int} (h1 : Ev f x l (.int a)) (h2 : Ev f x r (.tuple (ns.map .int))) : EvC f x l .In r (ns.any (· == a)) :=
  .of h1 h2 fun s v w O r1 r2 => by
    obtain ⟨t, rfl⟩ := r1.int_inv
    obtain ⟨b, ws, k, rfl, p, q⟩ := r2.tuple_inv
    exact in_tuple_ints (PT.isTup (hid_iff.mp p).1) (by simpa using q.ints) ⟨.rfl', rfl⟩
end
end Mine
end
section
open PySem PySem.W PyProof.Rows PySem.Spec
set_option Elab.async false
set_option linter.all false
set_option maxRecDepth 100000
set_option maxHeartbeats 1000000
namespace Mine
noncomputable def dueOf (q : Q4) : List Row := qrow q :: (if q.1 = 2 then aged0 (moreL q.2.2.2) else [])
noncomputable def unX : Q4 ⊕ Row → Row
  | .inl q => qrow q
  | .inr r => r
noncomputable def isX : Q4 ⊕ Row → Bool
  | .inl _ => true
  | .inr _ => false
noncomputable def symX : Q4 ⊕ Row → PyData
  | .inl q => intsD (symR q.1 q.2.1 q.2.2.1 ++ [0])
  | .inr _ => .none
theorem annot : ∀ (R : List Row) (Q : List Q4), R.filter liveR = Q.map qrow → ∃ X : List (Q4 ⊕ Row), X.map unX = R ∧ (∀ x ∈ X, liveR (unX x) = isX x) ∧ (X.filter isX).map symX = Q.map (fun q => intsD (symR q.1 q.2.1 q.2.2.1 ++ [0])) ∧ ∀ q, .inl q ∈ X → q ∈ Q
  | [], Q, h => by
    cases Q with
    | nil => exact ⟨[], rfl, fun x hx => (nomatch hx), rfl, fun q hq => (nomatch hq)⟩
    | cons q Q => simp at h
  | r :: R, Q, h => by
    rw [List.filter_cons] at h
    cases hl : liveR r with
    | true =>
      rw [hl, if_pos rfl] at h
      cases Q with
      | nil => simp at h
      | cons q Q =>
        rw [List.map_cons, List.cons.injEq] at h
        obtain ⟨X, h1, h2, h3, h4⟩ := annot R Q h.2
        refine ⟨.inl q :: X, ?_, fun x hx => ?_, ?_, fun q' hq => ?_⟩
        · rw [List.map_cons, h1]; show qrow q :: R = r :: R; rw [h.1]
        · rcases List.mem_cons.mp hx with rfl | hx
          · exact live_q q
          · exact h2 x hx
        · rw [List.filter_cons]
          show ((.inl q :: X.filter isX).map symX) = _
          rw [List.map_cons, List.map_cons, h3]; rfl
        · rcases List.mem_cons.mp hq with e | hq
          · cases e; exact .head _
          · exact .tail _ (h4 q' hq)
    | false =>
      rw [hl] at h
      obtain ⟨X, h1, h2, h3, h4⟩ := annot R Q (by simpa using h)
      refine ⟨.inr r :: X, ?_, fun x hx => ?_, ?_, fun q' hq => ?_⟩
      · rw [List.map_cons, h1]; rfl
      · rcases List.mem_cons.mp hx with rfl | hx
        · exact hl
        · exact h2 x hx
      · rw [List.filter_cons]; exact h3
      · rcases List.mem_cons.mp hq with e | hq
        · cases e
        · exact h4 q' hq
theorem range_small : ∀ k : Nat, k ≤ 64 → Builtin.Range.small 0 k 1 = true ∧ Builtin.Range.rangeSize 0 k 1 = k := by decide +kernel
theorem more3 (k : Nat) : (moreL k).length ≤ 3 := by
  have : ∀ y ∈ ([[], [], [], [(0, [])], [(0, []), (1, []), (0, [])], [], []] : List (List Row)), y.length ≤ 3 := by decide
  unfold moreL
  rw [List.getD_eq_getElem?_getD]
  cases qq : ([[], [], [], [(0, [])], [(0, []), (1, []), (0, [])], [], []] : List (List Row))[k]? with
  | none => simp
  | some y => exact this y (List.mem_of_getElem? qq)
theorem due_eq {a : Nat} {v : Int} (ha : a < 16 ^ 28) (hv : v.natAbs < 16 ^ 28) : lett a 28 ++ sgn v ++ lett v.natAbs 28 = putL a v := by rw [lett_ap _ _ ha, lett_ap _ _ hv]; rfl
theorem struck_len : ∀ (l p : List Int), (struckF l p).length ≤ l.length + p.length
  | [], p => by unfold struckF; simp
  | m :: r, p => by
    unfold struckF
    split
    · have := struck_len r p.dropLast
      rw [List.length_dropLast] at this
      rw [List.length_cons]; omega
    · have := struck_len r (p ++ [m])
      rw [List.length_append] at this
      simp at this
      rw [List.length_cons]; omega
noncomputable def tails7 : List (List Nat) := [[], [], [], [], [], [11, 46], [133, 46]]
theorem tails_get {k : Nat} (h : k < 7) : (tails7.map st)[k]? = some (st (tailL k)) := by
  have : ∀ k, k < 7 → tails7[k]? = some (tailL k) := by decide
  rw [List.getElem?_map, this k h]; rfl
theorem more_two {k : Nat} (h : k = 3 ∨ k = 4) : (if decide (k = 3) = true then PyData.list [rowD (0, [])] else .list [rowD (0, []), rowD (2, []), rowD (0, [])]) = .list ((aged0 (moreL k)).map rowD) := by
  rcases h with rfl | rfl <;> rfl
theorem more_none {k : Nat} (h : ¬ (k = 3 ∨ k = 4)) : aged0 (moreL k) = [] := by
  have h3 : k ≠ 3 := fun q => h (.inl q)
  have h4 : k ≠ 4 := fun q => h (.inr q)
  unfold moreL
  rw [List.getD_eq_getElem?_getD]
  match k with
  | 0 => rfl
  | 1 => rfl
  | 2 => rfl
  | 5 => rfl
  | 6 => rfl
  | k + 7 => rfl
section
variable {r : Nat} {ms es : List Nat} {u : Int}
theorem K_end : Kt r ms ms.length = runK ms 0 (K0 r) := by unfold Kt; rw [List.take_length]
theorem K_four (hr : r < 4) (h4 : ∀ x ∈ ms, x < 4) (h1 : 1 ≤ ms.length) (h5 : ms.length ≤ 5) : (Kt r ms ms.length).length = 4 := by
  rw [K_end]
  have := (kok hr h4 h1 h5).perm.length_eq
  simpa using this
theorem chk_rows (hr : r < 4) (h4 : ∀ x ∈ ms, x < 4) (h1 : 1 ≤ ms.length) (h5 : ms.length ≤ 5) :
    (Qt r ms u es ms.length).map (fun q => [(q.1 : Int), (q.2.1 : Int)]) = ((Kt r ms ms.length).map (·.1)).map (fun j : Nat => [1 + (ms.length : Int) - lastI ms j, (j : Int)]) ++ [[0, 0]] := by
  have hl := (kok hr h4 h1 h5).last
  rw [← K_end] at hl
  have hage := Kt_age r ms ms.length (Nat.le_refl _)
  unfold Qt
  rw [List.map_append, List.map_map, List.map_map]
  congr 1
  refine List.map_congr_left fun c hc => ?_
  have e1 := hl c hc
  have e2 := hage c hc
  show [((2 + ms.length - c.2.2 : Nat) : Int), (c.1 : Int)] = [1 + (ms.length : Int) - lastI ms c.1, (c.1 : Int)]
  congr 1
  omega
theorem due_rows (hr : r < 4) (h4 : ∀ x ∈ ms, x < 4) (h1 : 1 ≤ ms.length) (h5 : ms.length ≤ 5) :
    (Kt r ms ms.length).flatMap (fun c => dueOf (cardQ u es ms.length c)) ++ [qrow (lastQ u)] = rowsP r ms u es ms.length := by
  have k := kok hr h4 h1 h5
  have h44 := K_four hr h4 h1 h5
  rw [← K_end] at k
  obtain ⟨n, hn⟩ : ∃ n, ms.length = n + 1 := ⟨ms.length - 1, by omega⟩
  have hP := P_last (r := r) (u := u) (es := es) (ms := ms) (t := n) (by omega)
  rw [← hn] at hP
  rw [hP]
  have hQ : Qt r ms u es ms.length = (Kt r ms ms.length).map (cardQ u es ms.length) ++ [lastQ u] := rfl
  rw [hQ]
  generalize hK : Kt r ms ms.length = K at *
  cases K with
  | nil => simp at h44
  | cons c K =>
    have ht : c.2.2 = ms.length := k.top
    have hb : ∀ c' ∈ K, c'.2.2 < ms.length := k.below
    have e1 : dueOf (cardQ u es ms.length c) = qrow (cardQ u es ms.length c) :: aged0 (moreL (es.getD n 0)) := by
      unfold dueOf
      have hd : (cardQ u es ms.length c).1 = 2 := by show 2 + ms.length - c.2.2 = 2; omega
      have hk : (cardQ u es ms.length c).2.2.2 = es.getD n 0 := by
        show endOf es c.2.2 = _
        rw [ht, hn]; rfl
      rw [if_pos hd, hk]
    have e2 : ∀ K : List Crd, (∀ c' ∈ K, c'.2.2 < ms.length) → K.flatMap (fun c => dueOf (cardQ u es ms.length c)) = (K.map (cardQ u es ms.length)).map qrow := by
      intro K
      induction K with
      | nil => intro _; rfl
      | cons c K ih =>
        intro h
        have hc := h c (.head _)
        rw [List.flatMap_cons, ih fun c' hc' => h c' (.tail _ hc'), List.map_cons, List.map_cons]
        have hd : ¬ (cardQ u es ms.length c).1 = 2 := by show ¬ 2 + ms.length - c.2.2 = 2; omega
        unfold dueOf
        rw [if_neg hd]; rfl
    rw [List.flatMap_cons, e1, e2 K hb]
    simp only [List.map_cons, List.cons_append, List.headD_cons, List.tail_cons, List.map_append, List.map_nil, List.append_assoc]
theorem take_four (hr : r < 4) (h4 : ∀ x ∈ ms, x < 4) (h1 : 1 ≤ ms.length) (h5 : ms.length ≤ 5) : (Qt r ms u es ms.length).take 4 = (Kt r ms ms.length).map (cardQ u es ms.length) := by
  have h44 := K_four hr h4 h1 h5
  unfold Qt
  rw [List.take_append_of_le_length (by rw [List.length_map, h44]; exact Nat.le_refl _), List.take_of_length_le (by rw [List.length_map, h44]; exact Nat.le_refl _)]
theorem four_at (K : List Crd) (n : Nat) {j : Nat} (hj : j < 4) : ((((K.map (cardQ u es n)).filter fun q => decide (q.2.1 = j)).map fun q => q.2.2.1).sum) = u * (fourK K).getD j 0 := by
  rw [List.filter_map, List.map_map]
  have e : K.filter ((fun q : Q4 => decide (q.2.1 = j)) ∘ cardQ u es n) = K.filter fun c => c.1 == j := by
    refine List.filter_congr fun c _ => ?_
    show decide (c.1 = j) = _
    by_cases q : c.1 = j <;> simp [q]
  rw [e]
  have h2 : (fourK K).getD j 0 = ((K.filter fun c => c.1 == j).map fun c => c.2.1).sum := by
    unfold fourK
    rw [List.getD_eq_getElem?_getD, List.getElem?_map, List.getElem?_range hj]; rfl
  rw [h2]
  exact sum_mul u _
theorem fourK_len (K : List Crd) : (fourK K).length = 4 := by unfold fourK; simp
theorem told_home (hr : r < 4) (h4 : ∀ x ∈ ms, x < 4) (h1 : 1 ≤ ms.length) (h5 : ms.length ≤ 5) {s : Int} (hs : 0 < s) :
    homeF 9 ((fourK (Kt r ms ms.length)).map (s * ·)) [] = ((struckF (ms.map fun m : Nat => (m : Int)) []).reverse, (rootL r).map (s * ·)) := by
  rw [home_scale hs, K_end, (kok hr h4 h1 h5).home]
theorem told_arg {s : Int} (hs : 0 < s) (hu : u = s ∨ u = -s) (l : List Int) : (l.map (u * ·)).map (fun v => if 0 < u then v else -v) = l.map (s * ·) := by
  rw [List.map_map]
  refine List.map_congr_left fun x _ => ?_
  show (if 0 < u then u * x else -(u * x)) = s * x
  rcases hu with rfl | rfl
  · rw [if_pos hs]
  · rw [if_neg (by omega), Int.neg_mul, Int.neg_neg]
end
end Mine
end
section
open PySem PySem.W PyProof.Rows PySem.Spec
set_option Elab.async false
set_option linter.all false
set_option maxRecDepth 100000
set_option maxHeartbeats 1000000
namespace Mine
section
variable {prog : Program} {w : World} {mg mb : Str → Option Value}
theorem c_law (G : (WL prog w mg mb).Glob) (script : List Int) (hs63 : script.length ≤ 63) : FnT (WL prog w mg mb) (.ref 141) 20 138 (.list (script.map .int)) (fun u => u = .bool true) := by
  have sz : sizeLine = 16777216 := by decide
  have hsl : (script.map PyData.int).length ≤ sizeLine := by rw [List.length_map, sz]; omega
  have hEl : (ends7.map st).length ≤ sizeLine := by rw [List.length_map, sz]; decide
  have hsln : (script.map PyData.int).length = script.length := List.length_map ..
  have hslc : (slc script (some 1) (some 5)).length ≤ sizeLine := by have := slc_le script (some 1) (some 5); rw [sz]; omega
  have hr4 := rootI_lt script
  have hml := moves_len script
  have hm4 := moves_lt script
  have he7 := ends_lt script
  have hsle := size_le script
  have hule := unit_le script
  have husm := unit_sm script
  refine FnT.of_at (nm := ["script", "first", "root", "size", "unit", "moves", "ends", "texts", "page", "move", "end", "rows", "read", "total", "own", "kept", "symbols", "last", "order", "due", "j", "one", "four", "told"]) (gl := ["abs", "len", "sum", "range", "_law_put", "quotedata", "zip", "sorted", "_law_due", "_law_sent_on", "all", "_law_home", "_law_struck"]) (p := "script") rfl rfl rfl rfl rfl rfl rfl (by decide +kernel) (bind1 fun _ => rfl) (.cons Put.i0 .nil) rfl fun A s L hz bad bad' hbm => ?_
  refine Ex.asg (d := .int (firstI script)) (Ev.itemLN (Ev.catL (Ev.name At.i0) (Ev.list (ds := [.int 0]) (.cons Ev.int .nil) (Nat.le_of_ble_eq_true rfl)) ?a1) (Ev.nat (n := 0)) ?a2 ?a3) Put.i1 ?_
  case a1 => rw [hsln, sz]; show _ + 1 ≤ _; omega
  case a2 => unfold firstI; cases script <;> rfl
  case a3 => rw [List.length_append, hsln, sz]; show _ + 1 ≤ _; omega
  have hfm := fmodNat (a := firstI script) (n := 4) (by decide)
  refine Ex.asg (d := intsD (rootL (rootI script))) (Ev.itemLN (ds := rootsL.map intsD) (Ev.list (.cons (Ev.list (.cons (Ev.neg Ev.int) (.cons Ev.int (.cons Ev.int (.cons Ev.int .nil)))) (Nat.le_of_ble_eq_true rfl)) (.cons (Ev.list (.cons (Ev.neg Ev.int) (.cons Ev.int (.cons Ev.int (.cons Ev.int .nil)))) (Nat.le_of_ble_eq_true rfl)) (.cons (Ev.list (.cons (Ev.neg Ev.int) (.cons Ev.int (.cons Ev.int (.cons Ev.int .nil)))) (Nat.le_of_ble_eq_true rfl)) (.cons (Ev.list (.cons (Ev.neg Ev.int) (.cons Ev.int (.cons Ev.int (.cons Ev.int .nil)))) (Nat.le_of_ble_eq_true rfl)) .nil)))) (Nat.le_of_ble_eq_true rfl)) (Ev.eq (Ev.fmod (Ev.name At.i1) (Ev.int (i := 4)) (by decide)) (b := nt (rootI script)) (congrArg PyData.int hfm.1)) ?b1 (Nat.le_of_ble_eq_true rfl)) Put.i2 ?_
  case b1 =>
    have : ∀ r, r < 4 → rootsL[r]? = some (rootL r) := by decide
    rw [List.getElem?_map, this _ hr4]; rfl
  refine Ex.asg (d := nt (sizeI script)) (Ev.addN (Ev.fmodN (Ev.call (Ev.blt Mem.i0 (z_abs G)) (.builtin _) (.cons (Ev.fdiv (Ev.name At.i1) (Ev.int (i := 4)) (by decide) (by decide)) .nil) Fn.abs (Nat.zero_le _)) (Ev.powN (Ev.nat (n := 16)) (Ev.nat (n := 17)) (bits16 _ (by decide))) (by decide)) (Ev.nat (n := 1))) Put.i3 ?_
  refine Ex.asg (d := .int (unitI script)) (Ev.eq (Ev.iteI (c := decide (0 ≤ firstI script)) (Tst.cmp (EvC.ge (Ev.name At.i1) Ev.int)) (Ev.name At.i3) (Ev.neg (Ev.name At.i3))) (by unfold unitI; by_cases q : 0 ≤ firstI script <;> simp [q])) Put.i4 ?_
  refine Ex.asg (d := .list ((movesI script).map nt)) (Ev.eq (Ev.catL (Ev.comp1 (xs := slc script (some 1) (some 5)) (di := .int) (g := fun x => nt ((x.fmod 4).toNat)) (p := fun _ => true) (own := ["x"]) (fr := []) (gl := []) (ns := ["x"])
    (Iter.list (Ev.eq (Ev.sliceL (Ev.name At.i0) (EvO.some Ev.int) (EvO.some Ev.int) hsl) (by rw [slc_map]))) rfl (by decide +kernel) .nil rfl rfl one_in hslc
    (fun z hz' C cs base hz bad led => ⟨_, .name .here, .drop .nil, .nil, fun _ => Ev.eq (Ev.fmod (Ev.name At.i0) (Ev.int (i := 4)) (by decide)) (congrArg PyData.int (fmodNat (a := z) (n := 4) (by decide)).1)⟩)) (Ev.list (ds := [nt (script.length % 4)]) (.cons (Ev.fmodN (Ev.eq (Ev.call (Ev.blt Mem.i1 (z_len G)) (.builtin _) (.cons (Ev.name At.i0) .nil) (Fn.len_list (by rw [hsln]; omega)) (Nat.zero_le _)) (b := nt script.length) (by rw [hsln])) (Ev.nat (n := 4)) (by decide)) .nil) (Nat.le_of_ble_eq_true rfl)) ?c1) ?c2) Put.i5 ?_
  case c1 => rw [map_true, List.length_map]; have := slc_le script (some 1) (some 5); rw [sz]; show _ + 1 ≤ _; omega
  case c2 => unfold movesI; rw [map_true, List.map_append, List.map_map]; rfl
  refine Ex.asg (d := .list ((endsI script).map nt)) (Ev.eq (Ev.catL (Ev.comp1 (xs := slc script (some 1) (some 5)) (di := .int) (g := fun x => nt (((x.fdiv 4).fmod 7).toNat)) (p := fun _ => true) (own := ["x"]) (fr := []) (gl := []) (ns := ["x"])
    (Iter.list (Ev.eq (Ev.sliceL (Ev.name At.i0) (EvO.some Ev.int) (EvO.some Ev.int) hsl) (by rw [slc_map]))) rfl (by decide +kernel) .nil rfl rfl one_in hslc
    (fun z hz' C cs base hz bad led => ⟨_, .name .here, .drop .nil, .nil, fun _ => Ev.eq (Ev.fmod (Ev.fdiv (Ev.name At.i0) (Ev.int (i := 4)) (by decide) (by decide)) (Ev.int (i := 7)) (by decide)) (congrArg PyData.int (fmodNat (a := z.fdiv 4) (n := 7) (by decide)).1)⟩)) (Ev.list (ds := [nt ((script.sum.fmod 7).toNat)]) (.cons (Ev.eq (Ev.fmod (Ev.call (Ev.blt Mem.i2 (z_sum G)) (.builtin _) (.cons (Ev.name At.i0) .nil) Fn.sum (Nat.zero_le _)) (Ev.int (i := 7)) (by decide)) (congrArg PyData.int (fmodNat (a := script.sum) (n := 7) (by decide)).1)) .nil) (Nat.le_of_ble_eq_true rfl)) ?d1) ?d2) Put.i6 ?_
  case d1 => rw [map_true, List.length_map]; have := slc_le script (some 1) (some 5); rw [sz]; show _ + 1 ≤ _; omega
  case d2 => unfold endsI; rw [map_true, List.map_append, List.map_map]; rfl
  refine Ex.asg (d := .list (ends7.map st)) ?e1 Put.i7 ?_
  case e1 =>
    refine Ev.list ?_ hEl
    refine EvL.c (Ev.strE (l := [10])) ?_
    refine EvL.c (Ev.strE (l := [13])) ?_
    refine EvL.c (Ev.strE (l := [13, 10])) ?_
    refine EvL.c (Ev.strE (l := [13, 13, 10])) ?_
    refine EvL.c (Ev.strE (l := [10, 13, 46, 13, 13, 10])) ?_
    refine EvL.c (Ev.strE (l := [11, 46, 10])) ?_
    refine EvL.c (Ev.strE (l := [133, 46, 13])) ?_
    exact EvL.nil
  have hus : unitI script = (sizeI script : Int) ∨ unitI script = -(sizeI script : Int) := by unfold unitI; split <;> simp
  generalize hms : movesI script = ms at hml hm4 ⊢
  generalize hes : endsI script = es at hml he7 ⊢
  generalize hu : unitI script = u at hule husm hus ⊢
  generalize hrr : rootI script = r at hr4 ⊢
  have hE7 : ∀ j : Nat, j < 7 → (ends7.map st)[j]? = some (st (ends7.getD j [])) := by
    have : ∀ j : Nat, j < 7 → ends7[j]? = some (ends7.getD j []) := by decide
    intro j hj
    rw [List.getElem?_map, this _ hj]; rfl
  have hE6 : ∀ k, (ends7.getD k []).length ≤ 6 := ends7_len
  have hroot : ∀ j : Nat, j < 4 → ((rootL r).map PyData.int)[j]? = some (.int ((rootL r).getD j 0)) ∧ ((rootL r).getD j 0).natAbs < 16 ^ 8 := by
    have h1 : ∀ r, r < 4 → ∀ j, j < 4 → (rootL r)[j]? = some ((rootL r).getD j 0) ∧ ((rootL r).getD j 0).natAbs < 16 ^ 8 := by decide
    intro j hj
    rw [List.getElem?_map, (h1 r hr4 j hj).1]
    exact ⟨rfl, (h1 r hr4 j hj).2⟩
  have hroL : ((rootL r).map PyData.int).length ≤ sizeLine := by
    have h1 : ∀ r, r < 4 → (rootL r).length = 4 := by decide
    rw [List.length_map, h1 r hr4, sz]; omega
  have hup : ∀ v : Int, v.natAbs < 16 ^ 28 → (ap v.natAbs).length ≤ 1000 := fun v h => by have := ap_len28 h; omega
  have hu28 : u.natAbs < 16 ^ 28 := Nat.lt_of_le_of_lt hule (by decide)
  have hys : (((List.range 4).map fun j => 46 :: putL j (u * (rootL r).getD j 0) ++ ends7.getD j []).map (·.length)).sum ≤ 256 := by
    have := sum_le (l := (((List.range 4).map fun j => 46 :: putL j (u * (rootL r).getD j 0) ++ ends7.getD j []).map (·.length))) (n := 64) (by
      intro a ha
      obtain ⟨y, hy, rfl⟩ := List.mem_map.mp ha
      obtain ⟨j, hj, rfl⟩ := List.mem_map.mp hy
      have hj4 : j < 4 := by simpa using hj
      have hpl := putL_len (v := u * (rootL r).getD j 0) hj4 (mul_small hule (hroot j hj4).2)
      have h6 := hE6 j
      show ((46 :: putL j (u * (rootL r).getD j 0)) ++ ends7.getD j []).length ≤ 64
      rw [List.length_append, List.length_cons]; omega)
    rw [List.length_map, List.length_map, List.length_range] at this
    omega
  have hpu := putL_len (a := 0) (v := u) (by decide) hu28
  refine Ex.asg (d := st (jn [] ((List.range 4).map fun j => 46 :: putL j (u * (rootL r).getD j 0) ++ ends7.getD j []) ++ putL 0 u)) (Ev.cat (Ev.join (ys := (List.range 4).map fun j => 46 :: putL j (u * (rootL r).getD j 0) ++ ends7.getD j []) (Ev.strE (l := [])) (Ev.eq (Ev.comp1 (xs := List.range 4) (di := nt) (g := fun j => st (46 :: putL j (u * (rootL r).getD j 0) ++ ends7.getD j [])) (p := fun _ => true) (own := ["j"]) (fr := ["root", "texts", "unit"]) (gl := ["_law_put"]) (ns := ["j"])
    (rng_up ▸ Iter.range (EvR.one (Ev.blt Mem.i3 (z_range G)) Ev.int) (by decide) (by decide)) rfl (by decide +kernel) (.cons At.i2 (.cons At.i7 (.cons At.i4 .nil))) rfl rfl one_in (Nat.le_of_ble_eq_true rfl)
    (fun j hj C cs base hz bad led => ⟨_, .name .here, .drop (.keep (.keep (.keep .nil))), .nil, fun _ => ?_⟩)) (by rw [map_true, List.map_map]; rfl)) ?f1) (Ev.call (Ev.glob Mem.i4 (G.g _ _ g_put)) (.fn rfl rfl) (.cons (Ev.nat (n := 0)) (.cons (Ev.name At.i4) .nil)) (c_put G 0 u (by rw [ap_zero]; decide) (hup u hu28)) (Nat.le_of_ble_eq_true rfl)) ?f2) Put.i8 ?_
  · have hj4 : j < 4 := by simpa using hj
    have hv28 := mul_small hule (hroot j hj4).2
    have hpl := putL_len (v := u * (rootL r).getD j 0) hj4 hv28
    have h6 := hE6 j
    exact Ev.cat (Ev.cat (a := [46]) (b := putL j (u * (rootL r).getD j 0)) (Ev.strE (l := [46])) (Ev.call (Ev.glob Mem.i0 (G.g _ _ g_put)) (.fn rfl rfl) (.cons (Ev.name At.i0) (.cons (Ev.mul (Ev.name At.i3) (Ev.itemLN (Ev.name At.i1) (Ev.name At.i0) (hroot j hj4).1 hroL) (husm.mul (Nat.lt_of_lt_of_le (hroot j hj4).2 (by decide)))) .nil)) (c_put G j _ (by have := ap_len28 (n := j) (Nat.lt_of_lt_of_le hj4 (by decide)); omega) (hup _ hv28)) (Nat.le_of_ble_eq_true rfl)) (by show 1 + _ ≤ _; rw [sz]; omega)) (Ev.itemLN (Ev.name At.i2) (Ev.name At.i0) (hE7 j (by omega)) hEl) (by show (_ + 1) + _ ≤ _; rw [sz]; omega)
  case f1 => rw [List.length_nil, Nat.mul_zero, Nat.add_zero, sz]; omega
  case f2 => rw [jn_nil, List.length_flatten, sz]; exact Nat.le_trans (Nat.add_le_add hys hpu) (by decide)
  refine Ex.asg (d := st (mailL 0 (rowsP r ms u es 0))) (Ev.eq (Ev.call (Ev.glob Mem.i5 (G.g _ _ g_quote)) (.fn rfl rfl) (.cons (Ev.name At.i8) .nil) (c_quote G _ ?g1) (Nat.le_of_ble_eq_true rfl)) (congrArg (fun z => PyData.str (S z)) (page_start r ms es u))) Put.i8 ?_
  case g1 => rw [List.length_append, jn_nil, List.length_flatten]; exact Nat.le_trans (Nat.add_le_add hys hpu) (by decide)
  clear hys
  have hPok := fun t (ht : t ≤ ms.length) => P_ok (r := r) (ms := ms) (es := es) (u := u) t ht
  have hPsz := fun t (ht : t ≤ ms.length) => P_size (r := r) (ms := ms) (es := es) (u := u) hr4 hm4 hml.2.2 he7 hule ht
  have hQsm := fun t (ht : t ≤ ms.length) => Q_small (r := r) (ms := ms) (es := es) (u := u) hr4 hm4 hml.2.2 he7 hule ht
  have hQl : ∀ t, t ≤ ms.length → (Qt r ms u es t).length ≤ 10 := fun t ht => by
    have := Kt_len r ms t ht
    have := hml.2.2
    unfold Qt
    rw [List.length_append, List.length_map]; simp; omega
  have hpg : ∀ t, t ≤ ms.length → ∀ k, k ≤ 1 → (mailL k (rowsP r ms u es t)).length ≤ 2 ^ 12 := fun t ht k hk => by
    have h1 := mail_size (k := k) (hPsz t ht).1
    have h2 := (hPsz t ht).2
    have h3 : ((rowsP r ms u es t).length + 1) * (8 + k + 59 + 2) ≤ 21 * 70 := Nat.mul_le_mul (by omega) (by omega)
    omega
  have hspl : ∀ t, t ≤ ms.length → spl (mailL 0 (rowsP r ms u es t)) CRLF = (rowsP r ms u es t).map (rowL 0) := fun t ht => spl_rows (hPok t ht).2.2 fun x hx => ((hPok t ht).2.1 x hx).1
  have hrl : ∀ t, t ≤ ms.length → ∀ x ∈ rowsP r ms u es t, (rowL 0 x).length ≤ 2 ^ 12 := fun t ht x hx => Nat.le_trans (mem_le_jn (List.mem_map_of_mem hx)) (hpg t ht 0 (by decide))
  have hqs : ∀ t, t ≤ ms.length → ∀ q ∈ Qt r ms u es t, (qstr q).length ≤ 66 := fun t ht q hq => by
    have h1 := hQsm t ht q hq
    have h2 := qtxt_len h1
    have := h1.1
    unfold qstr
    rw [List.length_append, List.length_replicate]; omega
  have hMl : (ms.map nt).length ≤ sizeLine := by rw [List.length_map, sz]; omega
  have hsz2 : ∀ t, t ≤ ms.length → (Qt r ms u es t).length ≤ sizeLine := fun t ht => by have := hQl t ht; rw [sz]; omega
  have hsz3 : ∀ t, t ≤ ms.length → (rowsP r ms u es t).length ≤ sizeLine := fun t ht => by have := (hPsz t ht).2; rw [sz]; omega
  refine Ex.for (ns := ["move", "end"]) (Iter.zip (Ev.blt Mem.i6 (z_zip G)) (Ev.name At.i5) (Ev.name At.i6))
    (fun k vs led => led = [.prd [138] (T0 138)] ∧ vs = [.val (.list (script.map .int)), .val (.int (firstI script)), .val (intsD (rootL r)), .val (nt (sizeI script)), .val (.int u), .val (.list (ms.map nt)), .val (.list (es.map nt)), .val (.list (ends7.map st)), .val (st (mailL 0 (rowsP r ms u es k))), .no, .no, .no, .no, .no, .no, .no, .no, .no, .no, .no, .no, .no, .no, .no])
    (fun vs led => led = [.prd [138] (T0 138)] ∧ vs = [.val (.list (script.map .int)), .val (.int (firstI script)), .val (intsD (rootL r)), .val (nt (sizeI script)), .val (.int u), .val (.list (ms.map nt)), .val (.list (es.map nt)), .val (.list (ends7.map st)), .val (st (mailL 0 (rowsP r ms u es ms.length))), .no, .no, .no, .no, .no, .no, .no, .no, .no, .no, .no, .no, .no, .no, .no]) ⟨rfl, rfl⟩ ?_ ?_ ?_ ?_
  · rintro k dd vs led hz' bad'' fp P hdd ⟨rfl, rfl⟩
    obtain ⟨a, b, ha, hb, rfl⟩ := zips_get hdd
    rw [List.getElem?_map] at ha hb
    cases hmk : ms[k]? with
    | none => rw [hmk] at ha; cases ha
    | some m =>
    cases hek : es[k]? with
    | none => rw [hek] at hb; cases hb
    | some e =>
    rw [hmk] at ha; cases ha
    rw [hek] at hb; cases hb
    have hkl : k < ms.length := (List.getElem?_eq_some_iff.mp hmk).1
    have hk : k ≤ ms.length := Nat.le_of_lt hkl
    have hm : m < 4 := hm4 m (List.mem_of_getElem? hmk)
    have he : e < 7 := he7 e (List.mem_of_getElem? hek)
    have hg1 : ms.getD k 0 = m := by rw [List.getD_eq_getElem?_getD, hmk]; rfl
    have hg2 : es.getD k 0 = e := by rw [List.getD_eq_getElem?_getD, hek]; rfl
    have hnext := Q_next (r := r) (u := u) (es := es) hkl
    rw [hg1, hg2] at hnext
    have hv28 : (u * ringW k m (Kt r ms k)).natAbs < 16 ^ 28 := by
      have := hQsm (k + 1) hkl (2, m, u * ringW k m (Kt r ms k), e) (by rw [hnext]; exact .head _)
      exact this.2.2.1
    have hstep : rowsP r ms u es (k + 1) = rowsN m e (u * ringW k m (Kt r ms k)) ((Qt r ms u es k).filter (keepQ m)) := by
      show rowsN (ms.getD k 0) (es.getD k 0) _ _ = _
      rw [hg1, hg2]
    have hne : (Qt r ms u es k).filter (keepQ m) ≠ [] := fun q => by
      have : lastQ u ∈ (Qt r ms u es k).filter (keepQ m) := List.mem_filter.mpr ⟨by unfold Qt; exact List.mem_append_right _ (.head _), rfl⟩
      rw [q] at this; cases this
    have hpn := page_next (m := m) he (u * ringW k m (Kt r ms k)) hne
    rw [← hstep] at hpn
    have hring := ring_eq (r := r) (es := es) (u := u) hk m
    have hpz := hpg k hk 0 (by decide)
    have hpz2 := hpg (k + 1) hkl 0 (by decide)
    have hrows : ((rowsP r ms u es k).filter liveR).map (fun x => st (rowL 0 x)) = (Qt r ms u es k).map (fun q => st (qstr q)) := by
      rw [(hPok k hk).1, List.map_map]
      exact List.map_congr_left fun q _ => by show st (rowL 0 (qrow q)) = _; rw [rowL_q]
    refine ⟨_, .names (.cons (.cons .nil)) (.inr rfl) (.cons Put.i9 (.cons Put.i10 .nil)), ?_⟩
    refine Ex.cmp1 (xs := rowsP r ms u es k) (di := fun x => st (rowL 0 x)) (g := fun x => st (rowL 0 x)) (p := liveR) (own := ["row"]) (fr := []) (gl := []) (ns := ["row"])
      (Iter.list (Ev.eq (Ev.split (Ev.name At.i8) (Ev.strE (l := CRLF)) (by decide) (by rw [sz]; omega)) (by rw [hspl k hk, List.map_map]; rfl))) rfl (by decide +kernel) .nil rfl rfl one_in (hsz3 k hk)
      (fun x hx C cs base hz bad led => ⟨_, .name .here, .drop .nil, .one (Tst.val (Ev.strip (Ev.name At.i0) (Ev.strE (l := [46])) (by have := hrl k hk x hx; rw [sz]; omega)) (bare_sm (by have := hrl k hk x hx; rw [sz]; omega)) ((bare_tr _).trans (bare_row ((hPok k hk).2.1 x hx)))), fun _ => (Ev.name At.i0)⟩) Put.i11 ?_
    rw [hrows]
    have hQs := hQsm k hk
    refine Ex.asg (d := .list ((Qt r ms u es k).map rdQ)) (Ev.eq (Ev.comp1 (xs := Qt r ms u es k) (di := fun q => st (qstr q)) (g := rdQ) (p := fun _ => true) (own := ["row"]) (fr := []) (gl := ["_law_row", "_law_symbols"]) (ns := ["row"])
      (Iter.list (Ev.name At.i11)) rfl (by decide +kernel) .nil rfl rfl one_in (hsz2 k hk)
      (fun q hq C cs base hz bad led => ⟨_, .name .here, .drop .nil, .nil, fun _ => Ev.eq (Ev.call (Ev.glob Mem.i0 (G.g _ _ g_row)) (.fn rfl rfl) (.cons (Ev.call (Ev.glob Mem.i1 (G.g _ _ g_symbols)) (.fn rfl rfl) (.cons (Ev.name At.i0) .nil) (c_symbols G (qstr q) (symR q.1 q.2.1 q.2.2.1) (row_reads q.1 q.2.1 q.2.2.1 (hQs q hq).2.2.2) (by have := hqs k hk q hq; omega) (by have := symR_len q.1 q.2.1 q.2.2.1; have := (hQs q hq).1; omega)) (Nat.le_of_ble_eq_true rfl)) .nil) (c_row G _ (symR_nn _ _ _)) (Nat.le_of_ble_eq_true rfl)) (by rw [row_tells]; rfl)⟩)) (by rw [map_true])) Put.i12 ?_
    refine Ex.asg (d := .int (((Qt r ms u es k).filter fun q => decide (q.1 ≠ 0)).map fun q => q.2.2.1).sum) (Ev.call (Ev.blt Mem.i2 (z_sum G)) (.builtin _) (.cons (Ev.eq (Ev.comp1 (xs := Qt r ms u es k) (di := rdQ) (g := fun q => .int q.2.2.1) (p := fun q => decide (q.1 ≠ 0)) (own := ["one"]) (fr := []) (gl := []) (ns := ["one"])
      (Iter.list (Ev.name At.i12)) rfl (by decide +kernel) .nil rfl rfl one_in (hsz2 k hk)
      (fun q hq C cs base hz bad led => ⟨_, .name .here, .drop .nil, .one (Tst.val (Ev.itemLN (Ev.name At.i0) (Ev.nat (n := 0)) rfl (Nat.le_of_ble_eq_true rfl)) trivial (tr_nt q.1)), fun _ => Ev.itemLN (Ev.name At.i0) (Ev.nat (n := 2)) rfl (Nat.le_of_ble_eq_true rfl)⟩)) (b := .list ((((Qt r ms u es k).filter fun q => decide (q.1 ≠ 0)).map fun q => q.2.2.1).map .int)) (by rw [List.map_map]; rfl)) .nil) Fn.sum (Nat.zero_le _)) Put.i13 ?_
    refine Ex.asg (d := .int (((Qt r ms u es k).filter fun q => decide (q.1 ≠ 0) && decide (q.2.1 = m)).map fun q => q.2.2.1).sum) (Ev.call (Ev.blt Mem.i2 (z_sum G)) (.builtin _) (.cons (Ev.eq (Ev.comp1 (xs := Qt r ms u es k) (di := rdQ) (g := fun q => .int q.2.2.1) (p := fun q => decide (q.1 ≠ 0) && decide (q.2.1 = m)) (own := ["one"]) (fr := ["move"]) (gl := []) (ns := ["one"])
      (Iter.list (Ev.name At.i12)) rfl (by decide +kernel) (Ats.one At.i9) rfl rfl one_in (hsz2 k hk)
      (fun q hq C cs base hz bad led => ⟨_, .name .here, .drop (.keep .nil), .one (Tst.eq (Tst.and (Tst.val (Ev.itemLN (Ev.name At.i0) (Ev.nat (n := 0)) rfl (Nat.le_of_ble_eq_true rfl)) trivial (tr_nt q.1)) fun _ => Tst.and (Tst.cmp (EvC.eqN (Ev.itemLN (Ev.name At.i0) (Ev.nat (n := 1)) rfl (Nat.le_of_ble_eq_true rfl)) (Ev.name At.i1))) fun _ => Tst.andN) (by rw [Bool.and_true])), fun _ => Ev.itemLN (Ev.name At.i0) (Ev.nat (n := 2)) rfl (Nat.le_of_ble_eq_true rfl)⟩)) (b := .list ((((Qt r ms u es k).filter fun q => decide (q.1 ≠ 0) && decide (q.2.1 = m)).map fun q => q.2.2.1).map .int)) (by rw [List.map_map]; rfl)) .nil) Fn.sum (Nat.zero_le _)) Put.i14 ?_
    refine Ex.cmp1 (xs := Qt r ms u es k) (di := fun q => .tuple [st (qstr q), rdQ q]) (g := fun q => st (qstr q)) (p := keepQ m) (own := ["row", "one"]) (fr := ["move"]) (gl := []) (ns := ["row", "one"])
      (by rw [← zips_map]; exact Iter.zip (Ev.blt Mem.i6 (z_zip G)) (Ev.name At.i11) (Ev.name At.i12)) rfl (by decide +kernel) (Ats.one At.i9) rfl rfl two_in (hsz2 k hk)
      (fun q hq C cs base hz bad led => ⟨_, .names (.cons (.cons .nil)) (.inr rfl) (.cons .here (.cons Put.i1 .nil)), .drop (.drop (.keep .nil)), .one (Tst.eq (Tst.or (Tst.cmp (EvC.eqN (Ev.itemLN (Ev.name At.i1) (Ev.nat (n := 0)) rfl (Nat.le_of_ble_eq_true rfl)) (Ev.nat (n := 0)))) fun _ => Tst.or (Tst.cmp (EvC.neN (Ev.itemLN (Ev.name At.i1) (Ev.nat (n := 1)) rfl (Nat.le_of_ble_eq_true rfl)) (Ev.name At.i2))) fun _ => Tst.orN) (by unfold keepQ; rw [Bool.or_false])), fun _ => (Ev.name At.i0)⟩) Put.i15 ?_
    have hjs : ((((Qt r ms u es k).filter (keepQ m)).map qstr).map (·.length)).sum ≤ 660 := by
      have h1 := sum_le (l := (((Qt r ms u es k).filter (keepQ m)).map qstr).map (·.length)) (n := 66) (by
        intro a ha
        obtain ⟨y, hy, rfl⟩ := List.mem_map.mp ha
        obtain ⟨q, hq, rfl⟩ := List.mem_map.mp hy
        exact hqs k hk q (List.mem_filter.mp hq).1)
      have h2 := List.length_filter_le (keepQ m) (Qt r ms u es k)
      have h3 := hQl k hk
      rw [List.length_map, List.length_map] at h1
      exact Nat.le_trans h1 (Nat.mul_le_mul_right 66 (Nat.le_trans h2 h3))
    have hjl : (((Qt r ms u es k).filter (keepQ m)).map qstr).length ≤ 10 := by
      rw [List.length_map]
      exact Nat.le_trans (List.length_filter_le _ _) (hQl k hk)
    have hjn : (jn CRLF (((Qt r ms u es k).filter (keepQ m)).map qstr)).length ≤ 700 := by
      have h1 := jn_len CRLF (((Qt r ms u es k).filter (keepQ m)).map qstr)
      have h2 : CRLF.length = 2 := rfl
      rw [h2] at h1
      split at h1 <;> omega
    have hput := putL_len hm hv28
    have hE := hE6 e
    refine Ex.asg (d := st (mailL 0 (rowsP r ms u es (k + 1)))) (Ev.eq (Ev.call (Ev.glob Mem.i5 (G.g _ _ g_quote)) (.fn rfl rfl) (.cons (Ev.cat (Ev.cat (Ev.cat (a := [46]) (b := putL m (u * ringW k m (Kt r ms k))) (Ev.strE (l := [46])) (Ev.call (Ev.glob Mem.i4 (G.g _ _ g_put)) (.fn rfl rfl) (.cons (Ev.name At.i9) (.cons (Ev.eq (Ev.sub (Ev.mul Ev.int (Ev.name At.i13) mulK) (Ev.mul Ev.int (Ev.name At.i14) mulK)) (congrArg PyData.int hring)) .nil)) (c_put G m _ (by have := ap_len28 (n := m) (Nat.lt_of_lt_of_le hm (by decide)); omega) (hup _ hv28)) (Nat.le_of_ble_eq_true rfl)) ?m1) (Ev.itemLN (Ev.name At.i7) (Ev.name At.i10) (hE7 e he) hEl) ?m2)
      (Ev.join (ys := ((Qt r ms u es k).filter (keepQ m)).map qstr) (Ev.strE (l := CRLF)) (Ev.eq (Ev.name At.i15) (by rw [List.map_map]; rfl)) ?m3) ?m4) .nil) (c_quote G _ ?m5) (Nat.le_of_ble_eq_true rfl)) ?m6) Put.i8 ?_
    case m1 => show 1 + _ ≤ _; rw [sz]; omega
    case m2 => rw [List.length_append, sz]; show (1 + _) + _ ≤ _; omega
    case m3 => show _ + _ * 2 ≤ _; rw [sz]; omega
    case m4 => rw [List.length_append, List.length_append, sz]; show ((1 + _) + _) + _ ≤ _; omega
    case m5 => rw [List.length_append, List.length_append, List.length_append]; show ((1 + _) + _) + _ ≤ _; omega
    case m6 => exact congrArg (fun z => PyData.str (S z)) hpn
    refine Ex.nil fun s' O => ⟨bad'', _, _, ⟨rfl, rfl⟩, ?_⟩
    exact O.forget (.keep (.keep (.keep (.keep (.keep (.keep (.keep (.keep (.keep (.drop (.drop (.drop (.drop (.drop (.drop (.drop (.drop (.drop (.drop (.drop (.drop (.drop (.drop (.drop .nil))))))))))))))))))))))))
  · rintro vs led ⟨rfl, rfl⟩
    refine ⟨rfl, ?_⟩
    have : (zips (ms.map nt) (es.map nt)).length = ms.length := by unfold zips; rw [List.length_map, List.length_zip, List.length_map, List.length_map, ← hml.1, Nat.min_self]
    rw [this]
  · rintro vs led bad ⟨rfl, rfl⟩
    have hn := Nat.le_refl ms.length
    have hQs := hQsm ms.length hn
    have hPn := hPok ms.length hn
    have hpz := hpg ms.length hn 0 (by decide)
    have hpz1 := hpg ms.length hn 1 (by decide)
    have hchk := chk_rows (es := es) (u := u) hr4 hm4 hml.2.1 hml.2.2
    have hdue := due_rows (es := es) (u := u) hr4 hm4 hml.2.1 hml.2.2
    have ht4 := take_four (es := es) (u := u) hr4 hm4 hml.2.1 hml.2.2
    have hK4 := K_four hr4 hm4 hml.2.1 hml.2.2
    have hspl5 := hspl ms.length hn
    have hrl5 := hrl ms.length hn
    have hqs5 := hqs ms.length hn
    have hsz5 := hsz2 ms.length hn
    have hPz5 := hPsz ms.length hn
    obtain ⟨X, hX1, hX2, hX3, hX4⟩ := annot _ _ hPn.1
    have hXl : X.length ≤ sizeLine := by
      have h1 := congrArg List.length hX1
      rw [List.length_map] at h1
      rw [h1]; exact hsz3 ms.length hn
    have hXm : ∀ x ∈ X, unX x ∈ rowsP r ms u es ms.length := fun x hx => by rw [← hX1]; exact List.mem_map_of_mem hx
    refine Ex.cmp1 (xs := X) (di := fun x => st (rowL 0 (unX x))) (g := symX) (p := isX) (own := ["row"]) (fr := []) (gl := ["_law_symbols"]) (ns := ["row"])
      (Iter.list (Ev.eq (Ev.split (Ev.name At.i8) (Ev.strE (l := CRLF)) (by decide) (by rw [sz]; omega)) (by rw [hspl5, ← hX1, List.map_map, List.map_map]; rfl))) rfl (by decide +kernel) .nil rfl rfl one_in hXl
      (fun x hx C cs base hz bad led => ⟨_, .name .here, .drop .nil, .one (Tst.val (Ev.strip (Ev.name At.i0) (Ev.strE (l := [46])) (by have := hrl5 _ (hXm x hx); rw [sz]; omega)) (bare_sm (by have := hrl5 _ (hXm x hx); rw [sz]; omega)) (((bare_tr _).trans (bare_row (hPn.2.1 _ (hXm x hx)))).trans (hX2 x hx))), fun hp => ?_⟩) Put.i16 ?_
    · cases x with
      | inr x => cases hp
      | inl q =>
        have hq := hX4 q hx
        have hd := (hQs q hq).1
        have hsl := symR_len q.1 q.2.1 q.2.2.1
        have h66 := hqs5 q hq
        exact Ev.call (Ev.glob Mem.i0 (G.g _ _ g_symbols)) (.fn rfl rfl) (.cons (Ev.eq (Ev.name At.i0) (congrArg (fun z => PyData.str (S z)) (rowL_q q))) .nil) (c_symbols G (qstr q) (symR q.1 q.2.1 q.2.2.1) (row_reads q.1 q.2.1 q.2.2.1 (hQs q hq).2.2.2) (by omega) (by omega)) (Nat.le_of_ble_eq_true rfl)
    rw [hX3]
    clear hX1 hX2 hX3 hX4 hXl hXm
    refine Ex.asg (d := .list ((Qt r ms u es ms.length).map rdQ)) (Ev.eq (Ev.comp1 (xs := Qt r ms u es ms.length) (di := fun q => intsD (symR q.1 q.2.1 q.2.2.1 ++ [0])) (g := rdQ) (p := fun _ => true) (own := ["one"]) (fr := []) (gl := ["_law_row"]) (ns := ["one"])
      (Iter.list (Ev.name At.i16)) rfl (by decide +kernel) .nil rfl rfl one_in hsz5
      (fun q hq C cs base hz bad led => ⟨_, .name .here, .drop .nil, .nil, fun _ => Ev.eq (Ev.call (Ev.glob Mem.i0 (G.g _ _ g_row)) (.fn rfl rfl) (.cons (Ev.name At.i0) .nil) (c_row G _ (symR_nn _ _ _)) (Nat.le_of_ble_eq_true rfl)) (by rw [row_tells]; rfl)⟩)) (by rw [map_true])) Put.i12 ?_
    have hmsl : (ms.map nt).length = ms.length := List.length_map ..
    have hmsg : ∀ t : Nat, t < ms.length → (ms.map nt)[t]? = some (nt (ms.getD t 0)) := fun t ht => by
      rw [List.getElem?_map, List.getElem?_eq_getElem ht, List.getD_eq_getElem?_getD, List.getElem?_eq_getElem ht]; rfl
    have hrs := range_small ms.length (by omega)
    refine Ex.asg (d := .list (((List.range 4).map (lastI ms)).map .int)) (Ev.eq (Ev.comp1 (xs := List.range 4) (di := nt) (g := fun j => .int (lastI ms j)) (p := fun _ => true) (own := ["j"]) (fr := ["moves"]) (gl := ["max", "range", "len"]) (ns := ["j"])
      (rng_up ▸ Iter.range (EvR.one (Ev.blt Mem.i3 (z_range G)) Ev.int) (by decide) (by decide)) rfl (by decide +kernel) (Ats.one At.i5) rfl rfl one_in (Nat.le_of_ble_eq_true rfl)
      (fun j hj C cs base hz bad led => ⟨_, .name .here, .drop (.keep .nil), .nil, fun _ => ?_⟩)) (by rw [map_true, List.map_map]; rfl)) Put.i17 ?_
    · have hlast := mx_spec (l := -1 :: (hits ms j).map fun t : Nat => (t : Int)) (by simp)
      refine Ev.call (Ev.blt Mem.i0 (z_max G)) (.builtin _) (.cons (Ev.eq (b := .list ((-1 :: (hits ms j).map fun t : Nat => (t : Int)).map .int)) (Ev.catL (Ev.list (ds := [.int (-1)]) (.cons (Ev.neg Ev.int) .nil) (Nat.le_of_ble_eq_true rfl)) (Ev.comp2 (xs := List.range ms.length) (di := nt) (g := nt) (p := fun t => ms.getD t 0 == j) (own := ["t"]) (fr := ["j", "moves"]) (gl := []) (ns := ["t"])
        (rng_up ▸ Iter.range (EvR.one (Ev.blt Mem.i1 (z_range G)) (Ev.eq (Ev.call (Ev.blt Mem.i2 (z_len G)) (.builtin _) (.cons (Ev.name At.i1) .nil) (Fn.len_list (by rw [hmsl]; omega)) (Nat.zero_le _)) (b := nt ms.length) (by rw [hmsl]))) hrs.1 hrs.2) rfl (by decide +kernel) (Ats.two At.i0 At.i1) rfl rfl one_in (by rw [List.length_range, sz]; omega)
        (fun t ht C cs base hz bad led => ⟨_, .name .here, .drop (.keep (.keep .nil)), .one (Tst.eq (Tst.cmp (EvC.eqN (Ev.itemLN (Ev.name At.i2) (Ev.name At.i0) (hmsg t (by simpa using ht)) hMl) (Ev.name At.i1))) (by generalize ms.getD t 0 = a; by_cases q : a = j <;> simp [q])), fun _ => (Ev.name At.i0)⟩)) ?n1) ?n2) .nil) (Fn.max hlast.1 hlast.2) (Nat.zero_le _)
      case n1 =>
        have := List.length_filter_le (fun t => ms.getD t 0 == j) (List.range ms.length)
        rw [List.length_range] at this
        rw [List.length_map, sz]; show 1 + _ ≤ _; omega
      case n2 => rw [List.map_cons, List.map_map]; rfl
    obtain ⟨pm, hrun, hpm⟩ := (kok hr4 hm4 hml.2.1 hml.2.2).run
    have hperm := (kok hr4 hm4 hml.2.1 hml.2.2).perm
    rw [← K_end] at hpm hperm
    rw [← hpm] at hperm
    have hlastg : ∀ j : Nat, j < 4 → (((List.range 4).map (lastI ms)).map PyData.int)[j]? = some (.int (lastI ms j)) := fun j hj => by
      rw [List.getElem?_map, List.getElem?_map, List.getElem?_range hj]; rfl
    have hpl4 : ∀ j ∈ pm.toList, j < 4 := fun j hj => List.mem_range.mp (hperm.mem_iff.mp hj)
    have hpml : pm.toList.length = 4 := by rw [hperm.length_eq]; rfl
    refine Ex.assignG (D := fun dd => dd = .list (pm.toList.map nt)) (vs' := fun dv => [.val (.list (script.map .int)), .val (.int (firstI script)), .val (intsD (rootL r)), .val (nt (sizeI script)), .val (.int u), .val (.list (ms.map nt)), .val (.list (es.map nt)), .val (.list (ends7.map st)), .val (st (mailL 0 (rowsP r ms u es ms.length))), .no, .no, .no, .val (.list ((Qt r ms u es ms.length).map rdQ)), .no, .no, .no, .val (.list ((Qt r ms u es ms.length).map fun q => intsD (symR q.1 q.2.1 q.2.2.1 ++ [0]))), .val (.list (((List.range 4).map (lastI ms)).map .int)), .val dv, .no, .no, .no, .no, .no])
      (EvG.sortKeyR (c := 140) (m := 4) (n := 0) (p := "j") (fn := "last") (gl := []) (g := fun i => -lastI ms i) (pm := pm) (Ev.blt Mem.i7 (z_sorted G)) (EvR.one (Ev.blt Mem.i3 (z_range G)) Ev.int) rfl (by exact rfl) rfl hbm (by decide +kernel) (by decide +kernel) At.i17 rfl (fun _ _ _ _ _ _ => rfl) (by decide) (by decide) (Nat.le_of_ble_eq_true rfl) hrun hperm
        (fun i hi A qual L a c' cl base hz bad cb cc v h1 h2 h3 => EvP.mono (Ev.neg (Ev.itemLN (Ev.free rfl rfl h1 h2 h3 rfl) (Ev.name At.i0) (hlastg i hi) (Nat.le_of_ble_eq_true rfl))) fun h v r => r.int_inv)) (fun d => Put.i18) (fun dd hD => ?_)
    subst hD
    refine Ex.ite (c := false) (Tst.eq (Tst.cmp (EvC.neD (a := .list (((Qt r ms u es ms.length).map fun q => [(q.1 : Int), (q.2.1 : Int)]).map intsD)) (b := .list (((((Kt r ms ms.length).map (fun c : Crd => c.1)).map fun j : Nat => [1 + (ms.length : Int) - lastI ms j, (j : Int)]) ++ [[0, 0]]).map intsD))
      (Ev.eq (Ev.comp1 (xs := Qt r ms u es ms.length) (di := rdQ) (g := fun q => intsD [(q.1 : Int), (q.2.1 : Int)]) (p := fun _ => true) (own := ["one"]) (fr := []) (gl := []) (ns := ["one"])
        (Iter.list (Ev.name At.i12)) rfl (by decide +kernel) .nil rfl rfl one_in hsz5
        (fun q hq C cs base hz bad led => ⟨_, .name .here, .drop .nil, .nil, fun _ => Ev.eq (Ev.takeL (Ev.name At.i0) (Ev.nat (n := 2)) (Nat.le_of_ble_eq_true rfl)) rfl⟩)) (by rw [map_true, List.map_map]; rfl))
      (Ev.eq (Ev.catL (Ev.comp1 (xs := pm.toList) (di := nt) (g := fun j => intsD [1 + (ms.length : Int) - lastI ms j, (j : Int)]) (p := fun _ => true) (own := ["j"]) (fr := ["last", "moves"]) (gl := ["len"]) (ns := ["j"])
        (Iter.list (Ev.name At.i18)) rfl (by decide +kernel) (Ats.two At.i17 At.i5) rfl rfl one_in (by rw [hpml, sz]; omega)
        (fun j hj C cs base hz bad led => ⟨_, .name .here, .drop (.keep (.keep .nil)), .nil, fun _ => Ev.list (.cons (Ev.sub (Ev.add Ev.int (Ev.eq (Ev.call (Ev.blt Mem.i0 (z_len G)) (.builtin _) (.cons (Ev.name At.i2) .nil) (Fn.len_list (by rw [hmsl]; omega)) (Nat.zero_le _)) (b := nt ms.length) (by rw [hmsl]))) (Ev.itemLN (Ev.name At.i1) (Ev.name At.i0) (hlastg j (hpl4 j hj)) (Nat.le_of_ble_eq_true rfl))) (.cons (Ev.name At.i0) .nil)) (Nat.le_of_ble_eq_true rfl)⟩)) (Ev.list (ds := [intsD [0, 0]]) (.cons (Ev.list (.cons Ev.int (.cons Ev.int .nil)) (Nat.le_of_ble_eq_true rfl)) .nil) (Nat.le_of_ble_eq_true rfl)) ?r1) ?r2) (shaped_intss _) (shaped_intss _))) ?r3) (fun h => by cases h) (fun _ => Ex.next ?_)
    case r1 => rw [map_true, List.length_map, hpml, sz]; show 4 + 1 ≤ _; omega
    case r2 => rw [map_true, ← hpm, List.map_append, List.map_map]; rfl
    case r3 => rw [eqvII, hchk, decide_eq_true rfl]; rfl
    refine Ex.ownL (EvN.list .nil (Nat.le_of_ble_eq_true rfl)) (fun a => Put.i19) (fun a => ?_)
    have hQe : Qt r ms u es ms.length = (Kt r ms ms.length).map (cardQ u es ms.length) ++ [lastQ u] := rfl
    have hll := (kok hr4 hm4 hml.2.1 hml.2.2).last
    rw [← K_end] at hll
    have hage := Kt_age r ms ms.length hn
    have hel : (es.map nt).length ≤ sizeLine := by rw [List.length_map, sz]; omega
    have hdl : ∀ i, ((((Kt r ms ms.length).take i).flatMap fun c => dueOf (cardQ u es ms.length c)).map rowD).length ≤ 64 := fun i => by
      rw [List.length_map]
      have h1 : ∀ K : List Crd, (K.flatMap fun c => dueOf (cardQ u es ms.length c)).length ≤ K.length * 4 := by
        intro K
        induction K with
        | nil => simp
        | cons c K ih =>
          rw [List.flatMap_cons, List.length_append, List.length_cons]
          have h2 : (dueOf (cardQ u es ms.length c)).length ≤ 4 := by
            unfold dueOf
            rw [List.length_cons]
            split
            · have := more3 (cardQ u es ms.length c).2.2.2
              unfold aged0; rw [List.length_map]; omega
            · simp
          omega
      have h2 := h1 ((Kt r ms ms.length).take i)
      have h3 : ((Kt r ms ms.length).take i).length ≤ 4 := by rw [List.length_take, hK4]; omega
      omega
    refine Ex.for (ns := ["j", "one"]) (Iter.zip (Ev.blt Mem.i6 (z_zip G)) (Ev.name At.i18) (Ev.name At.i12))
      (fun i vs led => led = [.lst a ((((Kt r ms ms.length).take i).flatMap fun c => dueOf (cardQ u es ms.length c)).map rowD), .prd [138] (TG 138)] ∧ vs = [.val (.list (script.map .int)), .val (.int (firstI script)), .val (intsD (rootL r)), .val (nt (sizeI script)), .val (.int u), .val (.list (ms.map nt)), .val (.list (es.map nt)), .val (.list (ends7.map st)), .val (st (mailL 0 (rowsP r ms u es ms.length))), .no, .no, .no, .val (.list ((Qt r ms u es ms.length).map rdQ)), .no, .no, .no, .val (.list ((Qt r ms u es ms.length).map fun q => intsD (symR q.1 q.2.1 q.2.2.1 ++ [0]))), .val (.list (((List.range 4).map (lastI ms)).map .int)), .val (.list (pm.toList.map nt)), .ptr a, .no, .no, .no, .no])
      (fun vs led => led = [.lst a (((Kt r ms ms.length).flatMap fun c => dueOf (cardQ u es ms.length c)).map rowD), .prd [138] (TG 138)] ∧ vs = [.val (.list (script.map .int)), .val (.int (firstI script)), .val (intsD (rootL r)), .val (nt (sizeI script)), .val (.int u), .val (.list (ms.map nt)), .val (.list (es.map nt)), .val (.list (ends7.map st)), .val (st (mailL 0 (rowsP r ms u es ms.length))), .no, .no, .no, .val (.list ((Qt r ms u es ms.length).map rdQ)), .no, .no, .no, .val (.list ((Qt r ms u es ms.length).map fun q => intsD (symR q.1 q.2.1 q.2.2.1 ++ [0]))), .val (.list (((List.range 4).map (lastI ms)).map .int)), .val (.list (pm.toList.map nt)), .ptr a, .no, .no, .no, .no]) ⟨rfl, rfl⟩ ?_ ?_ ?_ ?_
    · rintro i dd vs led hz' bad'' fp P hdd ⟨rfl, rfl⟩
      obtain ⟨a0, b0, ha, hb, rfl⟩ := zips_get hdd
      rw [hpm, List.map_map, List.getElem?_map] at ha
      rw [hQe, List.map_append, List.map_map] at hb
      cases hKi : (Kt r ms ms.length)[i]? with
      | none => rw [hKi] at ha; cases ha
      | some c =>
      rw [hKi] at ha; cases ha
      have hil : i < (Kt r ms ms.length).length := (List.getElem?_eq_some_iff.mp hKi).1
      rw [List.getElem?_append_left (by rw [List.length_map]; exact hil), List.getElem?_map, hKi] at hb
      cases hb
      have hcK : c ∈ Kt r ms ms.length := List.mem_of_getElem? hKi
      have hqQ : cardQ u es ms.length c ∈ Qt r ms u es ms.length := by rw [hQe]; exact List.mem_append_left _ (List.mem_map_of_mem hcK)
      have hqs := hQs _ hqQ
      have hc4 : c.1 < 4 := hqs.2.1
      have hv28 : (u * c.2.1).natAbs < 16 ^ 28 := hqs.2.2.1
      have hk7 : endOf es c.2.2 < 7 := hqs.2.2.2
      have hl1 := hll c hcK
      have hl2 := hage c hcK
      have htake : (Kt r ms ms.length).take (i + 1) = (Kt r ms ms.length).take i ++ [c] := by rw [List.take_add_one, hKi]; rfl
      have hnx : (((Kt r ms ms.length).take (i + 1)).flatMap fun c => dueOf (cardQ u es ms.length c)).map rowD = ((((Kt r ms ms.length).take i).flatMap fun c => dueOf (cardQ u es ms.length c)).map rowD ++ [rowD (qrow (cardQ u es ms.length c))]) ++ (if (cardQ u es ms.length c).1 = 2 then aged0 (moreL (cardQ u es ms.length c).2.2.2) else []).map rowD := by
        rw [htake, List.flatMap_append, List.map_append, List.append_assoc]
        congr 1
        show (dueOf (cardQ u es ms.length c) ++ []).map rowD = _
        rw [List.append_nil]; rfl
      refine ⟨_, .names (.cons (.cons .nil)) (.inr rfl) (.cons Put.i20 (.cons Put.i21 .nil)), ?_⟩
      refine Ex.asg (d := nt (endOf es c.2.2)) (Ev.ite (c := decide (0 ≤ lastI ms c.1)) (Tst.cmp (EvC.ge (Ev.itemLN (Ev.name At.i17) (Ev.name At.i20) (hlastg _ hc4) (Nat.le_of_ble_eq_true rfl)) Ev.int)) (fun h => Ev.itemLN (i := c.2.2 - 1) (Ev.name At.i6) (Ev.eq (Ev.itemLN (Ev.name At.i17) (Ev.name At.i20) (hlastg _ hc4) (Nat.le_of_ble_eq_true rfl)) ?s1) ?s2 hel) (fun h => Ev.eq (Ev.nat (n := 0)) ?s3)) Put.i10 ?_
      case s1 => have h' : 0 ≤ lastI ms c.1 := by simpa using h
                 exact congrArg PyData.int (by show lastI ms c.1 = ((c.2.2 - 1 : Nat) : Int); omega)
      case s2 =>
        have h' : 0 ≤ lastI ms c.1 := by simpa using h
        have h0 : c.2.2 ≠ 0 := by omega
        have hlt : c.2.2 - 1 < es.length := by omega
        unfold endOf
        rw [if_neg h0, List.getElem?_map, List.getElem?_eq_getElem hlt, List.getD_eq_getElem?_getD, List.getElem?_eq_getElem hlt]; rfl
      case s3 =>
        have h' : ¬ 0 ≤ lastI ms c.1 := by simpa using h
        have h0 : c.2.2 = 0 := by omega
        unfold endOf; rw [if_pos h0]
      refine Ex.app (d := rowD (qrow (cardQ u es ms.length c))) (l' := [.prd fp P, .lst a ((((Kt r ms ms.length).take i).flatMap fun c => dueOf (cardQ u es ms.length c)).map rowD ++ [rowD (qrow (cardQ u es ms.length c))]), .prd [138] (TG 138)]) At.i19 (.there .here) (Ev.list (ds := [nt (cardQ u es ms.length c).1, st (putL c.1 (u * c.2.1) ++ tailL (endOf es c.2.2))]) (.cons (Ev.itemLN (Ev.name At.i21) (Ev.nat (n := 0)) rfl (Nat.le_of_ble_eq_true rfl)) (.cons (Ev.cat (Ev.eq (Ev.call (Ev.glob Mem.i8 (G.g _ _ g_due)) (.fn rfl rfl) (.cons (Ev.name At.i20) (.cons (Ev.itemLN (Ev.name At.i21) (Ev.nat (n := 2)) rfl (Nat.le_of_ble_eq_true rfl)) .nil)) (c_due G c.1 (u * c.2.1)) (Nat.le_of_ble_eq_true rfl)) (congrArg (fun z => PyData.str (S z)) (due_eq (Nat.lt_of_lt_of_le hc4 (by decide)) hv28))) (Ev.itemLN (ds := tails7.map st) (Ev.list (.cons (Ev.strE (l := [])) (.cons (Ev.strE (l := [])) (.cons (Ev.strE (l := [])) (.cons (Ev.strE (l := [])) (.cons (Ev.strE (l := [])) (.cons (Ev.strE (l := [11, 46])) (.cons (Ev.strE (l := [133, 46])) .nil))))))) (Nat.le_of_ble_eq_true rfl)) (Ev.name At.i10) (tails_get hk7) (Nat.le_of_ble_eq_true rfl)) ?s4) .nil)) (Nat.le_of_ble_eq_true rfl)) (by have := hdl i; rw [sz]; omega) ?_
      case s4 => have := putL_len hc4 hv28; have := tail_len (endOf es c.2.2); rw [sz]; omega
      refine Ex.ite (c := decide ((cardQ u es ms.length c).1 = 2) && (([3, 4] : List Int).any (· == ((endOf es c.2.2 : Nat) : Int)) && true)) (Tst.and (Tst.cmp (EvC.eqN (Ev.itemLN (Ev.name At.i21) (Ev.nat (n := 0)) rfl (Nat.le_of_ble_eq_true rfl)) (Ev.nat (n := 2)))) fun _ => Tst.and (Tst.cmp (EvC.inTI (ns := [3, 4]) (Ev.name At.i10) (Ev.tuple (.cons Ev.int (.cons Ev.int .nil)) (Nat.le_of_ble_eq_true rfl)))) fun _ => Tst.andN) (fun hc => ?_) (fun hc => ?_)
      · rw [Bool.and_eq_true, Bool.and_true, decide_eq_true_eq] at hc
        have hk34 : endOf es c.2.2 = 3 ∨ endOf es c.2.2 = 4 := by
          have := hc.2
          simp at this
          omega
        refine Ex.extend (es := (aged0 (moreL (endOf es c.2.2))).map rowD) (l' := [.prd fp P, .lst a (((((Kt r ms ms.length).take i).flatMap fun c => dueOf (cardQ u es ms.length c)).map rowD ++ [rowD (qrow (cardQ u es ms.length c))]) ++ (aged0 (moreL (endOf es c.2.2))).map rowD), .prd [138] (TG 138)]) At.i19 (.there .here) (Ev.eq (Ev.iteB (c := decide (endOf es c.2.2 = 3)) (da := .list [rowD (0, [])]) (db := .list [rowD (0, []), rowD (2, []), rowD (0, [])]) (Tst.cmp (EvC.eqN (Ev.name At.i10) (Ev.nat (n := 3)))) (Ev.list (.cons Ev.m0 .nil) (Nat.le_of_ble_eq_true rfl)) (Ev.list (EvL.c Ev.m0 (EvL.c (Ev.rowE (k := 2)) (EvL.c Ev.m0 .nil))) (Nat.le_of_ble_eq_true rfl))) (more_two hk34)) ?s5 (Ex.next (Ex.nil fun s' O => ⟨bad'', _, _, ⟨rfl, rfl⟩, ?s7⟩))
        case s5 =>
          have h1 := hdl i
          have h2 := more3 (endOf es c.2.2)
          have h3 : ((aged0 (moreL (endOf es c.2.2))).map rowD).length ≤ 3 := by rw [List.length_map]; unfold aged0; rw [List.length_map]; exact h2
          rw [List.length_append, sz]
          show (_ + 1) + _ ≤ _
          omega
        case s7 =>
          rw [hnx, if_pos hc.1]
          exact O.forget (.keep (.keep (.keep (.keep (.keep (.keep (.keep (.keep (.keep (.keep (.drop (.keep (.keep (.keep (.keep (.keep (.keep (.keep (.keep (.keep (.drop (.drop (.keep (.keep .nil))))))))))))))))))))))))
      · have hem : (if (cardQ u es ms.length c).1 = 2 then aged0 (moreL (cardQ u es ms.length c).2.2.2) else []) = ([] : List Row) := by
          by_cases h2 : (cardQ u es ms.length c).1 = 2
          · rw [if_pos h2]
            refine more_none fun h34 => ?_
            have h34' : endOf es c.2.2 = 3 ∨ endOf es c.2.2 = 4 := h34
            rw [decide_eq_true h2, Bool.true_and, Bool.and_true] at hc
            rcases h34' with q | q <;> rw [q] at hc <;> simp at hc
          · rw [if_neg h2]
        refine Ex.next (Ex.nil fun s' O => ⟨bad'', _, _, ⟨rfl, rfl⟩, ?_⟩)
        rw [hnx, hem, List.map_nil, List.append_nil]
        exact O.forget (.keep (.keep (.keep (.keep (.keep (.keep (.keep (.keep (.keep (.keep (.drop (.keep (.keep (.keep (.keep (.keep (.keep (.keep (.keep (.keep (.drop (.drop (.keep (.keep .nil))))))))))))))))))))))))
    · rintro vs led ⟨rfl, rfl⟩
      have hzl : (zips (pm.toList.map nt) ((Qt r ms u es ms.length).map rdQ)).length = 4 := by
        unfold zips
        rw [List.length_map, List.length_zip, List.length_map, List.length_map, hpml, hQe, List.length_append, List.length_map, hK4]; rfl
      rw [hzl, List.take_of_length_le (by rw [hK4]; exact Nat.le_refl _)]
      exact ⟨rfl, rfl⟩
    · rintro vs led bad ⟨rfl, rfl⟩
      have hlq : qrow (lastQ u) = (0, putL 0 u) := by
        show (0, putL 0 u ++ tailL 0) = _
        rw [show tailL 0 = [] from rfl, List.append_nil]
      have hdl4 := hdl 4
      rw [List.take_of_length_le (by rw [hK4]; exact Nat.le_refl _)] at hdl4
      refine Ex.app (d := rowD (0, putL 0 u)) (l' := [.lst a (((Kt r ms ms.length).flatMap fun c => dueOf (cardQ u es ms.length c)).map rowD ++ [rowD (0, putL 0 u)]), .prd [138] (TG 138)]) At.i19 .here (Ev.list (ds := [nt 0, st (putL 0 u)]) (.cons (Ev.nat (n := 0)) (.cons (Ev.eq (Ev.call (Ev.glob Mem.i8 (G.g _ _ g_due)) (.fn rfl rfl) (.cons (Ev.nat (n := 0)) (.cons (Ev.name At.i4) .nil)) (c_due G 0 u) (Nat.le_of_ble_eq_true rfl)) (congrArg (fun z => PyData.str (S z)) (due_eq (by decide) hu28))) .nil)) (Nat.le_of_ble_eq_true rfl)) (by rw [sz]; omega) ?_
      have hdue2 : ((Kt r ms ms.length).flatMap fun c => dueOf (cardQ u es ms.length c)).map rowD ++ [rowD (0, putL 0 u)] = (rowsP r ms u es ms.length).map rowD := by
        rw [← hdue, List.map_append, ← hlq]; rfl
      rw [hdue2]
      refine Ex.frz At.i19 .here Put.i19 ?_
      have hk5 : script.length % 5 < 5 := Nat.mod_lt _ (by decide)
      have hsent : (decide (mailL 0 (rowsP r ms u es ms.length) = mailL 0 (rowsP r ms u es ms.length)) && decide (qd (mailL 0 (rowsP r ms u es ms.length) ++ endsL.getD (script.length % 5) []) = mailL 1 (rowsP r ms u es ms.length) ++ duesL.getD (script.length % 5) [])) = true := by
        rw [Bool.and_eq_true, decide_eq_true_eq, decide_eq_true_eq]
        exact ⟨rfl, qd_ends hPn.2.2 (fun x hx => (hPn.2.1 x hx).1) _ hk5⟩
      refine Ex.ite (c := false) (Tst.eq (Tst.or (Tst.not (Tst.val (Ev.eq (Ev.call (Ev.glob Mem.i9 (G.g _ _ g_sent)) (.fn rfl rfl) (.cons (Ev.name At.i8) (.cons (Ev.name At.i19) (.cons (Ev.fmodN (Ev.eq (Ev.call (Ev.blt Mem.i1 (z_len G)) (.builtin _) (.cons (Ev.name At.i0) .nil) (Fn.len_list (by rw [hsln]; omega)) (Nat.zero_le _)) (b := nt script.length) (by rw [hsln])) (Ev.nat (n := 5)) (by decide)) .nil)))
        (c_sent G _ _ _ hk5 (fun l hl => c_quote G l hl) (by omega) (by omega) (by omega) (fun x hx => by have := hPz5.1 x hx; omega) (by have := hPz5.2; omega)) (Nat.le_of_ble_eq_true rfl)) (congrArg PyData.bool hsent)) trivial rfl)) fun _ => Tst.or (Tst.not (Tst.val (Ev.eq (Ev.call (Ev.blt Mem.i10 (z_all G)) (.builtin _) (.cons (Ev.eq (b := .list (((Qt r ms u es ms.length).map fun _ => true).map .bool)) (Ev.comp1 (xs := Qt r ms u es ms.length) (di := fun q => intsD (symR q.1 q.2.1 q.2.2.1 ++ [0])) (g := fun _ => .bool true) (p := fun _ => true) (own := ["one"]) (fr := []) (gl := ["_law_kinds"]) (ns := ["one"])
          (Iter.list (Ev.name At.i16)) rfl (by decide +kernel) .nil rfl rfl one_in hsz5
          (fun q hq C cs base hz bad led => ⟨_, .name .here, .drop .nil, .nil, fun _ => Ev.eq (Ev.call (Ev.glob Mem.i0 (G.g _ _ g_kinds)) (.fn rfl rfl) (.cons (Ev.name At.i0) .nil) (c_kinds G _ (by have := symR_len q.1 q.2.1 q.2.2.1; have := (hQs q hq).1; rw [List.length_append, sz]; show _ + 1 ≤ _; omega)) (Nat.le_of_ble_eq_true rfl)) (congrArg PyData.bool (row_kinds _ _ _))⟩)) (by rw [map_true, List.map_map]; rfl)) .nil) Fn.all (Nat.zero_le _)) (b := .bool true) ?u1) trivial rfl)) fun _ => Tst.orN) rfl) (fun h => by cases h) (fun _ => Ex.next ?_)
      case u1 =>
        refine congrArg PyData.bool ?_
        rw [List.all_map]
        exact List.all_eq_true.mpr fun _ _ => rfl
      have hK5 : ((Kt r ms ms.length).map (cardQ u es ms.length)).length ≤ sizeLine := by rw [List.length_map, hK4, sz]; omega
      have hrdl : ((Qt r ms u es ms.length).map rdQ).length ≤ sizeLine := by rw [List.length_map]; exact hsz5
      have h4d : ∀ j, j < 4 → (fourK (Kt r ms ms.length))[j]? = some ((fourK (Kt r ms ms.length)).getD j 0) := fun j hj => by
        rw [List.getD_eq_getElem?_getD, List.getElem?_eq_getElem (by rw [fourK_len]; exact hj)]; rfl
      have hfour : (List.range 4).map (fun j => PyData.int (u * (fourK (Kt r ms ms.length)).getD j 0)) = ((fourK (Kt r ms ms.length)).map (u * ·)).map .int := by
        have hl := fourK_len (Kt r ms ms.length)
        generalize fourK (Kt r ms ms.length) = F at hl ⊢
        match F, hl with
        | [x0, x1, x2, x3], _ => rfl
      refine Ex.cmp1 (xs := List.range 4) (di := nt) (g := fun j => .int (u * (fourK (Kt r ms ms.length)).getD j 0)) (p := fun _ => true) (own := ["j"]) (fr := ["read"]) (gl := ["sum"]) (ns := ["j"])
        (rng_up ▸ Iter.range (EvR.one (Ev.blt Mem.i3 (z_range G)) Ev.int) (by decide) (by decide)) rfl (by decide +kernel) (Ats.one At.i12) rfl rfl one_in (Nat.le_of_ble_eq_true rfl)
        (fun j hj C cs base hz bad led => ⟨_, .name .here, .drop (.keep .nil), .nil, fun _ => ?_⟩) Put.i22 ?_
      · have hj4 : j < 4 := by simpa using hj
        rw [← four_at (es := es) (Kt r ms ms.length) ms.length hj4]
        refine Ev.call (Ev.blt Mem.i0 (z_sum G)) (.builtin _) (.cons (Ev.eq (b := .list ((((((Kt r ms ms.length).map (cardQ u es ms.length)).filter fun q => decide (q.2.1 = j)).map fun q => q.2.2.1)).map .int)) (Ev.comp2 (xs := (Kt r ms ms.length).map (cardQ u es ms.length)) (di := rdQ) (g := fun q => .int q.2.2.1) (p := fun q => decide (q.2.1 = j)) (own := ["one"]) (fr := ["j"]) (gl := []) (ns := ["one"])
          (Iter.list (Ev.eq (Ev.takeL (Ev.name At.i1) (Ev.nat (n := 4)) hrdl) (by rw [← List.map_take, ht4]))) rfl (by decide +kernel) (Ats.one At.i0) rfl rfl one_in hK5
          (fun q hq C cs base hz bad led => ⟨_, .name .here, .drop (.keep .nil), .one (Tst.cmp (EvC.eqN (Ev.itemLN (Ev.name At.i0) (Ev.nat (n := 1)) rfl (Nat.le_of_ble_eq_true rfl)) (Ev.name At.i1))), fun _ => Ev.itemLN (Ev.name At.i0) (Ev.nat (n := 2)) rfl (Nat.le_of_ble_eq_true rfl)⟩)) (by rw [List.map_map]; rfl)) .nil) Fn.sum (Nat.zero_le _)
      rw [map_true, hfour]
      have hs0 : (0 : Int) < (sizeI script : Int) := by omega
      have hth := told_home hr4 hm4 hml.2.1 hml.2.2 hs0
      have hc4l : ((fourK (Kt r ms ms.length)).map ((sizeI script : Int) * ·)).length = 4 := by rw [List.length_map, fourK_len]
      have hhome := c_home G ((fourK (Kt r ms ms.length)).map ((sizeI script : Int) * ·)) hc4l
      rw [hth] at hhome
      refine Ex.asg (d := .list ([(struckF (ms.map fun m : Nat => (m : Int)) []).reverse, (rootL r).map ((sizeI script : Int) * ·)].map intsD)) (Ev.call (Ev.glob Mem.i11 (G.g _ _ g_home)) (.fn rfl rfl) (.cons (Ev.eq (Ev.comp1 (xs := (fourK (Kt r ms ms.length)).map (u * ·)) (di := .int) (g := fun v => .int (if 0 < u then v else -v)) (p := fun _ => true) (own := ["value"]) (fr := ["unit"]) (gl := []) (ns := ["value"])
        (Iter.list (Ev.name At.i22)) rfl (by decide +kernel) (Ats.one At.i4) rfl rfl one_in (by rw [List.length_map, fourK_len, sz]; omega)
        (fun v hv C cs base hz bad led => ⟨_, .name .here, .drop (.keep .nil), .nil, fun _ => Ev.eq (Ev.iteI (c := decide (0 < u)) (Tst.cmp (EvC.gt (Ev.name At.i1) Ev.int)) (Ev.name At.i0) (Ev.neg (Ev.name At.i0))) (by by_cases q : 0 < u <;> simp [q])⟩)) (b := .list (((fourK (Kt r ms ms.length)).map ((sizeI script : Int) * ·)).map .int)) ?w1) .nil) hhome (Nat.le_of_ble_eq_true rfl)) Put.i23 ?_
      case w1 => rw [map_true, ← told_arg hs0 hus, List.map_map (f := fun v => if 0 < u then v else -v)]; rfl
      have hstl : (struckF (ms.map fun m : Nat => (m : Int)) []).length ≤ 100 := by
        have := struck_len (ms.map fun m : Nat => (m : Int)) []
        rw [List.length_map] at this
        simp at this
        omega
      refine Ex.ret (d := .bool true) (Ev.eq (Ev.cmp (EvC.eqD (a := .list ([(struckF (ms.map fun m : Nat => (m : Int)) []).reverse, (rootL r).map ((sizeI script : Int) * ·)].map intsD)) (b := .list ([(struckF (ms.map fun m : Nat => (m : Int)) []).reverse, (rootL r).map ((sizeI script : Int) * ·)].map intsD)) (Ev.name At.i23) (Ev.list (.cons (Ev.eq (Ev.rev (Ev.call (Ev.glob Mem.i12 (G.g _ _ g_struck)) (.fn rfl rfl) (.cons (Ev.eq (Ev.name At.i5) (b := .list ((ms.map fun m : Nat => (m : Int)).map .int)) (by rw [List.map_map]; rfl)) .nil) (c_struck G (ms.map fun m : Nat => (m : Int)) (by rw [List.length_map]; omega)) (Nat.le_of_ble_eq_true rfl)) (EvO.some (Ev.neg Ev.int)) ?x1) ?x2) (.cons (Ev.eq (Ev.comp1 (xs := rootL r) (di := .int) (g := fun x => .int ((sizeI script : Int) * x)) (p := fun _ => true) (own := ["x"]) (fr := ["size"]) (gl := []) (ns := ["x"])
        (Iter.list (Ev.name At.i2)) rfl (by decide +kernel) (Ats.one At.i3) rfl rfl one_in ?x3
        (fun x hx C cs base hz bad led => ⟨_, .name .here, .drop (.keep .nil), .nil, fun _ => Ev.mul (Ev.name At.i1) (Ev.name At.i0) ?x4⟩)) ?x5) .nil)) (Nat.le_of_ble_eq_true rfl)) (shaped_intss _) (shaped_intss _))) (congrArg PyData.bool (by rw [eqvII]; exact decide_eq_true rfl))) fun s v O r => O.retT r.bool_inv
      case x1 => rw [List.length_map, sz]; omega
      case x2 => rw [← List.map_reverse]; rfl
      case x3 => have := hroL; rw [List.length_map] at this; exact this
      case x4 =>
        have h1 : ∀ r, r < 4 → ∀ x ∈ rootL r, x.natAbs < 16 ^ 8 := by decide
        exact SmB.mul (a := (sizeI script : Int)) (Nat.lt_of_le_of_lt (show ((sizeI script : Int)).natAbs ≤ 16 ^ 17 by omega) (by decide)) (Nat.lt_of_lt_of_le (h1 r hr4 x hx) (by decide))
      case x5 => rw [map_true]; show PyData.list _ = .list (((rootL r).map ((sizeI script : Int) * ·)).map .int); rw [List.map_map]; rfl
    · intro n hn
      cases hn with
      | head => exact Mem.i20
      | tail _ h => cases h with
        | head => exact Mem.i21
        | tail _ h => cases h
  · intro n hn
    cases hn with
    | head => exact Mem.i9
    | tail _ h => cases h with
      | head => exact Mem.i10
      | tail _ h => cases h
end
end Mine
end
section
open PySem PySem.W PyProof.Rows
set_option Elab.async false
namespace Mine
set_option maxRecDepth 100000
set_option maxHeartbeats 8000000
noncomputable def As : List Addr := [2, 3, 6, 11, 12, 32, 34, 35, 37, 38, 42, 43, 47, 48, 49, 51, 52, 54, 55, 56, 59, 61, 62, 64, 65, 66, 68, 69, 71, 72, 73, 75, 76, 78, 79, 80, 82, 83, 85, 86, 87, 90, 91, 92, 95, 96, 97, 99, 100, 102, 103, 104, 106, 107, 109, 110, 111, 114, 115, 116, 118, 119, 121, 122, 123, 125, 126, 128, 129, 130, 132, 133, 135, 136, 137, 140, 141]
noncomputable def Hk : Hook := kmHook hd.heap_39 As (fun _ => by kernel_rfl) [138]
theorem left_false : ∀ w : World, (openEnds treeTable PySem.Challenge.rw_ta0014_01.row.prog (w.withFollow "special-get-raises" false) 4246).map (fun s => (openSeen Q Lo (importedModules PySem.Challenge.rw_ta0014_01.row.prog.main.body) (fun s => xlAt Q [] s && recOk (RowW.records (OpenRow.toRowW (OpenLaw.row PySem.Challenge.rw_ta0014_01))) s) true s, Hook.obs Hk s)) = some (openGood Q Lo, Hook.val Hk (w.withFollow "special-get-raises" false)) := fun w => by kernel_rfl
theorem left_true : ∀ w : World, (openEnds treeTable PySem.Challenge.rw_ta0014_01.row.prog (w.withFollow "special-get-raises" true) 4246).map (fun s => (openSeen Q Lo (importedModules PySem.Challenge.rw_ta0014_01.row.prog.main.body) (fun s => xlAt Q [] s && recOk (RowW.records (OpenRow.toRowW (OpenLaw.row PySem.Challenge.rw_ta0014_01))) s) true s, Hook.obs Hk s)) = some (openGood Q Lo, Hook.val Hk (w.withFollow "special-get-raises" true)) := fun w => by kernel_rfl
theorem left : LeftO PySem.Challenge.rw_ta0014_01.row.prog Q Lo (fun s => xlAt Q [] s && recOk (RowW.records (OpenRow.toRowW (OpenLaw.row PySem.Challenge.rw_ta0014_01))) s) (Hook.obs Hk) (Hook.val Hk) 4246 := left_split "special-get-raises" left_false left_true
end Mine
end
section
open PySem PySem.W PyProof.Rows PySem.Spec
set_option Elab.async false
set_option linter.all false
set_option maxRecDepth 100000
set_option maxHeartbeats 8000000
open Mine in
set_option maxRecDepth 100000 in
set_option maxHeartbeats 8000000 in
theorem PySem.Challenge.cw_ta0014_01_holds : PySem.Challenge.rw_ta0014_01.Holds := by
  refine hd ⟨left, ?_⟩
  w_strict (
  k_fill
  intro w s₀ s₁ mg mb G Y fa o pm cd doc dV kV ho hd' hcd hD hmg hg args vals as hpre hlay hrd hwl hlo
  have KX := km_in_of Y
  have hT8 := km_tabs_of Y 138 (.head _)
  refine Ground.open G ?_
  intro T B D TE TW
  have O : (WL PySem.Challenge.rw_ta0014_01.row.prog w mg mb).Ok s₁.heap := ⟨KX, T.g, T.b, T.nolimit⟩
  have GG := Wd.Glob.of O T.builtins
  have hfa := GG.g _ _ g_law
  have hfa2 : fa = 141 := by
    have e : (some (Value.ref fa) : Option Value) = some (.ref 141) := hmg.symm.trans hfa
    injection e with e; injection e
  subst hfa2
  have hbm : Bmod (WL PySem.Challenge.rw_ta0014_01.row.prog w mg mb) s₁.heap := T.bmain
  have hC : CodeHd s₁.heap 140 138 := codeHd_of_K KX (by exact rfl)
  clear hd' hcd hD hmg ho
  wrow_args hpre hlay hrd hwl hlo
  rename_i ns hs _ _ _ _ _ _ a _ _ _ _ hwell _ _ _ hc _
  exact law_endT (W := WL PySem.Challenge.rw_ta0014_01.row.prog w mg mb) rfl rfl (c_law GG ns (by omega)) ⟨rfl, by decide, by decide⟩ O hbm hT8 hC (well_list hwell) hg (by kernel_rfl))
end
