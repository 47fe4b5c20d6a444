import PyProof.Rows.All
import Wide.All
import OpenK.AllK
import Wide.FinOn
import PySem.Challenge.RW_zx0002_01
set_option Elab.async false
section
open PySem PySem.W PyProof.Rows
namespace Mine
set_option maxRecDepth 100000 in
set_option maxHeartbeats 8000000 in
open_top hd for PySem.Challenge.rw_zx0002_01
end Mine
end
section
open PySem PySem.W PyProof.Rows PySem.Calls
set_option maxRecDepth 100000
namespace Mine

inductive T where
  | int (i : Int)
  | bool (b : Bool)
  | byt (bs : List UInt8)
  | tup (xs : List T)
  | lst (xs : List T)
  | emp
  | ptr (a : Addr)
  | fn (name qual : Str) (params : Arguments) (body : List Stmt) (scope : Scope) (clos : List (Str × Addr))

noncomputable abbrev View := Addr → Option Obj
noncomputable def hid (h : Heap) (X : List Addr) : View := fun a => if a ∈ X then none else h.get? a

noncomputable abbrev tupO (vs : List Value) (n : Nat) : Obj := { cls := .type "tuple", data := .seq vs.toArray n }
noncomputable abbrev lstO (vs : List Value) (n : Nat) : Obj := { cls := .type "list", data := .seq vs.toArray n }
noncomputable abbrev empO (n : Nat) : Obj := { cls := .type "dict", data := .dict #[] n }

mutual
noncomputable def Rep (g : View) : T → Value → Prop
  | .int i, v => ∃ t, v = .int i t
  | .bool b, v => v = .bool b
  | .byt bs, v => ∃ t, v = .bytes bs.toArray t
  | .tup xs, v => ∃ a n vs, v = .ref a ∧ g a = some (tupO vs n) ∧ RepL g xs vs
  | .lst xs, v => ∃ a n vs, v = .ref a ∧ g a = some (lstO vs n) ∧ RepL g xs vs
  | .emp, v => ∃ a n, v = .ref a ∧ g a = some (empO n) ∧ (a == sysModules) = false
  | .ptr a, v => v = .ref a
  | .fn name qual params body scope clos, v => ∃ a o doc pm c ctv oc fs t, v = .ref a ∧ g a = some o ∧ o.data = .func (fnX name qual params body scope clos .none .none doc pm none (.ref c) ctv) ∧ g c = some oc ∧ oc.data = .fields fs ∧ fs[1]? = some (.str qual t)
noncomputable def RepL (g : View) : List T → List Value → Prop
  | [], vs => vs = []
  | x :: xs, vs => ∃ v r, vs = v :: r ∧ Rep g x v ∧ RepL g xs r
end

noncomputable def Sub (g g' : View) : Prop := ∀ a o, g a = some o → g' a = some o
theorem Sub.refl (g : View) : Sub g g := fun _ _ e => e
theorem Sub.trans {g g' g'' : View} (a : Sub g g') (b : Sub g' g'') : Sub g g'' := fun x o e => b x o (a x o e)

mutual
theorem Rep.mono {g g' : View} (k : Sub g g') : ∀ {x : T} {v : Value}, Rep g x v → Rep g' x v
  | .int _, _, h => by unfold Rep at h ⊢; exact h
  | .bool _, _, h => by unfold Rep at h ⊢; exact h
  | .byt _, _, h => by unfold Rep at h ⊢; exact h
  | .tup xs, v, h => by
    unfold Rep at h ⊢
    obtain ⟨a, n, vs, e, ho, hl⟩ := h
    exact ⟨a, n, vs, e, k _ _ ho, RepL.mono k hl⟩
  | .lst xs, v, h => by
    unfold Rep at h ⊢
    obtain ⟨a, n, vs, e, ho, hl⟩ := h
    exact ⟨a, n, vs, e, k _ _ ho, RepL.mono k hl⟩
  | .emp, v, h => by
    unfold Rep at h ⊢
    obtain ⟨a, n, e, ho, hs⟩ := h
    exact ⟨a, n, e, k _ _ ho, hs⟩
  | .ptr _, _, h => by unfold Rep at h ⊢; exact h
  | .fn .., v, h => by
    unfold Rep at h ⊢
    obtain ⟨a, o, doc, pm, c, ctv, oc, fs, t, e, ho, hd, hc, r⟩ := h
    exact ⟨a, o, doc, pm, c, ctv, oc, fs, t, e, k _ _ ho, hd, k _ _ hc, r⟩
theorem RepL.mono {g g' : View} (k : Sub g g') : ∀ {xs : List T} {vs : List Value}, RepL g xs vs → RepL g' xs vs
  | [], _, h => by unfold RepL at h ⊢; exact h
  | x :: xs, _, h => by
    unfold RepL at h ⊢
    obtain ⟨v, r, e, h1, h2⟩ := h
    exact ⟨v, r, e, Rep.mono k h1, RepL.mono k h2⟩
end

theorem rep_int {g : View} {i : Int} {v : Value} : Rep g (.int i) v ↔ ∃ t, v = .int i t := by unfold Rep; exact Iff.rfl
theorem rep_bool {g : View} {b : Bool} {v : Value} : Rep g (.bool b) v ↔ v = .bool b := by unfold Rep; exact Iff.rfl
theorem rep_byt {g : View} {b : List UInt8} {v : Value} : Rep g (.byt b) v ↔ ∃ t, v = .bytes b.toArray t := by unfold Rep; exact Iff.rfl
theorem rep_tup {g : View} {xs : List T} {v : Value} : Rep g (.tup xs) v ↔ ∃ a n vs, v = .ref a ∧ g a = some (tupO vs n) ∧ RepL g xs vs := by
  show Rep g (.tup xs) v ↔ _
  unfold Rep; exact Iff.rfl
theorem rep_lst {g : View} {xs : List T} {v : Value} : Rep g (.lst xs) v ↔ ∃ a n vs, v = .ref a ∧ g a = some (lstO vs n) ∧ RepL g xs vs := by
  show Rep g (.lst xs) v ↔ _
  unfold Rep; exact Iff.rfl
theorem rep_emp {g : View} {v : Value} : Rep g .emp v ↔ ∃ a n, v = .ref a ∧ g a = some (empO n) ∧ (a == sysModules) = false := by unfold Rep; exact Iff.rfl
theorem rep_ptr {g : View} {a : Addr} {v : Value} : Rep g (.ptr a) v ↔ v = .ref a := by unfold Rep; exact Iff.rfl
theorem rep_fn {g : View} {name qual : Str} {params : Arguments} {body : List Stmt} {scope : Scope} {clos : List (Str × Addr)} {v : Value} : Rep g (.fn name qual params body scope clos) v ↔
    ∃ a o doc pm c ctv oc fs t, v = .ref a ∧ g a = some o ∧ o.data = .func (fnX name qual params body scope clos .none .none doc pm none (.ref c) ctv) ∧ g c = some oc ∧ oc.data = .fields fs ∧ fs[1]? = some (.str qual t) := by unfold Rep; exact Iff.rfl
theorem repL_nil {g : View} {vs : List Value} : RepL g [] vs ↔ vs = [] := by unfold RepL; exact Iff.rfl
theorem repL_cons {g : View} {x : T} {xs : List T} {vs : List Value} : RepL g (x :: xs) vs ↔ ∃ v r, vs = v :: r ∧ Rep g x v ∧ RepL g xs r := by
  show RepL g (x :: xs) vs ↔ _
  conv => lhs; unfold RepL
theorem RepL.length {g : View} : ∀ {xs : List T} {vs : List Value}, RepL g xs vs → vs.length = xs.length
  | [], _, h => by rw [repL_nil.mp h]; rfl
  | x :: xs, _, h => by
    obtain ⟨v, r, rfl, _, h2⟩ := repL_cons.mp h
    rw [List.length_cons, List.length_cons, RepL.length h2]
theorem RepL.get {g : View} : ∀ {xs : List T} {vs : List Value}, RepL g xs vs → ∀ (i : Nat) (v : Value), vs[i]? = some v → ∃ x, xs[i]? = some x ∧ Rep g x v
  | [], _, h, i, v, e => by rw [repL_nil.mp h] at e; simp at e
  | x :: xs, _, h, i, v, e => by
    obtain ⟨v', r, rfl, h1, h2⟩ := repL_cons.mp h
    cases i with
    | zero => simp at e; subst e; exact ⟨x, by simp, h1⟩
    | succ i => simp at e; simpa using RepL.get h2 i v e
theorem RepL.get' {g : View} {xs : List T} {vs : List Value} (h : RepL g xs vs) {i : Nat} {x : T} (e : xs[i]? = some x) : ∃ v, vs[i]? = some v ∧ Rep g x v := by
  have hl := h.length
  have hi : i < xs.length := (List.getElem?_eq_some_iff.mp e).1
  have hv : vs[i]? = some (vs[i]'(by omega)) := by simp [hl, hi]
  obtain ⟨x', e', r⟩ := h.get i _ hv
  rw [e] at e'; cases e'
  exact ⟨_, hv, r⟩
theorem RepL.append {g : View} : ∀ {xs ys : List T} {vs ws : List Value}, RepL g xs vs → RepL g ys ws → RepL g (xs ++ ys) (vs ++ ws)
  | [], _, _, _, h, k => by rw [repL_nil.mp h]; exact k
  | x :: xs, ys, _, _, h, k => by
    obtain ⟨v, r, rfl, h1, h2⟩ := repL_cons.mp h
    exact repL_cons.mpr ⟨v, _, rfl, h1, RepL.append h2 k⟩
theorem RepL.one {g : View} {x : T} {v : Value} (h : Rep g x v) : RepL g [x] [v] := repL_cons.mpr ⟨v, [], rfl, h, repL_nil.mpr rfl⟩
theorem RepL.reverse {g : View} : ∀ {xs : List T} {vs : List Value}, RepL g xs vs → RepL g xs.reverse vs.reverse
  | [], _, h => by rw [repL_nil.mp h]; exact repL_nil.mpr rfl
  | x :: xs, _, h => by
    obtain ⟨v, r, rfl, h1, h2⟩ := repL_cons.mp h
    rw [List.reverse_cons, List.reverse_cons]
    exact (RepL.reverse h2).append (.one h1)
theorem RepL.of_get {g : View} : ∀ {xs : List T} {vs : List Value}, vs.length = xs.length → (∀ (i : Nat) (x : T) (v : Value), xs[i]? = some x → vs[i]? = some v → Rep g x v) → RepL g xs vs
  | [], vs, hl, _ => by
    cases vs with
    | nil => exact repL_nil.mpr rfl
    | cons => simp at hl
  | x :: xs, vs, hl, h => by
    cases vs with
    | nil => simp at hl
    | cons v vs =>
      refine repL_cons.mpr ⟨v, vs, rfl, h 0 x v (by simp) (by simp), RepL.of_get (by simpa using hl) fun i x' v' e1 e2 => ?_⟩
      exact h (i + 1) x' v' (by simpa using e1) (by simpa using e2)

theorem hid_some {h : Heap} {X : List Addr} {a : Addr} {o : Obj} (e : hid h X a = some o) : a ∉ X ∧ h.get? a = some o := by
  unfold hid at e
  by_cases hx : a ∈ X
  · rw [if_pos hx] at e; cases e
  · rw [if_neg hx] at e; exact ⟨hx, e⟩
theorem hid_of {h : Heap} {X : List Addr} {a : Addr} {o : Obj} (hx : a ∉ X) (e : h.get? a = some o) : hid h X a = some o := by
  unfold hid; rw [if_neg hx]; exact e
theorem hid_keeps {h h' : Heap} {X : List Addr} (k : ∀ b o, h.get? b = some o → h'.get? b = some o) : Sub (hid h X) (hid h' X) := fun a o e =>
  let ⟨hx, ho⟩ := hid_some e; hid_of hx (k a o ho)
/-- more hidden addresses, all of them new -/
theorem hid_more {h h' : Heap} {X Y : List Addr} (k : ∀ b o, b ∉ Y → h.get? b = some o → h'.get? b = some o) (hy : ∀ y ∈ Y, y ∈ X ∨ h.get? y = none) : Sub (hid h X) (hid h' (Y ++ X)) := fun a o e => by
  obtain ⟨hx, ho⟩ := hid_some e
  have hn : a ∉ Y := fun hm => (hy a hm).elim hx fun q => by rw [q] at ho; cases ho
  exact hid_of (fun hm => (List.mem_append.mp hm).elim hn hx) (k a o hn ho)
theorem hid_less {h : Heap} {X Y : List Addr} (hs : ∀ a ∈ Y, a ∈ X) : Sub (hid h X) (hid h Y) := fun a o e => by
  obtain ⟨hx, ho⟩ := hid_some e
  exact hid_of (fun hm => hx (hs a hm)) ho
/-- a change within the hidden ones -/
theorem hid_in {h h' : Heap} {X : List Addr} (k : ∀ b o, b ∉ X → h.get? b = some o → h'.get? b = some o) : Sub (hid h X) (hid h' X) := fun a o e => by
  obtain ⟨hx, ho⟩ := hid_some e
  exact hid_of hx (k a o hx ho)

noncomputable def Bd (X : List Addr) (h : Heap) : Prop := ∀ a ∈ X, ∃ o, h.get? a = some o
theorem Bd.keeps {h h' : Heap} {X : List Addr} (b : Bd X h) (k : ∀ b o, h.get? b = some o → h'.get? b = some o) : Bd X h' := fun a ha => let ⟨o, e⟩ := b a ha; ⟨o, k a o e⟩
theorem Bd.lt {h : Heap} {X : List Addr} (b : Bd X h) {a : Addr} (ha : a ∈ X) : a < h.objs.size := let ⟨_, e⟩ := b a ha; Heap.lt_size e
theorem Bd.new {h : Heap} {X : List Addr} (b : Bd X h) : h.objs.size ∉ X := fun ha => Nat.lt_irrefl _ (b.lt ha)

structure Glb where
  mg : Str → Option Value
  mb : Str → Option Value
  K : Frag
structure TopOK (G : Glb) (h : Heap) : Prop where
  k : G.K.In h
  nolim : h.NoLimit
  g : h.Ns mainGlobals G.mg
  b : h.Ns builtinsNs G.mb
  bm : ∃ bm ob, G.mg "__builtins__" = some (.ref bm) ∧ bm ≠ builtinsNs ∧ bm ≠ mainGlobals ∧ h.get? bm = some ob ∧ ob.cls = .type "module" ∧ ob.dict = some builtinsNs ∧ ob.data = .plain
theorem TopOK.keeps {G : Glb} {h h' : Heap} (x : TopOK G h) (k : ∀ b o, h.get? b = some o → h'.get? b = some o) : TopOK G h' :=
  ⟨fun a o e => k a o (x.k a o e), x.nolim.keeps k, x.g.keeps k, x.b.keeps k, let ⟨bm, ob, a, b, c, e, r⟩ := x.bm; ⟨bm, ob, a, b, c, k _ _ e, r⟩⟩

/-- the top's facts, at none of the hidden addresses -/
noncomputable def TopX (G : Glb) (X : List Addr) (h : Heap) : Prop := ∃ h₀, TopOK G h₀ ∧ (∀ b o, h₀.get? b = some o → h.get? b = some o) ∧ ∀ a ∈ X, h₀.get? a = none
theorem TopX.ok {G : Glb} {X : List Addr} {h : Heap} (t : TopX G X h) : TopOK G h := let ⟨_, a, b, _⟩ := t; a.keeps b
theorem TopX.in {G : Glb} {X : List Addr} {h h' : Heap} (t : TopX G X h) (k : ∀ b o, b ∉ X → h.get? b = some o → h'.get? b = some o) : TopX G X h' :=
  let ⟨h₀, a, b, c⟩ := t; ⟨h₀, a, fun x o e => k x o (fun hx => by rw [c x hx] at e; cases e) (b x o e), c⟩
theorem TopX.keeps {G : Glb} {X : List Addr} {h h' : Heap} (t : TopX G X h) (k : ∀ b o, h.get? b = some o → h'.get? b = some o) : TopX G X h' := t.in fun b o _ e => k b o e
theorem TopX.less {G : Glb} {X Y : List Addr} {h : Heap} (t : TopX G X h) (hs : ∀ a ∈ Y, a ∈ X) : TopX G Y h := let ⟨h₀, a, b, c⟩ := t; ⟨h₀, a, b, fun x hx => c x (hs x hx)⟩
theorem TopX.more {G : Glb} {X Y : List Addr} {h : Heap} (t : TopX G X h) (hy : ∀ y ∈ Y, y ∈ X ∨ h.get? y = none) : TopX G (Y ++ X) h := by
  obtain ⟨h₀, a, b, c⟩ := t
  refine ⟨h₀, a, b, fun x hx => ?_⟩
  rcases List.mem_append.mp hx with hx | hx
  · rcases hy x hx with hx | hx
    · exact c x hx
    · cases q : h₀.get? x with
      | none => rfl
      | some o => rw [b x o q] at hx; cases hx
  · exact c x hx

noncomputable abbrev Bnd := Str → Option T

structure EnvR (G : Glb) (env : Env) (ρ : Bnd) (X : List Addr) (h : Heap) : Prop where
  kind : env.scope.kind = .function
  glob : env.globals = mainGlobals
  bins : env.builtins = builtinsNs
  dec : ∀ x t, ρ x = some t → env.kindOf x = some .local ∨ env.kindOf x = some .cell ∨ env.kindOf x = some .free
  loc : ∃ m, h.Ns env.locals m ∧ ∀ x t, ρ x = some t → env.kindOf x = some .local → ∃ v, m x = some v ∧ Rep (hid h X) t v
  cel : ∀ x t, ρ x = some t → env.kindOf x = some .cell ∨ env.kindOf x = some .free → ∃ c v, env.cells.lookup x = some c ∧ h.IsCell c (some v) ∧ Rep (hid h X) t v
  top : TopX G X h
  cells : ∀ n c, env.cells.lookup n = some c → ∃ v, h.IsCell c v
  apart : ∀ n n' c, env.cells.lookup n = some c → env.cells.lookup n' = some c → n = n'
/-- an address that the frame has not in it -/
structure Off (env : Env) (I : Addr) : Prop where
  loc : env.locals ≠ I
  cel : ∀ n c, env.cells.lookup n = some c → c ≠ I
theorem EnvR.fresh {G : Glb} {env : Env} {ρ : Bnd} {X : List Addr} {h : Heap} {I : Addr} (x : EnvR G env ρ X h) (e : h.get? I = none) : Off env I where
  loc := by rintro rfl; obtain ⟨m, ⟨o, _, _, ho, _⟩, _⟩ := x.loc; rw [e] at ho; cases ho
  cel := by rintro n c hc rfl; obtain ⟨v, o, ho, _⟩ := x.cells n c hc; rw [e] at ho; cases ho
theorem EnvR.off {G : Glb} {env : Env} {ρ : Bnd} {X : List Addr} {h : Heap} {n : Str} {c : Addr} (x : EnvR G env ρ X h) (e : env.cells.lookup n = some c) : env.locals ≠ c := by
  rintro rfl
  obtain ⟨m, ⟨o, _, _, ho, hd, _⟩, _⟩ := x.loc
  obtain ⟨v, o', ho', hd'⟩ := x.cells n _ e
  rw [ho] at ho'; cases ho'; rw [hd] at hd'; cases hd'
theorem EnvR.keeps {G : Glb} {env : Env} {ρ : Bnd} {X : List Addr} {h h' : Heap} (x : EnvR G env ρ X h) (k : ∀ b o, h.get? b = some o → h'.get? b = some o) : EnvR G env ρ X h' where
  kind := x.kind
  glob := x.glob
  bins := x.bins
  dec := x.dec
  loc := let ⟨m, a, b⟩ := x.loc; ⟨m, a.keeps k, fun y t e q => let ⟨v, c, d⟩ := b y t e q; ⟨v, c, d.mono (hid_keeps k)⟩⟩
  cel := fun y t e q => let ⟨c, v, a, b, d⟩ := x.cel y t e q; ⟨c, v, a, b.keeps k, d.mono (hid_keeps k)⟩
  top := x.top.keeps k
  cells := fun n c e => let ⟨v, h⟩ := x.cells n c e; ⟨v, h.keeps k⟩
  apart := x.apart
theorem EnvR.more {G : Glb} {env : Env} {ρ : Bnd} {X Y : List Addr} {h : Heap} (x : EnvR G env ρ X h) (hy : ∀ y ∈ Y, y ∈ X ∨ h.get? y = none) : EnvR G env ρ (Y ++ X) h where
  kind := x.kind
  glob := x.glob
  bins := x.bins
  dec := x.dec
  loc := let ⟨m, a, b⟩ := x.loc; ⟨m, a, fun y t e q => let ⟨v, c, d⟩ := b y t e q; ⟨v, c, d.mono (hid_more (fun _ _ _ e => e) hy)⟩⟩
  cel := fun y t e q => let ⟨c, v, a, b, d⟩ := x.cel y t e q; ⟨c, v, a, b, d.mono (hid_more (fun _ _ _ e => e) hy)⟩
  top := x.top.more hy
  cells := x.cells
  apart := x.apart
theorem EnvR.less {G : Glb} {env : Env} {ρ : Bnd} {X Y : List Addr} {h : Heap} (x : EnvR G env ρ X h) (hs : ∀ a ∈ Y, a ∈ X) : EnvR G env ρ Y h where
  kind := x.kind
  glob := x.glob
  bins := x.bins
  dec := x.dec
  loc := let ⟨m, a, b⟩ := x.loc; ⟨m, a, fun y t e q => let ⟨v, c, d⟩ := b y t e q; ⟨v, c, d.mono (hid_less hs)⟩⟩
  cel := fun y t e q => let ⟨c, v, a, b, d⟩ := x.cel y t e q; ⟨c, v, a, b, d.mono (hid_less hs)⟩
  top := x.top.less hs
  cells := x.cells
  apart := x.apart
/-- a change at hidden addresses that the frame does not own -/
theorem EnvR.in {G : Glb} {env : Env} {ρ : Bnd} {X Y : List Addr} {h h' : Heap} (x : EnvR G env ρ X h) (k : ∀ b o, b ∉ Y → h.get? b = some o → h'.get? b = some o) (hY : ∀ y ∈ Y, y ∈ X) (hl : env.locals ∉ Y) (hc : ∀ n c, env.cells.lookup n = some c → c ∉ Y) : EnvR G env ρ X h' where
  kind := x.kind
  glob := x.glob
  bins := x.bins
  dec := x.dec
  loc := let ⟨m, ⟨o, es, ep, e, r⟩, b⟩ := x.loc; ⟨m, ⟨o, es, ep, k _ _ hl e, r⟩, fun y t e q => let ⟨v, c, d⟩ := b y t e q; ⟨v, c, d.mono (hid_in fun b o n e => k b o (fun q => n (hY b q)) e)⟩⟩
  cel := fun y t e q => let ⟨c, v, a, ⟨o, b, b'⟩, d⟩ := x.cel y t e q; ⟨c, v, a, ⟨o, k _ _ (hc y c a) b, b'⟩, d.mono (hid_in fun b o n e => k b o (fun q => n (hY b q)) e)⟩
  top := x.top.in fun b o n e => k b o (fun q => n (hY b q)) e
  cells := fun n c e => let ⟨v, o, h, hd⟩ := x.cells n c e; ⟨v, o, k c o (hc n c e) h, hd⟩
  apart := x.apart

structure Rm (k : Nat) (A : Around) : Prop where
  hh : A.handled = none
  gd : A.guards = some []
  dp : A.depth + k < recursionLimit
  un : A.units + 8 * k + 100 < cLine
theorem Rm.deeper {k : Nat} {A : Around} {env : Env} (r : Rm (k + 1) A) : Rm k (A.deeper env) :=
  ⟨r.hh, r.gd, by have := r.dp; show A.depth + 1 + k < _; omega, by have := r.un; show A.units + 3 + 8 * k + 100 < _; omega⟩
theorem Rm.less {k j : Nat} {A : Around} (r : Rm k A) (h : j ≤ k) : Rm j A := ⟨r.hh, r.gd, by have := r.dp; omega, by have := r.un; omega⟩

structure Kp (s s' : Shared) : Prop where
  same : ∃ h tk, s' = { s with heap := h, toks := tk }
  keep : ∀ b o, s.heap.get? b = some o → s'.heap.get? b = some o
noncomputable abbrev NoE : Value → Shared → Prop := fun _ _ => False

section
variable (prog : Program) (w : World) (G : Glb) (A : Around) (env : Env) (ρ : Bnd)

/-- the expression gives the tree x, and changes nothing that stood -/
noncomputable def Ev (e : PySem.Expr) (x : T) : Prop :=
  ∀ X s, Bd X s.heap → EnvR G env ρ X s.heap → wpAny (model prog w) A (eval e env) (fun v s' => Rep (hid s'.heap X) x v ∧ Kp s s') NoE s
/-- the expression gives this very value (a function, a built-in) -/
noncomputable def EvV (e : PySem.Expr) (v : Value) : Prop :=
  ∀ X s, Bd X s.heap → EnvR G env ρ X s.heap → wpAny (model prog w) A (eval e env) (fun v' s' => v' = v ∧ Kp s s') NoE s
noncomputable def EvL (es : List PySem.Expr) (xs : List T) : Prop :=
  ∀ pos X s, Bd X s.heap → EnvR G env ρ X s.heap → wpAny (model prog w) A (spliced (backTo pos (starEach es env))) (fun vs s' => RepL (hid s'.heap X) xs vs ∧ Kp s s') NoE s
/-- the test comes out so -/
noncomputable def Tst (e : PySem.Expr) (b : Bool) : Prop :=
  ∀ X s, Bd X s.heap → EnvR G env ρ X s.heap → wpAny (model prog w) A (isTrue e env (eval e env)) (fun c s' => c = b ∧ Kp s s') NoE s
/-- a function called upon trees -/
noncomputable def CallT (f : Value) (xs : List T) (y : T) : Prop :=
  ∀ X s vs, Bd X s.heap → TopX G X s.heap → RepL (hid s.heap X) xs vs → wpAny (model prog w) A (call f vs) (fun v s' => Rep (hid s'.heap X) y v ∧ Kp s s') NoE s
end

theorem Kp.refl (s : Shared) : Kp s s := ⟨⟨s.heap, s.toks, rfl⟩, fun _ _ e => e⟩
theorem Kp.trans {s s₁ s₂ : Shared} (a : Kp s s₁) (b : Kp s₁ s₂) : Kp s s₂ := by
  obtain ⟨⟨h1, t1, rfl⟩, k1⟩ := a
  obtain ⟨⟨h2, t2, rfl⟩, k2⟩ := b
  exact ⟨⟨h2, t2, rfl⟩, fun x o e => k2 x o (k1 x o e)⟩
theorem Kp.of {s s' : Shared} (a : Keeps s s') : Kp s s' := let ⟨h, t, e, k⟩ := a; ⟨⟨h, t, e⟩, by rw [e]; exact k⟩
theorem Kp.to {s s' : Shared} (a : Kp s s') : Keeps s s' := by
  obtain ⟨⟨h1, t1, rfl⟩, k1⟩ := a; exact ⟨h1, t1, rfl, k1⟩
end Mine
end
section
open PySem PySem.W PyProof.Rows PySem.Calls
set_option maxRecDepth 100000
namespace Mine
section
variable {prog : Program} {w : World} {G : Glb} {A : Around} {env : Env} {ρ : Bnd}

theorem Ev.use {e : PySem.Expr} {x : T} (h : Ev prog w G A env ρ e x) {X : List Addr} {s : Shared} {Q : Value → Shared → Prop} {E : Value → Shared → Prop} (b : Bd X s.heap) (r : EnvR G env ρ X s.heap)
    (k : ∀ v s', Rep (hid s'.heap X) x v → Kp s s' → Bd X s'.heap → EnvR G env ρ X s'.heap → Q v s') : wpAny (model prog w) A (eval e env) Q E s :=
  wpAny_mono (h X s b r) (fun v s' ⟨h1, h2⟩ => k v s' h1 h2 (b.keeps h2.keep) (r.keeps h2.keep)) fun _ _ q => q.elim
theorem EvV.use {e : PySem.Expr} {x : Value} (h : EvV prog w G A env ρ e x) {X : List Addr} {s : Shared} {Q : Value → Shared → Prop} {E : Value → Shared → Prop} (b : Bd X s.heap) (r : EnvR G env ρ X s.heap)
    (k : ∀ s', Kp s s' → Bd X s'.heap → EnvR G env ρ X s'.heap → Q x s') : wpAny (model prog w) A (eval e env) Q E s :=
  wpAny_mono (h X s b r) (fun v s' ⟨h1, h2⟩ => h1 ▸ k s' h2 (b.keeps h2.keep) (r.keeps h2.keep)) fun _ _ q => q.elim
theorem Tst.use {e : PySem.Expr} {c : Bool} (h : Tst prog w G A env ρ e c) {X : List Addr} {s : Shared} {Q : Bool → Shared → Prop} {E : Value → Shared → Prop} (b : Bd X s.heap) (r : EnvR G env ρ X s.heap)
    (k : ∀ s', Kp s s' → Bd X s'.heap → EnvR G env ρ X s'.heap → Q c s') : wpAny (model prog w) A (isTrue e env (eval e env)) Q E s :=
  wpAny_mono (h X s b r) (fun v s' ⟨h1, h2⟩ => h1 ▸ k s' h2 (b.keeps h2.keep) (r.keeps h2.keep)) fun _ _ q => q.elim
theorem EvL.use {es : List PySem.Expr} {xs : List T} (h : EvL prog w G A env ρ es xs) {pos : Pos} {X : List Addr} {s : Shared} {Q : List Value → Shared → Prop} {E : Value → Shared → Prop} (b : Bd X s.heap) (r : EnvR G env ρ X s.heap)
    (k : ∀ vs s', RepL (hid s'.heap X) xs vs → Kp s s' → Bd X s'.heap → EnvR G env ρ X s'.heap → Q vs s') : wpAny (model prog w) A (spliced (backTo pos (starEach es env))) Q E s :=
  wpAny_mono (h pos X s b r) (fun v s' ⟨h1, h2⟩ => k v s' h1 h2 (b.keeps h2.keep) (r.keeps h2.keep)) fun _ _ q => q.elim
theorem keeps_tok (s : Shared) (t : Nat) : Kp s { s with toks := t } := ⟨⟨s.heap, t, rfl⟩, fun _ _ e => e⟩
theorem keeps_push (s : Shared) (o : Obj) (t : Nat) : Kp s { s with heap := s.heap.push o, toks := t } := ⟨⟨_, t, rfl⟩, fun _ _ e => Heap.get?_push_of_some _ e⟩

theorem Ev.name {x : Str} {pos : Pos} {t : T} (e : ρ x = some t) (hd : (x == ("__debug__" : Str)) = false := by decide) (hc : (x == ("__classdict__" : Str)) = false := by decide) : Ev prog w G A env ρ (.Name x pos) t := by
  intro X s b r
  refine wpAny_Name ?_ hd
  rcases r.dec x t e with k | k | k
  · obtain ⟨m, hn, h⟩ := r.loc
    obtain ⟨v, hv, hr⟩ := h x t e k
    exact wpAny_loadName_local r.kind k hn hv ⟨hr, .refl s⟩
  · obtain ⟨c, v, h1, h2, h3⟩ := r.cel x t e (.inl k)
    exact wpAny_loadName_cell r.kind k h1 h2 ⟨h3, .refl s⟩
  · obtain ⟨c, v, h1, h2, h3⟩ := r.cel x t e (.inr k)
    exact wpAny_loadName_free r.kind k h1 h2 ⟨h3, .refl s⟩ hc
theorem EvV.glob {x : Str} {pos : Pos} {v : Value} (e : G.mg x = some v) (hk : env.kindOf x = some .globalImplicit) (hd : (x == ("__debug__" : Str)) = false := by decide) : EvV prog w G A env ρ (.Name x pos) v := by
  intro X s b r
  exact Name_function_global r.kind hk (loadGlobal_global (by rw [r.glob]; exact r.top.ok.g) e ⟨rfl, .refl s⟩) hd
theorem EvV.built {x : Str} {pos : Pos} {v : Value} (e : G.mg x = none) (eb : G.mb x = some v) (hk : env.kindOf x = some .globalImplicit) (hd : (x == ("__debug__" : Str)) = false := by decide) : EvV prog w G A env ρ (.Name x pos) v := by
  intro X s b r
  exact Name_function_global r.kind hk (loadGlobal_builtin (by rw [r.glob]; exact r.top.ok.g) e (by rw [r.bins]; exact r.top.ok.b) eb ⟨rfl, .refl s⟩) hd
theorem Ev.int {i : Int} {k : Nat} {pos : Pos} : Ev prog w G A env ρ (.Constant (.int i) k pos) (.int i) := by
  intro X s b r
  exact wpAny_Constant_int ⟨rep_int.mpr ⟨_, rfl⟩, keeps_tok s _⟩
theorem Ev.bool {c : Bool} {k : Nat} {pos : Pos} : Ev prog w G A env ρ (.Constant (.bool c) k pos) (.bool c) := by
  intro X s b r
  exact Constant_bool ⟨rep_bool.mpr rfl, .refl s⟩

theorem EvL.nil : EvL prog w G A env ρ [] [] := fun _ _ s _ _ => spliced_none ⟨repL_nil.mpr rfl, .refl s⟩
theorem EvL.cons {e : PySem.Expr} {es : List PySem.Expr} {x : T} {xs : List T} (h : Ev prog w G A env ρ e x) (hs : EvL prog w G A env ρ es xs) (he : starEach (e :: es) env = (false, eval e env) :: starEach es env := by rfl) :
    EvL prog w G A env ρ (e :: es) (x :: xs) := fun pos X s b r =>
  spliced_more (h.use b r fun v s₁ h1 k1 b1 r1 => hs.use b1 r1 fun vs s₂ h2 k2 _ _ => ⟨repL_cons.mpr ⟨v, vs, rfl, h1.mono (hid_keeps k2.keep), h2⟩, k1.trans k2⟩) he

theorem rep_new {s : Shared} {X : List Addr} (b : Bd X s.heap) (o : Obj) (hf : o.isFreed = false) : hid (s.heap.push o) X s.heap.objs.size = some o := hid_of b.new (Heap.get?_push_size _ hf)

theorem Ev.tup {es : List PySem.Expr} {xs : List T} {k : Nat} {pos : Pos} (h : EvL prog w G A env ρ es xs) (hz : xs.length ≤ 1000) : Ev prog w G A env ρ (.Tuple es k pos) (.tup xs) := fun X s b r =>
  Tuple_ (h.use b r fun vs s₁ h1 k1 b1 _ => wpAny_newObj_type ⟨rep_tup.mpr ⟨_, 0, vs, rfl, rep_new b1 _ rfl, h1.mono (hid_keeps fun _ _ e => Heap.get?_push_of_some _ e)⟩, k1.trans (keeps_push s₁ _ _)⟩
    (by show vs.toArray.size ≤ sizeLine; rw [List.size_toArray, h1.length, sizeLine_eq]; omega))
theorem Ev.lst {es : List PySem.Expr} {xs : List T} {pos : Pos} (h : EvL prog w G A env ρ es xs) (hz : xs.length ≤ 1000) : Ev prog w G A env ρ (.List es pos) (.lst xs) := fun X s b r =>
  List_ (h.use b r fun vs s₁ h1 k1 b1 _ => wpAny_newObj_type ⟨rep_lst.mpr ⟨_, 0, vs, rfl, rep_new b1 _ rfl, h1.mono (hid_keeps fun _ _ e => Heap.get?_push_of_some _ e)⟩, k1.trans (keeps_push s₁ _ _)⟩
    (by show vs.toArray.size ≤ sizeLine; rw [List.size_toArray, h1.length, sizeLine_eq]; omega))

/-- a binary operator upon two trees -/
noncomputable def OpT (prog : Program) (w : World) (A : Around) (op : Operator) (x y z : T) : Prop :=
  ∀ X s v u, Bd X s.heap → Rep (hid s.heap X) x v → Rep (hid s.heap X) y u → wpAny (model prog w) A (binaryOp op v u) (fun r s' => Rep (hid s'.heap X) z r ∧ Kp s s') NoE s
theorem Ev.bin {op : Operator} {l r : PySem.Expr} {x y z : T} {pos : Pos} (hl : Ev prog w G A env ρ l x) (hr : Ev prog w G A env ρ r y) (ho : OpT prog w A op x y z) : Ev prog w G A env ρ (.BinOp l op r pos) z := fun X s b e =>
  wpAny_BinOp (hl.use b e fun v s₁ h1 k1 b1 e1 => hr.use b1 e1 fun u s₂ h2 k2 b2 _ => wpAny_mono (ho X s₂ v u b2 (h1.mono (hid_keeps k2.keep)) h2) (fun _ _ q => ⟨q.1, (k1.trans k2).trans q.2⟩) fun _ _ q => q)
theorem OpT.ints {op : Operator} {a b c : Int} (h : ∀ (s : Shared) t u (Q : Value → Shared → Prop), (∀ t', Q (.int c t') { s with toks := s.toks + 1 }) → wpAny (model prog w) A (binaryOp op (.int a t) (.int b u)) Q NoE s) : OpT prog w A op (.int a) (.int b) (.int c) := by
  intro X s v u _ h1 h2
  obtain ⟨t, rfl⟩ := rep_int.mp h1
  obtain ⟨t', rfl⟩ := rep_int.mp h2
  exact h s t t' _ fun t'' => ⟨rep_int.mpr ⟨t'', rfl⟩, keeps_tok s _⟩
theorem Ev.add {l r : PySem.Expr} {a b : Int} {pos : Pos} (hl : Ev prog w G A env ρ l (.int a)) (hr : Ev prog w G A env ρ r (.int b)) : Ev prog w G A env ρ (.BinOp l .Add r pos) (.int (a + b)) :=
  hl.bin hr (.ints fun _ _ _ _ h => add_int (h _))
theorem Ev.sub {l r : PySem.Expr} {a b : Int} {pos : Pos} (hl : Ev prog w G A env ρ l (.int a)) (hr : Ev prog w G A env ρ r (.int b)) : Ev prog w G A env ρ (.BinOp l .Sub r pos) (.int (a - b)) :=
  hl.bin hr (.ints fun _ _ _ _ h => sub_int (h _))
theorem Ev.mul {l r : PySem.Expr} {a b : Int} {pos : Pos} (hl : Ev prog w G A env ρ l (.int a)) (hr : Ev prog w G A env ρ r (.int b)) (h1 : -(2 ^ 64) < a) (h2 : a < 2 ^ 64) : Ev prog w G A env ρ (.BinOp l .Mult r pos) (.int (a * b)) :=
  hl.bin hr (.ints fun _ _ _ _ h => mul_int (h _) (.of_left (intBits_le_64 h1 h2)))
theorem Ev.mod {l r : PySem.Expr} {a b : Int} {pos : Pos} (hl : Ev prog w G A env ρ l (.int a)) (hr : Ev prog w G A env ρ r (.int b)) (h0 : 0 < b) : Ev prog w G A env ρ (.BinOp l .Mod r pos) (.int (a % b)) :=
  hl.bin hr (.ints fun _ _ _ _ h => mod_int' (by omega) (by rw [Int.fmod_eq_emod_of_nonneg a (by omega)]; exact h _))
theorem Ev.fdiv {l r : PySem.Expr} {a b : Int} {pos : Pos} (hl : Ev prog w G A env ρ l (.int a)) (hr : Ev prog w G A env ρ r (.int b)) (h0 : 0 < b) (hp : Builtin.divisionGoesByPylong a b = false) : Ev prog w G A env ρ (.BinOp l .FloorDiv r pos) (.int (a / b)) :=
  hl.bin hr (.ints fun _ _ _ _ h => floordiv_int (by omega) (by rw [Int.fdiv_eq_ediv_of_nonneg a (by omega)]; exact h _) (.inl hp))
theorem Ev.cat {l r : PySem.Expr} {xs ys : List T} {pos : Pos} (hl : Ev prog w G A env ρ l (.lst xs)) (hr : Ev prog w G A env ρ r (.lst ys)) (hz : xs.length + ys.length ≤ 1000) : Ev prog w G A env ρ (.BinOp l .Add r pos) (.lst (xs ++ ys)) :=
  hl.bin hr fun X s v u b h1 h2 => by
    obtain ⟨a, n, vs, rfl, ha, h1⟩ := rep_lst.mp h1
    obtain ⟨c, m, us, rfl, hc, h2⟩ := rep_lst.mp h2
    refine P.add_list (hid_some ha).2 (hid_some hc).2 ⟨rep_lst.mpr ⟨_, 0, vs ++ us, rfl, ?_, (h1.append h2).mono (hid_keeps fun _ _ e => Heap.get?_push_of_some _ e)⟩, keeps_push s _ _⟩ ?_
    · have := rep_new b ({ cls := .type "list", data := .seq (vs.toArray ++ us.toArray) } : Obj) rfl
      rw [this, List.append_toArray]
    · rw [List.size_toArray, List.size_toArray, h1.length, h2.length, sizeLine_eq]; omega

theorem Ev.item {l i : PySem.Expr} {xs : List T} {k : Int} {x : T} {pos : Pos} (hl : Ev prog w G A env ρ l (.lst xs)) (hi : Ev prog w G A env ρ i (.int k)) (h0 : 0 ≤ k) (h1 : k < 2 ^ 62) (hx : xs[k.toNat]? = some x)
    (hs : ∀ a u, subscripted i false (.ref a) (.int k u) = operate [.ref a, .int k u] (getItem (.ref a) (.int k u)) := by intro _ _; with_unfolding_all rfl) : Ev prog w G A env ρ (.Subscript l i pos) x := fun X s b r =>
  Subscript_ (hl.use b r fun v s₁ g1 k1 b1 r1 => hi.use b1 r1 fun u s₂ g2 k2 b2 _ => by
    obtain ⟨a, n, vs, rfl, ha, g1⟩ := rep_lst.mp (g1.mono (hid_keeps k2.keep))
    obtain ⟨t, rfl⟩ := rep_int.mp g2
    obtain ⟨v, hv, hr⟩ := g1.get' hx
    have hL : s₂.heap.IsList a vs.toArray := ⟨_, (hid_some ha).2, rfl, n, rfl⟩
    exact tail_any hL.typeIs slot_list_getitem.lookup (wpAny_getItem_list hL h0 (by omega) (by simpa using hv) ⟨hr, k1.trans k2⟩) (hs _ _))

theorem Ev.rev {l : PySem.Expr} {xs : List T} {p p' p'' pos : Pos} {k : Nat} (hl : Ev prog w G A env ρ l (.lst xs)) (hz : xs.length ≤ 1000) (ht : ∀ o r, letTemporaryGo l o r = pure () := by intro _ _; rfl)
    (he : ∀ s, wpAny (model prog w) A (eval (.UnaryOp .USub (.Constant (.int 1) k p') p'') env) (fun v s' => (∃ t, v = .int (-1) t) ∧ Kp s s') NoE s) :
    Ev prog w G A env ρ (.Subscript l (.Slice none none (some (.UnaryOp .USub (.Constant (.int 1) k p') p'')) p) pos) (.lst xs.reverse) := fun X s b r =>
  wpAny_Subscript_Slice_step slot_list_getitem.lookup (hl.use b r fun v s₁ g1 k1 b1 r1 => wpAny_Slice (wpAny_pure (wpAny_pure (wpAny_mono (he s₁) (fun st s₂ ⟨hst, k2⟩ => by
    obtain ⟨t, rfl⟩ := hst
    obtain ⟨a, n, vs, rfl, ha, g1⟩ := rep_lst.mp (g1.mono (hid_keeps k2.keep))
    have hL : s₂.heap.IsList a vs.toArray := ⟨_, (hid_some ha).2, rfl, n, rfl⟩
    refine ⟨(hL.push _).typeIs (s := { s₂ with heap := s₂.heap.push _ }), ?_⟩
    refine wpAny_getItem_list_slice (hL.push _) (Heap.IsSliceOf.new ..) .none .none (.int (-1) t) (by decide) ⟨?_, ?_⟩ (by rw [List.size_toArray, g1.length, sizeLine_eq]; omega)
    · rw [krv_pick]
      have b2 := (b1.keeps k2.keep)
      have b3 : Bd X (s₂.heap.push { cls := .type "slice", data := .fields #[.none, .none, .int (-1) t] }) := b2.keeps fun _ _ e => Heap.get?_push_of_some _ e
      refine rep_lst.mpr ⟨_, 0, vs.reverse, rfl, ?_, g1.reverse.mono (hid_keeps fun _ _ e => Heap.get?_push_of_some _ (Heap.get?_push_of_some _ e))⟩
      exact hid_of b3.new (Heap.get?_push_size _ rfl)
    · exact (k1.trans k2).trans ((keeps_push s₂ _ _).trans (keeps_push { s₂ with heap := s₂.heap.push _ } _ _))) fun _ _ q => q.elim))) ) ht
end
end Mine
end
section
open PySem PySem.W PyProof.Rows PySem.Calls
set_option maxRecDepth 100000
set_option linter.unusedVariables false
namespace Mine

mutual
noncomputable def T.py : T → PyData
  | .int i => .int i
  | .bool b => .bool b
  | .byt _ => .none
  | .tup xs => .tuple (pyL xs)
  | .lst xs => .list (pyL xs)
  | .emp => .none
  | .ptr _ => .none
  | .fn .. => .none
noncomputable def pyL : List T → List PyData
  | [] => []
  | x :: xs => x.py :: pyL xs
end
mutual
noncomputable def T.flat : T → Bool
  | .int _ => true
  | .bool _ => true
  | .byt _ => false
  | .tup xs => flatL xs
  | .lst xs => flatL xs
  | .emp => false
  | .ptr _ => false
  | .fn .. => false
noncomputable def flatL : List T → Bool
  | [] => true
  | x :: xs => x.flat && flatL xs
end
theorem pyL_eq : ∀ xs : List T, pyL xs = xs.map T.py
  | [] => by unfold pyL; rfl
  | x :: xs => by unfold pyL; rw [pyL_eq xs]; rfl
mutual
theorem Rep.reads {g : View} {h : Heap} (k : ∀ a o, g a = some o → h.get? a = some o) : ∀ {x : T} {v : Value}, x.flat = true → Rep g x v → ∃ as, Reads h v x.py as
  | .int i, v, _, r => by obtain ⟨t, rfl⟩ := rep_int.mp r; unfold T.py; exact ⟨_, .int i t⟩
  | .bool b, v, _, r => by rw [rep_bool.mp r]; unfold T.py; exact ⟨_, .bool b⟩
  | .byt _, v, f, r => by unfold T.flat at f; cases f
  | .emp, v, f, r => by unfold T.flat at f; cases f
  | .ptr _, v, f, r => by unfold T.flat at f; cases f
  | .fn .., v, f, r => by unfold T.flat at f; cases f
  | .tup xs, v, f, r => by
    obtain ⟨a, n, vs, rfl, ho, hl⟩ := rep_tup.mp r
    unfold T.flat at f
    obtain ⟨as, hr⟩ := RepL.reads k f hl
    unfold T.py
    exact ⟨_, .tuple (k _ _ ho) rfl rfl (by simpa using hr)⟩
  | .lst xs, v, f, r => by
    obtain ⟨a, n, vs, rfl, ho, hl⟩ := rep_lst.mp r
    unfold T.flat at f
    obtain ⟨as, hr⟩ := RepL.reads k f hl
    unfold T.py
    exact ⟨_, .list (k _ _ ho) rfl rfl (by simpa using hr)⟩
theorem RepL.reads {g : View} {h : Heap} (k : ∀ a o, g a = some o → h.get? a = some o) : ∀ {xs : List T} {vs : List Value}, flatL xs = true → RepL g xs vs → ∃ as, ReadsAll h vs (pyL xs) as
  | [], vs, _, r => by rw [repL_nil.mp r]; unfold pyL; exact ⟨_, .nil⟩
  | x :: xs, vs, f, r => by
    obtain ⟨v, ws, rfl, h1, h2⟩ := repL_cons.mp r
    unfold flatL at f
    obtain ⟨f1, f2⟩ := Bool.and_eq_true_iff.mp f
    obtain ⟨as, r1⟩ := Rep.reads k f1 h1
    obtain ⟨bs, r2⟩ := RepL.reads k f2 h2
    unfold pyL
    exact ⟨_, .cons r1 r2⟩
end

section
variable {prog : Program} {w : World} {G : Glb} {A : Around} {env : Env} {ρ : Bnd}

theorem eq_same {s : Shared} {X : List Addr} {x : T} {v u : Value} {Q : Value → Shared → Prop} {E : Value → Shared → Prop} (h1 : Rep (hid s.heap X) x v) (h2 : Rep (hid s.heap X) x u) (hf : x.flat = true) (hs : SeqAt.shaped x.py = true) (hu : A.units + 64 < cLine) (h : Q (.bool true) s) :
    wpAny (model prog w) A (compareOp .Eq v u) Q E s := by
  obtain ⟨as, r1⟩ := h1.reads (fun _ _ e => (hid_some e).2) hf
  obtain ⟨bs, r2⟩ := h2.reads (fun _ _ e => (hid_some e).2) hf
  refine eq_dataH r1 r2 hs hs hu ?_
  rw [SeqAt.eqv_refl x.py (Bool.and_eq_true_iff.mp hs).1]; exact h
theorem ne_same {s : Shared} {X : List Addr} {x : T} {v u : Value} {Q : Value → Shared → Prop} {E : Value → Shared → Prop} (h1 : Rep (hid s.heap X) x v) (h2 : Rep (hid s.heap X) x u) (hf : x.flat = true) (hs : SeqAt.shaped x.py = true) (hu : A.units + 64 < cLine) (h : Q (.bool false) s) :
    wpAny (model prog w) A (compareOp .NotEq v u) Q E s := by
  obtain ⟨as, r1⟩ := h1.reads (fun _ _ e => (hid_some e).2) hf
  obtain ⟨bs, r2⟩ := h2.reads (fun _ _ e => (hid_some e).2) hf
  refine ne_dataH r1 r2 hs hs hu ?_
  rw [SeqAt.eqv_refl x.py (Bool.and_eq_true_iff.mp hs).1]; exact h

theorem Ev.eqs {l r : PySem.Expr} {x : T} {pos : Pos} (hl : Ev prog w G A env ρ l x) (hr : Ev prog w G A env ρ r x) (hf : x.flat = true) (hs : SeqAt.shaped x.py = true) (hu : A.units + 64 < cLine)
    (hm : behindInMarks .Eq r = false := by with_unfolding_all rfl) : Ev prog w G A env ρ (.Compare l [.Eq] [r] pos) (.bool true) := fun X s b e =>
  wpAny_Compare1 (hl.use b e fun v s₁ h1 k1 b1 e1 => hr.use b1 e1 fun u s₂ h2 k2 b2 _ => eq_same (h1.mono (hid_keeps k2.keep)) h2 hf hs hu ⟨rep_bool.mpr rfl, k1.trans k2⟩) hm
theorem Tst.nes {l r : PySem.Expr} {x : T} {pos : Pos} (hl : Ev prog w G A env ρ l x) (hr : Ev prog w G A env ρ r x) (hf : x.flat = true) (hs : SeqAt.shaped x.py = true) (hu : A.units + 64 < cLine)
    (hm : behindInMarks .NotEq r = false := by with_unfolding_all rfl) : Tst prog w G A env ρ (.Compare l [.NotEq] [r] pos) false := fun X s b e =>
  wpAny_isTrue_Compare1 (hl.use b e fun v s₁ h1 k1 b1 e1 => hr.use b1 e1 fun u s₂ h2 k2 b2 _ => ne_same (h1.mono (hid_keeps k2.keep)) h2 hf hs hu (wpAny_truthy_bool ⟨rfl, k1.trans k2⟩)) hm
theorem Tst.call {f : PySem.Expr} {as : List PySem.Expr} {pos : Pos} {c : Bool} (h : Ev prog w G A env ρ (.Call f as [] pos) (.bool c)) : Tst prog w G A env ρ (.Call f as [] pos) c := fun X s b e =>
  isTrue_plain (h.use b e fun v s₁ h1 k1 _ _ => by rw [rep_bool.mp h1]; exact wpAny_truthy_bool ⟨rfl, k1⟩)
theorem Tst.not {x : PySem.Expr} {pos : Pos} {c : Bool} (h : Tst prog w G A env ρ x c) : Tst prog w G A env ρ (.UnaryOp .Not x pos) (!c) := fun X s b e =>
  isTrue_not (h.use b e fun s₁ k1 _ _ => ⟨rfl, k1⟩)
theorem Tst.or2 {x y : PySem.Expr} {pos : Pos} (h : Tst prog w G A env ρ x false) (h' : Tst prog w G A env ρ y false) : Tst prog w G A env ρ (.BoolOp .Or [x, y] pos) false := fun X s b e =>
  isTrue_or (h.use b e fun s₁ k1 b1 e1 => isTrue_or (h'.use b1 e1 fun s₂ k2 _ _ => isTrue_or_nil ⟨rfl, k1.trans k2⟩))
theorem Tst.or3 {x y z : PySem.Expr} {pos : Pos} (h : Tst prog w G A env ρ x false) (h' : Tst prog w G A env ρ y false) (h'' : Tst prog w G A env ρ z false) : Tst prog w G A env ρ (.BoolOp .Or [x, y, z] pos) false := fun X s b e =>
  isTrue_or (h.use b e fun s₁ k1 b1 e1 => isTrue_or (h'.use b1 e1 fun s₂ k2 b2 e2 => isTrue_or (h''.use b2 e2 fun s₃ k3 _ _ => isTrue_or_nil ⟨rfl, (k1.trans k2).trans k3⟩)))
theorem Ev.and2 {x y : PySem.Expr} {pos : Pos} {c : T} (h : Ev prog w G A env ρ x (.bool true)) (h' : Ev prog w G A env ρ y c) : Ev prog w G A env ρ (.BoolOp .And [x, y] pos) c := fun X s b e =>
  BoolOp_and (h.use b e fun v s₁ h1 k1 b1 e1 => by
    rw [rep_bool.mp h1]
    exact wpAny_truthy_bool (BoolOp_one (h'.use b1 e1 fun u s₂ h2 k2 _ _ => ⟨h2, k1.trans k2⟩)))

theorem Ev.call {f : PySem.Expr} {e : PySem.Expr} {es : List PySem.Expr} {xs : List T} {y : T} {a : Addr} {o : Obj} {fd : FuncData} {pos : Pos} (hf : EvV prog w G A env ρ f (.ref a)) (hs : EvL prog w G A env ρ (e :: es) xs) (hk : G.K.lookup a = some o) (hd : o.data = .func fd)
    (hc : CallT prog w G A (.ref a) xs y)
    (he : starEach (e :: es) env = (false, eval e env) :: starEach es env := by rfl)
    (hcl : eval (.Call f (e :: es) [] pos) env = (do callWith pos (← eval f env) [] (backTo pos (starEach (e :: es) env)) (backToKw pos (keywordEach [] env))) := by rfl) : Ev prog w G A env ρ (.Call f (e :: es) [] pos) y := fun X s b r =>
  Call_ (hf.use b r fun s₁ k1 b1 r1 => callWith_def_at (r1.top.ok.k a o hk) hd (hs.use b1 r1 fun vs s₂ h2 k2 b2 r2 => ⟨r2.top.ok.k a o hk,
    wpAny_mono (hc X s₂ vs b2 r2.top h2) (fun _ _ q => ⟨q.1, (k1.trans k2).trans q.2⟩) fun _ _ q => q⟩) he) hcl
theorem Ev.callB {f : PySem.Expr} {e : PySem.Expr} {es : List PySem.Expr} {xs : List T} {y : T} {id : String} {pos : Pos} (hf : EvV prog w G A env ρ f (.builtin id)) (hs : EvL prog w G A env ρ (e :: es) xs)
    (hc : CallT prog w G A (.builtin id) xs y)
    (he : starEach (e :: es) env = (false, eval e env) :: starEach es env := by rfl)
    (hp : (backTo pos (starEach es env)).any (·.1) = false := by rfl)
    (hcl : eval (.Call f (e :: es) [] pos) env = (do callWith pos (← eval f env) [] (backTo pos (starEach (e :: es) env)) (backToKw pos (keywordEach [] env))) := by rfl) : Ev prog w G A env ρ (.Call f (e :: es) [] pos) y := fun X s b r =>
  Call_ (hf.use b r fun s₁ k1 b1 r1 => PyProof.Rows.callWith_builtin1 (hs.use b1 r1 fun vs s₂ h2 k2 b2 r2 =>
    wpAny_mono (hc X s₂ vs b2 r2.top h2) (fun _ _ q => ⟨q.1, (k1.trans k2).trans q.2⟩) fun _ _ q => q) he hp) hcl
theorem Ev.callY {f : PySem.Expr} {e : PySem.Expr} {es : List PySem.Expr} {xs : List T} {y : T} {id : String} {pos : Pos} (hf : EvV prog w G A env ρ f (.type id)) (hs : EvL prog w G A env ρ (e :: es) xs)
    (hc : CallT prog w G A (.type id) xs y)
    (he : starEach (e :: es) env = (false, eval e env) :: starEach es env := by rfl)
    (hp : (backTo pos (starEach es env)).any (·.1) = false := by rfl)
    (hcl : eval (.Call f (e :: es) [] pos) env = (do callWith pos (← eval f env) [] (backTo pos (starEach (e :: es) env)) (backToKw pos (keywordEach [] env))) := by rfl) : Ev prog w G A env ρ (.Call f (e :: es) [] pos) y := fun X s b r =>
  Call_ (hf.use b r fun s₁ k1 b1 r1 => Pv.callWith_type1 (hs.use b1 r1 fun vs s₂ h2 k2 b2 r2 =>
    wpAny_mono (hc X s₂ vs b2 r2.top h2) (fun _ _ q => ⟨q.1, (k1.trans k2).trans q.2⟩) fun _ _ q => q) he hp) hcl

theorem CallT.len {xs : List T} (hz : xs.length ≤ 1000) : CallT prog w G A (.builtin "len") [.lst xs] (.int xs.length) := by
  intro X s vs b _ h
  obtain ⟨v, r, rfl, h1, h2⟩ := repL_cons.mp h
  rw [repL_nil.mp h2]
  obtain ⟨a, n, us, rfl, ha, h1⟩ := rep_lst.mp h1
  have hl : s.heap.IsList a us.toArray := ⟨_, (hid_some ha).2, rfl, n, rfl⟩
  have e := h1.length
  refine call_len_list hl (by rw [List.size_toArray]; omega) ⟨rep_int.mpr ⟨s.toks + 1, ?_⟩, keeps_tok s _⟩
  rw [List.size_toArray, e]
end

/- statements -/
noncomputable def ownOf (env : Env) : List Addr := env.locals :: env.cells.filterMap fun p => if env.kindOf p.1 == some .cell then env.cells.lookup p.1 else none
structure KpX (Y : List Addr) (s s' : Shared) : Prop where
  same : ∃ h tk, s' = { s with heap := h, toks := tk }
  keep : ∀ b o, b ∉ Y → s.heap.get? b = some o → s'.heap.get? b = some o
theorem Kp.x {Y : List Addr} {s s' : Shared} (k : Kp s s') : KpX Y s s' := ⟨k.same, fun b o _ e => k.keep b o e⟩
theorem KpX.trans {Y : List Addr} {s s₁ s₂ : Shared} (a : KpX Y s s₁) (b : KpX Y s₁ s₂) : KpX Y s s₂ := by
  obtain ⟨⟨h1, t1, rfl⟩, k1⟩ := a
  obtain ⟨⟨h2, t2, rfl⟩, k2⟩ := b
  exact ⟨⟨h2, t2, rfl⟩, fun x o n e => k2 x o n (k1 x o n e)⟩
theorem KpX.refl {Y : List Addr} (s : Shared) : KpX Y s s := (Kp.refl s).x
theorem KpX.more {Y Z : List Addr} {s s' : Shared} (k : KpX Y s s') (h : ∀ a ∈ Y, a ∈ Z) : KpX Z s s' := ⟨k.same, fun b o n e => k.keep b o (fun q => n (h b q)) e⟩

structure FrR (G : Glb) (env : Env) (O : List Addr) (ρ : Bnd) (X : List Addr) (s : Shared) : Prop where
  r : EnvR G env ρ X s.heap
  bd : Bd X s.heap
  own : ∀ a ∈ O, a ∈ X
theorem FrR.kp {G : Glb} {env : Env} {O : List Addr} {ρ : Bnd} {X : List Addr} {s s' : Shared} (f : FrR G env O ρ X s) (k : Kp s s') : FrR G env O ρ X s' where
  r := f.r.keeps k.keep
  bd := f.bd.keeps k.keep
  own := f.own
theorem EnvR.weaken {G : Glb} {env : Env} {ρ ρ' : Bnd} {X : List Addr} {h₀ : Heap} (f : EnvR G env ρ X h₀) (h : ∀ x t, ρ' x = some t → ρ x = some t) : EnvR G env ρ' X h₀ :=
  ⟨f.kind, f.glob, f.bins, fun x t e => f.dec x t (h x t e), let ⟨m, a, b⟩ := f.loc; ⟨m, a, fun x t e k => b x t (h x t e) k⟩, fun x t e k => f.cel x t (h x t e) k, f.top, f.cells, f.apart⟩
theorem FrR.weaken {G : Glb} {env : Env} {O : List Addr} {ρ ρ' : Bnd} {X : List Addr} {s : Shared} (f : FrR G env O ρ X s) (h : ∀ x t, ρ' x = some t → ρ x = some t) : FrR G env O ρ' X s where
  r := f.r.weaken h
  bd := f.bd
  own := f.own
theorem FrR.hide {G : Glb} {env : Env} {O : List Addr} {ρ : Bnd} {X : List Addr} {s s' : Shared} {I : Addr} (f : FrR G env O ρ X s) (k : Kp s s') (hI : s.heap.get? I = none) (ho : ∃ o, s'.heap.get? I = some o) : FrR G env O ρ (I :: X) s' where
  r := (f.r.more (Y := [I]) fun y hy => .inr (by rw [List.mem_singleton.mp hy]; exact hI)).keeps k.keep
  bd := fun a ha => by
    rcases List.mem_cons.mp ha with rfl | ha
    · exact ho
    · exact f.bd.keeps k.keep a ha
  own := fun a ha => List.mem_cons_of_mem _ (f.own a ha)
theorem FrR.unhide {G : Glb} {env : Env} {O : List Addr} {ρ : Bnd} {X Y : List Addr} {s : Shared} (f : FrR G env O ρ Y s) (hs : ∀ a ∈ X, a ∈ Y) (ho : ∀ a ∈ O, a ∈ X) : FrR G env O ρ X s where
  r := f.r.less hs
  bd := fun a ha => f.bd a (hs a ha)
  own := ho
theorem ownOf_cell {env : Env} {n : Str} {c : Addr} (e : env.cells.lookup n = some c) (hk : env.kindOf n = some .cell) : c ∈ ownOf env :=
  List.mem_cons_of_mem _ (List.mem_filterMap.mpr ⟨(n, c), mem_of_lookup e, by simp [hk, e]⟩)
theorem ownOf_mem {env : Env} {a : Addr} (h : a ∈ ownOf env) : a = env.locals ∨ ∃ y, env.cells.lookup y = some a ∧ env.kindOf y = some .cell := by
  rcases List.mem_cons.mp h with rfl | h
  · exact .inl rfl
  · obtain ⟨⟨y, c⟩, hm, e⟩ := List.mem_filterMap.mp h
    by_cases hk : (env.kindOf y == some .cell) = true
    · rw [if_pos hk] at e; exact .inr ⟨y, e, by simpa using hk⟩
    · rw [if_neg hk] at e; cases e
/-- a change at a hidden address that the frame does not own -/
theorem FrR.other {G : Glb} {env : Env} {O : List Addr} {ρ : Bnd} {X : List Addr} {s : Shared} {I : Addr} {h' : Heap} {tk : Nat} (f : FrR G env O ρ X s) (hI : I ∈ X) (hn : Off env I) (k : ∀ b o, b ∉ ([I] : List Addr) → s.heap.get? b = some o → h'.get? b = some o) (ho : ∃ o, h'.get? I = some o) :
    FrR G env O ρ X { s with heap := h', toks := tk } where
  r := f.r.in (Y := [I]) k (fun y hy => by rw [List.mem_singleton.mp hy]; exact hI) (fun hm => hn.loc (List.mem_singleton.mp hm)) fun n c e hm => hn.cel n c e (List.mem_singleton.mp hm)
  bd := fun a ha => by
    by_cases q : a = I
    · subst q; exact ho
    · obtain ⟨o, e⟩ := f.bd a ha
      exact ⟨o, k a o (by simpa using q) e⟩
  own := f.own
theorem FrR.drop {G : Glb} {env : Env} {O : List Addr} {ρ : Bnd} {X : List Addr} {s : Shared} {I : Addr} {h' : Heap} {tk : Nat} (f : FrR G env O ρ (I :: X) s) (hX : I ∉ X) (ho : ∀ a ∈ O, a ∈ X) (hn : Off env I) (k : ∀ b o, b ∉ ([I] : List Addr) → s.heap.get? b = some o → h'.get? b = some o) :
    FrR G env O ρ X { s with heap := h', toks := tk } where
  r := (f.r.in (Y := [I]) k (fun y hy => by rw [List.mem_singleton.mp hy]; exact List.mem_cons_self) (fun hm => hn.loc (List.mem_singleton.mp hm)) fun n c e hm => hn.cel n c e (List.mem_singleton.mp hm)).less fun a ha => List.mem_cons_of_mem _ ha
  bd := fun a ha => let ⟨o, e⟩ := f.bd a (List.mem_cons_of_mem _ ha); ⟨o, k a o (fun q => hX (List.mem_singleton.mp q ▸ ha)) e⟩
  own := ho

noncomputable def upd (ρ : Bnd) (x : Str) (t : T) : Bnd := fun y => if y = x then some t else ρ y

theorem FrR.step {G : Glb} {env : Env} {O : List Addr} {ρ ρ' : Bnd} {X : List Addr} {s : Shared} (f : FrR G env O ρ X s) {a : Addr} {h' : Heap} {tk : Nat} (ha : a ∈ O) (hs : Heap.SameBut a s.heap h') (ho : ∃ o, h'.get? a = some o)
    (hd : ∀ x t, ρ' x = some t → env.kindOf x = some .local ∨ env.kindOf x = some .cell ∨ env.kindOf x = some .free)
    (h1 : ∃ m, h'.Ns env.locals m ∧ ∀ y u, ρ' y = some u → env.kindOf y = some .local → ∃ v, m y = some v ∧ Rep (hid h' X) u v)
    (h2 : ∀ y u, ρ' y = some u → env.kindOf y = some .cell ∨ env.kindOf y = some .free → ∃ c v, env.cells.lookup y = some c ∧ h'.IsCell c (some v) ∧ Rep (hid h' X) u v)
    (h3 : ∀ n c, env.cells.lookup n = some c → ∃ v, h'.IsCell c v) : FrR G env O ρ' X { s with heap := h', toks := tk } ∧ KpX O s { s with heap := h', toks := tk } := by
  have kb : ∀ b o, b ≠ a → s.heap.get? b = some o → h'.get? b = some o := fun b o n e => hs.extBut b o n e
  refine ⟨⟨⟨f.r.kind, f.r.glob, f.r.bins, hd, h1, h2, f.r.top.in fun b o n e => kb b o (fun q => n (q ▸ f.own a ha)) e, h3, f.r.apart⟩, fun b hb => ?_, f.own⟩, ⟨_, _, rfl⟩, fun b o n e => kb b o (fun q => n (q ▸ ha)) e⟩
  by_cases q : b = a
  · subst q; exact ho
  · obtain ⟨o, e⟩ := f.bd b hb; exact ⟨o, kb b o q e⟩

theorem FrR.store {M : Model} {A : Around} {E : Value → Shared → Prop} {G : Glb} {env : Env} {O : List Addr} {ρ : Bnd} {X : List Addr} {s : Shared} {x : Str} {t : T} {v : Value} {Q : Unit → Shared → Prop} (f : FrR G env O ρ X s) (hv : Rep (hid s.heap X) t v)
    (hk : (env.kindOf x = some .local ∧ env.locals ∈ O) ∨ (env.kindOf x = some .cell ∧ ∃ c, env.cells.lookup x = some c ∧ c ∈ O)) (h : ∀ s', FrR G env O (upd ρ x t) X s' → KpX O s s' → Q () s') : wpAny M A (storeName env x v) Q E s := by
  have hd : ∀ y u, upd ρ x t y = some u → env.kindOf y = some .local ∨ env.kindOf y = some .cell ∨ env.kindOf y = some .free := by
    intro y u e
    unfold upd at e
    by_cases hy : y = x
    · subst hy; exact hk.imp (·.1) fun q => .inl q.1
    · rw [if_neg hy] at e; exact f.r.dec y u e
  have sub : ∀ (a : Addr) (h' : Heap), a ∈ O → Heap.SameBut a s.heap h' → Sub (hid s.heap X) (hid h' X) := fun a h' ha hs => hid_in fun b o n e => hs.extBut b o (fun q => n (q ▸ f.own a ha)) e
  rcases hk with ⟨hl, ha⟩ | ⟨hc, c, hc', ha⟩
  · obtain ⟨m, hn, hm⟩ := f.r.loc
    refine wpAny_storeName_local hl hn (fun h' hn' hs' => ?_) (by rw [f.r.kind]; rfl)
    have sb := sub _ _ ha hs'
    have z := f.step (tk := s.toks + 1) (ρ' := upd ρ x t) ha hs' (by obtain ⟨o, _, _, e, _⟩ := hn'; exact ⟨o, e⟩) hd ⟨_, hn', fun y u e k => ?_⟩ (fun y u e k => ?_) (fun n c e => ?_)
    · exact h _ z.1 z.2
    · unfold upd at e
      by_cases hy : y = x
      · rw [if_pos hy] at e; cases e; exact ⟨v, by simp [hy], hv.mono sb⟩
      · rw [if_neg hy] at e
        obtain ⟨u', h1, h2⟩ := hm y u e k
        exact ⟨u', by simp [hy, h1], h2.mono sb⟩
    · unfold upd at e
      by_cases hy : y = x
      · subst hy; rw [hl] at k; rcases k with k | k <;> cases k
      · rw [if_neg hy] at e
        obtain ⟨c, u', h1, h2, h3⟩ := f.r.cel y u e k
        exact ⟨c, u', h1, h2.sameBut hs' (Ne.symm (f.r.off h1)), h3.mono sb⟩
    · obtain ⟨v', hv'⟩ := f.r.cells n c e
      exact ⟨v', hv'.sameBut hs' (Ne.symm (f.r.off e))⟩
  · obtain ⟨v₀, hv₀⟩ := f.r.cells x c hc'
    refine wpAny_storeName_cell f.r.kind hc hc' hv₀ fun h' hn' hs' => ?_
    have sb := sub _ _ ha hs'
    have z := f.step (tk := s.toks) (ρ' := upd ρ x t) ha hs' (by obtain ⟨o, e, _⟩ := hn'; exact ⟨o, e⟩) hd (by
      obtain ⟨m, hn, hm⟩ := f.r.loc
      refine ⟨m, hn.sameBut hs' (f.r.off hc'), fun y u e k => ?_⟩
      unfold upd at e
      by_cases hy : y = x
      · subst hy; rw [hc] at k; cases k
      · rw [if_neg hy] at e
        obtain ⟨u', h1, h2⟩ := hm y u e k
        exact ⟨u', h1, h2.mono sb⟩) (fun y u e k => ?_) (fun n c' e => ?_)
    · exact h _ z.1 z.2
    · unfold upd at e
      by_cases hy : y = x
      · rw [if_pos hy] at e; cases e; exact ⟨c, v, hy ▸ hc', hn', hv.mono sb⟩
      · rw [if_neg hy] at e
        obtain ⟨c', u', h1, h2, h3⟩ := f.r.cel y u e k
        refine ⟨c', u', h1, h2.sameBut hs' fun q => hy ?_, h3.mono sb⟩
        exact f.r.apart y x c (q ▸ h1) hc'
    · by_cases q : c' = c
      · subst q; exact ⟨_, hn'⟩
      · obtain ⟨v', hv'⟩ := f.r.cells n c' e
        exact ⟨v', hv'.sameBut hs' q⟩
end Mine
end
section
open PySem PySem.W PyProof.Rows PySem.Calls
set_option maxRecDepth 100000
set_option linter.unusedVariables false
namespace Mine
section
variable (prog : Program) (w : World) (G : Glb) (A : Around) (env : Env) (ρ : Bnd)
noncomputable def St (st : Stmt) (ρ' : Bnd) : Prop := ∀ X s, FrR G env (ownOf env) ρ X s → wpAny (model prog w) A (exec st env) (fun f s' => f = .next ∧ FrR G env (ownOf env) ρ' X s' ∧ KpX (ownOf env) s s') NoE s
noncomputable def Sts (sts : List Stmt) (ρ' : Bnd) : Prop := ∀ X s, FrR G env (ownOf env) ρ X s → wpAny (model prog w) A (execs sts env) (fun f s' => f = .next ∧ FrR G env (ownOf env) ρ' X s' ∧ KpX (ownOf env) s s') NoE s
noncomputable def Bdy (sts : List Stmt) (y : T) : Prop := ∀ X s, FrR G env (ownOf env) ρ X s → wpAny (model prog w) A (execs sts env) (fun f s' => ∃ v, f = .ret v ∧ Rep (hid s'.heap X) y v ∧ KpX (ownOf env) s s') NoE s
/-- what an iterable hands out -/
noncomputable def ItT (e : PySem.Expr) (xs : List T) : Prop :=
  ∀ X s, Bd X s.heap → EnvR G env ρ X s.heap → wpAny (model prog w) A (eval e env) (fun v s₁ => wpAny (model prog w) A (pyIter v) (fun it s₂ =>
    ∃ (I : Addr) (fp : List Addr) (P : Nat → Value → Prop) (Sta : Nat → Heap → Prop), it = .ref I ∧ Walks prog w A I fp [I] xs.length P Sta ∧ Sta 0 s₂.heap ∧ I ∉ X ∧ s.heap.get? I = none ∧ (∀ i h, Sta i h → ∃ o, h.get? I = some o) ∧
      (∀ b ∈ fp, b = I ∨ (b ∉ X ∧ ∃ o, s₂.heap.get? b = some o)) ∧ (∀ i v, i < xs.length → P i v → ∃ x, xs[i]? = some x ∧ Rep (hid s₂.heap (I :: X)) x v) ∧ Kp s s₂) NoE s₁) NoE s
end

section
variable {prog : Program} {w : World} {G : Glb} {A : Around} {env : Env} {ρ ρ' : Bnd}

noncomputable abbrev KindOk (env : Env) (x : Str) : Prop := env.kindOf x = some .local ∨ (env.kindOf x = some .cell ∧ (env.cells.lookup x).isSome = true)
theorem KindOk.own {env : Env} {x : Str} (h : KindOk env x) : (env.kindOf x = some .local ∧ env.locals ∈ ownOf env) ∨ (env.kindOf x = some .cell ∧ ∃ c, env.cells.lookup x = some c ∧ c ∈ ownOf env) :=
  h.imp (fun e => ⟨e, List.mem_cons_self⟩) fun e => ⟨e.1, let ⟨c, hc⟩ := Option.isSome_iff_exists.mp e.2; ⟨c, hc, ownOf_cell hc e.1⟩⟩

theorem St.assign {x : Str} {p pos : Pos} {value : PySem.Expr} {t : T} (h : Ev prog w G A env ρ value t) (hk : KindOk env x) (hs : swapsWith value (some (.Name x p)) pos.line env = pure false := by rfl) :
    St prog w G A env ρ (.Assign [.Name x p] value pos) (upd ρ x t) := fun X s f =>
  wpAny_Assign_Name (h.use f.bd f.r fun v s₁ h1 k1 b1 r1 => (f.kp k1).store h1 hk.own fun s₂ f2 k2 => ⟨rfl, f2, k1.x.trans k2⟩) hs
theorem Sts.nil : Sts prog w G A env ρ [] ρ := fun X s f => wpAny_execs_nil ⟨rfl, f, .refl s⟩
theorem Sts.cons {st : Stmt} {rest : List Stmt} {ρ₁ : Bnd} (h : St prog w G A env ρ st ρ₁) (hr : Sts prog w G A env ρ₁ rest ρ') : Sts prog w G A env ρ (st :: rest) ρ' := fun X s f =>
  wpAny_execs_cons (wpAny_mono (h X s f) (fun fl s₁ ⟨e, f1, k1⟩ => by
    subst e
    exact wpAny_mono (hr X s₁ f1) (fun fl s₂ ⟨e, f2, k2⟩ => ⟨e, f2, k1.trans k2⟩) fun _ _ q => q) fun _ _ q => q)
theorem Sts.weaken {sts : List Stmt} {ρ₁ : Bnd} (h : Sts prog w G A env ρ sts ρ₁) (hw : ∀ x t, ρ' x = some t → ρ₁ x = some t) : Sts prog w G A env ρ sts ρ' := fun X s f =>
  wpAny_mono (h X s f) (fun fl s₁ ⟨e, f1, k1⟩ => ⟨e, f1.weaken hw, k1⟩) fun _ _ q => q
theorem Bdy.cons {st : Stmt} {rest : List Stmt} {ρ₁ : Bnd} {y : T} (h : St prog w G A env ρ st ρ₁) (hr : Bdy prog w G A env ρ₁ rest y) : Bdy prog w G A env ρ (st :: rest) y := fun X s f =>
  wpAny_execs_cons (wpAny_mono (h X s f) (fun fl s₁ ⟨e, f1, k1⟩ => by
    subst e
    exact wpAny_mono (hr X s₁ f1) (fun fl s₂ ⟨v, e, h2, k2⟩ => ⟨v, e, h2, k1.trans k2⟩) fun _ _ q => q) fun _ _ q => q)
theorem Bdy.ret {e : PySem.Expr} {rest : List Stmt} {pos : Pos} {y : T} (h : Ev prog w G A env ρ e y) : Bdy prog w G A env ρ (.Return (some e) pos :: rest) y := fun X s f =>
  wpAny_execs_cons (wpAny_Return_some (h.use f.bd f.r fun v s₁ h1 k1 _ _ => ⟨v, rfl, h1, k1.x⟩))
theorem Bdy.ifF {test : PySem.Expr} {body rest : List Stmt} {pos : Pos} {y : T} (h : Tst prog w G A env ρ test false) (hr : Bdy prog w G A env ρ rest y) : Bdy prog w G A env ρ (.If test body [] pos :: rest) y := fun X s f =>
  wpAny_execs_cons (wpAny_If (h.use f.bd f.r fun s₁ k1 _ _ => by
    simp only [Bool.false_eq_true, if_false]
    exact wpAny_execs_nil (wpAny_mono (hr X s₁ (f.kp k1)) (fun fl s₂ ⟨v, e, h2, k2⟩ => ⟨v, e, h2, k1.x.trans k2⟩) fun _ _ q => q)))

theorem ItT.list {e : PySem.Expr} {xs : List T} (h : Ev prog w G A env ρ e (.lst xs)) (hh : A.handled = none) : ItT prog w G A env ρ e xs := fun X s b r =>
  h.use b r fun v s₁ h1 k1 b1 r1 => by
    obtain ⟨a, n, vs, rfl, ha, hl⟩ := rep_lst.mp h1
    obtain ⟨hx, ho⟩ := hid_some ha
    have hL : s₁.heap.IsList a vs.toArray := ⟨_, ho, rfl, n, rfl⟩
    refine wpAny_pyIter_list hL ?_
    have W := Walks.list (prog := prog) (w := w) (A := A) hh s₁.heap.objs.size a (Nat.ne_of_lt (Heap.lt_size ho)) vs.toArray
    have hsz : vs.toArray.size = xs.length := by rw [List.size_toArray]; exact hl.length
    rw [hsz] at W
    have up : ∀ b o, s₁.heap.get? b = some o → (s₁.heap.push { cls := .type "list_iterator", data := .fields #[.ref a, .int 0 0] }).get? b = some o := fun _ _ e => Heap.get?_push_of_some _ e
    have hn : s₁.heap.get? s₁.heap.objs.size = none := Heap.get?_none_of_le (Nat.le_refl _)
    refine ⟨_, _, _, _, rfl, W, ⟨⟨_, Heap.get?_push_size _ rfl, rfl, rfl⟩, hL.push _⟩, b1.new, ?_, (fun i h st => by obtain ⟨⟨o, e, _⟩, _⟩ := st; exact ⟨o, e⟩), ?_, ?_, k1.trans (keeps_push s₁ _ _)⟩
    · cases q : s.heap.get? s₁.heap.objs.size with
      | none => rfl
      | some o => rw [k1.keep _ _ q] at hn; cases hn
    · intro b hb
      rcases List.mem_cons.mp hb with e | hb
      · exact .inl e
      · rw [List.mem_singleton.mp hb]; exact .inr ⟨hx, _, up _ _ ho⟩
    · intro i v _ hv
      obtain ⟨x, hx, hr⟩ := hl.get i v (by simpa using hv)
      refine ⟨x, hx, hr.mono (hid_more (Y := [s₁.heap.objs.size]) (fun b o _ e => up b o e) fun y hy => .inr ?_)⟩
      rw [List.mem_singleton.mp hy]; exact hn

theorem ItT.range {f e : PySem.Expr} {n : Nat} {pos : Pos} (hf : EvV prog w G A env ρ f (.type "range")) (he : Ev prog w G A env ρ e (.int n)) (hz : n ≤ 1000) (hh : A.handled = none)
    (hs : starEach [e] env = (false, eval e env) :: starEach [] env := by rfl)
    (hp : (backTo pos (starEach [] env)).any (·.1) = false := by rfl)
    (hcl : eval (.Call f [e] [] pos) env = (do callWith pos (← eval f env) [] (backTo pos (starEach [e] env)) (backToKw pos (keywordEach [] env))) := by rfl) :
    ItT prog w G A env ρ (.Call f [e] [] pos) ((List.range n).map fun i => .int (i : Nat)) := fun X s b r =>
  Call_ (hf.use b r fun s₁ k1 b1 r1 => Pv.callWith_type1 (spliced_more (he.use b1 r1 fun v s₂ h2 k2 b2 r2 => spliced_none (by
    obtain ⟨t, rfl⟩ := rep_int.mp h2
    refine call_range_1 ?_
    refine wpAny_pyIter_range (IsRange.new _ 0 n 1 _ _ _) (small_one (by omega) (by omega) (by omega) (by omega)) ?_
    have hnn : Builtin.Range.rangeSize 0 (n : Int) 1 = (n : Int) := by rw [rangeSize_one]; split <;> omega
    rw [hnn]
    dsimp only
    generalize hg : s₂.heap.push { cls := .type "range", data := .fields #[.int 0 s₂.toks, .int n t, .int 1 (s₂.toks + 1)] } = g
    have kg : ∀ b o, s₂.heap.get? b = some o → g.get? b = some o := fun b o e => hg ▸ Heap.get?_push_of_some _ e
    have W := Walks.range (prog := prog) (w := w) (A := A) hh g.objs.size 0 1 n
    have b3 : Bd X g := b2.keeps kg
    have kk : Kp s { s₂ with heap := g.push { cls := .type "range_iterator", data := .fields #[rawInt 0, rawInt n, rawInt 1] }, toks := s₂.toks + 1 + 1 } :=
      (k1.trans k2).trans ⟨⟨_, _, rfl⟩, fun b o e => Heap.get?_push_of_some _ (kg b o e)⟩
    have hn : g.get? g.objs.size = none := Heap.get?_none_of_le (Nat.le_refl _)
    have hn' : s.heap.get? g.objs.size = none := by
      cases q : s.heap.get? g.objs.size with
      | none => rfl
      | some o => rw [kg _ _ ((k1.trans k2).keep _ _ q)] at hn; cases hn
    rw [show n = ((List.range n).map fun i => T.int (i : Nat)).length by simp] at W
    refine ⟨_, _, _, _, rfl, W, ?_, b3.new, hn', (fun i h st => ⟨_, st⟩), (fun b hb => .inl (List.mem_singleton.mp hb)), ?_, kk⟩
    · simp
      exact Heap.get?_push_size _ rfl
    · rintro i v hi ⟨t, rfl⟩
      have hi' : i < n := by simpa using hi
      exact ⟨.int (i : Nat), by simp [hi'], rep_int.mpr ⟨t, by simp⟩⟩)) hs) hs hp) hcl

theorem St.forI {x : Str} {px pos : Pos} {iter : PySem.Expr} {body : List Stmt} {xs : List T} (R : Nat → Bnd) (hi : ItT prog w G A env (R 0) iter xs) (hk : KindOk env x)
    (turn : ∀ i t, xs[i]? = some t → Sts prog w G A env (upd (R i) x t) body (R (i + 1)))
    (hs : ∀ x, foldedSetIterable iter env x = pure x := by intro _; rfl) : St prog w G A env (R 0) (.For (.Name x px) iter body [] pos) (R xs.length) := fun X s f => by
  refine wpAny_For (wpAny_mono (hi X s f.bd f.r) (fun v s₁ h₁ => wpAny_mono h₁ (fun it s₂ h₂ => ?_) fun _ _ q => q.elim) fun _ _ q => q) hs
  obtain ⟨I, fp, P, Sta, rfl, W, st, hIX, hI, hIo, hfp, hP, k2⟩ := h₂
  have hown : I ∉ ownOf env := fun q => hIX (f.own I q)
  have hoff : Off env I := f.r.fresh hI
  refine codeAny_forLoop (fun k s' => ∃ i, i ≤ xs.length ∧ k = xs.length + 1 - i ∧ FrR G env (ownOf env) (R i) (I :: X) s' ∧ Sta i s'.heap ∧ KpX (I :: ownOf env) s₂ s') ?_ (xs.length + 1)
    ⟨0, Nat.zero_le _, rfl, f.hide k2 hI (hIo _ _ st), st, .refl _⟩
  rintro k s' ⟨i, hi, rfl, f', st', k'⟩
  have fpw : ∀ (h h' : Heap), (∀ b o, b ∉ ownOf env → h.get? b = some o → h'.get? b = some o) → ∀ b ∈ fp, ∀ o, h.get? b = some o → h'.get? b = some o := fun h h' kk b hb o e => by
    refine kk b o (fun q => ?_) e
    rcases hfp b hb with rfl | ⟨q', _⟩
    · exact hown q
    · exact q' (f.own b q)
  by_cases hlt : i < xs.length
  · refine W.item i _ _ _ hlt st' fun v h' tk hv st₁ kk => ?_
    have f₁ : FrR G env (ownOf env) (R i) (I :: X) { s' with heap := h', toks := tk } := f'.other List.mem_cons_self hoff kk (hIo _ _ st₁)
    have k₁ : KpX (I :: ownOf env) s₂ { s' with heap := h', toks := tk } := k'.trans ⟨⟨_, _, rfl⟩, fun b o n e => kk b o (fun q => n (List.mem_singleton.mp q ▸ List.mem_cons_self)) e⟩
    obtain ⟨t, ht, hr⟩ := hP i v hlt hv
    have hr' : Rep (hid h' (I :: X)) t v := hr.mono (hid_in fun b o n e => k₁.keep b o (fun q => n (by
      rcases List.mem_cons.mp q with q | q
      · exact q ▸ List.mem_cons_self
      · exact List.mem_cons_of_mem _ (f.own b q))) e)
    refine wpAny_assign_Name (f₁.store hr' hk.own fun s₃ f₃ k₃ => ?_)
    refine wpAny_mono (turn i t ht (I :: X) s₃ f₃) (fun fl s₄ ⟨e, f₄, k₄⟩ => ?_) fun _ _ q => q.elim
    subst e
    have k₅ := k₃.trans k₄
    refine ⟨xs.length + 1 - (i + 1), by omega, i + 1, hlt, rfl, f₄, W.frame _ _ _ st₁ (fpw _ _ k₅.keep), k₁.trans ⟨k₅.same, fun b o n e => k₅.keep b o (fun q => n (List.mem_cons_of_mem _ q)) e⟩⟩
  · obtain rfl : i = xs.length := by omega
    refine W.done _ _ _ st' fun h' tk kk => ?_
    have f₁ := f'.drop (h' := h') (tk := tk) hIX f.own hoff kk
    refine wpAny_execs_nil ⟨rfl, f₁, ?_⟩
    obtain ⟨⟨h2, t2, e2⟩, kb⟩ := k'
    refine ⟨?_, fun b o n e => ?_⟩
    · obtain ⟨⟨h1, t1, rfl⟩, _⟩ := k2
      rw [e2]; exact ⟨_, _, rfl⟩
    · by_cases q : b = I
      · subst q; rw [hI] at e; cases e
      · have hb : b ∉ I :: ownOf env := fun m => (List.mem_cons.mp m).elim q n
        exact kk b o (by simpa using q) (kb b o hb (k2.keep b o e))
end
end Mine
end
section
open PySem PySem.W PyProof.Rows PySem.Calls
set_option maxRecDepth 100000
set_option linter.unusedVariables false
namespace Mine

/- the environment of a comprehension, own cells and all -/
noncomputable def cEnv (scope : Scope) (cl : List (Str × Addr)) (C : Addr) (env : Env) : Env :=
  { scope := relabel scope env, locals := C, globals := env.globals, cells := cellsFrom (C + 1) scope.names cl, qual := env.qual, func := none, code := env.code, frame := env.frame, builtins := env.builtins }
noncomputable def clFrom (cells : List (Str × Addr)) : List (Str × NameKind) → List (Str × Addr) → List (Str × Addr)
  | [], acc => acc
  | (n, k) :: r, acc => if k == .free then clFrom cells r ((n, (cells.lookup n).getD 0) :: acc) else clFrom cells r acc
noncomputable def clo (scope : Scope) (env : Env) : List (Str × Addr) := clFrom env.cells scope.names []
noncomputable def restr (scope : Scope) (ρ : Bnd) : Bnd := fun y => if scope.names.lookup y = some .free then ρ y else none

theorem clFrom_for {env : Env} (f : Str × NameKind → List (Str × Addr) → Sem (ForInStep (List (Str × Addr))))
    (hf : ∀ n k r, f (n, k) r = if (k == .free) = true then (do let a ← cellOf env n; pure (.yield ((n, a) :: r))) else pure (.yield r)) : ∀ (names : List (Str × NameKind)) (acc : List (Str × Addr)), (names.all fun x => x.2 != .free || (env.cells.lookup x.1).isSome) = true →
    forIn names acc f = pure (clFrom env.cells names acc)
  | [], acc, _ => rfl
  | (n, k) :: r, acc, h => by
    rw [List.all_cons, Bool.and_eq_true] at h
    rw [List.forIn_cons, hf]
    unfold clFrom
    cases hk : k == NameKind.free with
    | false =>
      simp only [Bool.false_eq_true, if_false, pure_bind]
      exact clFrom_for f hf r acc h.2
    | true =>
      have h1 := h.1
      simp only [bne, hk, Bool.not_true, Bool.false_or] at h1
      obtain ⟨c, hc⟩ := Option.isSome_iff_exists.mp h1
      have : cellOf env n = pure c := by unfold cellOf; rw [hc]
      simp only [if_true, this, pure_bind, hc, Option.getD_some]
      exact clFrom_for f hf r _ h.2
theorem closureFor_clo {scope : Scope} {env : Env} (h : (scope.names.all fun x => x.2 != .free || (env.cells.lookup x.1).isSome) = true) : closureFor scope env = pure (clo scope env) := by
  unfold closureFor clo
  dsimp only
  rw [clFrom_for (env := env) _ (fun n k r => by dsimp only) scope.names [] h, pure_bind]

theorem clFrom_sub {cells : List (Str × Addr)} : ∀ (names : List (Str × NameKind)) (acc : List (Str × Addr)), (names.all fun x => x.2 != .free || (cells.lookup x.1).isSome) = true → (∀ y c, acc.lookup y = some c → cells.lookup y = some c) →
    (∀ y c, (clFrom cells names acc).lookup y = some c → cells.lookup y = some c) ∧ (∀ y, (∃ c, acc.lookup y = some c) ∨ (y, NameKind.free) ∈ names → ∃ c, (clFrom cells names acc).lookup y = some c)
  | [], acc, _, ha => ⟨ha, fun y q => q.elim id fun m => (nomatch m)⟩
  | (n, k) :: r, acc, h, ha => by
    rw [List.all_cons, Bool.and_eq_true] at h
    unfold clFrom
    cases hk : k == NameKind.free with
    | false =>
      simp only [Bool.false_eq_true, if_false]
      obtain ⟨g1, g2⟩ := clFrom_sub r acc h.2 ha
      refine ⟨g1, fun y q => g2 y (q.imp id fun m => ?_)⟩
      rcases List.mem_cons.mp m with e | m
      · cases e; cases hk
      · exact m
    | true =>
      have h1 := h.1
      simp only [bne, hk, Bool.not_true, Bool.false_or] at h1
      obtain ⟨c, hc⟩ := Option.isSome_iff_exists.mp h1
      simp only [if_true, hc, Option.getD_some]
      obtain ⟨g1, g2⟩ := clFrom_sub r ((n, c) :: acc) h.2 fun y c' e => by
        rw [List.lookup_cons] at e
        cases hy : y == n with
        | true => rw [hy] at e; cases e; rw [beq_iff_eq.mp hy]; exact hc
        | false => rw [hy] at e; exact ha y c' e
      refine ⟨g1, fun y q => g2 y ?_⟩
      cases hy : y == n with
      | true => exact .inl ⟨c, by rw [List.lookup_cons, hy]⟩
      | false =>
        rcases q with ⟨c', q⟩ | m
        · exact .inl ⟨c', by rw [List.lookup_cons, hy]; exact q⟩
        · rcases List.mem_cons.mp m with e | m
          · cases e; simp at hy
          · exact .inr m
theorem mem_of_lookup' {α β : Type} [BEq α] [LawfulBEq α] : ∀ {l : List (α × β)} {n : α} {c : β}, l.lookup n = some c → (n, c) ∈ l
  | (k, v) :: r, n, c, h => by
    rw [List.lookup_cons] at h
    cases hb : n == k with
    | true => rw [hb] at h; cases h; rw [beq_iff_eq.mp hb]; exact List.mem_cons_self
    | false => rw [hb] at h; exact List.mem_cons_of_mem _ (mem_of_lookup' h)
theorem cellsFrom_app : ∀ (names : List (Str × NameKind)) (n : Nat) (acc : List (Str × Addr)), cellsFrom n names acc = cellsFrom n names [] ++ acc
  | [], _, _ => rfl
  | (x, k) :: r, n, acc => by
    unfold cellsFrom
    split
    · rw [cellsFrom_app r (n + 1) ((x, n) :: acc), cellsFrom_app r (n + 1) [(x, n)], List.append_assoc]; rfl
    · exact cellsFrom_app r n acc
theorem cellsFrom_kind : ∀ (names : List (Str × NameKind)) (n : Nat) (acc : List (Str × Addr)) (y : Str) (c : Addr), (y, c) ∈ cellsFrom n names acc → (y, c) ∈ acc ∨ (y, NameKind.cell) ∈ names
  | [], _, _, _, _, h => .inl h
  | (x, k) :: r, n, acc, y, c, h => by
    unfold cellsFrom at h
    split at h
    · rename_i hk
      rcases cellsFrom_kind r _ _ y c h with h | h
      · rcases List.mem_cons.mp h with e | h
        · cases e; rw [beq_iff_eq.mp hk]; exact .inr List.mem_cons_self
        · exact .inl h
      · exact .inr (List.mem_cons_of_mem _ h)
    · exact (cellsFrom_kind r _ _ y c h).imp id (List.mem_cons_of_mem _)
theorem lookup_relabel {env : Env} : ∀ (names : List (Str × NameKind)) (y : Str),
    (names.map fun (n, k) => if (k == .free && env.scope.kind == .function && env.kindOf n == some .cell) then (n, NameKind.cell) else (n, k)).lookup y =
      (names.lookup y).map fun k => if (k == .free && env.scope.kind == .function && env.kindOf y == some .cell) then .cell else k
  | [], _ => rfl
  | (n, k) :: r, y => by
    have ih := lookup_relabel (env := env) r y
    show List.lookup y ((if (k == NameKind.free && env.scope.kind == .function && env.kindOf n == some .cell) = true then (n, NameKind.cell) else (n, k)) :: _) = _
    by_cases hc : (k == NameKind.free && env.scope.kind == .function && env.kindOf n == some .cell) = true
    · rw [if_pos hc, List.lookup_cons, List.lookup_cons]
      cases hy : y == n with
      | true => have e := beq_iff_eq.mp hy; subst e; simp only [Option.map_some, if_pos hc]
      | false => exact ih
    · rw [if_neg hc, List.lookup_cons, List.lookup_cons]
      cases hy : y == n with
      | true => have e := beq_iff_eq.mp hy; subst e; simp only [Option.map_some, if_neg hc]
      | false => exact ih

/-- the scope of a comprehension in its frame -/
structure CompOK (scope : Scope) (env : Env) : Prop where
  kind : scope.kind = .function
  free : (scope.names.all fun x => x.2 != .free || (env.cells.lookup x.1).isSome) = true
  outer : (scope.names.all fun x => x.2 != .free || env.kindOf x.1 == some .cell || env.kindOf x.1 == some .free) = true
  names : (scope.names.all fun x => scope.names.lookup x.1 == some x.2) = true

section
variable {scope : Scope} {env : Env} {G : Glb} {ρ : Bnd} {X : List Addr}
theorem CompOK.at (k : CompOK scope env) {y : Str} {d : NameKind} (h : (y, d) ∈ scope.names) : scope.names.lookup y = some d := by
  have := List.all_eq_true.mp k.names _ h
  simpa using this
theorem CompOK.own (k : CompOK scope env) {C : Addr} {y : Str} {c : Addr} (e : (cellsFrom (C + 1) scope.names []).lookup y = some c) : scope.names.lookup y = some .cell :=
  k.at ((cellsFrom_kind _ _ _ _ _ (mem_of_lookup' e)).resolve_left (fun h => nomatch h))
theorem CompOK.look (k : CompOK scope env) (C : Addr) (y : Str) : (cEnv scope (clo scope env) C env).cells.lookup y = ((cellsFrom (C + 1) scope.names []).lookup y).or ((clo scope env).lookup y) := by
  show (cellsFrom (C + 1) scope.names (clo scope env)).lookup y = _
  rw [cellsFrom_app, List.lookup_append]
theorem CompOK.cases (k : CompOK scope env) {C : Addr} {y : Str} {c : Addr} (e : (cEnv scope (clo scope env) C env).cells.lookup y = some c) :
    (cellsFrom (C + 1) scope.names []).lookup y = some c ∨ (cellsFrom (C + 1) scope.names []).lookup y = none ∧ env.cells.lookup y = some c := by
  rw [k.look] at e
  cases q : (cellsFrom (C + 1) scope.names []).lookup y with
  | some c' => rw [q] at e; cases e; exact .inl rfl
  | none => rw [q] at e; exact .inr ⟨rfl, (clFrom_sub (cells := env.cells) scope.names [] k.free (by intro _ _ h; cases h)).1 y c e⟩
theorem CompOK.freeLook (k : CompOK scope env) (C : Addr) {y : Str} (h : scope.names.lookup y = some .free) : ∃ c, (cEnv scope (clo scope env) C env).cells.lookup y = some c ∧ env.cells.lookup y = some c := by
  obtain ⟨c, hc⟩ := (clFrom_sub (cells := env.cells) scope.names [] k.free (by intro _ _ h; cases h)).2 y (.inr (mem_of_lookup' h))
  refine ⟨c, ?_, (clFrom_sub (cells := env.cells) scope.names [] k.free (by intro _ _ h; cases h)).1 y c hc⟩
  rw [k.look]
  cases q : (cellsFrom (C + 1) scope.names []).lookup y with
  | some c' => rw [k.own q] at h; cases h
  | none => exact hc
theorem CompOK.outerKind (k : CompOK scope env) {y : Str} (h : scope.names.lookup y = some .free) : env.kindOf y = some .cell ∨ env.kindOf y = some .free := by
  have := List.all_eq_true.mp k.outer _ (mem_of_lookup' h)
  simpa using this
theorem cEnv_kind {cl : List (Str × Addr)} {C : Addr} {y : Str} : (cEnv scope cl C env).kindOf y = (scope.names.lookup y).map fun k => if (k == .free && env.scope.kind == .function && env.kindOf y == some .cell) then .cell else k := lookup_relabel scope.names y
theorem cEnv_kind_free {cl : List (Str × Addr)} {C : Addr} {y : Str} (h : scope.names.lookup y = some .free) : (cEnv scope cl C env).kindOf y = some .cell ∨ (cEnv scope cl C env).kindOf y = some .free := by
  rw [cEnv_kind, h, Option.map_some]
  split
  · exact .inl rfl
  · exact .inr rfl
theorem cEnv_kind_ne {cl : List (Str × Addr)} {C : Addr} {y : Str} {d : NameKind} (h : scope.names.lookup y = some d) (hd : d ≠ .free) : (cEnv scope cl C env).kindOf y = some d := by
  rw [cEnv_kind, h, Option.map_some]
  have : (d == NameKind.free) = false := by simpa using hd
  simp [this]

/-- what the comprehension's frame owns -/
noncomputable def cOwn (scope : Scope) (C : Addr) : List Addr := C :: (cellsFrom (C + 1) scope.names []).map (·.2)

theorem cellsFrom_bd {names : List (Str × NameKind)} {C : Nat} {y : Str} {c : Addr} (e : (y, c) ∈ cellsFrom C names []) : C ≤ c := by
  have ok := cellsFrom_ok names { objs := Array.replicate C default } C [] ⟨fun _ _ hm => (nomatch hm), List.Pairwise.nil⟩ (by simp)
  rw [show ({ objs := Array.replicate C default } : Heap).objs.size = C by simp] at ok
  exact (ok.empty y c e).2

/-- the frame that a comprehension enters -/
theorem FrR.comp {s : Shared} {h₁ : Heap} {C : Addr} (k : CompOK scope env) (b : Bd X s.heap) (r : EnvR G env ρ X s.heap) (hC : s.heap.objs.size ≤ C) (up : ∀ b o, s.heap.get? b = some o → h₁.get? b = some o) (tk : Nat)
    (hn : h₁.Ns C fun _ => none) (hc : CellsOk h₁ (C + 1) (cellsFrom (C + 1) scope.names [])) : FrR G (cEnv scope (clo scope env) C env) (cOwn scope C) (restr scope ρ) (cOwn scope C ++ X) { s with heap := h₁, toks := tk } := by
  have fresh : ∀ a, s.heap.objs.size ≤ a → s.heap.get? a = none := fun a ha => Heap.get?_none_of_le ha
  have hO : ∀ a ∈ cOwn scope C, s.heap.get? a = none := fun a ha => by
    rcases List.mem_cons.mp ha with rfl | ha
    · exact fresh _ hC
    · obtain ⟨⟨y, c⟩, hm, rfl⟩ := List.mem_map.mp ha
      exact fresh _ (by have := (hc.empty y c hm).2; omega)
  have sub : Sub (hid s.heap X) (hid h₁ (cOwn scope C ++ X)) := hid_more (fun b o _ e => up b o e) fun y hy => .inr (hO y hy)
  refine ⟨⟨k.kind, r.glob, r.bins, fun y t e => ?_, ⟨_, hn, fun y t e q => ?_⟩, fun y t e q => ?_, (r.top.more fun y hy => .inr (hO y hy)).keeps up, fun y c e => ?_, fun y y' c e e' => ?_⟩, fun a ha => ?_, fun a ha => List.mem_append_left _ ha⟩
  · unfold restr at e
    by_cases hy : scope.names.lookup y = some .free
    · exact .inr (cEnv_kind_free hy)
    · rw [if_neg hy] at e; cases e
  · unfold restr at e
    by_cases hy : scope.names.lookup y = some .free
    · rcases cEnv_kind_free (env := env) (cl := clo scope env) (C := C) hy with h | h <;> rw [h] at q <;> cases q
    · rw [if_neg hy] at e; cases e
  · unfold restr at e
    by_cases hy : scope.names.lookup y = some .free
    · rw [if_pos hy] at e
      obtain ⟨c, v, h1, h2, h3⟩ := r.cel y t e (k.outerKind hy)
      obtain ⟨c', g1, g2⟩ := k.freeLook C hy
      rw [h1] at g2; cases g2
      exact ⟨c, v, g1, h2.keeps up, h3.mono sub⟩
    · rw [if_neg hy] at e; cases e
  · rcases k.cases e with h | ⟨_, h⟩
    · exact ⟨none, (hc.empty y c (mem_of_lookup' h)).1⟩
    · obtain ⟨v, hv⟩ := r.cells y c h; exact ⟨v, hv.keeps up⟩
  · have old : ∀ {y c}, env.cells.lookup y = some c → ∀ {y'}, (cellsFrom (C + 1) scope.names []).lookup y' = some c → False := fun {y c} h {y'} h' => by
      obtain ⟨v, hv⟩ := r.cells y c h
      obtain ⟨o, ho, _⟩ := hv
      exact Nat.lt_irrefl _ (Nat.lt_of_lt_of_le (Heap.lt_size ho) (Nat.le_trans hC (Nat.le_trans (Nat.le_succ _) (hc.empty y' c (mem_of_lookup' h')).2)))
    rcases k.cases e with h | ⟨_, h⟩ <;> rcases k.cases e' with h' | ⟨_, h'⟩
    · exact name_of_addr hc.apart (mem_of_lookup' h) (mem_of_lookup' h')
    · exact (old h' h).elim
    · exact (old h h').elim
    · exact r.apart y y' c h h'
  · rcases List.mem_append.mp ha with ha | ha
    · rcases List.mem_cons.mp ha with rfl | ha
      · obtain ⟨o, _, _, e, _⟩ := hn; exact ⟨o, e⟩
      · obtain ⟨⟨y, c⟩, hm, rfl⟩ := List.mem_map.mp ha
        obtain ⟨o, e, _⟩ := (hc.empty y c hm).1
        exact ⟨o, e⟩
    · exact b.keeps up a ha
theorem newEnv_comp {M : Model} {A : Around} {E : Value → Shared → Prop} {s : Shared} {cl : List (Str × Addr)} {Q : Env → Shared → Prop}
    (h : ∀ h₁, (∀ b o, s.heap.get? b = some o → h₁.get? b = some o) → h₁.Ns s.heap.objs.size (fun _ => none) → CellsOk h₁ (s.heap.objs.size + 1) (cellsFrom (s.heap.objs.size + 1) scope.names []) →
      Q { scope := scope, locals := s.heap.objs.size, globals := env.globals, cells := cellsFrom (s.heap.objs.size + 1) scope.names cl, qual := env.qual, func := none, code := env.code, frame := env.frame, builtins := env.builtins } { s with heap := h₁, toks := s.toks }) :
    wpAny M A (newFunctionEnv scope env.globals cl [] env.qual none .none (some env)) Q E s := by
  simp only [newFunctionEnv, Option.isSome_some, if_true]
  refine wpAny_bind (wpAny_alloc ?_)
  refine wpAny_bind (wpAny_layCells _ (fun name kind cells => by cases hkc : kind == NameKind.cell <;> simp [hkc]) _ _ _ _ ?_)
  have ok := cellsFrom_ok scope.names (s.heap.push { cls := .type "dict", data := .dict #[] }) (s.heap.objs.size + 1) [] ⟨fun _ _ hm => (nomatch hm), List.Pairwise.nil⟩ (by rw [Heap.size_push]; exact Nat.le_refl _)
  rw [Heap.size_push] at ok
  rw [show ({ s with heap := s.heap.push { cls := .type "dict", data := .dict #[] } } : Shared).heap.objs.size = s.heap.objs.size + 1 from Heap.size_push ..]
  refine wpAny_bind ?_
  rw [List.forIn_nil]
  refine wpAny_pure (wpAny_pure ?_)
  exact h _ (fun b o e => pushCells_keeps _ _ b o (Heap.get?_push_of_some _ e)) ((Heap.Ns.new s.heap (.type "dict")).keeps (pushCells_keeps _ _)) ok
end
end Mine
end
section
open PySem PySem.W PyProof.Rows PySem.Calls
set_option maxRecDepth 100000
set_option linter.unusedVariables false
namespace Mine
section
variable (prog : Program) (w : World) (G : Glb) (A : Around) (env : Env) (ρ : Bnd)
noncomputable def Tests (ifs : List PySem.Expr) (b : Bool) : Prop := ∀ X s, Bd X s.heap → EnvR G env ρ X s.heap →
  wpAny (model prog w) A (forIn ifs true fun c r => if r = true then do let ok ← isTrue c env (eval c env); pure (ForInStep.yield ok) else pure (ForInStep.yield r)) (fun c s' => c = b ∧ Kp s s') NoE s
end
section
variable {prog : Program} {w : World} {G : Glb} {A : Around} {env : Env} {ρ ρ' : Bnd}
theorem Tests.nil : Tests prog w G A env ρ [] true := fun X s b r => wpAny_tests_nil ⟨rfl, .refl s⟩
theorem Tests.one {c : PySem.Expr} {b : Bool} (h : Tst prog w G A env ρ c b) : Tests prog w G A env ρ [c] b := fun X s b r => wpAny_tests_one (h X s b r)

theorem cellsFrom_mono : ∀ (names : List (Str × NameKind)) (n : Nat) (acc : List (Str × Addr)) (y : Str), (∃ c, acc.lookup y = some c) → ∃ c, (cellsFrom n names acc).lookup y = some c
  | [], _, _, _, h => h
  | (x, k) :: r, n, acc, y, ⟨c, h⟩ => by
    unfold cellsFrom
    split
    · refine cellsFrom_mono r _ _ y ?_
      rw [List.lookup_cons]
      cases y == x with
      | true => exact ⟨_, rfl⟩
      | false => exact ⟨c, h⟩
    · exact cellsFrom_mono r _ _ y ⟨c, h⟩
theorem cellsFrom_has : ∀ (names : List (Str × NameKind)) (n : Nat) {acc : List (Str × Addr)} {y : Str}, (y, NameKind.cell) ∈ names → ∃ c, (cellsFrom n names acc).lookup y = some c
  | (x, k) :: r, n, acc, y, h => by
    unfold cellsFrom
    rcases List.mem_cons.mp h with e | h
    · cases e
      rw [if_pos (by rfl)]
      exact cellsFrom_mono r _ _ _ ⟨n, by rw [List.lookup_cons]; simp⟩
    · split
      · exact cellsFrom_has r _ h
      · exact cellsFrom_has r _ h
theorem KpX.other {Y : List Addr} {s s' : Shared} {I : Addr} {h' : Heap} {tk : Nat} (k : KpX Y s s') (hI : I ∈ Y) (kk : ∀ b o, b ∉ ([I] : List Addr) → s'.heap.get? b = some o → h'.get? b = some o) : KpX Y s { s' with heap := h', toks := tk } :=
  k.trans ⟨⟨_, _, rfl⟩, fun b o n e => kk b o (fun q => n (List.mem_singleton.mp q ▸ hI)) e⟩
theorem RepL.kpx {X Y : List Addr} {s s' : Shared} {xs : List T} {vs : List Value} (h : RepL (hid s.heap X) xs vs) (k : KpX Y s s') (hs : ∀ a ∈ Y, a ∈ X) : RepL (hid s'.heap X) xs vs := h.mono (hid_in fun b o n e => k.keep b o (fun q => n (hs b q)) e)
theorem Rep.kpx {X Y : List Addr} {s s' : Shared} {xs : T} {vs : Value} (h : Rep (hid s.heap X) xs vs) (k : KpX Y s s') (hs : ∀ a ∈ Y, a ∈ X) : Rep (hid s'.heap X) xs vs := h.mono (hid_in fun b o n e => k.keep b o (fun q => n (hs b q)) e)

theorem compLoop {elt iter : PySem.Expr} {x : Str} {px : Pos} {ifs : List PySem.Expr} {scope : Scope} {pos : Pos} {I D : Addr} {cenv : Env} {R : Result → Shared → Prop} {s : Shared} {xs : List T} {X O fp : List Addr} {P : Nat → Value → Prop} {Sta : Nat → Heap → Prop}
    (p : T → Bool) (F : T → T)
    (W : Walks prog w A I fp [I] xs.length P Sta) (hz : xs.length ≤ 1000) (st : Sta 0 s.heap) (hIo : ∀ i h, Sta i h → ∃ o, h.get? I = some o)
    (f : FrR G cenv O ρ X s) (hρ : ρ x = none) (hk : (cenv.kindOf x = some .local ∧ cenv.locals ∈ O) ∨ (cenv.kindOf x = some .cell ∧ ∃ c, cenv.cells.lookup x = some c ∧ c ∈ O))
    (hIX : I ∈ X) (hDX : D ∈ X) (hI : Off cenv I) (hD : Off cenv D) (hDI : D ≠ I) (hDf : D ∉ fp) (hDO : D ∉ O) (hIO : I ∉ O) (hfO : ∀ a ∈ O, a ∉ fp)
    (hP : ∀ i v, i < xs.length → P i v → ∃ t, xs[i]? = some t ∧ Rep (hid s.heap X) t v) (hacc : s.heap.PlainList D #[])
    (tests : ∀ t ∈ xs, Tests prog w G A cenv (upd ρ x t) ifs (p t)) (helt : ∀ t ∈ xs, p t = true → Ev prog w G A cenv (upd ρ x t) elt (F t))
    (hR : ∀ s' ys, (∃ m, s'.heap.Ns cenv.locals m) → s'.heap.PlainList D ys.toArray → RepL (hid s'.heap X) ((xs.filter p).map F) ys → KpX (D :: I :: O) s s' → R (.ok .next) s') :
    codeAny (model prog w) A (.compLoop (.ListComp elt [⟨.Name x px, iter, ifs, 0⟩] scope pos) 0 (.ref I) (.ref D) cenv) R s := by
  have hYX : ∀ a ∈ D :: I :: O, a ∈ X := fun a ha => by
    rcases List.mem_cons.mp ha with rfl | ha
    · exact hDX
    · rcases List.mem_cons.mp ha with rfl | ha
      · exact hIX
      · exact f.own a ha
  have mI : I ∈ D :: I :: O := List.mem_cons_of_mem _ List.mem_cons_self
  have mD : D ∈ D :: I :: O := List.mem_cons_self
  have mO : ∀ a ∈ O, a ∈ D :: I :: O := fun a ha => List.mem_cons_of_mem _ (List.mem_cons_of_mem _ ha)
  refine codeAny_compLoop_tests (fun k s' => ∃ i ys, i ≤ xs.length ∧ k = xs.length + 1 - i ∧ FrR G cenv O ρ X s' ∧ Sta i s'.heap ∧ s'.heap.PlainList D ys.toArray ∧ RepL (hid s'.heap X) (((xs.take i).filter p).map F) ys ∧ KpX (D :: I :: O) s s') ?_ (xs.length + 1)
    ⟨0, [], Nat.zero_le _, rfl, f, st, hacc, by simpa using repL_nil.mpr rfl, .refl _⟩
  rintro k s' ⟨i, ys, hi, rfl, f', st', acc', hys, k'⟩
  by_cases hlt : i < xs.length
  · refine W.item i _ _ _ hlt st' fun v h₁ tk₁ hv st₁ kk₁ => ?_
    have f₁ : FrR G cenv O ρ X { s' with heap := h₁, toks := tk₁ } := f'.other hIX hI kk₁ (hIo _ _ st₁)
    have k₁ := k'.other (tk := tk₁) mI kk₁
    have acc₁ : h₁.PlainList D ys.toArray := acc'.at fun o e => kk₁ D o (by simpa using hDI) e
    have hys₁ : RepL (hid h₁ X) (((xs.take i).filter p).map F) ys := hys.mono (hid_in fun b o n e => kk₁ b o (fun q => n (List.mem_singleton.mp q ▸ hIX)) e)
    obtain ⟨t, ht, hr⟩ := hP i v hlt hv
    have hmem : t ∈ xs := List.mem_of_getElem? ht
    refine wpAny_assign_Name (f₁.store (t := t) (hr.kpx k₁ hYX) hk fun s₂ f₂ k₂ => ?_)
    have st₂ : Sta (i + 1) s₂.heap := W.frame _ _ _ st₁ fun b hb o e => k₂.keep b o (fun q => hfO b q hb) e
    have acc₂ : s₂.heap.PlainList D ys.toArray := acc₁.at fun o e => k₂.keep D o hDO e
    have hys₂ := RepL.kpx (s := { s' with heap := h₁, toks := tk₁ }) hys₁ k₂ f₁.own
    refine wpAny_mono (tests t hmem X s₂ f₂.bd f₂.r) (fun ok s₃ ⟨e, k₃⟩ => ?_) fun _ _ q => q.elim
    subst e
    have st₃ : Sta (i + 1) s₃.heap := W.frame _ _ _ st₂ fun b _ o e => k₃.keep b o e
    have acc₃ : s₃.heap.PlainList D ys.toArray := acc₂.at fun o e => k₃.keep D o e
    have f₃ := f₂.kp k₃
    have hys₃ := hys₂.mono (hid_keeps (X := X) k₃.keep)
    have k₃' := k₁.trans ((k₂.more mO).trans k₃.x)
    have hwk : ∀ y u, ρ y = some u → upd ρ x t y = some u := fun y u e => by
      unfold upd
      by_cases hy : y = x
      · subst hy; rw [hρ] at e; cases e
      · rw [if_neg hy]; exact e
    cases hp : p t with
    | false =>
      simp only [Bool.false_eq_true, if_false]
      refine ⟨xs.length + 1 - (i + 1), by omega, i + 1, ys, hlt, rfl, f₃.weaken hwk, st₃, acc₃, ?_, k₃'⟩
      rw [take_succ_filter p xs i t ht, hp]; simpa using hys₃
    | true =>
      simp only [if_true]
      refine wpAny_mono (helt t hmem hp X s₃ f₃.bd f₃.r) (fun y s₄ ⟨hy, k₄⟩ => ?_) fun _ _ q => q.elim
      have acc₄ : s₄.heap.PlainList D ys.toArray := acc₃.at fun o e => k₄.keep D o e
      have hl : ys.length = (((xs.take i).filter p).map F).length := hys.length
      have hsz : ys.toArray.size ≤ sizeLine := by
        have e2 : ((xs.take i).filter p).length ≤ (xs.take i).length := List.length_filter_le _ _
        have e3 : (xs.take i).length ≤ xs.length := by rw [List.length_take]; omega
        rw [List.length_map] at hl
        rw [List.size_toArray, sizeLine_eq]; omega
      refine wpAny_list_append_plain (hsz := hsz) acc₄ fun h₅ hl₅ hs₅ => ?_
      have kk₅ : ∀ b o, b ∉ ([D] : List Addr) → s₄.heap.get? b = some o → h₅.get? b = some o := fun b o n e => hs₅.extBut b o (by simpa using n) e
      have f₅ := (f₃.kp k₄).other (h' := h₅) (tk := s₄.toks) hDX hD kk₅ (by obtain ⟨n, e⟩ := hl₅; exact ⟨_, e⟩)
      have up : Sub (hid s₄.heap X) (hid h₅ X) := hid_in fun b o n e => kk₅ b o (fun q => n (List.mem_singleton.mp q ▸ hDX)) e
      refine ⟨xs.length + 1 - (i + 1), by omega, i + 1, ys ++ [y], hlt, rfl, f₅.weaken hwk, ?_, by simpa using hl₅, ?_, ?_⟩
      · exact W.frame _ _ _ (W.frame _ _ _ st₃ fun b _ o e => k₄.keep b o e) fun b hb o e => hs₅.extBut b o (fun h => hDf (h ▸ hb)) e
      · rw [take_succ_filter p xs i t ht, hp]
        simp only [if_true, List.map_append, List.map_cons, List.map_nil]
        exact ((hys₃.mono (hid_keeps k₄.keep)).mono up).append (.one (hy.mono up))
      · exact (k₃'.trans k₄.x).other mD kk₅
  · obtain rfl : i = xs.length := by omega
    refine W.done _ _ _ st' fun h' tk kk => ?_
    refine hR _ ys ?_ (acc'.at fun o e => kk D o (by simpa using hDI) e) ?_ (k'.other mI kk)
    · obtain ⟨m, ⟨o, es, ep, e, q⟩, _⟩ := f'.r.loc
      exact ⟨m, o, es, ep, kk _ o (by simpa using hI.loc) e, q⟩
    · rw [List.take_length] at hys
      exact hys.mono (hid_in fun b o n e => kk b o (fun q => n (List.mem_singleton.mp q ▸ hIX)) e)

/-- from the iterator on: the list, the frame, the loop -/
theorem compBlock {elt iter : PySem.Expr} {x : Str} {px : Pos} {ifs : List PySem.Expr} {scope : Scope} {pos : Pos} {I : Addr} {RR : Value → Addr → Result → Shared → Prop} {E : Value → Shared → Prop} {s s₂ : Shared} {xs : List T} {X fp : List Addr} {P : Nat → Value → Prop} {Sta : Nat → Heap → Prop}
    (p : T → Bool) (F : T → T) (k : CompOK scope env) (hx : scope.names.lookup x = some .local ∨ scope.names.lookup x = some .cell)
    (W : Walks prog w A I fp [I] xs.length P Sta) (hz : xs.length ≤ 1000) (st : Sta 0 s₂.heap) (hIo : ∀ i h, Sta i h → ∃ o, h.get? I = some o)
    (b : Bd X s.heap) (r : EnvR G env ρ X s.heap) (hIX : I ∉ X) (hIs : s.heap.get? I = none) (hfp : ∀ b ∈ fp, b = I ∨ (b ∉ X ∧ ∃ o, s₂.heap.get? b = some o))
    (hP : ∀ i v, i < xs.length → P i v → ∃ t, xs[i]? = some t ∧ Rep (hid s₂.heap (I :: X)) t v) (k2 : Kp s s₂)
    (tests : ∀ C, ∀ t ∈ xs, Tests prog w G A (cEnv scope (clo scope env) C env) (upd (restr scope ρ) x t) ifs (p t)) (helt : ∀ C, ∀ t ∈ xs, p t = true → Ev prog w G A (cEnv scope (clo scope env) C env) (upd (restr scope ρ) x t) elt (F t))
    (hRR : ∀ D C s' ys, D ∉ X → C ∉ X → s.heap.get? D = none → s.heap.get? C = none → D ≠ C → (∃ m, s'.heap.Ns C m) → s'.heap.PlainList D ys.toArray → RepL (hid s'.heap (C :: X)) ((xs.filter p).map F) ys → (∃ o, s'.heap.get? C = some o) → Kp s s' → RR (.ref D) C (.ok .next) s') :
    wpAny (model prog w) A (newList []) (fun acc s₃ => wpAny (model prog w) A (newFunctionEnv scope env.globals (clo scope env) [] env.qual none .none (some env)) (fun cenv s₄ =>
      codeAny (model prog w) A (.compStart (.ListComp elt [⟨.Name x px, iter, ifs, 0⟩] scope pos) 0 (.ref I) acc { cenv with scope := relabel scope env }) (RR acc cenv.locals) s₄) E s₃) E s₂ := by
  refine wpAny_newObj_type ?_
  generalize hH2 : s₂.heap.push { cls := .type "list", dict := none, data := .seq ([] : List Value).toArray } = H2
  refine newEnv_comp (s := { s₂ with heap := H2 }) fun h₁ up hn hc => ?_
  dsimp only at up hn hc ⊢
  have hC : H2.objs.size = s₂.heap.objs.size + 1 := by rw [← hH2, Heap.size_push]
  have up2 : ∀ b o, s₂.heap.get? b = some o → H2.get? b = some o := fun b o e => hH2 ▸ Heap.get?_push_of_some _ e
  have hD2 : H2.get? s₂.heap.objs.size = some (lstO [] 0) := by rw [← hH2]; exact Heap.get?_push_size _ rfl
  generalize hDd : s₂.heap.objs.size = D at hC hD2 ⊢
  generalize hCc : H2.objs.size = C at hC hn hc ⊢
  have noneD : s₂.heap.get? D = none := Heap.get?_none_of_le (Nat.le_of_eq hDd)
  have noneC : s₂.heap.get? C = none := Heap.get?_none_of_le (by omega)
  have nos : ∀ a, s₂.heap.get? a = none → s.heap.get? a = none := fun a ha => by
    cases q : s.heap.get? a with
    | none => rfl
    | some o => rw [k2.keep _ _ q] at ha; cases ha
  have b2 : Bd X s₂.heap := b.keeps k2.keep
  have noX : ∀ a, s₂.heap.get? a = none → a ∉ X := fun a ha hm => by obtain ⟨o, e⟩ := b2 a hm; rw [ha] at e; cases e
  have noI : ∀ a, s₂.heap.get? a = none → a ≠ I := fun a ha e => by obtain ⟨o, e'⟩ := hIo _ _ st; rw [← e, ha] at e'; cases e'
  have noF : ∀ a, s₂.heap.get? a = none → a ∉ fp := fun a ha hm => by
    rcases hfp a hm with e | ⟨_, o, e⟩
    · exact noI a ha e
    · rw [ha] at e; cases e
  have hO : ∀ a ∈ cOwn scope C, s₂.heap.get? a = none := fun a ha => by
    rcases List.mem_cons.mp ha with rfl | ha
    · exact noneC
    · obtain ⟨⟨y, c⟩, hm, rfl⟩ := List.mem_map.mp ha
      exact Heap.get?_none_of_le (by have := (hc.empty y c hm).2; omega)
  have hDO : D ∉ cOwn scope C := fun ha => by
    rcases List.mem_cons.mp ha with e | ha
    · omega
    · obtain ⟨⟨y, c⟩, hm, e⟩ := List.mem_map.mp ha
      have := (hc.empty y c hm).2; have e' : c = D := e; omega
  have ups : ∀ b o, s.heap.get? b = some o → h₁.get? b = some o := fun b o e => up b o (up2 b o (k2.keep b o e))
  -- the frame
  have r2 : EnvR G env ρ X s₂.heap := r.keeps k2.keep
  have offI : Off (cEnv scope (clo scope env) C env) I := ⟨(noI C noneC), fun n c e => by
    rcases k.cases e with h | ⟨_, h⟩
    · exact noI c (hO c (List.mem_cons_of_mem _ (List.mem_map.mpr ⟨_, mem_of_lookup' h, rfl⟩)))
    · exact (r.fresh hIs).cel n c h⟩
  have offD : Off (cEnv scope (clo scope env) C env) D := ⟨by show C ≠ D; omega, fun n c e => by
    rcases k.cases e with h | ⟨_, h⟩
    · exact fun e => hDO (e ▸ List.mem_cons_of_mem _ (List.mem_map.mpr ⟨_, mem_of_lookup' h, rfl⟩))
    · exact (r2.fresh noneD).cel n c h⟩
  have hID : ∀ y ∈ [D, I], s.heap.get? y = none := fun y hy => by
    rcases List.mem_cons.mp hy with rfl | hy
    · exact nos _ noneD
    · rw [List.mem_singleton.mp hy]; exact hIs
  have bI : ∃ o, H2.get? I = some o := by obtain ⟨o, e⟩ := hIo _ _ st; exact ⟨o, up2 _ _ e⟩
  have b3 : Bd ([D, I] ++ X) H2 := fun a ha => by
    rcases List.mem_append.mp ha with ha | ha
    · rcases List.mem_cons.mp ha with rfl | ha
      · exact ⟨_, hD2⟩
      · rw [List.mem_singleton.mp ha]; exact bI
    · exact b2.keeps up2 a ha
  have r3 : EnvR G env ρ ([D, I] ++ X) H2 := (r.more (Y := [D, I]) fun y hy => .inr (hID y hy)).keeps fun b o e => up2 b o (k2.keep b o e)
  have f : FrR G (cEnv scope (clo scope env) C env) (cOwn scope C) (restr scope ρ) (cOwn scope C ++ ([D, I] ++ X)) { s₂ with heap := h₁ } :=
    FrR.comp (s := { s₂ with heap := H2 }) k b3 r3 (Nat.le_of_eq hCc) up s₂.toks hn hc
  have mD : D ∈ cOwn scope C ++ ([D, I] ++ X) := List.mem_append_right _ (List.mem_append_left _ List.mem_cons_self)
  have mI : I ∈ cOwn scope C ++ ([D, I] ++ X) := List.mem_append_right _ (List.mem_append_left _ (List.mem_cons_of_mem _ List.mem_cons_self))
  have mX : ∀ a ∈ X, a ∈ cOwn scope C ++ ([D, I] ++ X) := fun a ha => List.mem_append_right _ (List.mem_append_right _ ha)
  have st1 : Sta 0 h₁ := W.frame _ _ _ st fun b _ o e => up b o (up2 b o e)
  have loop : codeAny (model prog w) A (.compLoop (.ListComp elt [⟨.Name x px, iter, ifs, 0⟩] scope pos) 0 (.ref I) (.ref D) (cEnv scope (clo scope env) C env)) (RR (.ref D) C) { s₂ with heap := h₁ } := by
    refine compLoop (xs := xs) (X := cOwn scope C ++ ([D, I] ++ X)) (O := cOwn scope C) (ρ := restr scope ρ) p F W hz st1 hIo f ?_ ?_ mI mD offI offD (noI D noneD) (noF D noneD) hDO (fun h => noI I (hO I h) rfl) (fun a ha => noF a (hO a ha)) ?_ ⟨0, up _ _ hD2⟩ (tests C) (helt C) ?_
    · unfold restr
      rcases hx with h | h <;> rw [h] <;> rfl
    · rcases hx with h | h
      · exact .inl ⟨cEnv_kind_ne h (by decide), List.mem_cons_self⟩
      · refine .inr ⟨cEnv_kind_ne h (by decide), ?_⟩
        obtain ⟨c, hc'⟩ := cellsFrom_has scope.names (C + 1) (mem_of_lookup' h)
        exact ⟨c, by rw [k.look, hc']; rfl, List.mem_cons_of_mem _ (List.mem_map.mpr ⟨_, mem_of_lookup' hc', rfl⟩)⟩
    · intro i v hi hv
      obtain ⟨t, ht, hr⟩ := hP i v hi hv
      refine ⟨t, ht, hr.mono fun a o e => ?_⟩
      obtain ⟨hx', ho⟩ := hid_some e
      refine hid_of (fun hm => ?_) (up _ _ (up2 _ _ ho))
      rcases List.mem_append.mp hm with hm | hm
      · rw [hO a hm] at ho; cases ho
      · rcases List.mem_append.mp hm with hm | hm
        · rcases List.mem_cons.mp hm with rfl | hm
          · rw [noneD] at ho; cases ho
          · exact hx' (List.mem_singleton.mp hm ▸ List.mem_cons_self)
        · exact hx' (List.mem_cons_of_mem _ hm)
    · intro s' ys hm hl hr kk
      have kk' : Kp s s' := by
        obtain ⟨⟨h', t', rfl⟩, kb⟩ := kk
        obtain ⟨⟨h2', t2', e2⟩, _⟩ := k2
        refine ⟨⟨h', t', by rw [e2]⟩, fun b o e => kb b o (fun hm => ?_) (ups b o e)⟩
        have hnone : s.heap.get? b = none := by
          rcases List.mem_cons.mp hm with rfl | hm
          · exact nos _ noneD
          · rcases List.mem_cons.mp hm with rfl | hm
            · exact hIs
            · exact nos _ (hO b hm)
        rw [hnone] at e; cases e
      refine hRR D C s' ys (noX D noneD) (noX C noneC) (nos D noneD) (nos C noneC) (Nat.ne_of_lt (by omega)) hm hl (hr.mono (hid_less fun a ha => ?_)) (by obtain ⟨m, o, _, _, e, _⟩ := hm; exact ⟨o, e⟩) kk'
      rcases List.mem_cons.mp ha with rfl | ha
      · exact List.mem_append_left _ List.mem_cons_self
      · exact mX a ha
  exact codeAny_compStart_list loop (W.self 0 _ _ _ st1 loop)

theorem Ev.comp {elt iter : PySem.Expr} {x : Str} {px : Pos} {ifs : List PySem.Expr} {scope : Scope} {pos : Pos} {xs : List T} (p : T → Bool) (F : T → T) (hi : ItT prog w G A env ρ iter xs) (k : CompOK scope env)
    (hx : scope.names.lookup x = some .local ∨ scope.names.lookup x = some .cell) (hz : xs.length ≤ 1000)
    (tests : ∀ C, ∀ t ∈ xs, Tests prog w G A (cEnv scope (clo scope env) C env) (upd (restr scope ρ) x t) ifs (p t)) (helt : ∀ C, ∀ t ∈ xs, p t = true → Ev prog w G A (cEnv scope (clo scope env) C env) (upd (restr scope ρ) x t) elt (F t))
    (hs : ∀ x, foldedSetIterable iter env x = pure x := by intro _; rfl) : Ev prog w G A env ρ (.ListComp elt [⟨.Name x px, iter, ifs, 0⟩] scope pos) (.lst ((xs.filter p).map F)) := fun X s b r => by
  rw [eval_ListComp]
  refine wpAny_comprehension_free (use := none) rfl hs (closureFor_clo k.free) k.kind (fun y hy hl => by rw [k.at hy, hl]) (wpAny_mono (hi X s b r) (fun v s₁ h₁ => wpAny_mono h₁ (fun it s₂ h₂ => ?_) fun _ _ q => q) fun _ _ q => q)
  obtain ⟨I, fp, P, Sta, rfl, W, st, hIX, hI, hIo, hfp, hP, k2⟩ := h₂
  refine compBlock p F k hx W hz st hIo b r hIX hI hfp hP k2 tests helt fun D C s' ys hDX hCX hD hC hDC hm hl hr _ kk => ?_
  obtain ⟨m, hm⟩ := hm
  refine ⟨m, hm, fun h' hs' => ?_⟩
  have up : ∀ b o, b ≠ C → s'.heap.get? b = some o → h'.get? b = some o := fun b o n e => hs'.extBut b o n e
  obtain ⟨n, hn⟩ := hl
  refine ⟨rep_lst.mpr ⟨D, n, ys, rfl, hid_of hDX (up _ _ hDC hn), hr.mono fun a o e => ?_⟩, ?_⟩
  · obtain ⟨h1, h2⟩ := hid_some e
    exact hid_of (fun q => h1 (List.mem_cons_of_mem _ q)) (up _ _ (fun q => h1 (q ▸ List.mem_cons_self)) h2)
  · obtain ⟨⟨h2, t2, rfl⟩, kb⟩ := kk
    exact ⟨⟨_, _, rfl⟩, fun b o e => up b o (fun q => by rw [q, hC] at e; cases e) (kb b o e)⟩

theorem St_comp {y : Str} {py : Pos} {spos : Pos} {elt iter : PySem.Expr} {x : Str} {px : Pos} {ifs : List PySem.Expr} {scope : Scope} {pos : Pos} {xs : List T} (p : T → Bool) (F : T → T) (hi : ItT prog w G A env ρ iter xs) (k : CompOK scope env)
    (hx : scope.names.lookup x = some .local ∨ scope.names.lookup x = some .cell) (hz : xs.length ≤ 1000)
    (tests : ∀ C, ∀ t ∈ xs, Tests prog w G A (cEnv scope (clo scope env) C env) (upd (restr scope ρ) x t) ifs (p t)) (helt : ∀ C, ∀ t ∈ xs, p t = true → Ev prog w G A (cEnv scope (clo scope env) C env) (upd (restr scope ρ) x t) elt (F t))
    (hk : KindOk env y) (hsw : swapsWith (.ListComp elt [⟨.Name x px, iter, ifs, 0⟩] scope pos) (some (.Name y py)) spos.line env = pure true := by rfl)
    (hs : ∀ x, foldedSetIterable iter env x = pure x := by intro _; rfl) : St prog w G A env ρ (.Assign [.Name y py] (.ListComp elt [⟨.Name x px, iter, ifs, 0⟩] scope pos) spos) (upd ρ y (.lst ((xs.filter p).map F))) := fun X s f => by
  rw [exec_Assign_Name_used _ _ _ _ hsw]
  refine wpAny_bind (wpAny_standAt (wpAny_bind ?_))
  show wpAny _ A (do let _ ← comprehension (.ListComp elt [⟨.Name x px, iter, ifs, 0⟩] scope pos) scope env _ (newList []) false (eval iter env) (some (assign (PySem.Expr.Name y py) env))) _ _ s
  refine wpAny_bind (wpAny_mono (wpAny_comprehension_free (use := some (assign (.Name y py) env)) (Q := fun _ s' => FrR G env (ownOf env) (upd ρ y (.lst ((xs.filter p).map F))) X s' ∧ KpX (ownOf env) s s') rfl hs (closureFor_clo k.free) k.kind
    (fun y hy hl => by rw [k.at hy, hl]) (wpAny_mono (hi X s f.bd f.r) (fun v s₁ h₁ => wpAny_mono h₁ (fun it s₂ h₂ => ?_) fun _ _ q => q) fun _ _ q => q)) (fun _ s' hq => wpAny_pure (wpAny_pure ⟨rfl, hq⟩)) fun _ _ e => e)
  obtain ⟨I, fp, P, Sta, rfl, W, st, hIX, hI, hIo, hfp, hP, k2⟩ := h₂
  refine compBlock (RR := fun acc C => compPost (model prog w) A NoE (some (assign (PySem.Expr.Name y py) env)) (fun _ s' => FrR G env (ownOf env) (upd ρ y (.lst ((xs.filter p).map F))) X s' ∧ KpX (ownOf env) s s') acc C) p F k hx W hz st hIo f.bd f.r hIX hI hfp hP k2 tests helt fun D C s' ys hDX hCX hD hC hDC hm hl hr ho kk => ?_
  obtain ⟨m, hm⟩ := hm
  show wpAny _ A (assign (.Name y py) env (.ref D)) _ _ _
  have f' := f.hide kk hC ho
  obtain ⟨n, hn⟩ := hl
  refine wpAny_assign_Name (f'.store (t := .lst ((xs.filter p).map F)) (rep_lst.mpr ⟨D, n, ys, rfl, hid_of (fun q => (List.mem_cons.mp q).elim hDC hDX) hn, hr⟩) hk.own fun s'' f'' k'' => ?_)
  have hCo : C ∉ ownOf env := fun q => hCX (f.own C q)
  refine ⟨m, ?_, fun h' hs' => ?_⟩
  · obtain ⟨o, es, ep, e, q⟩ := hm
    exact ⟨o, es, ep, k''.keep C o hCo e, q⟩
  · have up : ∀ b o, b ∉ ([C] : List Addr) → s''.heap.get? b = some o → h'.get? b = some o := fun b o n e => hs'.extBut b o (by simpa using n) e
    refine ⟨f''.drop hCX f.own (f.r.fresh hC) up, ?_⟩
    obtain ⟨⟨h2, t2, rfl⟩, kb⟩ := kk
    obtain ⟨⟨h3, t3, rfl⟩, kc⟩ := k''
    exact ⟨⟨_, _, rfl⟩, fun b o n e => up b o (fun q => by rw [List.mem_singleton.mp q, hC] at e; cases e) (kc b o n (kb b o e))⟩
end
end Mine
end
section
open PySem PySem.W PyProof.Rows PySem.Calls
set_option maxRecDepth 100000
set_option linter.unusedVariables false
namespace Mine
noncomputable def updL (ρ : Bnd) : List Str → List T → Bnd
  | n :: ns, x :: xs => updL (upd ρ n x) ns xs
  | _, _ => ρ
noncomputable def none0 : Bnd := fun _ => none

section
variable {prog : Program} {w : World} {G : Glb} {A : Around} {env : Env} {ρ ρ' : Bnd}

theorem bindAll {M : Model} {A : Around} {E : Value → Shared → Prop} (f : Str × Value → PUnit → Sem (ForInStep PUnit)) (hf : ∀ n v u, f (n, v) u = (do storeName env n v; pure (.yield ⟨⟩))) {X : List Addr} :
    ∀ (names : List Str) (xs : List T) (vs : List Value) (ρ : Bnd) (s : Shared) (Q : PUnit → Shared → Prop), FrR G env (ownOf env) ρ X s → RepL (hid s.heap X) xs vs → (∀ n ∈ names, KindOk env n) → names.length = xs.length →
      (∀ s', FrR G env (ownOf env) (updL ρ names xs) X s' → KpX (ownOf env) s s' → Q ⟨⟩ s') → wpAny M A (forIn (names.zip vs) ⟨⟩ f) Q E s
  := by
  intro names
  induction names with
  | nil =>
    intro xs vs ρ s Q fr h _ hl hQ
    cases xs with
    | nil => rw [repL_nil.mp h]; exact wpAny_pure (hQ s fr (.refl s))
    | cons => simp at hl
  | cons n ns ih =>
    intro xs vs ρ s Q fr h hk hl hQ
    cases xs with
    | nil => simp at hl
    | cons x xs =>
      obtain ⟨v, r, rfl, h1, h2⟩ := repL_cons.mp h
      rw [List.zip_cons_cons, List.forIn_cons, hf]
      refine wpAny_bind (wpAny_bind (fr.store h1 (hk n List.mem_cons_self).own fun s₁ f₁ k₁ => wpAny_pure ?_))
      exact ih xs r _ s₁ Q f₁ (h2.kpx k₁ fr.own) (fun m hm => hk m (List.mem_cons_of_mem _ hm)) (by simpa using hl) fun s' f' k' => hQ s' f' (k₁.trans k')

/-- the frame that a call enters -/
theorem FrR.call {s : Shared} {h₁ : Heap} {L : Addr} {env : Env} {names : List (Str × NameKind)} {X : List Addr} (b : Bd X s.heap) (tp : TopX G X s.heap) (hL : s.heap.objs.size ≤ L) (up : ∀ b o, s.heap.get? b = some o → h₁.get? b = some o) (tk : Nat)
    (hn : h₁.Ns L fun _ => none) (hc : CellsOk h₁ (L + 1) (cellsFrom (L + 1) names []))
    (ek : env.scope.kind = .function) (eg : env.globals = mainGlobals) (eb : env.builtins = builtinsNs) (el : env.locals = L) (ec : env.cells = cellsFrom (L + 1) names []) :
    FrR G env (ownOf env) none0 (ownOf env ++ X) { s with heap := h₁, toks := tk } := by
  have fresh : ∀ a, s.heap.objs.size ≤ a → s.heap.get? a = none := fun a ha => Heap.get?_none_of_le ha
  have hO : ∀ a ∈ ownOf env, s.heap.get? a = none := fun a ha => by
    rcases ownOf_mem ha with rfl | ⟨y, hm, _⟩
    · exact fresh _ (el ▸ hL)
    · rw [ec] at hm
      exact fresh _ (Nat.le_trans hL (Nat.le_trans (Nat.le_succ _) (hc.empty y a (mem_of_lookup' hm)).2))
  refine ⟨⟨ek, eg, eb, (fun y t e => by cases e), ⟨_, el ▸ hn, (fun y t e => by cases e)⟩, (fun y t e => by cases e), (tp.more fun y hy => .inr (hO y hy)).keeps up, fun y c e => ?_, fun y y' c e e' => ?_⟩, fun a ha => ?_, fun a ha => List.mem_append_left _ ha⟩
  · rw [ec] at e; exact ⟨none, (hc.empty y c (mem_of_lookup' e)).1⟩
  · rw [ec] at e e'; exact name_of_addr hc.apart (mem_of_lookup' e) (mem_of_lookup' e')
  · rcases List.mem_append.mp ha with ha | ha
    · rcases ownOf_mem ha with rfl | ⟨y, hm, _⟩
      · obtain ⟨o, _, _, e, _⟩ := hn; exact ⟨o, el ▸ e⟩
      · rw [ec] at hm
        obtain ⟨o, e, _⟩ := (hc.empty y a (mem_of_lookup' hm)).1
        exact ⟨o, e⟩
    · exact b.keeps up a ha

theorem newEnv_call {M : Model} {A : Around} {E : Value → Shared → Prop} {s : Shared} {fd : FuncData} {a : Addr} {names : List Str} {xs : List T} {vs : List Value} {X : List Addr} {Q : Env → Shared → Prop} (b : Bd X s.heap) (tp : TopX G X s.heap)
    (hk : fd.scope.kind = .function) (hg : fd.globals = mainGlobals) (hb : fd.builtins = builtinsNs) (hv : RepL (hid s.heap X) xs vs) (hl : names.length = xs.length) (hkind : ∀ L, ∀ n ∈ names, KindOk (callEnvC fd L a) n)
    (h : ∀ L s', FrR G (callEnvC fd L a) (ownOf (callEnvC fd L a)) (updL none0 names xs) (ownOf (callEnvC fd L a) ++ X) s' → Kp s s' → (∀ a' ∈ ownOf (callEnvC fd L a), s.heap.get? a' = none) → Q (callEnvC fd L a) s') :
    wpAny M A (newFunctionEnv fd.scope fd.globals [] (names.zip vs) (fd.qualname ++ ".<locals>.") (some a) fd.code none fd.builtins) Q E s := by
  simp only [newFunctionEnv, Option.isSome_none, Bool.false_eq_true, if_false]
  refine wpAny_bind (wpAny_alloc ?_)
  refine wpAny_bind (wpAny_layCells _ (fun name kind cells => by cases hkc : kind == NameKind.cell <;> simp) _ _ _ _ ?_)
  have ok := cellsFrom_ok fd.scope.names (s.heap.push { cls := .type "frame", data := .dict #[] }) (s.heap.objs.size + 1) [] ⟨fun _ _ hm => (nomatch hm), List.Pairwise.nil⟩ (by rw [Heap.size_push]; exact Nat.le_refl _)
  rw [Heap.size_push] at ok
  rw [show ({ s with heap := s.heap.push { cls := .type "frame", data := .dict #[] } } : Shared).heap.objs.size = s.heap.objs.size + 1 from Heap.size_push ..]
  generalize hL : s.heap.objs.size = L at ok ⊢
  have up : ∀ b o, s.heap.get? b = some o → (pushCells (s.heap.push { cls := .type "frame", data := .dict #[] }) fd.scope.names).get? b = some o := fun b o e => pushCells_keeps _ _ b o (Heap.get?_push_of_some _ e)
  have hns : (pushCells (s.heap.push { cls := .type "frame", data := .dict #[] }) fd.scope.names).Ns L fun _ => none := hL ▸ (Heap.Ns.new s.heap (.type "frame")).keeps (pushCells_keeps _ _)
  have fr : FrR G (callEnvC fd L a) (ownOf (callEnvC fd L a)) none0 (ownOf (callEnvC fd L a) ++ X) { s with heap := pushCells (s.heap.push { cls := .type "frame", data := .dict #[] }) fd.scope.names } :=
    FrR.call b tp (Nat.le_of_eq hL) up s.toks hns ok hk hg hb rfl rfl
  have hO : ∀ a' ∈ ownOf (callEnvC fd L a), s.heap.get? a' = none := fun a' ha => by
    rcases ownOf_mem ha with rfl | ⟨y, hm, _⟩
    · exact Heap.get?_none_of_le (Nat.le_of_eq hL)
    · have := (ok.empty y a' (mem_of_lookup' hm)).2
      exact Heap.get?_none_of_le (by omega)
  refine wpAny_bind (bindAll (env := callEnvC fd L a) (xs := xs) _ (fun _ _ _ => rfl) names vs none0 _ _ fr (hv.mono (hid_more (fun b o _ e => up b o e) fun y hy => .inr (hO y hy))) (hkind L) hl fun s' f' k' => wpAny_pure ?_)
  refine h L s' f' ?_ hO
  obtain ⟨⟨h', t', rfl⟩, kb⟩ := k'
  exact ⟨⟨_, _, rfl⟩, fun b o e => kb b o (fun q => by rw [hO b q] at e; cases e) (up b o e)⟩

theorem CallT.def {a : Addr} {o oc : Obj} {fd : FuncData} {body : List Stmt} {names : List Str} {xs : List T} {y : T} {c : Addr} {fs : Array Value} {t : Tok} (ho : G.K.lookup a = some o) (hd : o.data = .func fd)
    (hcode : fd.code = .ref c) (hoc : G.K.lookup c = some oc) (hdc : oc.data = .fields fs) (hq : fs[1]? = some (.str fd.qualname t))
    (hst : fd.body = .stmts body) (hroom : A.depth < recursionLimit) (hclo : fd.closure = []) (hbind : ∀ vs, vs.length = names.length → bindArgs fd ⟨vs, []⟩ = pure (names.zip vs)) (hl : names.length = xs.length)
    (hkind : ∀ L, ∀ n ∈ names, KindOk (callEnvC fd L a) n) (hg : fd.globals = mainGlobals) (hb : fd.builtins = builtinsNs)
    (h : ∀ L, Bdy prog w G (A.deeper (callEnvC fd L a)) (callEnvC fd L a) (updL none0 names xs) body y)
    (hco : fd.scope.isCoroutine = false := by rfl) (hgen : fd.scope.isGenerator = false := by rfl) (hk : fd.scope.kind = .function := by rfl) : CallT prog w G A (.ref a) xs y := fun X s vs b tp hv => by
  have ok := tp.ok
  have hcd : s.heap.CodeRec fd.code fd.qualname := ⟨c, oc, fs, t, hcode, ok.k c oc hoc, hdc, hq⟩
  refine wpAny_call (codeAny_call_function hroom (ok.k a o ho) hd hco hgen hst hcd ?_)
  rw [hbind vs (hv.length.trans hl.symm), hclo]
  refine wpAny_pure (newEnv_call (names := names) (xs := xs) b tp hk hg hb hv hl hkind fun L s' f k hO => ⟨ok.nolim.keeps k.keep, codeAny_func (wpAny_mono (h L _ s' f) (fun fl s'' ⟨v, e, hr, k'⟩ => ?_) fun _ _ q => q.elim)⟩)
  subst e
  refine ⟨hr.mono (hid_less fun a ha => List.mem_append_right _ ha), ?_⟩
  obtain ⟨⟨h1, t1, rfl⟩, kb⟩ := k
  obtain ⟨⟨h2, t2, rfl⟩, kc⟩ := k'
  exact ⟨⟨_, _, rfl⟩, fun b o e => kc b o (fun q => by rw [hO b q] at e; cases e) (kb b o e)⟩
end
end Mine
end
section
open PySem PySem.W PyProof.Rows PySem.Calls
set_option maxRecDepth 100000
set_option linter.unusedVariables false
namespace Mine
section
variable {prog : Program} {w : World} {G : Glb} {A : Around} {env : Env} {ρ ρ' : Bnd}

noncomputable def BigK (G : Glb) : Prop := ∃ a o, G.K.lookup a = some o ∧ sysModules ≤ a
theorem TopOK.big {G : Glb} {h : Heap} (t : TopOK G h) (b : BigK G) : (h.objs.size == sysModules) = false := by
  obtain ⟨a, o, e, hl⟩ := b
  have := Heap.lt_size (t.k a o e)
  have h2 : h.objs.size ≠ sysModules := Nat.ne_of_gt (Nat.lt_of_le_of_lt hl this)
  simpa using h2
theorem Ev.dict0 {pos : Pos} (hb : BigK G) : Ev prog w G A env ρ (.Dict [] [] pos) .emp := fun X s b r =>
  wpAny_Dict_empty ⟨rep_emp.mpr ⟨_, 0, rfl, rep_new b _ rfl, r.top.ok.big hb⟩, keeps_push s _ _⟩

theorem assignNames {M : Model} {A : Around} {E : Value → Shared → Prop} {X : List Addr} : ∀ (names : List Str) (ps : List Pos) (xs : List T) (vs : List Value) (ρ : Bnd) (s : Shared) (Q : Unit → Shared → Prop), FrR G env (ownOf env) ρ X s → RepL (hid s.heap X) xs vs → (∀ n ∈ names, KindOk env n) →
    names.length = xs.length → ps.length = names.length → (∀ s', FrR G env (ownOf env) (updL ρ names xs) X s' → KpX (ownOf env) s s' → Q () s') →
    wpAny M A (assignInOrder ((names.zip ps).map fun p => PySem.assign (.Name p.1 p.2) env) vs) Q E s := by
  intro names
  induction names with
  | nil =>
    intro ps xs vs ρ s Q fr h _ hl _ hQ
    cases xs with
    | nil => exact assignInOrder_nil (hQ s fr (.refl s))
    | cons => simp at hl
  | cons n ns ih =>
    intro ps xs vs ρ s Q fr h hk hl hp hQ
    cases xs with
    | nil => simp at hl
    | cons x xs =>
      cases ps with
      | nil => simp at hp
      | cons p ps =>
        obtain ⟨v, r, rfl, h1, h2⟩ := repL_cons.mp h
        rw [List.zip_cons_cons, List.map_cons]
        refine assignInOrder_cons (wpAny_assign_Name (fr.store h1 (hk n List.mem_cons_self).own fun s₁ f₁ k₁ => ?_))
        exact ih ps xs r _ s₁ Q f₁ (h2.kpx k₁ fr.own) (fun m hm => hk m (List.mem_cons_of_mem _ hm)) (by simpa using hl) (by simpa using hp) fun s' f' k' => hQ s' f' (k₁.trans k')

theorem St.unpack {es : List PySem.Expr} {names : List Str} {k : Nat} {tpos pos : Pos} {value : PySem.Expr} {xs : List T} (h : Ev prog w G A env ρ value (.tup xs)) (hh : A.handled = none) (hk : ∀ n ∈ names, KindOk env n) (hl : names.length = xs.length)
    (hes : ∃ ps : List Pos, es = ((names.zip ps).map fun p => .Name p.1 p.2) ∧ ps.length = names.length)
    (hs : swapsWithSole [.Tuple es k tpos] value pos.line env = pure false := by rfl)
    (hw : swappedStores [.Tuple es k tpos] value env = pure none := by rfl) : St prog w G A env ρ (.Assign [.Tuple es k tpos] value pos) (updL ρ names xs) := fun X s f => by
  refine Assign_Tuple (h.use f.bd f.r fun v s₁ h1 k1 b1 r1 => ?_) hs hw
  obtain ⟨a, n, vs, rfl, ha, hv⟩ := rep_tup.mp h1
  obtain ⟨ps, rfl, hp⟩ := hes
  have hea : assignEach ((names.zip ps).map fun p => PySem.Expr.Name p.1 p.2) env = (names.zip ps).map fun p => (false, PySem.assign (.Name p.1 p.2) env) := by
    generalize names.zip ps = l
    induction l with
    | nil => rfl
    | cons x r ih => rw [List.map_cons, List.map_cons, ← ih]; rfl
  refine wpAny_assign_Tuple hh (items := vs.toArray) ⟨_, (hid_some ha).2, rfl, n, rfl⟩ ?_ ?_ fun h' hx => ?_
  · rw [hea, List.length_map, List.size_toArray, hv.length, ← hl, List.length_zip, hp, Nat.min_self]
  · rw [hea]
    generalize names.zip ps = l
    rw [List.findIdx?_eq_none_iff]
    intro x hx
    obtain ⟨y, _, rfl⟩ := List.mem_map.mp hx
    rfl
  · have up : ∀ b o, s₁.heap.get? b = some o → h'.get? b = some o := fun b o e => hx b o (Nat.ne_of_lt (Heap.lt_size e)) e
    have k2 : Kp s₁ { s₁ with heap := h' } := ⟨⟨_, _, rfl⟩, up⟩
    rw [hea, List.map_map]
    exact assignNames names ps xs vs ρ { s₁ with heap := h' } _ ((f.kp k1).kp k2) (hv.mono (hid_keeps up)) hk hl hp fun s' f' k' => ⟨rfl, f', (k1.x.trans k2.x).trans k'⟩

/-- a loop over the items of an empty dict -/
theorem St.forItems0 {d : Str} {dp ap cp pos tpos : Pos} {es : List PySem.Expr} {k : Nat} {body : List Stmt} {pl : Sem Bool} (h : ρ d = some .emp) (hh : A.handled = none) (hd : (d == ("__debug__" : Str)) = false := by decide) (hc : (d == ("__classdict__" : Str)) = false := by decide)
    (he : eval (.Call (.Attribute (.Name d dp) (Str.ofString "items") ap) [] [] cp) env = (do
      let ov ← eval (.Name d dp) env
      standAt ap.atName
      let (f, first) ← holding [ov] (getMethod ov (Str.ofString "items") pl)
      callWith cp f first (backTo cp (starEach [] env)) []) := by rfl)
    (hs : ∀ x, foldedSetIterable (.Call (.Attribute (.Name d dp) (Str.ofString "items") ap) [] [] cp) env x = pure x := by intro _; rfl) :
    St prog w G A env ρ (.For (.Tuple es k tpos) (.Call (.Attribute (.Name d dp) (Str.ofString "items") ap) [] [] cp) body [] pos) ρ := fun X s f => by
  refine wpAny_For (MethodCall_ ((Ev.name (ρ := ρ) (x := d) h hd hc).use f.bd f.r fun v s₁ h1 k1 b1 r1 => ?_) he) hs
  obtain ⟨a, n, rfl, ha, hsys⟩ := rep_emp.mp h1
  have ha' := (hid_some ha).2
  have hT : s₁.TypeIs (.ref a) "dict" := ⟨_, ha', rfl⟩
  have hD : ∀ g : Heap, g.get? a = some (empO n) → g.DictAt (intKind prog w) a [] n := fun g hg => ⟨_, #[], hg, ⟨rfl, rfl, rfl⟩, rfl, fun _ he => by simp at he, Pairs.nil, List.nodup_nil⟩
  refine getMethod_builtin hT PySem.F.plainAttrs_dict PySem.F.slot_dict_items PySem.F.type_dict_items (fun b e => by cases e; exact ⟨_, ha', rfl⟩) (callWith_method0 ?_)
  refine call_meetsIn PySem.F.slot_dict_items hT PySem.F.entry_dict_items (PySem.F.args_dict_items_1 _) (meets_dict_items (intKind prog w) a hsys) ⟨⟨[], _, #[], n, ha', ⟨rfl, rfl, rfl⟩, rfl, fun _ he => by simp at he, Pairs.nil, List.nodup_nil⟩, ?_⟩
  generalize hg : s₁.heap.push { cls := .type "dict_items", data := .fields #[.ref a] } = g
  have kg : ∀ b o, s₁.heap.get? b = some o → g.get? b = some o := fun b o e => hg ▸ Heap.get?_push_of_some _ e
  have hv : g.IsItemsView s₁.heap.objs.size a := ⟨_, hg ▸ Heap.get?_push_size _ rfl, rfl, rfl⟩
  refine wpAny_pyIter_items (s := { s₁ with heap := g }) hv (hD g (kg _ _ ha')) ?_
  dsimp only
  generalize hi : g.push { cls := .type "dict_itemiterator", data := .fields #[.none, .bool false, .ref a, .int 0 0, .int ([] : List (Int × Value)).length 0, .int n 0, .none, .none] } = g2
  have kg2 : ∀ b o, s₁.heap.get? b = some o → g2.get? b = some o := fun b o e => hi ▸ Heap.get?_push_of_some _ (kg b o e)
  have hit : IsItemIter g2 g.objs.size a 0 ([] : List (Int × Value)).length n .none .none := hi ▸ Heap.get?_push_size _ rfl
  refine codeAny_forLoop_any (fun k s' => s' = { s₁ with heap := g2 }) ?_ 0 rfl
  rintro k s' rfl
  refine wpAny_pyNext_items_end (knd := intKind prog w) hh hit (hD g2 (kg2 _ _ ha')) rfl fun h' hx => wpAny_execs_nil ?_
  have k3 : Kp s₁ { s₁ with heap := h' } := ⟨⟨_, _, rfl⟩, fun b o e => hx b o (fun q => by
    have := Heap.lt_size e
    have h2 : s₁.heap.objs.size < g.objs.size := by rw [← hg, Heap.size_push]; omega
    rw [q] at this
    exact Nat.lt_irrefl _ (Nat.lt_trans this h2)) (kg2 b o e)⟩
  exact ⟨rfl, (f.kp k1).kp k3, (k1.trans k3).x⟩
end
end Mine
namespace Mine
section
variable {prog : Program} {w : World} {G : Glb} {A : Around}
theorem kindAll {fd : FuncData} {a : Addr} {names : List Str} (h : (names.all fun n => fd.scope.names.lookup n == some .local || fd.scope.names.lookup n == some .cell) = true) (L : Addr) : ∀ n ∈ names, KindOk (callEnvC fd L a) n := fun n hn => by
  have := List.all_eq_true.mp h n hn
  rcases Bool.or_eq_true_iff.mp this with h1 | h1
  · exact .inl (beq_iff_eq.mp h1)
  · have h2 := beq_iff_eq.mp h1
    obtain ⟨c, hc⟩ := cellsFrom_has fd.scope.names (L + 1) (acc := []) (mem_of_lookup' h2)
    exact .inr ⟨h2, Option.isSome_iff_exists.mpr ⟨c, hc⟩⟩
/-- a def of the top, called -/
theorem CallT.top {a c : Addr} {o oc : Obj} {fd : FuncData} {fs : Array Value} {t : Tok} (body : List Stmt) (names : List Str) {xs : List T} {y : T} (ho : G.K.lookup a = some o) (hd : o.data = .func fd)
    (hcode : fd.code = .ref c) (hoc : G.K.lookup c = some oc) (hdc : oc.data = .fields fs) (hq : fs[1]? = some (.str fd.qualname t))
    (hst : fd.body = .stmts body) (hroom : A.depth < recursionLimit) (hclo : fd.closure = []) (hbind : ∀ vs, vs.length = names.length → bindArgs fd ⟨vs, []⟩ = pure (names.zip vs)) (hl : names.length = xs.length)
    (hkind : (names.all fun n => fd.scope.names.lookup n == some .local || fd.scope.names.lookup n == some .cell) = true) (hg : fd.globals = mainGlobals) (hb : fd.builtins = builtinsNs)
    (hco : fd.scope.isCoroutine = false) (hgen : fd.scope.isGenerator = false) (hk : fd.scope.kind = .function) 
    (h : ∀ L, Bdy prog w G (A.deeper (callEnvC fd L a)) (callEnvC fd L a) (updL none0 names xs) body y) : CallT prog w G A (.ref a) xs y :=
  CallT.def ho hd hcode hoc hdc hq hst hroom hclo hbind hl (kindAll hkind) hg hb h hco hgen hk
end
end Mine
end
section
open PySem PySem.W PyProof.Rows PySem.Calls
set_option maxRecDepth 100000
set_option linter.unusedVariables false
namespace Mine
section
variable {prog : Program} {w : World} {G : Glb} {A : Around} {env : Env} {ρ ρ' : Bnd} {E : Value → Shared → Prop} {s : Shared}

theorem sliceTo2 {sl : Addr} {n : Nat} {u : Tok} {Q : Int × Int × Nat → Shared → Prop} (hs : s.heap.IsSliceOf sl .none (.int 2 u) .none) (hn : 2 < n) (h : Q (0, 1, 2) s) :
    wpAny (model prog w) A (Builtin.Slice.sliceApplied (.ref sl) (pure (n : Int))) Q E s := by
  obtain ⟨os, hos, hcs, hds⟩ := id hs
  unfold Builtin.Slice.sliceApplied Builtin.Slice.sliceFields
  refine wpAny_bind (wpAny_bind (wpAny_field hos hds (x := .none) rfl (wpAny_bind (wpAny_field hos hds (x := .int 2 u) rfl (wpAny_bind (wpAny_field hos hds (x := .none) rfl (wpAny_pure ?_)))))))
  refine wpAny_bind (slicePart_none ?_)
  show wpAny _ _ (if ((1 : Int) == 0) = true then _ else _) _ _ s
  rw [if_neg (by decide)]
  refine wpAny_bind (slicePart_none (wpAny_bind (slicePart_int (wpAny_bind (wpAny_pure ?_)))))
  show wpAny _ _ (match Builtin.Slice.sliceAdjust none (some 2) 1 (n : Int) with | (lo, hi) => pure (lo, (1 : Int), Builtin.Slice.slicePlaces lo hi 1)) _ _ s
  have e : Builtin.Slice.sliceAdjust none (some 2) 1 (n : Int) = (0, 2) := by
    unfold Builtin.Slice.sliceAdjust
    simp only [show ¬ ((1 : Int) < 0) by omega, show ¬ ((2 : Int) < 0) by omega, if_false]
    congr 1
    omega
  rw [e]
  exact wpAny_pure h
theorem getTo2 {t sl : Addr} {items : Array Value} {u : Tok} {Q : Value → Shared → Prop} (ht : IsTup s.heap t items) (hs : s.heap.IsSliceOf sl .none (.int 2 u) .none) (hn : 2 < items.size)
    (h : Q (.ref s.heap.objs.size) { s with heap := s.heap.push { cls := .type "tuple", data := .seq (items.toList.take 2).toArray } }) : wpAny (model prog w) A (getItem (.ref t) (.ref sl)) Q E s := by
  have hsz : sizeOk (.seq (items.toList.take 2).toArray) := by
    show (items.toList.take 2).toArray.size ≤ sizeLine
    rw [List.size_toArray, List.length_take, sizeLine_eq]
    omega
  obtain ⟨os, hos, hcs, hds⟩ := id hs
  have hTs : s.TypeIs (.ref sl) "slice" := ⟨os, hos, hcs⟩
  unfold getItem
  try with_reducible refine wpAny_holding ?_
  first | refine wpAny_bind (wpAny_pure ?_) | skip
  refine wpAny_bind (wpAny_sequenceKey ht.typeIs (by decide) ?_)
  refine wpAny_bind (wpAny_callSpecial?_slot (name := Str.ofString "__getitem__") ht.typeIs slot_tuple_getitem
    (wpAny_call_entry slot_tuple_getitem ht.typeIs entry_tuple_getitem ?_ (args_tuple_getitem _ _)))
  show wpAny _ _ (Builtin.Tuple.tupleItemsOf (.ref t) >>= _) _ _ s
  refine wpAny_bind (tupleItemsOf_ ht ?_)
  refine wpAny_bind (wpAny_typeOf hTs ?_)
  rw [if_pos (by decide)]
  refine wpAny_bind (sliceTo2 hs hn ?_)
  have hno : ¬ (((0 : Int) == 0 && (1 : Int) == 1 && (2 : Nat) == items.size) = true) := by
    have : ((2 : Nat) == items.size) = false := by rw [beq_eq_false_iff_ne]; omega
    rw [this]; simp
  show wpAny _ _ (if ((0 : Int) == 0 && (1 : Int) == 1 && (2 : Nat) == items.size) = true then _ else _) _ _ s
  rw [if_neg hno]
  have e : ((List.range 2).filterMap fun (k : Nat) => items[((0 : Int) + (k : Int) * 1).toNat]?).toArray = (items.toList.take 2).toArray := by
    have e1 : (fun (k : Nat) => items[((0 : Int) + (k : Int) * 1).toNat]?) = fun k => items[0 + k]? := by
      funext k
      have : ((0 : Int) + (k : Int) * 1).toNat = 0 + k := by omega
      rw [this]
    rw [e1]
    have := pick_run items 0 2
    rw [List.filterMap_map] at this
    exact congrArg List.toArray this
  rw [e]
  exact wpAny_bind (m := Builtin.Tuple.tupleExact _) (wpAny_newObj_type (wpAny_pure ⟨_, rfl, wpAny_pure h⟩) hsz)

theorem RepL.take {g : View} : ∀ (n : Nat) {xs : List T} {vs : List Value}, RepL g xs vs → RepL g (xs.take n) (vs.take n)
  | 0, _, _, _ => repL_nil.mpr (by simp)
  | n + 1, [], _, h => by rw [repL_nil.mp h]; exact repL_nil.mpr (by simp)
  | n + 1, x :: xs, _, h => by
    obtain ⟨v, r, rfl, h1, h2⟩ := repL_cons.mp h
    rw [List.take_succ_cons, List.take_succ_cons]
    exact repL_cons.mpr ⟨v, _, rfl, h1, RepL.take n h2⟩
theorem Ev.to2 {l : PySem.Expr} {xs : List T} {k : Nat} {p p' pos : Pos} (hl : Ev prog w G A env ρ l (.tup xs)) (hz : 2 < xs.length) (ht : ∀ o r, letTemporaryGo l o r = pure () := by intro _ _; rfl) :
    Ev prog w G A env ρ (.Subscript l (.Slice none (some (.Constant (.int 2) k p')) none p) pos) (.tup (xs.take 2)) := fun X s b r =>
  wpAny_Subscript_Slice slot_tuple_getitem.lookup (hl.use b r fun v s₁ g1 k1 b1 r1 => wpAny_Slice (wpAny_pure (wpAny_mono (Ev.int (ρ := ρ) (G := G) (i := 2) (k := k) (pos := p') X s₁ b1 r1) (fun u s₂ ⟨hu, k2⟩ => wpAny_pure (by
    obtain ⟨t, rfl⟩ := rep_int.mp hu
    obtain ⟨a, n, vs, rfl, ha, g1⟩ := rep_tup.mp (g1.mono (hid_keeps k2.keep))
    have hT : IsTup s₂.heap a vs.toArray := ⟨_, (hid_some ha).2, rfl, n, rfl⟩
    have up : ∀ b o, s₂.heap.get? b = some o → (s₂.heap.push { cls := .type "slice", data := .fields #[.none, .int 2 t, .none] }).get? b = some o := fun _ _ e => Heap.get?_push_of_some _ e
    refine ⟨(hT.keeps up).typeIs (s := { s₂ with heap := s₂.heap.push _ }), ?_⟩
    refine getTo2 (hT.keeps up) (Heap.IsSliceOf.new ..) (by rw [List.size_toArray, g1.length]; exact hz) ⟨?_, ?_⟩
    · have b3 : Bd X (s₂.heap.push { cls := .type "slice", data := .fields #[.none, .int 2 t, .none] }) := (b1.keeps k2.keep).keeps up
      refine rep_tup.mpr ⟨_, 0, vs.take 2, rfl, ?_, RepL.take 2 (g1.mono (hid_keeps fun _ _ e => Heap.get?_push_of_some _ (Heap.get?_push_of_some _ e)))⟩
      exact hid_of b3.new (Heap.get?_push_size _ rfl)
    · exact (k1.trans k2).trans ((keeps_push s₂ _ _).trans (keeps_push { s₂ with heap := s₂.heap.push _ } _ _)))) fun _ _ q => q.elim))) ht

noncomputable def BSub (ρ' ρ : Bnd) : Prop := ∀ x t, ρ' x = some t → ρ x = some t
theorem BSub.refl (ρ : Bnd) : BSub ρ ρ := fun _ _ e => e
theorem BSub.none (ρ : Bnd) : BSub none0 ρ := fun _ _ e => by cases e
theorem BSub.upd {ρ ρ' : Bnd} (h : BSub ρ' ρ) (x : Str) (t : T) : BSub (upd ρ' x t) (upd ρ x t) := fun y u e => by
  unfold Mine.upd at e ⊢
  by_cases hy : y = x
  · rw [if_pos hy] at e ⊢; exact e
  · rw [if_neg hy] at e ⊢; exact h y u e
theorem BSub.skip {ρ ρ' : Bnd} (h : BSub ρ' ρ) (x : Str) (t : T) (hn : ρ' x = Option.none) : BSub ρ' (Mine.upd ρ x t) := fun y u e => by
  unfold Mine.upd
  by_cases hy : y = x
  · subst hy; rw [hn] at e; cases e
  · rw [if_neg hy]; exact h y u e
/-- the same name again: the older one falls -/
theorem BSub.again {ρ ρ' : Bnd} (x : Str) (t u : T) (h : BSub (Mine.upd ρ' x t) (Mine.upd ρ x t)) : BSub (Mine.upd ρ' x t) (Mine.upd (Mine.upd ρ x u) x t) := fun y v e => by
  have := h y v e
  unfold Mine.upd at this ⊢
  by_cases hy : y = x
  · rw [if_pos hy] at this ⊢; exact this
  · rw [if_neg hy] at this ⊢; rw [if_neg hy]; exact this
theorem BSub.swap {ρ : Bnd} {x y : Str} {t u : T} (h : x ≠ y) : BSub (Mine.upd (Mine.upd ρ x t) y u) (Mine.upd (Mine.upd ρ y u) x t) := fun z v e => by
  unfold Mine.upd at e ⊢
  by_cases h1 : z = x
  · subst h1; rw [if_neg h, if_pos rfl] at e; rw [if_pos rfl]; exact e
  · rw [if_neg h1]
    by_cases h2 : z = y
    · rw [if_pos h2] at e ⊢; exact e
    · rw [if_neg h2, if_neg h1] at e; rw [if_neg h2]; exact e
theorem St.conv {ρ ρ₀ ρ₁ ρ' : Bnd} {st : Stmt} (h : St prog w G A env ρ₀ st ρ₁) (h0 : BSub ρ₀ ρ) (h1 : BSub ρ' ρ₁) : St prog w G A env ρ st ρ' := fun X s f =>
  wpAny_mono (h X s (f.weaken h0)) (fun fl s' ⟨e, f', k⟩ => ⟨e, f'.weaken h1, k⟩) fun _ _ q => q
theorem Bdy.conv {ρ ρ₀ : Bnd} {sts : List Stmt} {y : T} (h : Bdy prog w G A env ρ₀ sts y) (h0 : BSub ρ₀ ρ) : Bdy prog w G A env ρ sts y := fun X s f => h X s (f.weaken h0)
theorem Sts.one {ρ ρ' : Bnd} {st : Stmt} (h : St prog w G A env ρ st ρ') : Sts prog w G A env ρ [st] ρ' := Sts.cons h Sts.nil
theorem Ev.conv {ρ ρ₀ : Bnd} {e : PySem.Expr} {t : T} (h : Ev prog w G A env ρ₀ e t) (h0 : BSub ρ₀ ρ) : Ev prog w G A env ρ e t := fun X s b r => h X s b (r.weaken h0)
theorem Ev.eq {e : PySem.Expr} {t u : T} (h : Ev prog w G A env ρ e t) (e' : t = u) : Ev prog w G A env ρ e u := e' ▸ h
theorem ItT.eq {e : PySem.Expr} {t u : List T} (h : ItT prog w G A env ρ e t) (e' : t = u) : ItT prog w G A env ρ e u := e' ▸ h
theorem CallT.eq {f : Value} {xs : List T} {t u : T} (h : CallT prog w G A f xs t) (e' : t = u) : CallT prog w G A f xs u := e' ▸ h

theorem Ev.comp1 {elt iter : PySem.Expr} {x : Str} {px : Pos} {scope : Scope} {pos : Pos} {xs : List T} (F : T → T) (hi : ItT prog w G A env ρ iter xs) (k : CompOK scope env)
    (hx : scope.names.lookup x = some .local ∨ scope.names.lookup x = some .cell) (hz : xs.length ≤ 1000)
    (helt : ∀ C, ∀ t ∈ xs, Ev prog w G A (cEnv scope (clo scope env) C env) (Mine.upd (restr scope ρ) x t) elt (F t))
    (hs : ∀ x, foldedSetIterable iter env x = pure x := by intro _; rfl) : Ev prog w G A env ρ (.ListComp elt [⟨.Name x px, iter, [], 0⟩] scope pos) (.lst (xs.map F)) :=
  (Ev.comp (fun _ => true) F hi k hx hz (fun C t ht => Tests.nil) (fun C t ht _ => helt C t ht) hs).eq (by rw [List.filter_eq_self.mpr fun _ _ => rfl])
theorem Ev.comp0 {elt iter c : PySem.Expr} {x : Str} {px : Pos} {scope : Scope} {pos : Pos} {xs : List T} (hi : ItT prog w G A env ρ iter xs) (k : CompOK scope env)
    (hx : scope.names.lookup x = some .local ∨ scope.names.lookup x = some .cell) (hz : xs.length ≤ 1000)
    (ht : ∀ C, ∀ t ∈ xs, Tst prog w G A (cEnv scope (clo scope env) C env) (Mine.upd (restr scope ρ) x t) c false)
    (hs : ∀ x, foldedSetIterable iter env x = pure x := by intro _; rfl) : Ev prog w G A env ρ (.ListComp elt [⟨.Name x px, iter, [c], 0⟩] scope pos) (.lst []) :=
  (Ev.comp (fun _ => false) (fun t => t) hi k hx hz (fun C t h => Tests.one (ht C t h)) (fun C t h e => by cases e) hs).eq (by rw [List.filter_eq_nil_iff.mpr fun _ _ => by simp]; rfl)
theorem St.comp1 {y : Str} {py : Pos} {spos : Pos} {elt iter : PySem.Expr} {x : Str} {px : Pos} {scope : Scope} {pos : Pos} {xs : List T} (F : T → T) (hi : ItT prog w G A env ρ iter xs) (k : CompOK scope env)
    (hx : scope.names.lookup x = some .local ∨ scope.names.lookup x = some .cell) (hz : xs.length ≤ 1000)
    (helt : ∀ C, ∀ t ∈ xs, Ev prog w G A (cEnv scope (clo scope env) C env) (Mine.upd (restr scope ρ) x t) elt (F t))
    (hk : KindOk env y) (hsw : swapsWith (.ListComp elt [⟨.Name x px, iter, [], 0⟩] scope pos) (some (.Name y py)) spos.line env = pure true := by rfl)
    (hs : ∀ x, foldedSetIterable iter env x = pure x := by intro _; rfl) : St prog w G A env ρ (.Assign [.Name y py] (.ListComp elt [⟨.Name x px, iter, [], 0⟩] scope pos) spos) (Mine.upd ρ y (.lst (xs.map F))) := by
  have := St_comp (fun _ => true) F hi k hx hz (fun C t ht => Tests.nil) (fun C t ht _ => helt C t ht) hk hsw hs
  rwa [show xs.filter (fun _ => true) = xs from List.filter_eq_self.mpr fun _ _ => rfl] at this
end
end Mine
end
section
open PySem PySem.W PyProof.Rows PySem.Calls
set_option maxRecDepth 100000
set_option linter.unusedVariables false
namespace Mine
section
variable {prog : Program} {w : World} {G : Glb} {A : Around} {env : Env} {ρ ρ' : Bnd}

/-- the table of the codes made within a def: none yet, or the one -/
noncomputable def TabS (P : Addr) (pos : Pos) (qual : Str) (X : List Addr) (h : Heap) : Prop :=
  ∃ ps, h.get? P = some (tabObj ps) ∧ (ps = #[] ∨ ∃ c oc fs t, ps = #[rawInt pos.line, rawInt pos.col, .ref c] ∧ c ∉ X ∧ h.get? c = some oc ∧ oc.data = .fields fs ∧ fs[1]? = some (.str qual t))
theorem TabS.keeps {P : Addr} {pos : Pos} {qual : Str} {X : List Addr} {h h' : Heap} (x : TabS P pos qual X h) (k : ∀ b o, h.get? b = some o → h'.get? b = some o) : TabS P pos qual X h' := by
  obtain ⟨ps, hp, q⟩ := x
  refine ⟨ps, k _ _ hp, q.imp id fun ⟨c, oc, fs, t, e, hc, ho, r⟩ => ⟨c, oc, fs, t, e, hc, k _ _ ho, r⟩⟩
theorem TabS.kpx {P : Addr} {pos : Pos} {qual : Str} {X Y : List Addr} {s s' : Shared} (x : TabS P pos qual X s.heap) (k : KpX Y s s') (hP : P ∉ Y) (hY : ∀ a ∈ Y, a ∈ X) : TabS P pos qual X s'.heap := by
  obtain ⟨ps, hp, q⟩ := x
  refine ⟨ps, k.keep _ _ hP hp, q.imp id fun ⟨c, oc, fs, t, e, hc, ho, r⟩ => ⟨c, oc, fs, t, e, hc, k.keep _ _ (fun m => hc (hY c m)) ho, r⟩⟩
theorem TabS.less {P : Addr} {pos : Pos} {qual : Str} {X Y : List Addr} {h : Heap} (x : TabS P pos qual X h) (hs : ∀ a ∈ Y, a ∈ X) : TabS P pos qual Y h := by
  obtain ⟨ps, hp, q⟩ := x
  exact ⟨ps, hp, q.imp id fun ⟨c, oc, fs, t, e, hc, r⟩ => ⟨c, oc, fs, t, e, fun m => hc (hs c m), r⟩⟩
theorem TabS.more {P : Addr} {pos : Pos} {qual : Str} {X Y : List Addr} {h : Heap} (x : TabS P pos qual X h) (hs : ∀ a ∈ Y, a ∈ X ∨ h.get? a = none) : TabS P pos qual Y h := by
  obtain ⟨ps, hp, q⟩ := x
  refine ⟨ps, hp, q.imp id fun ⟨c, oc, fs, t, e, hc, ho, r⟩ => ⟨c, oc, fs, t, e, fun m => (hs c m).elim hc fun n => ?_, ho, r⟩⟩
  rw [n] at ho; cases ho
theorem TabS.off {P : Addr} {pos : Pos} {qual : Str} {X : List Addr} {h : Heap} (x : TabS P pos qual X h) (r : EnvR G env ρ X h) : Off env P := by
  obtain ⟨ps, hp, _⟩ := x
  refine ⟨fun e => ?_, fun n c hc e => ?_⟩
  · obtain ⟨m, ⟨o, _, _, ho, hd, _⟩, _⟩ := r.loc
    rw [e, hp] at ho; cases ho; cases hd
  · obtain ⟨v, o, ho, hd⟩ := r.cells n c hc
    rw [e, hp] at ho; cases ho; cases hd
theorem Off.own {P : Addr} (x : Off env P) : P ∉ ownOf env := fun h => by
  rcases ownOf_mem h with e | ⟨y, hm, hk⟩
  · exact x.loc e.symm
  · exact x.cel y P hm rfl

theorem StNest {name : Str} {params : Arguments} {body : List Stmt} {scope : Scope} {pos : Pos} {P cc : Addr} {X : List Addr} {s : Shared} {qual : Str} {Q : Flow → Shared → Prop} {E : Value → Shared → Prop} (f : FrR G env (ownOf env) ρ X s) (hP : P ∈ X) (T : TabS P pos qual X s.heap)
    (k : CompOK scope env) (hcode : env.code = .ref cc) (hC : CodeHd s.heap cc P) (hq : qualnameIn env name name = qual) (hk : KindOk env name)
    (hd0 : params.defaults = []) (hk0 : params.kw_defaults = []) (ha : annTrees params none env = [])
    (h : ∀ s', FrR G env (ownOf env) (upd ρ name (.fn name qual params body scope (clo scope env))) X s' → KpX (P :: ownOf env) s s' → TabS P pos qual X s'.heap → Q .next s') :
    wpAny (model prog w) A (exec (.FunctionDef name params body [] none [] scope none name pos) env) Q E s := by
  refine nestDef_K hd0 hk0 ha ?_
  rw [hq]
  obtain ⟨h₀, ok, up0, hid0⟩ := f.r.top
  have topok := f.r.top.ok
  have offP := T.off f.r
  have ownP := offP.own
  have hgP : mainGlobals ≠ P := fun e => by
    obtain ⟨o, _, _, ho, _⟩ := ok.g
    rw [e, hid0 P hP] at ho; cases ho
  have hb : s.heap.BuiltinsAt G.mg P := by
    obtain ⟨bm, ob, a, b, c, e, r⟩ := ok.bm
    exact ⟨bm, ob, a, b, c, (fun q => by rw [q, hid0 P hP] at e; cases e), up0 _ _ e, r⟩
  obtain ⟨ps, hp, q⟩ := id T
  have fresh : ∀ a, s.heap.objs.size ≤ a → a ∉ X := fun a ha hm => Nat.lt_irrefl _ (Nat.lt_of_lt_of_le (f.bd.lt hm) ha)
  rcases q with rfl | ⟨c, oc, fs, t, rfl, hc, ho, hd, ht⟩
  · refine makeFunction_K (mg := G.mg) (closureFor_clo k.free) f.r.glob topok.g hcode hC hp trivial rfl hgP hb fun c' ctv doc h' tk hx hge hlt hrec htb => ?_
    obtain ⟨c₂, oc, vs, t, e2, hoc, hd, hv⟩ := hrec
    cases e2
    generalize hfn : fnMade name qual params body scope (clo scope env) doc ((G.mg "__name__").getD .none) c' ctv = fo
    have hsz : s.heap.objs.size ≤ h'.objs.size := Nat.le_trans hge (Nat.le_of_lt hlt)
    have f1 : FrR G env (ownOf env) ρ X { s with heap := h'.push fo, toks := tk } := f.other hP offP (fun b o n e => Heap.get?_push_of_some _ (hx b o (by simpa using n) e)) ⟨_, Heap.get?_push_of_some _ htb⟩
    have hr : Rep (hid (h'.push fo) X) (.fn name qual params body scope (clo scope env)) (.ref h'.objs.size) :=
      rep_fn.mpr ⟨_, fo, doc, (G.mg "__name__").getD .none, c', ctv, oc, vs, t, rfl, hid_of (fresh _ hsz) (Heap.get?_push_size _ (by rw [← hfn]; rfl)), by rw [← hfn], hid_of (fresh _ hge) (Heap.get?_push_of_some _ hoc), hd, hv⟩
    have k1 : KpX (P :: ownOf env) s { s with heap := h'.push fo, toks := tk } := ⟨⟨_, _, rfl⟩, fun b o n e => Heap.get?_push_of_some _ (hx b o (fun q => n (q ▸ List.mem_cons_self)) e)⟩
    have T1 : TabS P pos qual X (h'.push fo) := ⟨_, Heap.get?_push_of_some _ htb, .inr ⟨c', oc, vs, t, by rw [Array.empty_append], fresh _ hge, Heap.get?_push_of_some _ hoc, hd, hv⟩⟩
    exact f1.store hr hk.own fun s' f' k' => h s' f' (k1.trans (k'.more fun a ha => List.mem_cons_of_mem _ ha)) (TabS.kpx (s := { s with heap := h'.push fo, toks := tk }) T1 k' ownP f.own)
  · have hf : codeAmong pos #[rawInt pos.line, rawInt pos.col, .ref c].toList = some (.ref c) := codeAmong_snoc [] trivial rfl
    refine makeFunction_hit (mg := G.mg) (closureFor_clo k.free) f.r.glob topok.g hcode hC hp trivial hf hb fun ctv doc h' tk up hsz => ?_
    generalize hfn : ({ cls := .type "function", data := .func (fnX name qual params body scope (clo scope env) .none .none doc ((G.mg "__name__").getD .none) none (.ref c) ctv) } : Obj) = fo
    have up1 : ∀ b o, s.heap.get? b = some o → (h'.push fo).get? b = some o := fun b o e => Heap.get?_push_of_some _ (up b o e)
    have k1 : Kp s { s with heap := h'.push fo, toks := tk } := ⟨⟨_, _, rfl⟩, up1⟩
    have hr : Rep (hid (h'.push fo) X) (.fn name qual params body scope (clo scope env)) (.ref h'.objs.size) :=
      rep_fn.mpr ⟨_, fo, doc, (G.mg "__name__").getD .none, c, ctv, oc, fs, t, rfl, hid_of (fresh _ hsz) (Heap.get?_push_size _ (by rw [← hfn]; rfl)), by rw [← hfn], hid_of hc (up1 _ _ ho), hd, ht⟩
    exact (f.kp k1).store hr hk.own fun s' f' k' => h s' f' ((k1.x.trans k').more fun a ha => List.mem_cons_of_mem _ ha) ((T.keeps up1).kpx (s := { s with heap := h'.push fo, toks := tk }) k' ownP f.own)

/- closures -/
structure Clos (clos : List (Str × Addr)) (ρc : Bnd) (X : List Addr) (h : Heap) : Prop where
  cel : ∀ y t, ρc y = some t → ∃ c v, clos.lookup y = some c ∧ h.IsCell c (some v) ∧ Rep (hid h X) t v
  cells : ∀ n c, clos.lookup n = some c → ∃ v, h.IsCell c v
  apart : ∀ n n' c, clos.lookup n = some c → clos.lookup n' = some c → n = n'
theorem Clos.of {X : List Addr} {h : Heap} {clos : List (Str × Addr)} {ρc : Bnd} (r : EnvR G env ρ X h) (h1 : ∀ y t, ρc y = some t → ρ y = some t ∧ (env.kindOf y = some .cell ∨ env.kindOf y = some .free) ∧ clos.lookup y = env.cells.lookup y) (h2 : ∀ n c, clos.lookup n = some c → env.cells.lookup n = some c) : Clos clos ρc X h where
  cel := fun y t e => by
    obtain ⟨a, b, c⟩ := h1 y t e
    obtain ⟨c', v, q1, q2, q3⟩ := r.cel y t a b
    exact ⟨c', v, c.trans q1, q2, q3⟩
  cells := fun n c e => r.cells n c (h2 n c e)
  apart := fun n n' c e e' => r.apart n n' c (h2 n c e) (h2 n' c e')
theorem Clos.scope {X : List Addr} {h : Heap} {scope : Scope} (r : EnvR G env ρ X h) (k : CompOK scope env) : Clos (clo scope env) (restr scope ρ) X h :=
  .of r (fun y t e => by
    unfold restr at e
    by_cases hy : scope.names.lookup y = some .free
    · rw [if_pos hy] at e
      obtain ⟨c, hc⟩ := (clFrom_sub (cells := env.cells) scope.names [] k.free (by intro _ _ h; cases h)).2 y (.inr (mem_of_lookup' hy))
      exact ⟨e, k.outerKind hy, hc.trans ((clFrom_sub (cells := env.cells) scope.names [] k.free (by intro _ _ h; cases h)).1 y c hc).symm⟩
    · rw [if_neg hy] at e; cases e) fun n c e => (clFrom_sub (cells := env.cells) scope.names [] k.free (by intro _ _ h; cases h)).1 n c e

noncomputable def callEnvF (fd : FuncData) (L a : Addr) : Env := newEnv fd.scope L fd.globals (cellsFrom (L + 1) fd.scope.names fd.closure) (fd.qualname ++ ".<locals>.") (some a) fd.code none fd.builtins
noncomputable abbrev fnE (name qual : Str) (params : Arguments) (body : List Stmt) (scope : Scope) (clos : List (Str × Addr)) (doc pm : Value) (c : Addr) (ctv : Value) (L a : Addr) : Env :=
  callEnvF (fnX name qual params body scope clos .none .none doc pm none (.ref c) ctv) L a
theorem cellsFrom_nocell : ∀ (names : List (Str × NameKind)) (n : Nat) (acc : List (Str × Addr)), (names.all fun x => x.2 != .cell) = true → cellsFrom n names acc = acc
  | [], _, _, _ => rfl
  | (x, k) :: r, n, acc, h => by
    rw [List.all_cons, Bool.and_eq_true] at h
    unfold cellsFrom
    have : (k == NameKind.cell) = false := by simpa using h.1
    rw [this]
    exact cellsFrom_nocell r n acc h.2
theorem pushCells_nocell : ∀ (names : List (Str × NameKind)) (h : Heap), (names.all fun x => x.2 != .cell) = true → pushCells h names = h
  | [], _, _ => rfl
  | (x, k) :: r, h, e => by
    rw [List.all_cons, Bool.and_eq_true] at e
    unfold pushCells
    have : (k == NameKind.cell) = false := by simpa using e.1
    rw [this]
    exact pushCells_nocell r h e.2

/-- a call of a closure without cells of its own -/
theorem callFn {name qual : Str} {params : Arguments} {body : List Stmt} {scope : Scope} {clos : List (Str × Addr)} {ρc : Bnd} {names : List Str} {X : List Addr} {s : Shared} {v : Value} {xs : List T} {vs : List Value} {Q : Value → Shared → Prop}
    (b : Bd X s.heap) (tp : TopX G X s.heap) (hcl : Clos clos ρc X s.heap) (hv : Rep (hid s.heap X) (.fn name qual params body scope clos) v) (hvs : RepL (hid s.heap X) xs vs) (hl : names.length = xs.length) (hroom : A.depth < recursionLimit)
    (hno : (scope.names.all fun x => x.2 != .cell) = true) (hfree : ∀ y t, ρc y = some t → scope.names.lookup y = some .free) (hkind : (names.all fun n => scope.names.lookup n == some .local) = true)
    (hbind : ∀ doc pm c ctv vs, vs.length = names.length → bindArgs (fnX name qual params body scope clos .none .none doc pm none (.ref c) ctv) ⟨vs, []⟩ = pure (names.zip vs))
    (hco : scope.isCoroutine = false) (hgen : scope.isGenerator = false) (hk : scope.kind = .function)
    (h : ∀ doc pm c ctv L a s', FrR G (fnE name qual params body scope clos doc pm c ctv L a) (ownOf (fnE name qual params body scope clos doc pm c ctv L a)) (updL ρc names xs) (ownOf (fnE name qual params body scope clos doc pm c ctv L a) ++ X) s' → Kp s s' →
      (∀ a' ∈ ownOf (fnE name qual params body scope clos doc pm c ctv L a), s.heap.get? a' = none) →
      wpAny (model prog w) (A.deeper (fnE name qual params body scope clos doc pm c ctv L a)) (execs body (fnE name qual params body scope clos doc pm c ctv L a)) (fun f s'' => Q (match f with | .ret v => v | _ => .none) s'') NoE s') :
    wpAny (model prog w) A (call v vs) Q NoE s := by
  obtain ⟨a, o, doc, pm, c, ctv, oc, fs, t, rfl, ho, hd, hoc, hdc, hq⟩ := rep_fn.mp hv
  have topok := tp.ok
  refine wpAny_call (codeAny_call_function hroom (hid_some ho).2 hd hco hgen rfl ⟨c, oc, fs, t, rfl, (hid_some hoc).2, hdc, hq⟩ ?_)
  rw [hbind doc pm c ctv vs (hvs.length.trans hl.symm)]
  refine wpAny_pure ?_
  simp only [newFunctionEnv, Option.isSome_none, Bool.false_eq_true, if_false]
  refine wpAny_bind (wpAny_alloc ?_)
  refine wpAny_bind (wpAny_layCells _ (fun name kind cells => by cases hkc : kind == NameKind.cell <;> simp) _ _ _ _ ?_)
  rw [show ({ s with heap := s.heap.push { cls := .type "frame", data := .dict #[] } } : Shared).heap.objs.size = s.heap.objs.size + 1 from Heap.size_push ..]
  generalize hL : s.heap.objs.size = L
  have hns : (s.heap.push { cls := .type "frame", data := .dict #[] }).Ns L fun _ => none := hL ▸ Heap.Ns.new s.heap (.type "frame")
  have up : ∀ b o, s.heap.get? b = some o → (s.heap.push { cls := .type "frame", data := .dict #[] }).get? b = some o := fun b o e => Heap.get?_push_of_some _ e
  rw [pushCells_nocell _ _ hno]
  generalize s.heap.push { cls := .type "frame", data := .dict #[] } = h₁ at hns up
  have hcells : (fnE name qual params body scope clos doc pm c ctv L a).cells = clos := cellsFrom_nocell _ _ _ hno
  have hkf : ∀ y, (fnE name qual params body scope clos doc pm c ctv L a).kindOf y = scope.names.lookup y := fun _ => rfl
  have hO : ∀ a' ∈ ownOf (fnE name qual params body scope clos doc pm c ctv L a), a' = L := fun a' ha => by
    rcases ownOf_mem ha with rfl | ⟨y, _, hm⟩
    · rfl
    · rw [hkf] at hm
      have := List.all_eq_true.mp hno _ (mem_of_lookup' hm)
      simp at this
  have noL : s.heap.get? L = none := Heap.get?_none_of_le (Nat.le_of_eq hL)
  have hO' : ∀ a' ∈ ownOf (fnE name qual params body scope clos doc pm c ctv L a), s.heap.get? a' = none := fun a' ha => by rw [hO a' ha]; exact noL
  have sub : Sub (hid s.heap X) (hid h₁ (ownOf (fnE name qual params body scope clos doc pm c ctv L a) ++ X)) := hid_more (fun b o _ e => up b o e) fun y hy => .inr (hO' y hy)
  have fr : FrR G (fnE name qual params body scope clos doc pm c ctv L a) (ownOf (fnE name qual params body scope clos doc pm c ctv L a)) ρc (ownOf (fnE name qual params body scope clos doc pm c ctv L a) ++ X) { s with heap := h₁ } := by
    refine ⟨⟨hk, rfl, rfl, fun y t e => .inr (.inr (hfree y t e)), ⟨_, hns, fun y t e q => ?_⟩, fun y t e q => ?_, (tp.more fun y hy => .inr (hO' y hy)).keeps up, fun y c e => ?_, fun y y' c e e' => ?_⟩, fun a' ha => ?_, fun a' ha => List.mem_append_left _ ha⟩
    · rw [hkf, hfree y t e] at q; cases q
    · obtain ⟨c', v, q1, q2, q3⟩ := hcl.cel y t e
      exact ⟨c', v, by rw [hcells]; exact q1, q2.keeps up, q3.mono sub⟩
    · rw [hcells] at e
      obtain ⟨v, q⟩ := hcl.cells y c e
      exact ⟨v, q.keeps up⟩
    · rw [hcells] at e e'; exact hcl.apart y y' c e e'
    · rcases List.mem_append.mp ha with ha | ha
      · rw [hO a' ha]
        obtain ⟨o, _, _, e, _⟩ := hns; exact ⟨o, e⟩
      · exact b.keeps up a' ha
  refine wpAny_bind (bindAll (env := fnE name qual params body scope clos doc pm c ctv L a) (xs := xs) _ (fun _ _ _ => rfl) names vs ρc _ _ fr (hvs.mono sub) (fun n hn => .inl ?_) hl fun s' f' k' => wpAny_pure ?_)
  · have := List.all_eq_true.mp hkind n hn
    rw [hkf]; simpa using this
  · have k : Kp s s' := by
      obtain ⟨⟨h', t', rfl⟩, kb⟩ := k'
      exact ⟨⟨_, _, rfl⟩, fun b o e => kb b o (fun q => by rw [hO' b q] at e; cases e) (up b o e)⟩
    exact ⟨topok.nolim.keeps k.keep, codeAny_func (wpAny_mono (h doc pm c ctv L a s' f' k hO') (fun f s'' q => q) fun _ _ q => q.elim)⟩
end
end Mine
end
section
open PySem PySem.W PyProof.Rows PySem.Calls
set_option maxRecDepth 100000
set_option linter.unusedVariables false
namespace Mine
section
variable {prog : Program} {w : World} {G : Glb} {A : Around} {env : Env} {ρ ρ' : Bnd}

theorem Ev.lsh {l r : PySem.Expr} {a b : Int} {pos : Pos} (hl : Ev prog w G A env ρ l (.int a)) (hr : Ev prog w G A env ρ r (.int b)) (h0 : 0 ≤ b) (h1 : b ≤ 1000000) (ha : a.natAbs < 2 ^ 64) : Ev prog w G A env ρ (.BinOp l .LShift r pos) (.int (a * 2 ^ b.toNat)) :=
  hl.bin hr (.ints fun _ _ _ _ h => lshift_int_small h0 h1 ha (h _))
theorem Ev.rsh {l r : PySem.Expr} {a b : Int} {pos : Pos} (hl : Ev prog w G A env ρ l (.int a)) (hr : Ev prog w G A env ρ r (.int b)) (h0 : 0 ≤ b) : Ev prog w G A env ρ (.BinOp l .RShift r pos) (.int (a.fdiv (2 ^ b.toNat))) :=
  hl.bin hr (.ints fun _ _ _ _ h => rshift_int h0 (h _))
theorem Ev.xor {l r : PySem.Expr} {a b : Int} {pos : Pos} (hl : Ev prog w G A env ρ l (.int a)) (hr : Ev prog w G A env ρ r (.int b)) : Ev prog w G A env ρ (.BinOp l .BitXor r pos) (.int (Builtin.bitXor a b)) :=
  hl.bin hr (.ints fun _ _ _ _ h => xor_int (h _))

theorem Tst.cmpI {l r : PySem.Expr} {op : CmpOp} {a b : Int} {c : Bool} {pos : Pos} (hl : Ev prog w G A env ρ l (.int a)) (hr : Ev prog w G A env ρ r (.int b))
    (ho : ∀ (s : Shared) t u (Q : Value → Shared → Prop), Q (.bool c) s → wpAny (model prog w) A (compareOp op (.int a t) (.int b u)) Q NoE s)
    (hm : behindInMarks op r = false := by with_unfolding_all rfl) : Tst prog w G A env ρ (.Compare l [op] [r] pos) c := fun X s bd e =>
  wpAny_isTrue_Compare1 (hl.use bd e fun v s₁ h1 k1 b1 e1 => hr.use b1 e1 fun u s₂ h2 k2 b2 _ => by
    obtain ⟨t, rfl⟩ := rep_int.mp h1
    obtain ⟨t', rfl⟩ := rep_int.mp h2
    exact ho s₂ t t' _ (wpAny_truthy_bool ⟨rfl, k1.trans k2⟩)) hm
theorem Tst.eqI {l r : PySem.Expr} {a b : Int} {pos : Pos} (hl : Ev prog w G A env ρ l (.int a)) (hr : Ev prog w G A env ρ r (.int b)) (hm : behindInMarks .Eq r = false := by with_unfolding_all rfl) : Tst prog w G A env ρ (.Compare l [.Eq] [r] pos) (a == b) :=
  Tst.cmpI hl hr (fun _ _ _ _ h => P.eq_int h) hm
theorem Tst.ltI {l r : PySem.Expr} {a b : Int} {pos : Pos} (hl : Ev prog w G A env ρ l (.int a)) (hr : Ev prog w G A env ρ r (.int b)) (hm : behindInMarks .Lt r = false := by with_unfolding_all rfl) : Tst prog w G A env ρ (.Compare l [.Lt] [r] pos) (decide (a < b)) :=
  Tst.cmpI hl hr (fun _ _ _ _ h => P.lt_int h) hm
theorem Tst.leI {l r : PySem.Expr} {a b : Int} {pos : Pos} (hl : Ev prog w G A env ρ l (.int a)) (hr : Ev prog w G A env ρ r (.int b)) (hm : behindInMarks .LtE r = false := by with_unfolding_all rfl) : Tst prog w G A env ρ (.Compare l [.LtE] [r] pos) (decide (a ≤ b)) :=
  Tst.cmpI hl hr (fun _ _ _ _ h => P.le_int h) hm
theorem Tst.eq {e : PySem.Expr} {b c : Bool} (h : Tst prog w G A env ρ e b) (q : b = c) : Tst prog w G A env ρ e c := q ▸ h
theorem Tst.nameI {x : Str} {p : Pos} {a : Int} (h : Ev prog w G A env ρ (.Name x p) (.int a)) : Tst prog w G A env ρ (.Name x p) (a != 0) := fun X s b e =>
  isTrue_plain (h.use b e fun v s₁ h1 k1 _ _ => by obtain ⟨t, rfl⟩ := rep_int.mp h1; exact P.truthy_int ⟨rfl, k1⟩)
theorem Tst.nameL {x : Str} {p : Pos} {xs : List T} (h : Ev prog w G A env ρ (.Name x p) (.lst xs)) (hz : xs.length ≤ 1000) : Tst prog w G A env ρ (.Name x p) (!xs.isEmpty) := fun X s b e =>
  isTrue_plain (h.use b e fun v s₁ h1 k1 _ _ => by
    obtain ⟨a, n, vs, rfl, ha, hl⟩ := rep_lst.mp h1
    refine wpAny_truthy_list (items := vs.toArray) ⟨_, (hid_some ha).2, rfl, n, rfl⟩ (by rw [List.size_toArray, hl.length]; omega) ⟨?_, k1.trans (keeps_tok s₁ _)⟩
    have := hl.length
    cases vs <;> cases xs <;> simp_all)
theorem Ev.ifT {t b o : PySem.Expr} {pos : Pos} {x : T} (ht : Tst prog w G A env ρ t true) (h : Ev prog w G A env ρ b x) : Ev prog w G A env ρ (.IfExp t b o pos) x := fun X s bd r =>
  wpAny_IfExp (ht.use bd r fun s₁ k1 b1 r1 => by
    simp only [if_true]
    exact h.use b1 r1 fun v s₂ h2 k2 _ _ => ⟨h2, k1.trans k2⟩)
theorem Ev.ifF {t b o : PySem.Expr} {pos : Pos} {x : T} (ht : Tst prog w G A env ρ t false) (h : Ev prog w G A env ρ o x) : Ev prog w G A env ρ (.IfExp t b o pos) x := fun X s bd r =>
  wpAny_IfExp (ht.use bd r fun s₁ k1 b1 r1 => by
    simp only [Bool.false_eq_true, if_false]
    exact h.use b1 r1 fun v s₂ h2 k2 _ _ => ⟨h2, k1.trans k2⟩)
theorem Bdy.ifT {test : PySem.Expr} {body els rest : List Stmt} {pos : Pos} {y : T} (h : Tst prog w G A env ρ test true) (hr : Bdy prog w G A env ρ body y) : Bdy prog w G A env ρ (.If test body els pos :: rest) y := fun X s f =>
  wpAny_execs_cons (wpAny_If (h.use f.bd f.r fun s₁ k1 _ _ => by
    simp only [if_true]
    exact wpAny_mono (hr X s₁ (f.kp k1)) (fun fl s₂ ⟨v, e, h2, k2⟩ => by subst e; exact ⟨v, rfl, h2, k1.x.trans k2⟩) fun _ _ q => q))
theorem Bdy.elseT {test : PySem.Expr} {body els rest : List Stmt} {pos : Pos} {y : T} (h : Tst prog w G A env ρ test false) (hr : Bdy prog w G A env ρ els y) : Bdy prog w G A env ρ (.If test body els pos :: rest) y := fun X s f =>
  wpAny_execs_cons (wpAny_If (h.use f.bd f.r fun s₁ k1 _ _ => by
    simp only [Bool.false_eq_true, if_false]
    exact wpAny_mono (hr X s₁ (f.kp k1)) (fun fl s₂ ⟨v, e, h2, k2⟩ => by subst e; exact ⟨v, rfl, h2, k1.x.trans k2⟩) fun _ _ q => q))
theorem Ev.bits {x : Str} {xp ap cp : Pos} {a : Int} {pl : Sem Bool} (h : Ev prog w G A env ρ (.Name x xp) (.int a))
    (he : eval (.Call (.Attribute (.Name x xp) (Str.ofString "bit_length") ap) [] [] cp) env = (do
      let ov ← eval (.Name x xp) env
      standAt ap.atName
      let (f, first) ← holding [ov] (getMethod ov (Str.ofString "bit_length") pl)
      callWith cp f first (backTo cp (starEach [] env)) []) := by rfl) : Ev prog w G A env ρ (.Call (.Attribute (.Name x xp) (Str.ofString "bit_length") ap) [] [] cp) (.int (Builtin.Int.intBits a)) := fun X s b r =>
  MethodCall_ (h.use b r fun v s₁ h1 k1 b1 r1 => by
    obtain ⟨t, rfl⟩ := rep_int.mp h1
    exact getMethod_int_bit_length (callWith_method0 (call_int_bit_length ⟨rep_int.mpr ⟨_, rfl⟩, k1.trans (keeps_tok s₁ _)⟩))) he
theorem CallT.divmod {a b : Int} (hb : 0 < b) (hp : Builtin.divisionGoesByPylong a b = false) : CallT prog w G A (.builtin "divmod") [.int a, .int b] (.tup [.int (a / b), .int (a % b)]) := by
  intro X s vs bd _ h
  obtain ⟨v, r, rfl, h1, h2⟩ := repL_cons.mp h
  obtain ⟨u, r, rfl, h3, h4⟩ := repL_cons.mp h2
  rw [repL_nil.mp h4]
  obtain ⟨t, rfl⟩ := rep_int.mp h1
  obtain ⟨t', rfl⟩ := rep_int.mp h3
  refine divmod_int (by omega) ⟨rep_tup.mpr ⟨_, 0, [.int (a.fdiv b) s.toks, .int (a.fmod b) (s.toks + 1)], rfl, rep_new bd _ rfl, ?_⟩, keeps_push s _ _⟩ (.inl hp)
  rw [Int.fdiv_eq_ediv_of_nonneg a (by omega), Int.fmod_eq_emod_of_nonneg a (by omega)]
  exact repL_cons.mpr ⟨_, _, rfl, rep_int.mpr ⟨_, rfl⟩, .one (rep_int.mpr ⟨_, rfl⟩)⟩
theorem Ev.globI {x : Str} {pos : Pos} {i : Int} {t : Tok} (e : G.mg x = some (.int i t)) (hk : env.kindOf x = some .globalImplicit) (hd : (x == ("__debug__" : Str)) = false := by decide) : Ev prog w G A env ρ (.Name x pos) (.int i) := fun X s b r =>
  (EvV.glob (ρ := ρ) e hk hd).use b r fun s' k _ _ => ⟨rep_int.mpr ⟨t, rfl⟩, k⟩

theorem RepL.replicate {g : View} {x : T} {v : Value} (h : Rep g x v) : ∀ k : Nat, RepL g (List.replicate k x) (List.replicate k v)
  | 0 => repL_nil.mpr rfl
  | k + 1 => repL_cons.mpr ⟨v, _, rfl, h, RepL.replicate h k⟩
theorem mulList {s : Shared} {E : Value → Shared → Prop} {l : Addr} {items : Array Value} {k : Nat} {x : Int} {u : Tok} {Q : Value → Shared → Prop}
    (hl : s.heap.get? l = some { cls := .type "list", dict := none, data := .seq items k, slots := #[] })
    (hlo : -(2 ^ 63 : Int) ≤ x) (hhi : x < 2 ^ 63) (hsz : items.size * x.toNat ≤ 2 ^ 24)
    (h : Q (.ref s.heap.objs.size) { s with heap := s.heap.push { cls := .type "list", data := .seq (List.foldl (fun x1 x2 => x1 ++ x2) #[] (List.replicate (if items.isEmpty = true then 0 else x.toNat) items)) } }) :
    wpAny (model prog w) A (binaryOp .Mult (.ref l) (.int x u)) Q E s :=
  wpAny_binaryOp_repeat_ref (T := "list") (U := "int") (by decide) ⟨_, hl, rfl⟩ (fun s' => typeIs_int s' x u) noFill_list_mul F.fills_int_mul F.slot_int_rmul repeat_list F.slot_int_index.lookup
    (call_meets F.slot_int_rmul (typeIs_int s x u) F.entry_int_rmul (F.args_int_rmul_2 _ _) (int___rmul___int_list x u l items k)
      ⟨hl, rfl, ⟨_, hl, rfl⟩, call_meets F.slot_list_mul ⟨_, hl, rfl⟩ F.entry_list_mul (F.args_list_mul_2 _ _)
        (AutoListH.list___mul___list_int_3 l items k x u (by simp [Builtin.List.listFitsIndex]; omega) (by omega) (by simp [Builtin.List.listTooLong, sizeLine]; omega))
        ⟨hl, h⟩⟩)
end
end Mine
end
section
open PySem PySem.W PyProof.Rows PySem.Calls
set_option maxRecDepth 100000
set_option linter.unusedVariables false
namespace Mine
section
variable {prog : Program} {w : World} {G : Glb} {A : Around} {env : Env} {ρ ρ' : Bnd}

/-- a def of the top, called: its body in its frame -/
theorem callTop {a c : Addr} {o oc : Obj} {fd : FuncData} {fs : Array Value} {t : Tok} (body : List Stmt) (names : List Str) {xs : List T} {X : List Addr} {s : Shared} {vs : List Value} {Q : Value → Shared → Prop} (ho : G.K.lookup a = some o) (hd : o.data = .func fd)
    (hcode : fd.code = .ref c) (hoc : G.K.lookup c = some oc) (hdc : oc.data = .fields fs) (hq : fs[1]? = some (.str fd.qualname t))
    (hst : fd.body = .stmts body) (hroom : A.depth < recursionLimit) (hclo : fd.closure = []) (hbind : ∀ vs, vs.length = names.length → bindArgs fd ⟨vs, []⟩ = pure (names.zip vs)) (hl : names.length = xs.length)
    (hkind : (names.all fun n => fd.scope.names.lookup n == some .local || fd.scope.names.lookup n == some .cell) = true) (hg : fd.globals = mainGlobals) (hb : fd.builtins = builtinsNs)
    (hco : fd.scope.isCoroutine = false) (hgen : fd.scope.isGenerator = false) (hk : fd.scope.kind = .function)
    (b : Bd X s.heap) (tp : TopX G X s.heap) (hv : RepL (hid s.heap X) xs vs)
    (h : ∀ L s' X', FrR G (callEnvC fd L a) (ownOf (callEnvC fd L a)) (updL none0 names xs) X' s' → Kp s s' → (∀ a' ∈ ownOf (callEnvC fd L a), s.heap.get? a' = none) → (∀ a ∈ X, a ∈ X') → (∀ a ∈ X', a ∈ X ∨ s.heap.get? a = none) →
      wpAny (model prog w) (A.deeper (callEnvC fd L a)) (execs body (callEnvC fd L a)) (fun f s'' => Q (match f with | .ret v => v | _ => .none) s'') NoE s') : wpAny (model prog w) A (call (.ref a) vs) Q NoE s := by
  have ok := tp.ok
  have hcd : s.heap.CodeRec fd.code fd.qualname := ⟨c, oc, fs, t, hcode, ok.k c oc hoc, hdc, hq⟩
  refine wpAny_call (codeAny_call_function hroom (ok.k a o ho) hd hco hgen hst hcd ?_)
  rw [hbind vs (hv.length.trans hl.symm), hclo]
  exact wpAny_pure (newEnv_call (names := names) (xs := xs) b tp hk hg hb hv hl (kindAll hkind) fun L s' f k hO => ⟨ok.nolim.keeps k.keep, codeAny_func (wpAny_mono (h L s' _ f k hO (fun a ha => List.mem_append_right _ ha) fun a ha => (List.mem_append.mp ha).symm.imp id (hO a)) (fun fl s'' q => q) fun _ _ q => q.elim)⟩)

theorem KpX.back {Y Z : List Addr} {s s' s'' : Shared} (k : Kp s s') (k' : KpX Z s' s'') (h : ∀ a ∈ Z, a ∈ Y ∨ s.heap.get? a = none) : KpX Y s s'' := by
  obtain ⟨⟨h1, t1, rfl⟩, kb⟩ := k
  obtain ⟨⟨h2, t2, rfl⟩, kc⟩ := k'
  refine ⟨⟨_, _, rfl⟩, fun b o n e => kc b o (fun q => ?_) (kb b o e)⟩
  rcases h b q with q | q
  · exact n q
  · rw [q] at e; cases e
/-- a call that may add to a table -/
noncomputable def CallY (prog : Program) (w : World) (G : Glb) (A : Around) (P : Addr) (pos : Pos) (qual : Str) (f : Value) (xs : List T) (y : T) : Prop :=
  ∀ X s vs, Bd X s.heap → TopX G X s.heap → P ∈ X → TabS P pos qual X s.heap → RepL (hid s.heap X) xs vs → wpAny (model prog w) A (call f vs) (fun v s' => Rep (hid s'.heap X) y v ∧ KpX [P] s s' ∧ TabS P pos qual X s'.heap) NoE s
/-- a closure, called -/
noncomputable def CallF (prog : Program) (w : World) (G : Glb) (A : Around) (F : T) (clos : List (Str × Addr)) (ρc : Bnd) (xs : List T) (y : T) : Prop :=
  ∀ X s v vs, Bd X s.heap → TopX G X s.heap → Clos clos ρc X s.heap → Rep (hid s.heap X) F v → RepL (hid s.heap X) xs vs → wpAny (model prog w) A (call v vs) (fun r s' => Rep (hid s'.heap X) y r ∧ Kp s s') NoE s
theorem CallF.def {name qual : Str} {params : Arguments} {body : List Stmt} {scope : Scope} {clos : List (Str × Addr)} {ρc : Bnd} {xs : List T} {y : T} (names : List Str)
    (hl : names.length = xs.length) (hroom : A.depth < recursionLimit)
    (hno : (scope.names.all fun x => x.2 != .cell) = true) (hfree : ∀ y t, ρc y = some t → scope.names.lookup y = some .free) (hkind : (names.all fun n => scope.names.lookup n == some .local) = true)
    (hbind : ∀ doc pm c ctv vs, vs.length = names.length → bindArgs (fnX name qual params body scope clos .none .none doc pm none (.ref c) ctv) ⟨vs, []⟩ = pure (names.zip vs))
    (hco : scope.isCoroutine = false) (hgen : scope.isGenerator = false) (hk : scope.kind = .function)
    (h : ∀ doc pm c ctv L a, Bdy prog w G (A.deeper (fnE name qual params body scope clos doc pm c ctv L a)) (fnE name qual params body scope clos doc pm c ctv L a) (updL ρc names xs) body y) :
    CallF prog w G A (.fn name qual params body scope clos) clos ρc xs y := fun X s v vs b tp hcl hv hvs => by
  refine callFn (names := names) b tp hcl hv hvs hl hroom hno hfree hkind hbind hco hgen hk fun doc pm c ctv L a s' f k hO => wpAny_mono (h doc pm c ctv L a _ s' f) (fun fl s'' ⟨u, e, hr, k'⟩ => ?_) fun _ _ q => q
  subst e
  refine ⟨hr.mono (hid_less fun a ha => List.mem_append_right _ ha), ?_⟩
  obtain ⟨⟨h1, t1, rfl⟩, kb⟩ := k
  obtain ⟨⟨h2, t2, rfl⟩, kc⟩ := k'
  exact ⟨⟨_, _, rfl⟩, fun b o e => kc b o (fun q => by rw [hO b q] at e; cases e) (kb b o e)⟩
theorem Ev.callF {x : Str} {xp : Pos} {e : PySem.Expr} {es : List PySem.Expr} {xs : List T} {y : T} {name qual : Str} {params : Arguments} {body : List Stmt} {scope : Scope} {clos : List (Str × Addr)} {ρc : Bnd} {pos : Pos}
    (hf : Ev prog w G A env ρ (.Name x xp) (.fn name qual params body scope clos)) (hs : EvL prog w G A env ρ (e :: es) xs) (hc : CallF prog w G A (.fn name qual params body scope clos) clos ρc xs y)
    (hcl : ∀ X h, EnvR G env ρ X h → Clos clos ρc X h)
    (he : starEach (e :: es) env = (false, eval e env) :: starEach es env := by rfl)
    (hev : eval (.Call (.Name x xp) (e :: es) [] pos) env = (do callWith pos (← eval (.Name x xp) env) [] (backTo pos (starEach (e :: es) env)) (backToKw pos (keywordEach [] env))) := by rfl) : Ev prog w G A env ρ (.Call (.Name x xp) (e :: es) [] pos) y := fun X s b r =>
  Call_ (hf.use b r fun v s₁ h1 k1 b1 r1 => by
    obtain ⟨a, o, doc, pm, c, ctv, oc, fs, t, rfl, ho, hd, q⟩ := rep_fn.mp h1
    refine callWith_def_at (hid_some ho).2 hd (hs.use b1 r1 fun vs s₂ h2 k2 b2 r2 => ⟨k2.keep _ _ (hid_some ho).2, ?_⟩) he
    exact wpAny_mono (hc X s₂ _ vs b2 r2.top (hcl X _ r2) (h1.mono (hid_keeps k2.keep)) h2) (fun _ _ q => ⟨q.1, (k1.trans k2).trans q.2⟩) fun _ _ q => q) hev
theorem Clos.weaken {clos : List (Str × Addr)} {ρc ρd : Bnd} {X : List Addr} {h : Heap} (x : Clos clos ρc X h) (k : BSub ρd ρc) : Clos clos ρd X h := ⟨fun y t e => x.cel y t (k y t e), x.cells, x.apart⟩
/-- within the closure itself -/
theorem Clos.inner {name qual : Str} {params : Arguments} {body : List Stmt} {scope : Scope} {clos : List (Str × Addr)} {doc pm ctv : Value} {c L a : Addr} {ρc : Bnd} {X : List Addr} {h : Heap}
    (r : EnvR G (fnE name qual params body scope clos doc pm c ctv L a) ρ X h) (hno : (scope.names.all fun x => x.2 != .cell) = true) (hfree : ∀ y t, ρc y = some t → scope.names.lookup y = some .free) (hs : BSub ρc ρ) : Clos clos ρc X h := by
  have hcells : (fnE name qual params body scope clos doc pm c ctv L a).cells = clos := cellsFrom_nocell _ _ _ hno
  exact .of r (fun y t e => ⟨hs y t e, .inr (hfree y t e), by rw [hcells]⟩) fun n c e => by rw [hcells]; exact e
theorem restr_free {scope : Scope} {ρ : Bnd} : ∀ y t, restr scope ρ y = some t → scope.names.lookup y = some .free := fun y t e => by
  unfold restr at e
  by_cases hy : scope.names.lookup y = some .free
  · exact hy
  · rw [if_neg hy] at e; cases e
/-- the closure calls itself, two names later -/
theorem Ev.callI {x : Str} {xp : Pos} {e : PySem.Expr} {es : List PySem.Expr} {xs : List T} {y : T} {name qual : Str} {params : Arguments} {body : List Stmt} {scope : Scope} {clos : List (Str × Addr)} {doc pm ctv : Value} {c L a : Addr} {ρc : Bnd} {names : List Str} {xs0 : List T} {m1 m2 : Str} {t1 t2 : T} {pos : Pos}
    (hf : Ev prog w G A (fnE name qual params body scope clos doc pm c ctv L a) (upd (upd (updL ρc names xs0) m1 t1) m2 t2) (.Name x xp) (.fn name qual params body scope clos))
    (hs : EvL prog w G A (fnE name qual params body scope clos doc pm c ctv L a) (upd (upd (updL ρc names xs0) m1 t1) m2 t2) (e :: es) xs) (hc : CallF prog w G A (.fn name qual params body scope clos) clos ρc xs y)
    (hno : (scope.names.all fun x => x.2 != .cell) = true) (hfree : ∀ y t, ρc y = some t → scope.names.lookup y = some .free) (hsub : BSub ρc (upd (upd (updL ρc names xs0) m1 t1) m2 t2))
    (he : starEach (e :: es) (fnE name qual params body scope clos doc pm c ctv L a) = (false, eval e (fnE name qual params body scope clos doc pm c ctv L a)) :: starEach es (fnE name qual params body scope clos doc pm c ctv L a) := by rfl)
    (hev : eval (.Call (.Name x xp) (e :: es) [] pos) (fnE name qual params body scope clos doc pm c ctv L a) = (do callWith pos (← eval (.Name x xp) (fnE name qual params body scope clos doc pm c ctv L a)) [] (backTo pos (starEach (e :: es) (fnE name qual params body scope clos doc pm c ctv L a))) (backToKw pos (keywordEach [] (fnE name qual params body scope clos doc pm c ctv L a)))) := by rfl) :
    Ev prog w G A (fnE name qual params body scope clos doc pm c ctv L a) (upd (upd (updL ρc names xs0) m1 t1) m2 t2) (.Call (.Name x xp) (e :: es) [] pos) y :=
  Ev.callF hf hs hc (fun X h r => Clos.inner r hno hfree hsub) he hev
end
end Mine
end
section
open PySem PySem.W PyProof.Rows PySem.Calls
set_option maxRecDepth 100000
set_option linter.unusedVariables false
namespace Mine
noncomputable def noV : View := fun _ => none
theorem repI {g g' : View} : ∀ {ns : List Int} {vs : List Value}, RepL g (ns.map .int) vs → RepL g' (ns.map .int) vs
  | [], vs, h => by rw [repL_nil.mp h]; exact repL_nil.mpr rfl
  | n :: ns, vs, h => by
    obtain ⟨v, r, rfl, h1, h2⟩ := repL_cons.mp h
    obtain ⟨t, rfl⟩ := rep_int.mp h1
    exact repL_cons.mpr ⟨_, _, rfl, rep_int.mpr ⟨t, rfl⟩, repI h2⟩
/-- a list of ints at this address -/
noncomputable def IL (D : Addr) (ys : List Int) (h : Heap) : Prop := ∃ zs n, h.get? D = some (lstO zs n) ∧ RepL noV (ys.map .int) zs
theorem IL.at {D : Addr} {ys : List Int} {h h' : Heap} (x : IL D ys h) (k : ∀ o, h.get? D = some o → h'.get? D = some o) : IL D ys h' := let ⟨zs, n, a, b⟩ := x; ⟨zs, n, k _ a, b⟩
theorem IL.isList {D : Addr} {ys : List Int} {h : Heap} (x : IL D ys h) : ∃ zs : List Value, h.IsList D zs.toArray ∧ RepL noV (ys.map .int) zs := let ⟨zs, n, a, b⟩ := x; ⟨zs, ⟨_, a, rfl, n, rfl⟩, b⟩
theorem RepL.set {g : View} {x : T} {v : Value} (hv : Rep g x v) : ∀ (j : Nat) {xs : List T} {vs : List Value}, RepL g xs vs → RepL g (xs.set j x) (vs.set j v)
  | _, [], _, h => by rw [repL_nil.mp h]; exact repL_nil.mpr (by simp)
  | 0, y :: ys, _, h => by
    obtain ⟨u, r, rfl, h1, h2⟩ := repL_cons.mp h
    exact repL_cons.mpr ⟨v, r, rfl, hv, h2⟩
  | j + 1, y :: ys, _, h => by
    obtain ⟨u, r, rfl, h1, h2⟩ := repL_cons.mp h
    exact repL_cons.mpr ⟨u, _, rfl, h1, RepL.set hv j h2⟩
section
variable {prog : Program} {w : World} {G : Glb} {A : Around} {env : Env} {ρ ρ' : Bnd}

theorem setItemP {E : Value → Shared → Prop} {s : Shared} {l : Addr} {zs : List Value} {n : Nat} {k : Int} {t : Tok} {v : Value} {Q : Unit → Shared → Prop} (ho : s.heap.get? l = some (lstO zs n)) (h0 : 0 ≤ k) (hfit : k < 2 ^ 63) (hn : k < zs.length)
    (hQ : ∀ h' n', h'.get? l = some (lstO (zs.set k.toNat v) n') → Heap.SameBut l s.heap h' → Q () { s with heap := h' }) : wpAny (model prog w) A (setItem (.ref l) (.int k t) v) Q E s := by
  have hl : s.heap.IsList l zs.toArray := ⟨_, ho, rfl, n, rfl⟩
  unfold setItem
  try with_reducible refine wpAny_holding ?_
  first | refine wpAny_bind (wpAny_pure ?_) | skip
  refine wpAny_bind (wpAny_sequenceKey hl.typeIs (by decide) ?_)
  refine wpAny_bind (wpAny_callSpecial?_slot (name := Str.ofString "__setitem__") hl.typeIs slot_list_setitem
    (wpAny_call_entry slot_list_setitem hl.typeIs entry_list_setitem ?_ (args_list_setitem _ _ _)))
  show wpAny _ _ (Builtin.List.listSubscript? (.int k t) >>= _) _ _ s
  refine wpAny_bind (wpAny_listSubscript_int (fitsIndex_of h0 hfit) ?_)
  clear hfit
  obtain ⟨j, rfl⟩ := Int.eq_ofNat_of_zero_le h0
  have hj : j < zs.length := by omega
  rw [Int.toNat_natCast] at hQ
  have hx' : zs.toArray[j]? = some zs[j] := by simp [hj]
  show wpAny _ _ ((seqItemAt l j >>= fun r => pure (r.map (j, ·))) >>= _) _ _ s
  refine wpAny_bind (wpAny_bind (wpAny_seqItemAt ho rfl (wpAny_pure ?_)))
  rw [hx']
  show wpAny _ _ (setSeqItemAt l j v >>= _) _ _ s
  have hfin : ∃ n', (s.heap.update l (Obj.mapSeq (·.setIfInBounds j v))).get? l = some (lstO (zs.set j v) n') := by
    obtain ⟨n', hd'⟩ := Obj.data_mapSeq (o := lstO zs n) rfl (·.setIfInBounds j v)
    refine ⟨n', ?_⟩
    rw [Heap.get?_update_self _ ho (by rfl)]
    have e2 : (lstO zs n).mapSeq (·.setIfInBounds j v) = { cls := .type "list", data := ((lstO zs n).mapSeq (·.setIfInBounds j v)).data } := rfl
    rw [e2, hd']
    simp
  obtain ⟨n', hfin⟩ := hfin
  refine wpAny_bind (wpAny_setSeqItemAt ho rfl ?_)
  first
    | exact wpAny_bind (wpAny_pure (wpAny_pure ⟨.none, rfl, wpAny_pure (hQ _ n' hfin (Heap.SameBut.update ..))⟩))
    | exact wpAny_pure ⟨.none, rfl, wpAny_pure (hQ _ n' hfin (Heap.SameBut.update ..))⟩

/-- the expression makes a new list -/
noncomputable def EvN (prog : Program) (w : World) (G : Glb) (A : Around) (env : Env) (ρ : Bnd) (e : PySem.Expr) (ys : List Int) : Prop :=
  ∀ X s, Bd X s.heap → EnvR G env ρ X s.heap → wpAny (model prog w) A (eval e env) (fun v s' => ∃ D, v = .ref D ∧ s.heap.get? D = none ∧ IL D ys s'.heap ∧ Kp s s') NoE s
theorem EvN.nil {pos : Pos} : EvN prog w G A env ρ (.List [] pos) [] := fun X s b r =>
  List_ (EvL.nil.use b r fun vs s₁ h1 k1 b1 r1 => by
    rw [repL_nil.mp h1]
    refine wpAny_newObj_type ⟨s₁.heap.objs.size, rfl, ?_, ⟨[], 0, Heap.get?_push_size _ rfl, repL_nil.mpr rfl⟩, k1.trans (keeps_push s₁ _ _)⟩
    cases q : s.heap.get? s₁.heap.objs.size with
    | none => rfl
    | some o => exact absurd (Heap.lt_size (k1.keep _ _ q)) (Nat.lt_irrefl _))
theorem EvN.rep0 {l r : PySem.Expr} {k : Nat} {x : Int} {pos : Pos} (hl : Ev prog w G A env ρ l (.lst [.int x])) (hr : Ev prog w G A env ρ r (.int k)) (hz : k ≤ 1000) : EvN prog w G A env ρ (.BinOp l .Mult r pos) (List.replicate k x) := fun X s b e =>
  wpAny_BinOp (hl.use b e fun v s₁ h1 k1 b1 e1 => hr.use b1 e1 fun u s₂ h2 k2 b2 _ => by
    obtain ⟨a, n, vs, rfl, ha, h1⟩ := rep_lst.mp (h1.mono (hid_keeps k2.keep))
    obtain ⟨t, rfl⟩ := rep_int.mp h2
    obtain ⟨v, r, rfl, hv, h3⟩ := repL_cons.mp h1
    rw [repL_nil.mp h3] at ha
    have e : List.foldl (fun x1 x2 => x1 ++ x2) #[] (List.replicate (if (#[v] : Array Value).isEmpty = true then 0 else (k : Int).toNat) #[v]) = (List.replicate k v).toArray := by
      have : ∀ (k : Nat) (acc : Array Value), List.foldl (fun x1 x2 => x1 ++ x2) acc (List.replicate k #[v]) = acc ++ (List.replicate k v).toArray := by
        intro k
        induction k with
        | zero => intro acc; simp
        | succ k ih => intro acc; rw [List.replicate_succ, List.foldl_cons, ih, List.replicate_succ]; apply Array.ext'; simp
      have h0 : (if (#[v] : Array Value).isEmpty = true then 0 else (k : Int).toNat) = k := by simp
      rw [h0, this]; simp
    refine mulList (hid_some ha).2 (by omega) (by omega) (by simp; omega) ⟨s₂.heap.objs.size, rfl, ?_, ⟨List.replicate k v, 0, ?_, ?_⟩, (k1.trans k2).trans (keeps_push s₂ _ _)⟩
    · cases q : s.heap.get? s₂.heap.objs.size with
      | none => rfl
      | some o => exact absurd (Heap.lt_size ((k1.trans k2).keep _ _ q)) (Nat.lt_irrefl _)
    · rw [e]; exact Heap.get?_push_size _ rfl
    · rw [List.map_replicate]
      refine RepL.replicate ?_ k
      obtain ⟨t', rfl⟩ := rep_int.mp hv
      exact rep_int.mpr ⟨t', rfl⟩)
theorem assignNew {x : Str} {p pos : Pos} {e : PySem.Expr} {ys : List Int} {X : List Addr} {s : Shared} {Q : Flow → Shared → Prop} (h : EvN prog w G A env ρ e ys) (hk : KindOk env x) (f : FrR G env (ownOf env) ρ X s)
    (hQ : ∀ D s', D ∉ X → s.heap.get? D = none → Off env D → FrR G env (ownOf env) (upd ρ x (.ptr D)) (D :: X) s' → KpX (ownOf env) s s' → IL D ys s'.heap → Q .next s')
    (hs : swapsWith e (some (.Name x p)) pos.line env = pure false := by rfl) : wpAny (model prog w) A (exec (.Assign [.Name x p] e pos) env) Q NoE s :=
  wpAny_Assign_Name (wpAny_mono (h X s f.bd f.r) (fun v s₁ ⟨D, e, hD, hI, k⟩ => by
    subst e
    have hDX : D ∉ X := fun m => by obtain ⟨o, e⟩ := f.bd D m; rw [hD] at e; cases e
    have off := f.r.fresh hD
    have f1 := f.hide k hD (by obtain ⟨zs, n, a, _⟩ := hI; exact ⟨_, a⟩)
    refine f1.store (t := .ptr D) (rep_ptr.mpr rfl) hk.own fun s' f' k' => hQ D s' hDX hD off f' (k.x.trans k') (hI.at fun o e => k'.keep D o (fun m => hDX (f.own D m)) e)) fun _ _ q => q.elim) hs

/-- a closure that changes the list at D -/
noncomputable def CallM (prog : Program) (w : World) (G : Glb) (A : Around) (D : Addr) (F : T) (clos : List (Str × Addr)) (ρc : Bnd) (xs : List Int) (ys ys' : List Int) : Prop :=
  ∀ X s v vs, Bd X s.heap → TopX G X s.heap → D ∈ X → Clos clos ρc X s.heap → Rep (hid s.heap X) F v → RepL noV (xs.map .int) vs → IL D ys s.heap → wpAny (model prog w) A (call v vs) (fun r s' => KpX [D] s s' ∧ IL D ys' s'.heap) NoE s
theorem exprM {x : Str} {xp : Pos} {e : PySem.Expr} {es : List PySem.Expr} {xs ys ys' : List Int} {D : Addr} {name qual : Str} {params : Arguments} {body : List Stmt} {scope : Scope} {clos : List (Str × Addr)} {ρc : Bnd} {pos pos' : Pos} {O X : List Addr} {s : Shared} {Q : Flow → Shared → Prop}
    (f : FrR G env O ρ X s) (hD : D ∈ X) (off : Off env D) (hI : IL D ys s.heap)
    (hf : Ev prog w G A env ρ (.Name x xp) (.fn name qual params body scope clos)) (hs : ∀ s₁, Kp s s₁ → wpAny (model prog w) A (spliced (backTo pos (starEach (e :: es) env))) (fun vs s' => RepL noV (xs.map .int) vs ∧ Kp s₁ s') NoE s₁)
    (hc : CallM prog w G A D (.fn name qual params body scope clos) clos ρc xs ys ys') (hcl : ∀ h, EnvR G env ρ X h → Clos clos ρc X h)
    (hQ : ∀ s', FrR G env O ρ X s' → KpX [D] s s' → IL D ys' s'.heap → Q .next s')
    (he : starEach (e :: es) env = (false, eval e env) :: starEach es env := by rfl)
    (hev : eval (.Call (.Name x xp) (e :: es) [] pos) env = (do callWith pos (← eval (.Name x xp) env) [] (backTo pos (starEach (e :: es) env)) (backToKw pos (keywordEach [] env))) := by rfl)
    (hi : interactive env = false := by rfl) (hsw : swapsWith (.Call (.Name x xp) (e :: es) [] pos) none pos'.line env = pure false := by rfl) :
    wpAny (model prog w) A (exec (.Expr (.Call (.Name x xp) (e :: es) [] pos) pos') env) Q NoE s := by
  refine wpAny_Expr_any (Call_ (hf.use f.bd f.r fun v s₁ h1 k1 b1 r1 => ?_) hev) hi hsw
  obtain ⟨a, o, doc, pm, c, ctv, oc, fs, t, rfl, ho, hd, q⟩ := rep_fn.mp h1
  refine callWith_def_at (hid_some ho).2 hd (wpAny_mono (hs s₁ k1) (fun vs s₂ ⟨h2, k2⟩ => ⟨k2.keep _ _ (hid_some ho).2, ?_⟩) fun _ _ q => q.elim) he
  have f2 := (f.kp k1).kp k2
  refine wpAny_mono (hc X s₂ _ vs f2.bd f2.r.top hD (hcl _ f2.r) (h1.mono (hid_keeps k2.keep)) h2 (hI.at fun o e => k2.keep _ _ (k1.keep _ _ e))) (fun r s₃ ⟨k3, hI3⟩ => ?_) fun _ _ q => q.elim
  obtain ⟨⟨h3, t3, rfl⟩, kb⟩ := id k3
  exact hQ _ (f2.other hD off kb (by obtain ⟨zs, n, a, _⟩ := hI3; exact ⟨_, a⟩)) ((k1.trans k2).x.trans k3) hI3
theorem evL_ints {es : List PySem.Expr} {ns : List Int} {O X : List Addr} {s : Shared} (f : FrR G env O ρ X s) (h : EvL prog w G A env ρ es (ns.map .int)) {pos : Pos} : ∀ s₁, Kp s s₁ → wpAny (model prog w) A (spliced (backTo pos (starEach es env))) (fun vs s' => RepL noV (ns.map .int) vs ∧ Kp s₁ s') NoE s₁ := fun s₁ k =>
  wpAny_mono (h pos X s₁ (f.kp k).bd (f.kp k).r) (fun vs s' ⟨h, k⟩ => ⟨repI h, k⟩) fun _ _ q => q

theorem CallM.def {name qual : Str} {params : Arguments} {body : List Stmt} {scope : Scope} {clos : List (Str × Addr)} {ρc : Bnd} {D : Addr} {xs ys ys' : List Int} (names : List Str)
    (hl : names.length = xs.length) (hroom : A.depth < recursionLimit)
    (hno : (scope.names.all fun x => x.2 != .cell) = true) (hfree : ∀ y t, ρc y = some t → scope.names.lookup y = some .free) (hkind : (names.all fun n => scope.names.lookup n == some .local) = true)
    (hbind : ∀ doc pm c ctv vs, vs.length = names.length → bindArgs (fnX name qual params body scope clos .none .none doc pm none (.ref c) ctv) ⟨vs, []⟩ = pure (names.zip vs))
    (hco : scope.isCoroutine = false) (hgen : scope.isGenerator = false) (hk : scope.kind = .function)
    (h : ∀ doc pm c ctv L a X s, FrR G (fnE name qual params body scope clos doc pm c ctv L a) (ownOf (fnE name qual params body scope clos doc pm c ctv L a)) (updL ρc names (xs.map .int)) X s → D ∈ X → Off (fnE name qual params body scope clos doc pm c ctv L a) D → IL D ys s.heap →
      wpAny (model prog w) (A.deeper (fnE name qual params body scope clos doc pm c ctv L a)) (execs body (fnE name qual params body scope clos doc pm c ctv L a)) (fun f s' => KpX (D :: ownOf (fnE name qual params body scope clos doc pm c ctv L a)) s s' ∧ IL D ys' s'.heap) NoE s) :
    CallM prog w G A D (.fn name qual params body scope clos) clos ρc xs ys ys' := fun X s v vs b tp hD hcl hv hvs hI => by
  refine callFn (names := names) (xs := xs.map .int) b tp hcl hv (repI hvs) (by rw [List.length_map]; exact hl) hroom hno hfree hkind hbind hco hgen hk fun doc pm c ctv L a s' f k hO => ?_
  have hI' : IL D ys s'.heap := hI.at fun o e => k.keep _ _ e
  have off : Off (fnE name qual params body scope clos doc pm c ctv L a) D := by
    obtain ⟨zs, n, hz, _⟩ := hI'
    refine ⟨fun e => ?_, fun y c' hc e => ?_⟩
    · obtain ⟨m, ⟨o, _, _, ho, hd, _⟩, _⟩ := f.r.loc
      rw [e, hz] at ho; cases ho; cases hd
    · obtain ⟨v, o, ho, hd⟩ := f.r.cells y c' hc
      rw [e, hz] at ho; cases ho; cases hd
  refine wpAny_mono (h doc pm c ctv L a _ s' f (List.mem_append_right _ hD) off hI') (fun fl s'' ⟨k', hI''⟩ => ⟨KpX.back k k' fun a ha => ?_, hI''⟩) fun _ _ q => q
  rcases List.mem_cons.mp ha with rfl | ha
  · exact .inl List.mem_cons_self
  · exact .inr (hO a ha)
/-- D[k] = x -/
theorem setM {x i y : Str} {xp ip yp sp pos : Pos} {D : Addr} {ys : List Int} {k v : Int} {O X : List Addr} {s : Shared} {Q : Flow → Shared → Prop} (f : FrR G env O ρ X s) (hD : D ∈ X) (off : Off env D) (hI : IL D ys s.heap)
    (hv : Ev prog w G A env ρ (.Name y yp) (.int v)) (hx : Ev prog w G A env ρ (.Name x xp) (.ptr D)) (hi : Ev prog w G A env ρ (.Name i ip) (.int k)) (h0 : 0 ≤ k) (h1 : k < ys.length) (hz : ys.length ≤ 1000)
    (hQ : ∀ s', FrR G env O ρ X s' → KpX [D] s s' → IL D (ys.set k.toNat v) s'.heap → Q .next s')
    (hs : swapsWith (.Name y yp) (some (.Subscript (.Name x xp) (.Name i ip) sp)) pos.line env = pure false := by rfl) :
    wpAny (model prog w) A (exec (.Assign [.Subscript (.Name x xp) (.Name i ip) sp] (.Name y yp) pos) env) Q NoE s :=
  wpAny_Assign_Subscript (hv.use f.bd f.r fun u s₁ g1 k1 b1 r1 => hx.use b1 r1 fun p s₂ g2 k2 b2 r2 => hi.use b2 r2 fun j s₃ g3 k3 b3 r3 => by
    obtain ⟨t, rfl⟩ := rep_int.mp g1
    rw [rep_ptr.mp g2]
    obtain ⟨t', rfl⟩ := rep_int.mp g3
    have kk := (k1.trans k2).trans k3
    obtain ⟨zs, n, hz', hr⟩ := hI.at fun o e => kk.keep _ _ e
    have hlen : zs.length = ys.length := by rw [hr.length, List.length_map]
    refine setItemP hz' h0 (by omega) (by rw [hlen]; exact h1) fun h' n' hn' hs' => ?_
    have kb : ∀ b o, b ∉ ([D] : List Addr) → s₃.heap.get? b = some o → h'.get? b = some o := fun b o n e => hs'.extBut b o (by simpa using n) e
    refine hQ _ ((f.kp kk).other hD off kb ⟨_, hn'⟩) (kk.x.trans ⟨⟨_, _, rfl⟩, kb⟩) ⟨_, n', hn', ?_⟩
    rw [List.map_set]
    exact RepL.set (rep_int.mpr ⟨t, rfl⟩) _ hr) hs

theorem EnvR.toLst {x : Str} {D : Addr} {ys : List Int} {X : List Addr} {h : Heap} (r : EnvR G env ρ (D :: X) h) (hx : ρ x = some (.ptr D)) (hD : D ∉ X) (hI : IL D ys h) : EnvR G env (upd ρ x (.lst (ys.map .int))) X h := by
  have r' := r.less (Y := X) fun a ha => List.mem_cons_of_mem _ ha
  have hp : ∀ v, Rep (hid h X) (.ptr D) v → Rep (hid h X) (.lst (ys.map .int)) v := fun v hv => by
    obtain ⟨zs, n, hz, hr⟩ := hI
    rw [rep_ptr.mp hv]
    exact rep_lst.mpr ⟨D, n, zs, rfl, hid_of hD hz, repI hr⟩
  refine ⟨r'.kind, r'.glob, r'.bins, fun y t e => ?_, ?_, fun y t e q => ?_, r'.top, r'.cells, r'.apart⟩
  · unfold upd at e
    by_cases hy : y = x
    · subst hy; exact r.dec y _ hx
    · rw [if_neg hy] at e; exact r.dec y t e
  · obtain ⟨m, hn, hm⟩ := r'.loc
    refine ⟨m, hn, fun y t e q => ?_⟩
    unfold upd at e
    by_cases hy : y = x
    · subst hy
      rw [if_pos rfl] at e; cases e
      obtain ⟨v, h1, h2⟩ := hm y _ hx q
      exact ⟨v, h1, hp v h2⟩
    · rw [if_neg hy] at e; exact hm y t e q
  · unfold upd at e
    by_cases hy : y = x
    · subst hy
      rw [if_pos rfl] at e; cases e
      obtain ⟨c, v, h1, h2, h3⟩ := r'.cel y _ hx q
      exact ⟨c, v, h1, h2, hp v h3⟩
    · rw [if_neg hy] at e; exact r'.cel y t e q
theorem evL_alt {es : List PySem.Expr} {ns : List Int} {X : List Addr} {s : Shared} (b : Bd X s.heap) (r : EnvR G env ρ X s.heap) (h : EvL prog w G A env ρ es (ns.map .int)) {pos : Pos} : ∀ s₁, Kp s s₁ → wpAny (model prog w) A (spliced (backTo pos (starEach es env))) (fun vs s' => RepL noV (ns.map .int) vs ∧ Kp s₁ s') NoE s₁ := fun s₁ k =>
  wpAny_mono (h pos X s₁ (b.keeps k.keep) (r.keeps k.keep)) (fun vs s' ⟨h, k⟩ => ⟨repI h, k⟩) fun _ _ q => q

theorem stStep {st : Stmt} {rest : List Stmt} {X : List Addr} {s : Shared} {Q : Flow → Shared → Prop} (h : St prog w G A env ρ st ρ') (f : FrR G env (ownOf env) ρ X s) (hQ : ∀ s', FrR G env (ownOf env) ρ' X s' → KpX (ownOf env) s s' → wpAny (model prog w) A (execs rest env) Q NoE s') :
    wpAny (model prog w) A (execs (st :: rest) env) Q NoE s :=
  wpAny_execs_cons (wpAny_mono (h X s f) (fun fl s' ⟨e, f', k'⟩ => by subst e; exact hQ s' f' k') fun _ _ q => q)
theorem ifStepF {test : PySem.Expr} {body rest : List Stmt} {pos : Pos} {O X : List Addr} {s : Shared} {Q : Flow → Shared → Prop} (h : Tst prog w G A env ρ test false) (f : FrR G env O ρ X s) (hQ : ∀ s', FrR G env O ρ X s' → Kp s s' → wpAny (model prog w) A (execs rest env) Q NoE s') :
    wpAny (model prog w) A (execs (.If test body [] pos :: rest) env) Q NoE s :=
  wpAny_execs_cons (wpAny_If (h.use f.bd f.r fun s₁ k1 _ _ => by
    simp only [Bool.false_eq_true, if_false]
    exact wpAny_execs_nil (hQ s₁ (f.kp k1) k1)))
end
end Mine
end
section
open PySem PySem.W PyProof.Rows PySem.Calls
set_option maxRecDepth 100000
set_option linter.unusedVariables false
namespace Mine

/-- a fact of the heap that survives what happens at hidden addresses other than those of S -/
structure Stab (S : List Addr) (Inv : List Addr → Heap → Prop) : Prop where
  st : ∀ X h h', Inv X h → (∀ b o, b ∉ X ∨ b ∈ S → h.get? b = some o → h'.get? b = some o) → Inv X h'
  more : ∀ X I h, Inv X h → h.get? I = none → Inv (I :: X) h
  less : ∀ X Y h, (∀ a ∈ Y, a ∈ X) → Inv X h → Inv Y h
theorem Stab.and {S : List Addr} {I J : List Addr → Heap → Prop} (a : Stab S I) (b : Stab S J) : Stab S fun X h => I X h ∧ J X h where
  st := fun X h h' x k => ⟨a.st X h h' x.1 k, b.st X h h' x.2 k⟩
  more := fun X I h x k => ⟨a.more X I h x.1 k, b.more X I h x.2 k⟩
  less := fun X Y h k x => ⟨a.less X Y h k x.1, b.less X Y h k x.2⟩
theorem Stab.il {S : List Addr} {D : Addr} {ys : List Int} (h : D ∈ S) : Stab S fun _ h => IL D ys h where
  st := fun X h₁ h' x k => x.at fun o e => k D o (.inr h) e
  more := fun X I h₁ x _ => x
  less := fun X Y h₁ _ x => x
theorem Stab.tab {S : List Addr} {P : Addr} {pos : Pos} {qual : Str} (hP : P ∈ S) : Stab S fun X h => TabS P pos qual X h where
  st := fun X h h' ⟨ps, hp, q⟩ k => ⟨ps, k _ _ (.inr hP) hp, q.imp id fun ⟨c, oc, fs, t, e, hc, ho, r⟩ => ⟨c, oc, fs, t, e, hc, k _ _ (.inl hc) ho, r⟩⟩
  more := fun X I h x e => x.more fun a ha => by
    rcases List.mem_cons.mp ha with rfl | ha
    · exact .inr e
    · exact .inl ha
  less := fun X Y h k x => x.less k
theorem Stab.kpx {S Y : List Addr} {Inv : List Addr → Heap → Prop} (st : Stab S Inv) {X : List Addr} {s s' : Shared} (x : Inv X s.heap) (k : KpX Y s s') (h1 : ∀ a ∈ Y, a ∈ X) (h2 : ∀ a ∈ Y, a ∉ S) : Inv X s'.heap :=
  st.st _ _ _ x fun b o hb e => k.keep b o (fun m => hb.elim (fun q => q (h1 b m)) (h2 b m)) e
theorem Stab.kp {S : List Addr} {Inv : List Addr → Heap → Prop} (st : Stab S Inv) {X : List Addr} {s s' : Shared} (x : Inv X s.heap) (k : Kp s s') : Inv X s'.heap := st.st _ _ _ x fun b o _ e => k.keep b o e

section
variable {prog : Program} {w : World} {G : Glb} {A : Around} {env : Env} {ρ ρ' : Bnd}

theorem forM {x : Str} {px pos : Pos} {iter : PySem.Expr} {body : List Stmt} {xs : List T} (R : Nat → Bnd) (S : List Addr) (Y : List Addr) (Inv : Nat → List Addr → Heap → Prop) {X : List Addr} {s : Shared} {Q : Flow → Shared → Prop}
    (f : FrR G env (ownOf env) (R 0) X s) (hi : ItT prog w G A env (R 0) iter xs) (hk : KindOk env x) (st : ∀ i, Stab S (Inv i)) (hS : ∀ a ∈ S, a ∈ X) (hSO : ∀ a ∈ ownOf env, a ∉ S) (hY : ∀ a ∈ Y, a ∈ X) (hOY : ∀ a ∈ ownOf env, a ∈ Y) (h0 : Inv 0 X s.heap)
    (turn : ∀ i t X' s', xs[i]? = some t → (∀ a ∈ X, a ∈ X') → FrR G env (ownOf env) (upd (R i) x t) X' s' → Inv i X' s'.heap →
      wpAny (model prog w) A (execs body env) (fun fl s'' => fl = .next ∧ FrR G env (ownOf env) (R (i + 1)) X' s'' ∧ KpX Y s' s'' ∧ Inv (i + 1) X' s''.heap) NoE s')
    (hQ : ∀ s', FrR G env (ownOf env) (R xs.length) X s' → KpX Y s s' → Inv xs.length X s'.heap → Q .next s')
    (hs : ∀ x, foldedSetIterable iter env x = pure x := by intro _; rfl) : wpAny (model prog w) A (exec (.For (.Name x px) iter body [] pos) env) Q NoE s := by
  refine wpAny_For (wpAny_mono (hi X s f.bd f.r) (fun v s₁ h₁ => wpAny_mono h₁ (fun it s₂ h₂ => ?_) fun _ _ q => q.elim) fun _ _ q => q) hs
  obtain ⟨I, fp, P, Sta, rfl, W, sta, hIX, hI, hIo, hfp, hP, k2⟩ := h₂
  have hoff : Off env I := f.r.fresh hI
  have hIS : I ∉ S := fun m => hIX (hS I m)
  have fpw : ∀ (h h' : Heap), (∀ b o, b ∉ Y → h.get? b = some o → h'.get? b = some o) → ∀ b ∈ fp, ∀ o, h.get? b = some o → h'.get? b = some o := fun h h' kk b hb o e => by
    refine kk b o (fun q => ?_) e
    rcases hfp b hb with rfl | ⟨q', _⟩
    · exact hIX (hY b q)
    · exact q' (hY b q)
  refine codeAny_forLoop (fun k s' => ∃ i, i ≤ xs.length ∧ k = xs.length + 1 - i ∧ FrR G env (ownOf env) (R i) (I :: X) s' ∧ Sta i s'.heap ∧ KpX (I :: Y) s₂ s' ∧ Inv i (I :: X) s'.heap) ?_ (xs.length + 1)
    ⟨0, Nat.zero_le _, rfl, f.hide k2 hI (hIo _ _ sta), sta, .refl _, (st 0).kp ((st 0).more _ _ _ h0 hI) k2⟩
  rintro k s' ⟨i, hi, rfl, f', st', k', inv⟩
  by_cases hlt : i < xs.length
  · refine W.item i _ _ _ hlt st' fun v h' tk hv st₁ kk => ?_
    have f₁ : FrR G env (ownOf env) (R i) (I :: X) { s' with heap := h', toks := tk } := f'.other List.mem_cons_self hoff kk (hIo _ _ st₁)
    have k₁ : KpX (I :: Y) s₂ { s' with heap := h', toks := tk } := k'.trans ⟨⟨_, _, rfl⟩, fun b o n e => kk b o (fun q => n (List.mem_singleton.mp q ▸ List.mem_cons_self)) e⟩
    have inv₁ : Inv i (I :: X) h' := (st i).kpx (s := s') (s' := { s' with heap := h', toks := tk }) (Y := [I]) inv ⟨⟨_, _, rfl⟩, kk⟩ (fun a ha => List.mem_singleton.mp ha ▸ List.mem_cons_self) fun a ha => List.mem_singleton.mp ha ▸ hIS
    obtain ⟨t, ht, hr⟩ := hP i v hlt hv
    have hr' : Rep (hid h' (I :: X)) t v := hr.mono (hid_in fun b o n e => k₁.keep b o (fun q => n (by
      rcases List.mem_cons.mp q with q | q
      · exact q ▸ List.mem_cons_self
      · exact List.mem_cons_of_mem _ (hY b q))) e)
    refine wpAny_assign_Name (f₁.store hr' hk.own fun s₃ f₃ k₃ => ?_)
    have inv₃ : Inv i (I :: X) s₃.heap := (st i).kpx (s := { s' with heap := h', toks := tk }) inv₁ k₃ f₁.own hSO
    refine wpAny_mono (turn i t (I :: X) s₃ ht (fun a ha => List.mem_cons_of_mem _ ha) f₃ inv₃) (fun fl s₄ ⟨e, f₄, k₄, inv₄⟩ => ?_) fun _ _ q => q.elim
    subst e
    have k₅ := (k₃.more hOY).trans k₄
    refine ⟨xs.length + 1 - (i + 1), by omega, i + 1, hlt, rfl, f₄, W.frame _ _ _ st₁ (fpw _ _ k₅.keep), k₁.trans ⟨k₅.same, fun b o n e => k₅.keep b o (fun q => n (List.mem_cons_of_mem _ q)) e⟩, inv₄⟩
  · obtain rfl : i = xs.length := by omega
    refine W.done _ _ _ st' fun h' tk kk => ?_
    have f₁ := f'.drop (h' := h') (tk := tk) hIX f.own hoff kk
    have inv₁ : Inv xs.length (I :: X) h' := (st _).kpx (s := s') (s' := { s' with heap := h', toks := tk }) (Y := [I]) inv ⟨⟨_, _, rfl⟩, kk⟩ (fun a ha => List.mem_singleton.mp ha ▸ List.mem_cons_self) fun a ha => List.mem_singleton.mp ha ▸ hIS
    refine wpAny_execs_nil (hQ _ f₁ ?_ ((st _).less _ _ _ (fun a ha => List.mem_cons_of_mem _ ha) inv₁))
    obtain ⟨⟨h2, t2, e2⟩, kb⟩ := k'
    refine ⟨?_, fun b o n e => ?_⟩
    · obtain ⟨⟨h1, t1, rfl⟩, _⟩ := k2
      rw [e2]; exact ⟨_, _, rfl⟩
    · by_cases q : b = I
      · subst q; rw [hI] at e; cases e
      · have hb : b ∉ I :: Y := fun m => (List.mem_cons.mp m).elim q n
        exact kk b o (by simpa using q) (kb b o hb (k2.keep b o e))

theorem forZ {x : Str} {px pos : Pos} {iter : PySem.Expr} {body : List Stmt} {xs : List T} (R : Nat → Bnd) (S : List Addr) (Z : List Addr) (Inv : Nat → List Addr → Heap → Prop) {X : List Addr} {s : Shared} {Q : Flow → Shared → Prop}
    (f : FrR G env (ownOf env) (R 0) X s) (hi : ItT prog w G A env (R 0) iter xs) (hk : KindOk env x) (st : ∀ i, Stab S (Inv i)) (hS : ∀ a ∈ S, a ∈ X) (hSO : ∀ a ∈ ownOf env, a ∉ S) (hZ : ∀ a ∈ Z, a ∈ X) (h0 : Inv 0 X s.heap)
    (turn : ∀ i t X' s', xs[i]? = some t → (∀ a ∈ X, a ∈ X') → FrR G env (ownOf env) (upd (R i) x t) X' s' → Inv i X' s'.heap →
      wpAny (model prog w) A (execs body env) (fun fl s'' => fl = .next ∧ FrR G env (ownOf env) (R (i + 1)) X' s'' ∧ KpX (Z ++ ownOf env) s' s'' ∧ Inv (i + 1) X' s''.heap) NoE s')
    (hQ : ∀ s', FrR G env (ownOf env) (R xs.length) X s' → KpX (Z ++ ownOf env) s s' → Inv xs.length X s'.heap → Q .next s')
    (hs : ∀ x, foldedSetIterable iter env x = pure x := by intro _; rfl) : wpAny (model prog w) A (exec (.For (.Name x px) iter body [] pos) env) Q NoE s :=
  forM R S (Z ++ ownOf env) Inv f hi hk st hS hSO (fun a ha => (List.mem_append.mp ha).elim (hZ a) (f.own a)) (fun a ha => List.mem_append_right _ ha) h0 turn hQ hs
theorem ItT.rev {f e : PySem.Expr} {xs : List T} {pos : Pos} (hf : EvV prog w G A env ρ f (.type "reversed")) (he : Ev prog w G A env ρ e (.lst xs)) (hh : A.handled = none)
    (hs : starEach [e] env = (false, eval e env) :: starEach [] env := by rfl)
    (hp : (backTo pos (starEach [] env)).any (·.1) = false := by rfl)
    (hcl : eval (.Call f [e] [] pos) env = (do callWith pos (← eval f env) [] (backTo pos (starEach [e] env)) (backToKw pos (keywordEach [] env))) := by rfl) :
    ItT prog w G A env ρ (.Call f [e] [] pos) xs.reverse := fun X s b r =>
  Call_ (hf.use b r fun s₁ k1 b1 r1 => Pv.callWith_type1 (spliced_more (he.use b1 r1 fun v s₂ h2 k2 b2 r2 => spliced_none (by
    obtain ⟨l, n, vs, rfl, hl, hvs⟩ := rep_lst.mp h2
    obtain ⟨hlX, hlo⟩ := hid_some hl
    have hL : s₂.heap.IsList l vs.toArray := ⟨_, hlo, rfl, n, rfl⟩
    refine call_reversed_list hL ?_
    have hlt := Heap.lt_size hlo
    have W := Walks.listRev (prog := prog) (w := w) (A := A) hh s₂.heap.objs.size l (Nat.ne_of_lt hlt) vs.toArray
    have hsz : vs.toArray.size = xs.reverse.length := by rw [List.size_toArray, List.length_reverse]; exact hvs.length
    have up : ∀ b o, s₂.heap.get? b = some o → (s₂.heap.push (revObj l ((vs.toArray.size : Int) - 1))).get? b = some o := fun _ _ e => Heap.get?_push_of_some _ e
    have kk : Kp s { s₂ with heap := s₂.heap.push (revObj l ((vs.toArray.size : Int) - 1)) } := (k1.trans k2).trans ⟨⟨_, _, rfl⟩, up⟩
    have hn : s₂.heap.get? s₂.heap.objs.size = none := Heap.get?_none_of_le (Nat.le_refl _)
    have hn' : s.heap.get? s₂.heap.objs.size = none := by
      cases q : s.heap.get? s₂.heap.objs.size with
      | none => rfl
      | some o => rw [(k1.trans k2).keep _ _ q] at hn; cases hn
    have sta : 0 ≤ vs.toArray.size ∧ (s₂.heap.push (revObj l ((vs.toArray.size : Int) - 1))).IsRevIter s₂.heap.objs.size l ((vs.toArray.size : Int) - 1 - ((0 : Nat) : Int)) ∧ (s₂.heap.push (revObj l ((vs.toArray.size : Int) - 1))).IsList l vs.toArray :=
      ⟨Nat.zero_le _, ⟨_, Heap.get?_push_size _ rfl, rfl, by simp [revObj]⟩, hL.push _⟩
    refine W.self 0 _ _ _ sta ?_
    rw [hsz] at W
    refine ⟨_, _, _, _, rfl, W, hsz ▸ sta, b2.new, hn', (fun i h st => by obtain ⟨_, ⟨o, e, _⟩, _⟩ := st; exact ⟨o, e⟩), fun b hb => ?_, fun i v hi hv => ?_, kk⟩
    · rcases List.mem_cons.mp hb with e | hb
      · exact .inl e
      · rw [List.mem_singleton.mp hb]; exact .inr ⟨hlX, _, up _ _ hlo⟩
    · rw [List.length_reverse] at hv hi
      obtain ⟨x, hx, hr⟩ := hvs.get (xs.length - 1 - i) v (by simpa [hvs.length] using hv)
      refine ⟨x, by rw [List.getElem?_reverse hi]; exact hx, hr.mono (hid_more (Y := [s₂.heap.objs.size]) (fun b o _ e => up b o e) fun y hy => .inr ?_)⟩
      rw [List.mem_singleton.mp hy]; exact hn)) hs) hs hp) hcl
end
end Mine
end
section
open PySem PySem.W PyProof.Rows PySem.Calls
set_option maxRecDepth 100000
set_option linter.unusedVariables false
namespace Mine
section
variable {prog : Program} {w : World} {G : Glb} {A : Around} {env : Env} {ρ ρ' : Bnd}

theorem appendM {x : Str} {xp ap cp pos : Pos} {e : PySem.Expr} {D : Addr} {ys : List Int} {v : Int} {O X : List Addr} {s : Shared} {Q : Flow → Shared → Prop} {pl : Sem Bool} (f : FrR G env O ρ X s) (hD : D ∈ X) (off : Off env D) (hI : IL D ys s.heap) (hz : ys.length ≤ 1000)
    (hx : Ev prog w G A env ρ (.Name x xp) (.ptr D)) (hv : Ev prog w G A env ρ e (.int v))
    (hQ : ∀ s', FrR G env O ρ X s' → KpX [D] s s' → IL D (ys ++ [v]) s'.heap → Q .next s')
    (hse : starEach [e] env = (false, eval e env) :: starEach [] env := by rfl)
    (he : eval (.Call (.Attribute (.Name x xp) (Str.ofString "append") ap) [e] [] cp) env = (do
      let ov ← eval (.Name x xp) env
      standAt ap.atName
      let (f, first) ← holding [ov] (getMethod ov (Str.ofString "append") pl)
      callWith cp f first (backTo cp (starEach [e] env)) []) := by rfl)
    (hi : interactive env = false := by rfl) (hsw : swapsWith (.Call (.Attribute (.Name x xp) (Str.ofString "append") ap) [e] [] cp) none pos.line env = pure false := by rfl) :
    wpAny (model prog w) A (exec (.Expr (.Call (.Attribute (.Name x xp) (Str.ofString "append") ap) [e] [] cp) pos) env) Q NoE s := by
  refine wpAny_Expr_any (MethodCall_ (hx.use f.bd f.r fun p s₁ g1 k1 b1 r1 => ?_) he) hi hsw
  rw [rep_ptr.mp g1]
  obtain ⟨zs, n, hz', hr⟩ := hI.at fun o e => k1.keep _ _ e
  refine getMethod_builtin (T := "list") ⟨_, hz', rfl⟩ PySem.F.plainAttrs_list slot_list_append type_list_append (fun b e => by cases e; exact ⟨_, hz', rfl⟩) (callWith_method1 (spliced_more (hv.use b1 r1 fun u s₂ g2 k2 b2 r2 => ?_) hse) hse)
  obtain ⟨t, rfl⟩ := rep_int.mp g2
  refine spliced_none ?_
  have hlen : zs.length = ys.length := by rw [hr.length, List.length_map]
  refine wpAny_list_append_plain (hsz := by rw [List.size_toArray, sizeLine_eq]; omega) ⟨n, k2.keep _ _ hz'⟩ fun h' ⟨n', hn'⟩ hs' => ?_
  have kb : ∀ b o, b ∉ ([D] : List Addr) → s₂.heap.get? b = some o → h'.get? b = some o := fun b o n e => hs'.extBut b o (by simpa using n) e
  refine hQ _ (((f.kp k1).kp k2).other (tk := s₂.toks) hD off kb ⟨_, hn'⟩) ((k1.trans k2).x.trans ⟨⟨_, _, rfl⟩, kb⟩) ⟨zs ++ [.int v t], n', ?_, ?_⟩
  · rw [hn']; simp
  · rw [List.map_append]; exact hr.append (.one (rep_int.mpr ⟨t, rfl⟩))
theorem reverseM {x : Str} {xp ap cp pos : Pos} {D : Addr} {ys : List Int} {O X : List Addr} {s : Shared} {Q : Flow → Shared → Prop} {pl : Sem Bool} (f : FrR G env O ρ X s) (hD : D ∈ X) (off : Off env D) (hI : IL D ys s.heap) (hz : ys.length ≤ 1000)
    (hx : Ev prog w G A env ρ (.Name x xp) (.ptr D))
    (hQ : ∀ s', FrR G env O ρ X s' → KpX [D] s s' → IL D ys.reverse s'.heap → Q .next s')
    (he : eval (.Call (.Attribute (.Name x xp) (Str.ofString "reverse") ap) [] [] cp) env = (do
      let ov ← eval (.Name x xp) env
      standAt ap.atName
      let (f, first) ← holding [ov] (getMethod ov (Str.ofString "reverse") pl)
      callWith cp f first (backTo cp (starEach [] env)) []) := by rfl)
    (hi : interactive env = false := by rfl) (hsw : swapsWith (.Call (.Attribute (.Name x xp) (Str.ofString "reverse") ap) [] [] cp) none pos.line env = pure false := by rfl) :
    wpAny (model prog w) A (exec (.Expr (.Call (.Attribute (.Name x xp) (Str.ofString "reverse") ap) [] [] cp) pos) env) Q NoE s := by
  refine wpAny_Expr_any (MethodCall_ (hx.use f.bd f.r fun p s₁ g1 k1 b1 r1 => ?_) he) hi hsw
  rw [rep_ptr.mp g1]
  obtain ⟨zs, n, hz', hr⟩ := hI.at fun o e => k1.keep _ _ e
  have hlen : zs.length = ys.length := by rw [hr.length, List.length_map]
  refine getMethod_builtin (T := "list") ⟨_, hz', rfl⟩ PySem.F.plainAttrs_list PySem.F.slot_list_reverse PySem.F.type_list_reverse (fun b e => by cases e; exact ⟨_, hz', rfl⟩) (callWith_method0 ?_)
  refine call_meets PySem.F.slot_list_reverse ⟨_, hz', rfl⟩ PySem.F.entry_list_reverse (PySem.F.args_list_reverse_1 _) (PySem.AutoSeq1.list_reverse_list_0 D zs.toArray n (by rw [List.size_toArray, sizeLine_eq]; omega)) ⟨hz', ?_⟩
  have hs' : Heap.SameBut D s₁.heap (s₁.heap.update D (Obj.mapSeq fun x => x.reverse)) := Heap.SameBut.update ..
  have hn' : ∃ n', (s₁.heap.update D (Obj.mapSeq fun x => x.reverse)).get? D = some (lstO zs.reverse n') := by
    obtain ⟨n', hd'⟩ := Obj.data_mapSeq (o := lstO zs n) rfl (fun x => x.reverse)
    refine ⟨n', ?_⟩
    rw [Heap.get?_update_self _ hz' (by rfl)]
    have e2 : (lstO zs n).mapSeq (fun x => x.reverse) = { cls := .type "list", data := ((lstO zs n).mapSeq (fun x => x.reverse)).data } := rfl
    rw [e2, hd']
    simp
  obtain ⟨n', hn'⟩ := hn'
  have kb : ∀ b o, b ∉ ([D] : List Addr) → s₁.heap.get? b = some o → (s₁.heap.update D (Obj.mapSeq fun x => x.reverse)).get? b = some o := fun b o n e => hs'.extBut b o (by simpa using n) e
  refine hQ _ ((f.kp k1).other (tk := s₁.toks) hD off kb ⟨_, hn'⟩) (k1.x.trans ⟨⟨_, _, rfl⟩, kb⟩) ⟨zs.reverse, n', hn', ?_⟩
  rw [List.map_reverse]; exact hr.reverse

/-- both tables -/
noncomputable abbrev TY : List Addr := [37, 44]
noncomputable def CallZ (prog : Program) (w : World) (G : Glb) (A : Around) (Tb : List Addr → Heap → Prop) (f : Value) (xs : List T) (y : T) : Prop :=
  ∀ X s vs, Bd X s.heap → TopX G X s.heap → (∀ a ∈ TY, a ∈ X) → Tb X s.heap → RepL (hid s.heap X) xs vs → wpAny (model prog w) A (call f vs) (fun v s' => Rep (hid s'.heap X) y v ∧ KpX TY s s' ∧ Tb X s'.heap) NoE s
theorem FrR.kpx {O X Y : List Addr} {s s' : Shared} (f : FrR G env O ρ X s) (k : KpX Y s s') (hY : ∀ a ∈ Y, a ∈ X) (off : ∀ a ∈ Y, Off env a) (ho : ∀ a ∈ Y, ∃ o, s'.heap.get? a = some o) : FrR G env O ρ X s' where
  r := f.r.in (Y := Y) k.keep hY (fun m => (off _ m).loc rfl) fun n c e m => (off c m).cel n c e rfl
  bd := fun a ha => by
    by_cases q : a ∈ Y
    · exact ho a q
    · obtain ⟨o, e⟩ := f.bd a ha
      exact ⟨o, k.keep a o q e⟩
  own := f.own
/-- what is asked of the tables' facts -/
structure TbOK (Tb : List Addr → Heap → Prop) : Prop where
  has : ∀ X h, Tb X h → ∀ a ∈ TY, ∃ ps, h.get? a = some (tabObj ps)
theorem TbOK.off {Tb : List Addr → Heap → Prop} (t : TbOK Tb) {X : List Addr} {h : Heap} (x : Tb X h) (r : EnvR G env ρ X h) : ∀ a ∈ TY, Off env a := fun a ha => by
  obtain ⟨ps, hp⟩ := t.has X h x a ha
  refine ⟨fun e => ?_, fun n c hc e => ?_⟩
  · obtain ⟨m, ⟨o, _, _, ho, hd, _⟩, _⟩ := r.loc
    rw [e, hp] at ho; cases ho; cases hd
  · obtain ⟨v, o, ho, hd⟩ := r.cells n c hc
    rw [e, hp] at ho; cases ho; cases hd
/-- x = f(..), with the tables -/
theorem assignZ {Tb : List Addr → Heap → Prop} (tb : TbOK Tb) (stb : Stab TY Tb) {x : Str} {p pos cp : Pos} {fe e : PySem.Expr} {es : List PySem.Expr} {xs : List T} {y : T} {a : Addr} {o : Obj} {fd : FuncData} {X : List Addr} {s : Shared} {Q : Flow → Shared → Prop}
    (f : FrR G env (ownOf env) ρ X s) (hTY : ∀ a ∈ TY, a ∈ X) (t : Tb X s.heap) (hf : EvV prog w G A env ρ fe (.ref a)) (hs : EvL prog w G A env ρ (e :: es) xs) (hk : G.K.lookup a = some o) (hd : o.data = .func fd) (hc : CallZ prog w G A Tb (.ref a) xs y) (hx : KindOk env x)
    (hQ : ∀ s', FrR G env (ownOf env) (upd ρ x y) X s' → KpX (TY ++ ownOf env) s s' → Tb X s'.heap → Q .next s')
    (he : starEach (e :: es) env = (false, eval e env) :: starEach es env := by rfl)
    (hcl : eval (.Call fe (e :: es) [] cp) env = (do callWith cp (← eval fe env) [] (backTo cp (starEach (e :: es) env)) (backToKw cp (keywordEach [] env))) := by rfl)
    (hsw : swapsWith (.Call fe (e :: es) [] cp) (some (.Name x p)) pos.line env = pure false := by rfl) : wpAny (model prog w) A (exec (.Assign [.Name x p] (.Call fe (e :: es) [] cp) pos) env) Q NoE s :=
  wpAny_Assign_Name (Call_ (hf.use f.bd f.r fun s₁ k1 b1 r1 => callWith_def_at (r1.top.ok.k a o hk) hd (hs.use b1 r1 fun vs s₂ h2 k2 b2 r2 => ⟨r2.top.ok.k a o hk,
    wpAny_mono (hc X s₂ vs b2 r2.top hTY (stb.kp (stb.kp t k1) k2) h2) (fun v s₃ ⟨hv, k3, t3⟩ => by
      have f3 := ((f.kp k1).kp k2).kpx k3 hTY (tb.off (stb.kp (stb.kp t k1) k2) r2) fun a ha => let ⟨ps, e⟩ := tb.has X _ t3 a ha; ⟨_, e⟩
      refine f3.store hv hx.own fun s₄ f4 k4 => hQ s₄ f4 (((k1.trans k2).x.trans (k3.more fun a ha => List.mem_append_left _ ha)).trans (k4.more fun a ha => List.mem_append_right _ ha)) (stb.kpx t3 k4 f3.own fun a ha m => ?_)
      exact (tb.off t3 f3.r a m).own ha) fun _ _ q => q⟩) he) hcl) hsw
end
end Mine
end
section
open PySem PySem.W PyProof.Rows PySem.Calls
set_option maxRecDepth 100000
set_option maxHeartbeats 4000000
set_option linter.unusedVariables false
namespace Mine
noncomputable abbrev PG : Program := PySem.Challenge.rw_zx0002_01.row.prog
structure GF (w : World) (G : Glb) : Prop where
  k : G.K = hd.heap_39 w.params
  range : G.mg (Str.ofString "range") = none ∧ G.mb (Str.ofString "range") = some (.type "range")
  len : G.mg (Str.ofString "len") = none ∧ G.mb (Str.ofString "len") = some (.builtin "len")
  callers : G.mg (Str.ofString "add_callers") = some (.ref 77)
  stats : G.mg (Str.ofString "add_func_stats") = some (.ref 70)
  square : G.mg (Str.ofString "_law_square") = some (.ref 82)
  sum : G.mg (Str.ofString "_law_sum") = some (.ref 89)
  alike : G.mg (Str.ofString "_law_alike") = some (.ref 94)
  divmod : G.mg (Str.ofString "divmod") = none ∧ G.mb (Str.ofString "divmod") = some (.builtin "divmod")
  reversed : G.mg (Str.ofString "reversed") = none ∧ G.mb (Str.ofString "reversed") = some (.type "reversed")
  limit : G.mg (Str.ofString "_DIV_LIMIT") = some (.int 4000 202)
  div2 : G.mg (Str.ofString "_div2n1n") = some (.ref 28)
  i2d : G.mg (Str.ofString "_int2digits") = some (.ref 42)
  d2i : G.mg (Str.ofString "_digits2int") = some (.ref 49)
  dmp : G.mg (Str.ofString "_divmod_pos") = some (.ref 56)
  idm : G.mg (Str.ofString "int_divmod") = some (.ref 63)
  swap : G.mg (Str.ofString "_byteswap") = some (.ref 21)
  bytearray : G.mg (Str.ofString "bytearray") = none ∧ G.mb (Str.ofString "bytearray") = some (.type "bytearray")
  bytes : G.mg (Str.ofString "bytes") = none ∧ G.mb (Str.ofString "bytes") = some (.type "bytes")
  list : G.mg (Str.ofString "list") = none ∧ G.mb (Str.ofString "list") = some (.type "list")
  sorted : G.mg (Str.ofString "sorted") = none ∧ G.mb (Str.ofString "sorted") = some (.builtin "sorted")
  sumb : G.mg (Str.ofString "sum") = none ∧ G.mb (Str.ofString "sum") = some (.builtin "sum")

section
variable {w : World} {G : Glb} {A : Around}
theorem GF.big (g : GF w G) : BigK G := ⟨2, _, by rw [g.k]; rfl, by decide⟩

theorem two {α : Type} {P : List α → Prop} (h : ∀ a b, P [a, b]) : ∀ vs : List α, vs.length = 2 → P vs := fun vs hv => by
  match vs, hv with
  | [a, b], _ => exact h a b

theorem c_callers (g : GF w G) (r : Rm 1 A) : CallT PG w G A (.ref 77) [.emp, .emp] .emp := by
  refine CallT.top (c := 76) _ [Str.ofString "target", Str.ofString "source"] (by rw [g.k]; rfl) rfl rfl (by rw [g.k]; rfl) rfl rfl rfl (Nat.lt_of_le_of_lt (Nat.le_add_right _ _) r.dp) rfl (two fun a b => rfl) rfl rfl rfl rfl rfl rfl rfl fun L => ?_
  refine Bdy.cons (St.assign (Ev.dict0 g.big) (.inl rfl)) ?_
  refine Bdy.cons (St.forItems0 rfl r.hh) ?_
  refine Bdy.cons (St.forItems0 rfl r.hh) ?_
  exact Bdy.ret (Ev.name rfl)

noncomputable abbrev five (a b c d : Int) : T := .tup [.int a, .int b, .int c, .int d, .emp]
theorem c_stats (g : GF w G) (r : Rm 2 A) (a b c d a' b' c' d' : Int) : CallT PG w G A (.ref 70) [five a b c d, five a' b' c' d'] (five (a' + a) (b' + b) (c' + c) (d' + d)) := by
  refine CallT.top (c := 69) _ [Str.ofString "target", Str.ofString "source"] (by rw [g.k]; rfl) rfl rfl (by rw [g.k]; rfl) rfl rfl rfl (Nat.lt_of_le_of_lt (Nat.le_add_right _ _) r.dp) rfl (two fun a b => rfl) rfl rfl rfl rfl rfl rfl rfl fun L => ?_
  refine Bdy.cons (St.unpack (names := [Str.ofString "cc", Str.ofString "nc", Str.ofString "tt", Str.ofString "ct", Str.ofString "callers"]) (xs := [.int a', .int b', .int c', .int d', .emp]) (Ev.name rfl) r.hh (kindAll rfl L) rfl ⟨[_, _, _, _, _], rfl, rfl⟩) ?_
  refine Bdy.cons (St.unpack (names := [Str.ofString "t_cc", Str.ofString "t_nc", Str.ofString "t_tt", Str.ofString "t_ct", Str.ofString "t_callers"]) (xs := [.int a, .int b, .int c, .int d, .emp]) (Ev.name rfl) r.hh (kindAll rfl L) rfl ⟨[_, _, _, _, _], rfl, rfl⟩) ?_
  refine Bdy.ret (Ev.tup (EvL.cons (Ev.add (Ev.name rfl) (Ev.name rfl)) (EvL.cons (Ev.add (Ev.name rfl) (Ev.name rfl)) (EvL.cons (Ev.add (Ev.name rfl) (Ev.name rfl)) (EvL.cons (Ev.add (Ev.name rfl) (Ev.name rfl)) (EvL.cons ?_ EvL.nil))))) (Nat.le_of_ble_eq_true rfl))
  exact Ev.call (EvV.glob g.callers rfl) (EvL.cons (Ev.name rfl) (EvL.cons (Ev.name rfl) EvL.nil)) (by rw [g.k]; rfl) rfl (c_callers g r.deeper)

theorem one1 {α : Type} {P : List α → Prop} (h : ∀ a, P [a]) : ∀ vs : List α, vs.length = 1 → P vs := fun vs hv => by
  match vs, hv with
  | [a], _ => exact h a

noncomputable def sumL : List Int → Int
  | [] => 0
  | x :: r => x + sumL r
noncomputable def accL (a : Int) : List Int → Int
  | [] => a
  | x :: r => accL (x + a) r
theorem accL_snoc (x : Int) : ∀ (l : List Int) (a : Int), accL a (l ++ [x]) = x + accL a l
  | [], a => rfl
  | y :: r, a => accL_snoc x r _
theorem c_sum (g : GF w G) (r : Rm 3 A) (ns : List Int) (hz : ns.length ≤ 1000) : CallT PG w G A (.ref 89) [.lst (ns.map .int)] (.tup [.int (accL 0 ns), .int ns.length]) := by
  refine CallT.top (c := 88) _ [Str.ofString "numbers"] (by rw [g.k]; rfl) rfl rfl (by rw [g.k]; rfl) rfl rfl rfl (Nat.lt_of_le_of_lt (Nat.le_add_right _ _) r.dp) rfl (one1 fun a => rfl) rfl rfl rfl rfl rfl rfl rfl fun L => ?_
  refine Bdy.cons (St.assign (Ev.tup (EvL.cons Ev.int (EvL.cons Ev.int (EvL.cons Ev.int (EvL.cons Ev.int (EvL.cons (Ev.dict0 g.big) EvL.nil))))) (Nat.le_of_ble_eq_true rfl)) (.inl rfl)) ?_
  have e0 : ∀ (x : T), accL 0 (ns.take 0) = 0 := fun _ => by simp [accL]
  refine Bdy.cons (ρ₁ := upd (upd none0 (Str.ofString "numbers") (.lst (ns.map .int))) (Str.ofString "whole") (five (accL 0 ns) ns.length 0 0)) ?_ ?_
  · refine St.conv (St.forI (xs := ns.map .int) (fun i => upd (upd none0 (Str.ofString "numbers") (.lst (ns.map .int))) (Str.ofString "whole") (five (accL 0 (ns.take i)) i 0 0)) (ItT.list (Ev.name rfl) r.hh) (.inl rfl) ?_) (BSub.refl _) ?_
    · intro i t ht
      obtain ⟨x, hx, rfl⟩ : ∃ x, ns[i]? = some x ∧ t = .int x := by
        rw [List.getElem?_map] at ht
        cases q : ns[i]? with
        | none => rw [q] at ht; cases ht
        | some x => rw [q] at ht; cases ht; exact ⟨x, rfl, rfl⟩
      refine Sts.one (St.conv (St.assign (Ev.call (EvV.glob g.stats rfl) (EvL.cons (Ev.name rfl) (EvL.cons (Ev.tup (EvL.cons (Ev.name rfl) (EvL.cons Ev.int (EvL.cons Ev.int (EvL.cons Ev.int (EvL.cons (Ev.dict0 g.big) EvL.nil))))) (Nat.le_of_ble_eq_true rfl)) EvL.nil)) (by rw [g.k]; rfl) rfl (c_stats g r.deeper _ _ _ _ _ _ _ _)) (.inl rfl)) (BSub.refl _) ?_)
      have e : accL 0 (ns.take (i + 1)) = x + accL 0 (ns.take i) := by rw [List.take_add_one, hx]; exact accL_snoc _ _ _
      rw [e, show ((i + 1 : Nat) : Int) = 1 + (i : Int) by omega]
      refine BSub.upd (BSub.skip (BSub.skip (BSub.refl _) _ _ ?_) _ _ ?_) _ _ <;> rfl
    · simp only [List.length_map, List.take_length]
      exact BSub.refl _
  · exact Bdy.ret (Ev.to2 (xs := [.int (accL 0 ns), .int ns.length, .int 0, .int 0, .emp]) (Ev.name rfl) (Nat.le_of_ble_eq_true rfl))
end
end Mine
end
section
open PySem PySem.W PyProof.Rows PySem.Calls
set_option maxRecDepth 100000
set_option maxHeartbeats 4000000
set_option linter.unusedVariables false
namespace Mine
section
variable {w : World} {G : Glb} {A : Around}
theorem three {α : Type} {P : List α → Prop} (h : ∀ a b c, P [a, b, c]) : ∀ vs : List α, vs.length = 3 → P vs := fun vs hv => by
  match vs, hv with
  | [a, b, c], _ => exact h a b c
noncomputable def cel (n one other r c : Int) : Int := 1 + n * ((r + c + one) % n) + (r + 2 * c + other) % n
noncomputable def iL (l : List Int) : T := .lst (l.map .int)
noncomputable def rngI (n : Nat) : List Int := (List.range n).map fun (i : Nat) => (i : Int)
noncomputable def rowOf (n : Nat) (one other r : Int) : List Int := (rngI n).map (cel n one other r)
noncomputable def sq (n : Nat) (one other : Int) : List (List Int) := (rngI n).map (rowOf n one other)
noncomputable def mtx (m : List (List Int)) : T := .lst (m.map iL)
noncomputable def onI (f : Int → T) : T → T
  | .int i => f i
  | _ => .emp
theorem rng_t (n : Nat) : ((List.range n).map fun i => T.int (i : Nat)) = (rngI n).map .int := by unfold rngI; rw [List.map_map]; rfl
theorem mem_rngI {n : Nat} {x : Int} (h : x ∈ rngI n) : 0 ≤ x ∧ x < n := by
  unfold rngI at h
  obtain ⟨i, hi, rfl⟩ := List.mem_map.mp h
  have := List.mem_range.mp hi
  omega

theorem rng_name {env : Env} {ρ : Bnd} {A : Around} (g : GF w G) (hh : A.handled = none) {x : Str} {n : Nat} {p p' pos : Pos} (h : ρ x = some (.int n)) (hz : n ≤ 1000) (hk : env.kindOf (Str.ofString "range") = some .globalImplicit := by rfl)
    (hd : (x == ("__debug__" : Str)) = false := by decide) (hc : (x == ("__classdict__" : Str)) = false := by decide)
    (hcl : eval (.Call (.Name (Str.ofString "range") p) [.Name x p'] [] pos) env = (do callWith pos (← eval (.Name (Str.ofString "range") p) env) [] (backTo pos (starEach [.Name x p'] env)) (backToKw pos (keywordEach [] env))) := by rfl) : ItT PG w G A env ρ (.Call (.Name (Str.ofString "range") p) [.Name x p'] [] pos) ((rngI n).map .int) :=
  (ItT.range (EvV.built g.range.1 g.range.2 hk) (Ev.name h hd hc) hz hh rfl rfl hcl).eq (rng_t n)

theorem c_square (g : GF w G) (r : Rm 1 A) (n : Nat) (one other : Int) (h0 : 0 < n) (hz : n ≤ 1000) : CallT PG w G A (.ref 82) [.int n, .int one, .int other] (mtx (sq n one other)) := by
  refine CallT.top (c := 81) _ [Str.ofString "size", Str.ofString "one", Str.ofString "other"] (by rw [g.k]; rfl) rfl rfl (by rw [g.k]; rfl) rfl rfl rfl (Nat.lt_of_le_of_lt (Nat.le_add_right _ _) r.dp) rfl (three fun a b c => rfl) rfl rfl rfl rfl rfl rfl rfl fun L => ?_
  refine Bdy.ret ?_
  refine Ev.eq (Ev.comp1 (xs := (rngI n).map .int) (onI fun r => iL (rowOf n one other r)) (rng_name g (by exact r.hh) (by rfl) hz) ⟨rfl, rfl, rfl, rfl⟩ (.inr rfl) (by simp [rngI]; omega) fun C t ht => ?_) (by unfold mtx sq; rw [List.map_map, List.map_map]; rfl)
  obtain ⟨i, hi, rfl⟩ := List.mem_map.mp ht
  refine Ev.eq (Ev.comp1 (xs := (rngI n).map .int) (onI fun c => .int (cel n one other i c)) (rng_name g (by exact r.hh) (by rfl) hz) ⟨rfl, rfl, rfl, rfl⟩ (.inl rfl) (by simp [rngI]; omega) fun C' t' ht' => ?_) (by show T.lst _ = T.lst _; unfold rowOf; rw [List.map_map, List.map_map]; rfl)
  obtain ⟨j, hj, rfl⟩ := List.mem_map.mp ht'
  have hn : (0 : Int) < n := by omega
  exact Ev.add (Ev.add Ev.int (Ev.mul (Ev.name rfl) (Ev.mod (Ev.add (Ev.add (Ev.name rfl) (Ev.name rfl)) (Ev.name rfl)) (Ev.name rfl) hn) (by omega) (by omega))) (Ev.mod (Ev.add (Ev.add (Ev.name rfl) (Ev.mul Ev.int (Ev.name rfl) (by decide) (by decide))) (Ev.name rfl)) (Ev.name rfl) hn)
end
end Mine
end
section
open PySem PySem.W PyProof.Rows PySem.Calls
set_option maxRecDepth 100000
set_option maxHeartbeats 4000000
set_option linter.unusedVariables false
namespace Mine
section
variable {w : World} {G : Glb} {A : Around}
noncomputable def unI : T → Int
  | .int i => i
  | _ => 0
noncomputable def unL : T → List Int
  | .lst xs => xs.map unI
  | _ => []
theorem unL_iL (l : List Int) : unL (iL l) = l := by
  show (l.map T.int).map unI = l
  rw [List.map_map]
  exact List.map_id l
noncomputable def due (n : Nat) : Int := n * (n * n + 1) / 2
noncomputable def colsOf (n : Nat) (m : List (List Int)) : List (List Int) := (rngI n).map fun k => m.map fun row => row.getD k.toNat 0
structure Alike (n : Nat) (m : List (List Int)) : Prop where
  rows : m.length = n
  wide : ∀ r ∈ m, r.length = n
  sums : ∀ r ∈ m ++ colsOf n m, accL 0 r = due n
theorem colsOf_len {n : Nat} {m : List (List Int)} : (colsOf n m).length = n := by unfold colsOf rngI; rw [List.length_map, List.length_map, List.length_range]
theorem colsOf_wide {n : Nat} {m : List (List Int)} (hm : m.length = n) : ∀ r ∈ colsOf n m, r.length = n := by
  intro r hr
  obtain ⟨k, _, rfl⟩ := List.mem_map.mp hr
  rw [List.length_map]; exact hm
theorem getD_int {l : List Int} {k : Int} {n : Nat} (hl : l.length = n) (h0 : 0 ≤ k) (h1 : k < n) : (l.map T.int)[k.toNat]? = some (.int (l.getD k.toNat 0)) := by
  have : k.toNat < l.length := by omega
  simp [List.getElem?_map, List.getD, this]

theorem ev_item {env : Env} {ρ : Bnd} {x y : Str} {p p' pos : Pos} {l : List Int} {k : Int} {n : Nat} (hx : ρ x = some (iL l)) (hy : ρ y = some (.int k)) (hl : l.length = n) (h0 : 0 ≤ k) (h1 : k < n) (hz : n ≤ 1000)
    (d1 : (x == ("__debug__" : Str)) = false := by decide) (c1 : (x == ("__classdict__" : Str)) = false := by decide) (d2 : (y == ("__debug__" : Str)) = false := by decide) (c2 : (y == ("__classdict__" : Str)) = false := by decide)
    (hs : ∀ a u, subscripted (.Name y p') false (.ref a) (.int k u) = operate [.ref a, .int k u] (getItem (.ref a) (.int k u)) := by intro _ _; with_unfolding_all rfl) :
    Ev PG w G A env ρ (.Subscript (.Name x p) (.Name y p') pos) (.int (l.getD k.toNat 0)) :=
  Ev.item (xs := l.map .int) (k := k) (Ev.name hx d1 c1) (Ev.name hy d2 c2) h0 (by omega) (getD_int hl h0 h1) hs

theorem due_pyl {n : Nat} (hn : n = 3 ∨ n = 5 ∨ n = 7) : Builtin.divisionGoesByPylong ((n : Int) * ((n : Int) * n + 1)) 2 = false := by
  rcases hn with rfl | rfl | rfl <;> rfl

theorem c_alike (g : GF w G) (r : Rm 4 A) (n : Nat) (hn : n = 3 ∨ n = 5 ∨ n = 7) (m : List (List Int)) (h : Alike n m) : CallT PG w G A (.ref 94) [mtx m] (.bool true) := by
  have hz : n ≤ 7 := by omega
  refine CallT.top (c := 93) _ [Str.ofString "square"] (by rw [g.k]; rfl) rfl rfl (by rw [g.k]; rfl) rfl rfl rfl (Nat.lt_of_le_of_lt (Nat.le_add_right _ _) r.dp) rfl (one1 fun a => rfl) rfl rfl rfl rfl rfl rfl rfl fun L => ?_
  refine Bdy.cons (St.assign (Ev.callB (EvV.built g.len.1 g.len.2 rfl) (EvL.cons (Ev.name rfl) EvL.nil) ((CallT.len (by rw [List.length_map, h.rows]; omega)).eq (u := .int n) (by rw [List.length_map, h.rows]))) (.inl rfl)) ?_
  refine Bdy.cons (St.assign (Ev.tup (EvL.cons (Ev.fdiv (Ev.mul (Ev.name rfl) (Ev.add (Ev.mul (Ev.name rfl) (Ev.name rfl) (by omega) (by omega)) Ev.int) (by omega) (by omega)) Ev.int (by decide) (due_pyl hn)) (EvL.cons (Ev.name rfl) EvL.nil)) (Nat.le_of_ble_eq_true rfl)) (.inr ⟨rfl, rfl⟩)) ?_
  refine Bdy.cons (St.comp1 (xs := (rngI n).map .int) (onI fun k => iL (m.map fun row => row.getD k.toNat 0)) (rng_name g (by exact r.hh) (by rfl) (by omega)) ⟨rfl, rfl, rfl, rfl⟩ (.inr rfl) (by simp [rngI]; omega) (fun C t ht => ?_) (.inl rfl)) ?_
  · obtain ⟨k, hk, rfl⟩ := List.mem_map.mp ht
    refine Ev.eq (Ev.comp1 (xs := m.map iL) (fun t => .int ((unL t).getD k.toNat 0)) (ItT.list (Ev.name rfl) r.hh) ⟨rfl, rfl, rfl, rfl⟩ (.inl rfl) (by rw [List.length_map, h.rows]; omega) fun C' t' ht' => ?_) ?_
    · obtain ⟨l, hl, rfl⟩ := List.mem_map.mp ht'
      rw [unL_iL]
      exact ev_item rfl rfl (h.wide l hl) (mem_rngI hk).1 (mem_rngI hk).2 (by omega)
    · show T.lst _ = iL _
      unfold iL
      rw [List.map_map, List.map_map]
      congr 1
      refine List.map_congr_left fun l hl => ?_
      show T.int ((unL (iL l)).getD k.toNat 0) = _
      rw [unL_iL]; rfl
  · have ec : T.lst (((rngI n).map T.int).map (onI fun k => iL (m.map fun row => row.getD k.toNat 0))) = mtx (colsOf n m) := by
      unfold mtx colsOf
      rw [List.map_map, List.map_map]; rfl
    rw [ec]
    have hu := r.un
    refine Bdy.ret (Ev.eqs (x := .lst []) (Ev.comp0 (xs := (m ++ colsOf n m).map iL) (ItT.list (Ev.eq (Ev.cat (xs := m.map iL) (ys := (colsOf n m).map iL) (Ev.name rfl) (Ev.name rfl) ?_) ?_) r.hh) ⟨rfl, rfl, rfl, rfl⟩ (.inl rfl) ?_ fun C t ht => ?_) (Ev.lst EvL.nil (Nat.le_of_ble_eq_true rfl)) rfl rfl (by show A.units + 3 + 64 < _; omega))
    · rw [List.length_map, List.length_map, h.rows, colsOf_len]; omega
    · rw [List.map_append]
    · rw [List.length_map, List.length_append, h.rows, colsOf_len]; omega
    · obtain ⟨l, hl, rfl⟩ := List.mem_map.mp ht
      have hw : l.length = n := (List.mem_append.mp hl).elim (h.wide l) (colsOf_wide h.rows l)
      refine Tst.nes (x := .tup [.int (due n), .int n]) (Ev.eq (Ev.call (EvV.glob g.sum rfl) (EvL.cons (Ev.name rfl) EvL.nil) (by rw [g.k]; rfl) rfl (c_sum g r.deeper l (by omega))) ?_) (Ev.name rfl) rfl rfl (by show A.units + 3 + 64 < _; omega)
      rw [h.sums l hl, hw]
end
end Mine
end
section
open PySem PySem.W PyProof.Rows PySem.Calls
set_option maxRecDepth 100000
set_option maxHeartbeats 400000
set_option linter.unusedVariables false
namespace Mine
noncomputable abbrev posD : Pos := ⟨54, 4, 59, 55⟩
noncomputable abbrev posI : Pos := ⟨39, 4, 48, 28⟩
noncomputable abbrev quD : Str := (Str.ofString "_digits2int" ++ ".<locals>.") ++ Str.ofString "inner"
noncomputable abbrev quI : Str := (Str.ofString "_int2digits" ++ ".<locals>.") ++ Str.ofString "inner"
section
variable {w : World} {G : Glb} {A : Around}
noncomputable def dval (n : Nat) : List Int → Int
  | [] => 0
  | [a] => a
  | a :: b :: _ => b * 2 ^ n + a
theorem Rm.room {k : Nat} (r : Rm k A) : A.depth < recursionLimit := Nat.lt_of_le_of_lt (Nat.le_add_right _ _) r.dp
theorem codeHd48 (g : GF w G) {h : Heap} (t : TopOK G h) : CodeHd h 48 44 := by
  refine ⟨_, _, _, _, _, _, _, _, _, t.k 48 _ (by rw [g.k]; rfl), rfl, rfl, rfl, rfl, rfl, rfl, rfl, rfl, by decide⟩
theorem codeHd41 (g : GF w G) {h : Heap} (t : TopOK G h) : CodeHd h 41 37 := by
  refine ⟨_, _, _, _, _, _, _, _, _, t.k 41 _ (by rw [g.k]; rfl), rfl, rfl, rfl, rfl, rfl, rfl, rfl, rfl, by decide⟩

theorem c_d2i (g : GF w G) (r : Rm 3 A) (ds : List Int) (hds : ds.length ≤ 2) (n : Nat) (hn : n ≤ 10) (hb : ∀ d ∈ ds, 0 ≤ d ∧ d < 2 ^ 32) : CallY PG w G A 44 posD quD (.ref 49) [iL ds, .int n] (.int (dval n ds)) := by
  intro X s vs b tp hP hT hv
  refine callTop (G := G) (c := 48) _ [Str.ofString "digits", Str.ofString "n"] (by rw [g.k]; rfl) rfl rfl (by rw [g.k]; rfl) rfl rfl rfl r.room rfl (two fun a b => rfl) rfl rfl rfl rfl rfl rfl rfl b tp hv fun L s₁ X' f k hO hX hX' => ?_
  refine wpAny_execs_cons (StNest f (hX _ hP) ((hT.more hX').keeps k.keep) ⟨rfl, rfl, rfl, rfl⟩ rfl (codeHd48 g f.r.top.ok) rfl (.inr ⟨rfl, rfl⟩) rfl rfl rfl fun s₂ f₂ k₂ T₂ => ?_)
  refine wpAny_mono (Bdy.ret (y := .int (dval n ds)) ?_ X' s₂ f₂) (fun fl s₃ ⟨v, e, hr, k₃⟩ => ?_) fun _ _ q => q
  · rcases ds with _ | ⟨d0, _ | ⟨d1, _ | ⟨d2, rest⟩⟩⟩
    · exact Ev.ifF ((Tst.nameL (Ev.name rfl) (Nat.le_of_ble_eq_true rfl)).eq rfl) Ev.int
    · refine Ev.ifT ((Tst.nameL (Ev.name rfl) (Nat.le_of_ble_eq_true rfl)).eq rfl) (Ev.callF (Ev.name rfl) (EvL.cons Ev.int (EvL.cons (Ev.callB (EvV.built g.len.1 g.len.2 rfl) (EvL.cons (Ev.name rfl) EvL.nil) ((CallT.len (xs := [.int d0]) (Nat.le_of_ble_eq_true rfl)).eq (u := .int 1) rfl)) EvL.nil)) ?_ fun X h r => Clos.scope r ⟨rfl, rfl, rfl, rfl⟩)
      refine CallF.def [Str.ofString "L", Str.ofString "R"] rfl (Rm.room r.deeper) rfl restr_free rfl (fun _ _ _ _ => two fun _ _ => rfl) rfl rfl rfl fun doc pm c ctv L' fa => ?_
      refine Bdy.ifT ((Tst.eqI (Ev.add (Ev.name rfl) Ev.int) (Ev.name rfl)).eq ?_) ?_
      · rfl
      · exact Bdy.ret (Ev.item (xs := [.int d0]) (k := 0) (Ev.name rfl) (Ev.name rfl) (by decide) (by decide) rfl)
    · have hbb := hb d1 (by simp)
      refine Ev.ifT ((Tst.nameL (Ev.name rfl) (Nat.le_of_ble_eq_true rfl)).eq rfl) (Ev.callF (Ev.name rfl) (EvL.cons Ev.int (EvL.cons (Ev.callB (EvV.built g.len.1 g.len.2 rfl) (EvL.cons (Ev.name rfl) EvL.nil) ((CallT.len (xs := [.int d0, .int d1]) (Nat.le_of_ble_eq_true rfl)).eq (u := .int 2) rfl)) EvL.nil)) ?_ fun X h r => Clos.scope r ⟨rfl, rfl, rfl, rfl⟩)
      refine CallF.def [Str.ofString "L", Str.ofString "R"] rfl (Rm.room r.deeper) rfl restr_free rfl (fun _ _ _ _ => two fun _ _ => rfl) rfl rfl rfl fun doc pm c ctv L' fa => ?_
      refine Bdy.ifF ((Tst.eqI (Ev.add (Ev.name rfl) Ev.int) (Ev.name rfl)).eq ?_) ?_
      · rfl
      refine Bdy.cons (St.assign (Ev.eq (u := .int 1) (Ev.rsh (Ev.add (Ev.name rfl) (Ev.name rfl)) Ev.int (by decide)) ?_) (.inl rfl)) ?_
      · exact congrArg T.int (by decide)
      refine Bdy.cons (St.assign (Ev.eq (u := .int n) (Ev.mul (a := 1) (b := n) (Ev.eq (Ev.sub (Ev.name rfl) (Ev.name rfl)) ?_) (Ev.name rfl) (by decide) (by decide)) ?_) (.inl rfl)) ?_
      · rfl
      · rw [Int.one_mul]
      refine Bdy.ret (Ev.add (Ev.eq (u := .int (d1 * 2 ^ n)) (Ev.lsh (a := d1) (b := n) (Ev.callI (Ev.name rfl) (EvL.cons (Ev.name rfl) (EvL.cons (Ev.name rfl) EvL.nil)) ?_ rfl restr_free ?_) (Ev.name rfl) (by omega) (by omega) (by omega)) (by rw [Int.toNat_natCast])) (Ev.callI (Ev.name rfl) (EvL.cons (Ev.name rfl) (EvL.cons (Ev.name rfl) EvL.nil)) ?_ rfl restr_free ?_))
      · refine CallF.def [Str.ofString "L", Str.ofString "R"] rfl (Rm.room r.deeper.deeper) rfl restr_free rfl (fun _ _ _ _ => two fun _ _ => rfl) rfl rfl rfl fun doc pm c ctv L' fa => ?_
        refine Bdy.ifT ((Tst.eqI (Ev.add (Ev.name rfl) Ev.int) (Ev.name rfl)).eq ?_) ?_
        · rfl
        · exact Bdy.ret (Ev.item (xs := [.int d0, .int d1]) (k := 1) (Ev.name rfl) (Ev.name rfl) (by decide) (by decide) rfl)
      · refine BSub.skip (BSub.skip (BSub.skip (BSub.skip (BSub.refl _) _ _ ?_) _ _ ?_) _ _ ?_) _ _ ?_ <;> rfl
      · refine CallF.def [Str.ofString "L", Str.ofString "R"] rfl (Rm.room r.deeper.deeper) rfl restr_free rfl (fun _ _ _ _ => two fun _ _ => rfl) rfl rfl rfl fun doc pm c ctv L' fa => ?_
        refine Bdy.ifT ((Tst.eqI (Ev.add (Ev.name rfl) Ev.int) (Ev.name rfl)).eq ?_) ?_
        · rfl
        · exact Bdy.ret (Ev.item (xs := [.int d0, .int d1]) (k := 0) (Ev.name rfl) (Ev.name rfl) (by decide) (by decide) rfl)
      · refine BSub.skip (BSub.skip (BSub.skip (BSub.skip (BSub.refl _) _ _ ?_) _ _ ?_) _ _ ?_) _ _ ?_ <;> rfl
    · simp at hds
  · subst e
    refine ⟨hr.mono (hid_less hX), KpX.back k (k₂.trans (k₃.more fun a ha => List.mem_cons_of_mem _ ha)) fun a ha => ?_, (T₂.kpx k₃ (T₂.off f₂.r).own f₂.own).less hX⟩
    rcases List.mem_cons.mp ha with rfl | ha
    · exact .inl List.mem_cons_self
    · exact .inr (hO a ha)
end
end Mine
end
section
open PySem PySem.W PyProof.Rows PySem.Calls
set_option maxRecDepth 100000
set_option maxHeartbeats 400000
set_option linter.unusedVariables false
namespace Mine
section
variable {w : World} {G : Glb} {A : Around}
noncomputable def digs (n : Nat) (a : Int) : List Int :=
  if a = 0 then [] else if a < 2 ^ n then [a] else [Builtin.bitXor a (a.fdiv (2 ^ n) * 2 ^ n), a.fdiv (2 ^ n)]
theorem digs_len {n : Nat} {a : Int} : (digs n a).length ≤ 2 := by
  unfold digs; split
  · simp
  · split <;> simp

theorem tailRet {env : Env} {ρ : Bnd} {O X : List Addr} {s : Shared} {x : Str} {p pos : Pos} {D : Addr} (f : FrR G env O ρ X s) (hx : ρ x = some (.ptr D)) (hd : (x == ("__debug__" : Str)) = false := by decide) (hc : (x == ("__classdict__" : Str)) = false := by decide) :
    wpAny (model PG w) A (execs [.Return (some (.Name x p)) pos] env) (fun fl s' => fl = .ret (.ref D) ∧ Kp s s') NoE s :=
  wpAny_execs_cons (wpAny_Return_some ((Ev.name hx hd hc).use f.bd f.r fun v s' h k _ _ => ⟨by rw [rep_ptr.mp h], k⟩))
theorem finI {O X Y : List Addr} {D : Addr} {s s₁ s₆ : Shared} {ys : List Int} (k : Kp s s₁) (kk : KpX (37 :: D :: O) s₁ s₆) (hO : ∀ a ∈ O, s.heap.get? a = none) (hD : s₁.heap.get? D = none) (I : IL D ys s₆.heap) (hDX : D ∉ X) (T : TabS 37 posI quI Y s₆.heap) (hXY : ∀ a ∈ X, a ∈ Y) :
    Rep (hid s₆.heap X) (iL ys) (.ref D) ∧ KpX [37] s s₆ ∧ TabS 37 posI quI X s₆.heap := by
  obtain ⟨zs, n, hz, hr⟩ := I
  refine ⟨rep_lst.mpr ⟨D, n, zs, rfl, hid_of hDX hz, repI hr⟩, KpX.back k kk fun a ha => ?_, T.less hXY⟩
  rcases List.mem_cons.mp ha with rfl | ha
  · exact .inl List.mem_cons_self
  · rcases List.mem_cons.mp ha with rfl | ha
    · refine .inr ?_
      cases q : s.heap.get? a with
      | none => rfl
      | some o => rw [k.keep _ _ q] at hD; cases hD
    · exact .inr (hO a ha)
theorem c_i2d (g : GF w G) (r : Rm 3 A) (n : Nat) (hn : 0 < n ∧ n ≤ 10) (a : Int) (h0 : 0 ≤ a) (h1 : a < 2 ^ 32) (hk : ((Builtin.Int.intBits a : Int) + n - 1) / n = (digs n a).length)
    (hp : Builtin.divisionGoesByPylong ((Builtin.Int.intBits a : Int) + n - 1) n = false) : CallY PG w G A 37 posI quI (.ref 42) [.int a, .int n] (iL (digs n a)) := by
  intro X s vs b tp hP hT hv
  refine callTop (G := G) (c := 41) _ [Str.ofString "a", Str.ofString "n"] (by rw [g.k]; rfl) rfl rfl (by rw [g.k]; rfl) rfl rfl rfl r.room rfl (two fun a b => rfl) rfl rfl rfl rfl rfl rfl rfl b tp hv fun L s₁ X' f k hO hX hX' => ?_
  refine wpAny_execs_cons (assignNew (EvN.rep0 (k := (digs n a).length) (x := 0) (Ev.lst (EvL.cons Ev.int EvL.nil) (Nat.le_of_ble_eq_true rfl)) (Ev.eq (Ev.fdiv (Ev.sub (Ev.add (Ev.bits (Ev.name rfl)) (Ev.name rfl)) Ev.int) (Ev.name rfl) (by omega) hp) ?_) (by have := digs_len (n := n) (a := a); omega)) (.inr ⟨rfl, rfl⟩) f fun D s₂ hDX hD off f₂ k₂ I₂ => ?_)
  · rw [hk]
  have T₁ : TabS 37 posI quI (D :: X') s₁.heap := ((hT.more hX').keeps k.keep).more fun a ha => by
    rcases List.mem_cons.mp ha with rfl | ha
    · exact .inr hD
    · exact .inl ha
  have T₂ := T₁.kpx k₂ (T₁.off (f.r.more (Y := [D]) fun y hy => .inr (List.mem_singleton.mp hy ▸ hD))).own fun a ha => List.mem_cons_of_mem _ (f.own a ha)
  refine wpAny_execs_cons (StNest f₂ (List.mem_cons_of_mem _ (hX _ hP)) T₂ ⟨rfl, rfl, rfl, rfl⟩ rfl (codeHd41 g f₂.r.top.ok) rfl (.inr ⟨rfl, rfl⟩) rfl rfl rfl fun s₃ f₃ k₃ T₃ => ?_)
  have I₃ : IL D _ s₃.heap := I₂.at fun o e => k₃.keep D o (fun m => (List.mem_cons.mp m).elim (fun q => hDX (q ▸ hX _ hP)) off.own) e
  have k₁₃ := (k₂.more (Z := 37 :: D :: ownOf _) fun a ha => List.mem_cons_of_mem _ (List.mem_cons_of_mem _ ha)).trans (k₃.more fun a ha => (List.mem_cons.mp ha).elim (fun e => e ▸ List.mem_cons_self) fun h => List.mem_cons_of_mem _ (List.mem_cons_of_mem _ h))
  refine wpAny_execs_cons (wpAny_If ((Tst.nameI (Ev.name rfl)).use f₃.bd f₃.r fun s₄ k₄ b₄ r₄ => ?_))
  have f₄ := f₃.kp k₄
  have T₄ := T₃.keeps k₄.keep
  have I₄ := I₃.at fun o e => k₄.keep D o e
  have k₁₄ := k₁₃.trans k₄.x
  by_cases ha : a = 0
  · have e : (a != 0) = false := by simp [ha]
    rw [e]
    simp only [Bool.false_eq_true, if_false]
    refine wpAny_execs_nil ?_
    refine wpAny_mono (tailRet f₄ rfl) (fun fl s₅ ⟨e, k₅⟩ => ?_) fun _ _ q => q
    subst e
    have e0 : digs n a = [] := by unfold digs; rw [if_pos ha]
    have I₅ := I₄.at fun o e => k₅.keep D o e
    rw [e0] at I₅ ⊢
    exact finI k (k₁₄.trans k₅.x) hO hD I₅ (fun m => hDX (hX _ m)) (T₄.keeps k₅.keep) fun a ha => List.mem_cons_of_mem _ (hX a ha)
  · have e : (a != 0) = true := by simp [ha]
    rw [e]
    simp only [if_true]
    have r₀ := f₄.r.toLst (x := Str.ofString "a_digits") rfl hDX I₄
    have b₀ : Bd X' s₄.heap := fun a ha => f₄.bd a (List.mem_cons_of_mem _ ha)
    refine wpAny_execs_cons (exprM (xs := [a, 0, (digs n a).length]) (ys' := digs n a) f₄ List.mem_cons_self off I₄ (Ev.name rfl) (evL_alt b₀ r₀ (EvL.cons (Ev.name rfl) (EvL.cons Ev.int (EvL.cons (Ev.callB (EvV.built g.len.1 g.len.2 rfl) (EvL.cons (Ev.name rfl) EvL.nil) ((CallT.len ?_).eq ?_)) EvL.nil)))) ?_ (fun h r => Clos.scope r ⟨rfl, rfl, rfl, rfl⟩) fun s₅ f₅ k₅ I₅ => wpAny_execs_nil ?_)
    · rw [List.length_map, List.length_replicate]; have := digs_len (n := n) (a := a); omega
    · rw [List.length_map, List.length_replicate]
    · by_cases hlt : a < 2 ^ n
      · have ed : digs n a = [a] := by unfold digs; rw [if_neg ha, if_pos hlt]
        rw [ed]
        show CallM _ _ _ _ D _ _ _ [a, 0, 1] [0] [a]
        refine CallM.def [Str.ofString "x", Str.ofString "L", Str.ofString "R"] rfl (Rm.room r.deeper) rfl restr_free rfl (fun _ _ _ _ => three fun _ _ _ => rfl) rfl rfl rfl fun doc pm c ctv L' fa X s f hD off I => ?_
        refine wpAny_execs_cons (wpAny_If (((Tst.eqI (Ev.add (Ev.name rfl) Ev.int) (Ev.name rfl)).eq (c := true) rfl).use f.bd f.r fun s₁ k₁ _ _ => ?_))
        simp only [if_true]
        refine wpAny_execs_cons (setM (f.kp k₁) hD off (I.at fun o e => k₁.keep D o e) (Ev.name rfl) (Ev.name rfl) (Ev.name rfl) (by decide) (by decide) (by decide) fun s₂ f₂ k₂ I₂ => wpAny_execs_cons (wpAny_Return_none ⟨k₁.x.trans (k₂.more fun a ha => List.mem_singleton.mp ha ▸ List.mem_cons_self), I₂⟩))
      · have ed : digs n a = [Builtin.bitXor a (a.fdiv (2 ^ n) * 2 ^ n), a.fdiv (2 ^ n)] := by unfold digs; rw [if_neg ha, if_neg hlt]
        rw [ed]
        show CallM _ _ _ _ D _ _ _ [a, 0, 2] [0, 0] [_, _]
        have hu : (a.fdiv (2 ^ n)).natAbs < 2 ^ 64 := by
          rw [Int.fdiv_eq_ediv_of_nonneg _ (Int.le_of_lt (Int.pow_pos (by decide)))]
          have h2 : a / 2 ^ n ≤ a := Int.ediv_le_self _ h0
          have h3 : 0 ≤ a / 2 ^ n := Int.ediv_nonneg h0 (Int.le_of_lt (Int.pow_pos (by decide)))
          omega
        refine CallM.def [Str.ofString "x", Str.ofString "L", Str.ofString "R"] rfl (Rm.room r.deeper) rfl restr_free rfl (fun _ _ _ _ => three fun _ _ _ => rfl) rfl rfl rfl fun doc pm c ctv L' fa X s f hD off I => ?_
        refine ifStepF ((Tst.eqI (Ev.add (Ev.name rfl) Ev.int) (Ev.name rfl)).eq ?_) f fun s₁ f₁ k₁ => ?_
        · rfl
        refine stStep (St.assign (Ev.eq (u := .int 1) (Ev.rsh (Ev.add (Ev.name rfl) (Ev.name rfl)) Ev.int (by decide)) ?_) (.inl rfl)) f₁ fun s₂ f₂ k₂ => ?_
        · exact congrArg T.int (by decide)
        refine stStep (St.assign (Ev.eq (u := .int n) (Ev.mul (a := 1) (b := n) (Ev.eq (Ev.sub (Ev.name rfl) (Ev.name rfl)) ?_) (Ev.name rfl) (by decide) (by decide)) ?_) (.inl rfl)) f₂ fun s₃ f₃ k₃ => ?_
        · rfl
        · rw [Int.one_mul]
        refine stStep (St.assign (Ev.eq (u := .int (a.fdiv (2 ^ n))) (Ev.rsh (a := a) (b := n) (Ev.name rfl) (Ev.name rfl) (by omega)) (by rw [Int.toNat_natCast])) (.inl rfl)) f₃ fun s₄ f₄ k₄ => ?_
        refine stStep (St.assign (Ev.xor (a := a) (b := a.fdiv (2 ^ n) * 2 ^ n) (Ev.name rfl) (Ev.eq (Ev.lsh (a := a.fdiv (2 ^ n)) (b := n) (Ev.name rfl) (Ev.name rfl) (by omega) (by omega) hu) (by rw [Int.toNat_natCast]))) (.inl rfl)) f₄ fun s₅ f₅ k₅ => ?_
        have I₅ : IL D [0, 0] s₅.heap := I.at fun o e => k₅.keep D o off.own (k₄.keep D o off.own (k₃.keep D o off.own (k₂.keep D o off.own (k₁.keep D o e))))
        have k₁₅ := ((((k₁.x (Y := ownOf _)).trans k₂).trans k₃).trans k₄).trans k₅
        refine wpAny_execs_cons (exprM (xs := [Builtin.bitXor a (a.fdiv (2 ^ n) * 2 ^ n), 0, 1]) (ys' := [Builtin.bitXor a (a.fdiv (2 ^ n) * 2 ^ n), 0]) f₅ hD off I₅ (Ev.name rfl) (evL_ints f₅ (EvL.cons (Ev.name rfl) (EvL.cons (Ev.name rfl) (EvL.cons (Ev.name rfl) EvL.nil)))) ?_ (fun h r => Clos.inner r rfl restr_free (by refine BSub.skip (BSub.skip (BSub.skip (BSub.skip (BSub.skip (BSub.skip (BSub.skip (BSub.refl _) _ _ ?_) _ _ ?_) _ _ ?_) _ _ ?_) _ _ ?_) _ _ ?_) _ _ ?_ <;> rfl)) fun s₆ f₆ k₆ I₆ => ?_)
        · refine CallM.def [Str.ofString "x", Str.ofString "L", Str.ofString "R"] rfl (Rm.room r.deeper.deeper) rfl restr_free rfl (fun _ _ _ _ => three fun _ _ _ => rfl) rfl rfl rfl fun doc pm c ctv L' fa X s f hD off I => ?_
          refine wpAny_execs_cons (wpAny_If (((Tst.eqI (Ev.add (Ev.name rfl) Ev.int) (Ev.name rfl)).eq (c := true) rfl).use f.bd f.r fun s₁ k₁ _ _ => ?_))
          simp only [if_true]
          refine wpAny_execs_cons (setM (f.kp k₁) hD off (I.at fun o e => k₁.keep D o e) (Ev.name rfl) (Ev.name rfl) (Ev.name rfl) (by decide) (by decide) (by decide) fun s₂ f₂ k₂ I₂ => wpAny_execs_cons (wpAny_Return_none ⟨k₁.x.trans (k₂.more fun a ha => List.mem_singleton.mp ha ▸ List.mem_cons_self), I₂⟩))
        refine wpAny_execs_cons (exprM (xs := [a.fdiv (2 ^ n), 1, 2]) (ys' := [Builtin.bitXor a (a.fdiv (2 ^ n) * 2 ^ n), a.fdiv (2 ^ n)]) f₆ hD off I₆ (Ev.name rfl) (evL_ints f₆ (EvL.cons (Ev.name rfl) (EvL.cons (Ev.name rfl) (EvL.cons (Ev.name rfl) EvL.nil)))) ?_ (fun h r => Clos.inner r rfl restr_free (by refine BSub.skip (BSub.skip (BSub.skip (BSub.skip (BSub.skip (BSub.skip (BSub.skip (BSub.refl _) _ _ ?_) _ _ ?_) _ _ ?_) _ _ ?_) _ _ ?_) _ _ ?_) _ _ ?_ <;> rfl)) fun s₇ f₇ k₇ I₇ => ?_)
        · refine CallM.def [Str.ofString "x", Str.ofString "L", Str.ofString "R"] rfl (Rm.room r.deeper.deeper) rfl restr_free rfl (fun _ _ _ _ => three fun _ _ _ => rfl) rfl rfl rfl fun doc pm c ctv L' fa X s f hD off I => ?_
          refine wpAny_execs_cons (wpAny_If (((Tst.eqI (Ev.add (Ev.name rfl) Ev.int) (Ev.name rfl)).eq (c := true) rfl).use f.bd f.r fun s₁ k₁ _ _ => ?_))
          simp only [if_true]
          refine wpAny_execs_cons (setM (f.kp k₁) hD off (I.at fun o e => k₁.keep D o e) (Ev.name rfl) (Ev.name rfl) (Ev.name rfl) (by decide) (by show (1 : Int) < 2; decide) (Nat.le_of_ble_eq_true rfl) fun s₂ f₂ k₂ I₂ => wpAny_execs_cons (wpAny_Return_none ⟨k₁.x.trans (k₂.more fun a ha => List.mem_singleton.mp ha ▸ List.mem_cons_self), I₂⟩))
        refine wpAny_execs_nil ⟨?_, I₇⟩
        refine ((k₁₅.more fun a ha => List.mem_cons_of_mem _ ha).trans (k₆.more fun a ha => ?_)).trans (k₇.more fun a ha => ?_)
        · rw [List.mem_singleton.mp ha]; exact List.mem_cons_self
        · rw [List.mem_singleton.mp ha]; exact List.mem_cons_self
    · refine wpAny_mono (tailRet f₅ rfl) (fun fl s₆ ⟨e, k₆⟩ => ?_) fun _ _ q => q
      subst e
      refine finI k ((k₁₄.trans (k₅.more fun a ha => ?_)).trans k₆.x) hO hD (I₅.at fun o e => k₆.keep D o e) (fun m => hDX (hX _ m)) ((T₄.kpx k₅ (fun m => hDX (List.mem_singleton.mp m ▸ hX _ hP)) fun a ha => ?_).keeps k₆.keep) fun a ha => List.mem_cons_of_mem _ (hX a ha)
      · rw [List.mem_singleton.mp ha]; exact List.mem_cons_of_mem _ List.mem_cons_self
      · rw [List.mem_singleton.mp ha]; exact List.mem_cons_self
end
end Mine
end
section
open PySem PySem.W PyProof.Rows PySem.Calls
set_option maxRecDepth 100000
set_option maxHeartbeats 400000
set_option linter.unusedVariables false
namespace Mine
section
variable {w : World} {G : Glb} {A : Around}
noncomputable def Tb (X : List Addr) (h : Heap) : Prop := TabS 37 posI quI X h ∧ TabS 44 posD quD X h
theorem Tb.stab : Stab TY Tb := (Stab.tab (S := TY) (P := 37) (pos := posI) (qual := quI) (by decide)).and (Stab.tab (S := TY) (P := 44) (pos := posD) (qual := quD) (by decide))
theorem Tb.ok : TbOK Tb where
  has := fun X h t a ha => by
    rcases List.mem_cons.mp ha with rfl | ha
    · obtain ⟨ps, e, _⟩ := t.1; exact ⟨ps, e⟩
    · rw [List.mem_singleton.mp ha]; obtain ⟨ps, e, _⟩ := t.2; exact ⟨ps, e⟩
theorem CallY.z37 {f : Value} {xs : List T} {y : T} (h : CallY PG w G A 37 posI quI f xs y) : CallZ PG w G A Tb f xs y := fun X s vs b tp hX t hv =>
  wpAny_mono (h X s vs b tp (hX 37 (by decide)) t.1 hv) (fun v s' ⟨h1, k, t1⟩ => ⟨h1, k.more (by decide), t1, t.2.kpx k (by decide) fun a ha => List.mem_singleton.mp ha ▸ hX 37 (by decide)⟩) fun _ _ q => q
theorem CallY.z44 {f : Value} {xs : List T} {y : T} (h : CallY PG w G A 44 posD quD f xs y) : CallZ PG w G A Tb f xs y := fun X s vs b tp hX t hv =>
  wpAny_mono (h X s vs b tp (hX 44 (by decide)) t.2 hv) (fun v s' ⟨h1, k, t1⟩ => ⟨h1, k.more (by decide), t.1.kpx k (by decide) (fun a ha => List.mem_singleton.mp ha ▸ hX 44 (by decide)), t1⟩) fun _ _ q => q

theorem c_div2 (g : GF w G) (r : Rm 1 A) (a b n : Int) (ha : -(2 ^ 64) < a ∧ a < 2 ^ 64) (hb : 0 < b ∧ b < 1073741824) (hn : 0 ≤ n) : CallT PG w G A (.ref 28) [.int a, .int b, .int n] (.tup [.int (a / b), .int (a % b)]) := by
  refine CallT.top (c := 27) _ [Str.ofString "a", Str.ofString "b", Str.ofString "n"] (by rw [g.k]; rfl) rfl rfl (by rw [g.k]; rfl) rfl rfl rfl r.room rfl (three fun a b c => rfl) rfl rfl rfl rfl rfl rfl rfl fun L => ?_
  have h64 := intBits_le_64 ha.1 ha.2
  refine Bdy.ifT ((Tst.leI (Ev.sub (Ev.bits (Ev.name rfl)) (Ev.name rfl)) (Ev.globI g.limit rfl)).eq (decide_eq_true (by omega))) (Bdy.ret ?_)
  exact Ev.callB (EvV.built g.divmod.1 g.divmod.2 rfl) (EvL.cons (Ev.name rfl) (EvL.cons (Ev.name rfl) EvL.nil)) (CallT.divmod hb.1 (PyProof.noPylong_small (by omega)))

noncomputable def stp (b : Int) (n : Nat) (p : Int × List Int) (d : Int) : Int × List Int := ((p.1 * 2 ^ n + d) % b, p.2 ++ [(p.1 * 2 ^ n + d) / b])
noncomputable def dmRun (b : Int) (n : Nat) (l : List Int) : Int × List Int := l.foldl (stp b n) (0, [])
theorem run_snoc (b : Int) (n : Nat) (l : List Int) (d : Int) : dmRun b n (l ++ [d]) = stp b n (dmRun b n l) d := by unfold dmRun; rw [List.foldl_append]; rfl
theorem run_bound {b : Int} {n : Nat} (hb : 0 < b) : ∀ (l : List Int) (p : Int × List Int), 0 ≤ p.1 ∧ p.1 < b → 0 ≤ (l.foldl (stp b n) p).1 ∧ (l.foldl (stp b n) p).1 < b
  | [], p, h => h
  | d :: r, p, h => run_bound hb r _ ⟨Int.emod_nonneg _ (by omega), Int.emod_lt_of_pos _ hb⟩
theorem run_len {b : Int} {n : Nat} : ∀ (l : List Int) (p : Int × List Int), (l.foldl (stp b n) p).2.length = p.2.length + l.length
  | [], p => by simp
  | d :: r, p => by
    rw [List.foldl_cons, run_len r]
    simp [stp]; omega

structure DM (a b : Int) (n : Nat) : Prop where
  b0 : 0 < b ∧ b < 1000
  n0 : 0 < n ∧ n ≤ 10
  bits : (Builtin.Int.intBits b : Int) = n
  a0 : 0 ≤ a ∧ a < 2 ^ 32
  hk : ((Builtin.Int.intBits a : Int) + n - 1) / n = (digs n a).length
  ds : ∀ d ∈ digs n a, 0 ≤ d ∧ d < 2 ^ 32
  qs : ∀ d ∈ (dmRun b n (digs n a).reverse).2, 0 ≤ d ∧ d < 2 ^ 32
theorem lst_int {ds : List Int} {i : Nat} {t : T} (ht : (ds.map T.int)[i]? = some t) : ∃ d, ds[i]? = some d ∧ t = .int d := by
  rw [List.getElem?_map] at ht
  cases q : ds[i]? with
  | none => rw [q] at ht; cases ht
  | some x => rw [q] at ht; cases ht; exact ⟨x, rfl, rfl⟩

theorem dmpK {O : List Addr} {D : Addr} {s s₁ s₂ s₃ s₄ s₅ s₆ s₇ s₉ s₁₀ : Shared} (k : Kp s s₁) (k₂ : KpX O s₁ s₂) (k₃ : KpX (TY ++ O) s₂ s₃) (k₄ : KpX O s₃ s₄) (k₅ : KpX O s₄ s₅) (k₆ : KpX ([D] ++ O) s₅ s₆) (k₇ : KpX [D] s₆ s₇) (k₉ : KpX (TY ++ O) s₇ s₉) (k₁₀ : KpX O s₉ s₁₀)
    (hD : s₄.heap.get? D = none) (hDO : D ∉ O) (hDT : D ∉ TY) (hO : ∀ a ∈ O, s.heap.get? a = none) : KpX TY s s₁₀ := by
  have mO : ∀ a ∈ O, a ∈ D :: (TY ++ O) := fun a ha => List.mem_cons_of_mem _ (List.mem_append_right _ ha)
  have mT : ∀ a ∈ TY ++ O, a ∈ D :: (TY ++ O) := fun a ha => List.mem_cons_of_mem _ ha
  have mD : ∀ a ∈ ([D] : List Addr), a ∈ D :: (TY ++ O) := fun a ha => by rw [List.mem_singleton.mp ha]; exact List.mem_cons_self
  have mDO : ∀ a ∈ [D] ++ O, a ∈ D :: (TY ++ O) := fun a ha => (List.mem_append.mp ha).elim (mD a) (mO a)
  have k14 : KpX (TY ++ O) s₁ s₄ := ((k₂.more fun a ha => List.mem_append_right _ ha).trans k₃).trans (k₄.more fun a ha => List.mem_append_right _ ha)
  have kk := (((((k14.more mT).trans (k₅.more mO)).trans (k₆.more mDO)).trans (k₇.more mD)).trans (k₉.more mT)).trans (k₁₀.more mO)
  refine KpX.back k kk fun a ha => ?_
  rcases List.mem_cons.mp ha with rfl | ha
  · refine .inr ?_
    cases q : s.heap.get? a with
    | none => rfl
    | some o =>
      have := k14.keep a o (fun m => (List.mem_append.mp m).elim hDT hDO) (k.keep _ _ q)
      rw [hD] at this; cases this
  · exact (List.mem_append.mp ha).imp id (hO a)
theorem c_dmp (g : GF w G) (r : Rm 4 A) (a b : Int) (n : Nat) (h : DM a b n) : CallZ PG w G A Tb (.ref 56) [.int a, .int b] (.tup [.int (dval n (dmRun b n (digs n a).reverse).2.reverse), .int (dmRun b n (digs n a).reverse).1]) := by
  intro X s vs bd tp hTY t hv
  refine callTop (G := G) (c := 55) _ [Str.ofString "a", Str.ofString "b"] (by rw [g.k]; rfl) rfl rfl (by rw [g.k]; rfl) rfl rfl rfl r.room rfl (two fun a b => rfl) rfl rfl rfl rfl rfl rfl rfl bd tp hv fun L s₁ X' f k hO hX hX' => ?_
  have t₁ : Tb X' s₁.heap := Tb.stab.kp ⟨t.1.more hX', t.2.more hX'⟩ k
  have hTY' : ∀ a ∈ TY, a ∈ X' := fun a ha => hX a (hTY a ha)
  have own := fun a ha m => (Tb.ok.off t₁ f.r a m).own ha
  refine stStep (St.assign (Ev.eq (u := .int n) (Ev.bits (Ev.name rfl)) (by rw [h.bits])) (.inl rfl)) f fun s₂ f₂ k₂ => ?_
  have t₂ := Tb.stab.kpx t₁ k₂ f.own own
  refine wpAny_execs_cons (assignZ Tb.ok Tb.stab f₂ hTY' t₂ (EvV.glob g.i2d rfl) (EvL.cons (Ev.name rfl) (EvL.cons (Ev.name rfl) EvL.nil)) (by rw [g.k]; rfl) rfl (c_i2d g r.deeper n h.n0 a h.a0.1 h.a0.2 h.hk (PyProof.noPylong_small (by have := h.n0; omega))).z37 (.inl rfl) fun s₃ f₃ k₃ t₃ => ?_)
  refine stStep (St.assign Ev.int (.inl rfl)) f₃ fun s₄ f₄ k₄ => ?_
  have t₄ := Tb.stab.kpx t₃ k₄ f₃.own own
  refine wpAny_execs_cons (assignNew EvN.nil (.inl rfl) f₄ fun D s₅ hDX hD off f₅ k₅ I₅ => ?_)
  have t₅ := Tb.stab.kpx (Tb.stab.more _ D _ t₄ hD) k₅ (fun a ha => List.mem_cons_of_mem _ (f₄.own a ha)) own
  have hDT : D ∉ TY := fun m => hDX (hTY' D m)
  refine wpAny_execs_cons (forZ (xs := (digs n a).reverse.map .int) (fun i => upd (upd (upd (upd (updL none0 [Str.ofString "a", Str.ofString "b"] [.int a, .int b]) (Str.ofString "n") (.int n)) (Str.ofString "a_digits") (iL (digs n a))) (Str.ofString "q_digits") (.ptr D)) (Str.ofString "r") (.int (dmRun b n ((digs n a).reverse.take i)).1))
    (D :: TY) [D] (fun i X h => IL D (dmRun b n ((digs n a).reverse.take i)).2 h ∧ Tb X h) (f₅.weaken (BSub.swap (by decide))) (ItT.eq (ItT.rev (xs := (digs n a).map .int) (EvV.built g.reversed.1 g.reversed.2 rfl) (Ev.name rfl) r.hh) ?_) (.inl rfl) ?_ ?_ ?_ ?_ ⟨I₅, t₅⟩ ?_ ?_)
  · rw [List.map_reverse]
  · exact fun i => (Stab.il List.mem_cons_self).and ⟨fun X h h' x k => Tb.stab.st X h h' x fun b o hb => k b o (hb.imp id (List.mem_cons_of_mem _)), Tb.stab.more, Tb.stab.less⟩
  · intro a ha
    rcases List.mem_cons.mp ha with rfl | ha
    · exact List.mem_cons_self
    · exact List.mem_cons_of_mem _ (hTY' a ha)
  · intro a ha m
    rcases List.mem_cons.mp m with rfl | m
    · exact off.own ha
    · exact own a ha m
  · intro a ha
    rw [List.mem_singleton.mp ha]; exact List.mem_cons_self
  · intro i t X'' s' ht hXX f' ⟨I', t'⟩
    obtain ⟨d, hd, rfl⟩ := lst_int ht
    have hb : 0 ≤ (dmRun b n ((digs n a).reverse.take i)).1 ∧ (dmRun b n ((digs n a).reverse.take i)).1 < b := run_bound (n := n) h.b0.1 ((digs n a).reverse.take i) (0, []) ⟨Int.le_refl _, h.b0.1⟩
    have hlen : (dmRun b n ((digs n a).reverse.take i)).2.length ≤ 1000 := by
      have e1 : (dmRun b n ((digs n a).reverse.take i)).2.length = 0 + ((digs n a).reverse.take i).length := run_len _ _
      have e2 := digs_len (n := n) (a := a)
      rw [e1, List.length_take, List.length_reverse]; omega
    have hdb := h.ds d (List.mem_reverse.mp (List.mem_of_getElem? hd))
    have hrn : dmRun b n ((digs n a).reverse.take (i + 1)) = stp b n (dmRun b n ((digs n a).reverse.take i)) d := by rw [List.take_add_one, hd]; exact run_snoc _ _ _ _
    have hpow : (2 : Int) ^ n ≤ 2 ^ 10 := by
      have := Nat.pow_le_pow_right (n := 2) (by decide) h.n0.2
      exact_mod_cast this
    have hpos : (0 : Int) < 2 ^ n := Int.pow_pos (by decide)
    generalize dmRun b n ((digs n a).reverse.take i) = pr at hb hlen hrn I' f' ⊢
    have hx0 : 0 ≤ pr.1 * 2 ^ n := Int.mul_nonneg hb.1 (Int.le_of_lt hpos)
    have hx1 : pr.1 * 2 ^ n ≤ 1000 * 2 ^ 10 := Int.mul_le_mul (by have := h.b0; omega) hpow (Int.le_of_lt hpos) (by decide)
    refine stStep (St.unpack (names := [Str.ofString "q_digit", Str.ofString "r"]) (xs := [.int ((pr.1 * 2 ^ n + d) / b), .int ((pr.1 * 2 ^ n + d) % b)]) (Ev.call (EvV.glob g.div2 rfl) (EvL.cons (Ev.add (Ev.eq (u := .int (pr.1 * 2 ^ n)) (Ev.lsh (a := pr.1) (b := n) (Ev.name rfl) (Ev.name rfl) (by omega) (by have := h.n0; omega) (by have := h.b0; omega)) (by rw [Int.toNat_natCast])) (Ev.name rfl)) (EvL.cons (Ev.name rfl) (EvL.cons (Ev.name rfl) EvL.nil))) (by rw [g.k]; rfl) rfl
      (c_div2 g (r.deeper.less (by omega)) _ _ _ (by omega) (by have := h.b0; omega) (by omega))) r.hh (kindAll rfl L) rfl ⟨[_, _], rfl, rfl⟩) f' fun s₁ f₁ k₁ => ?_
    refine wpAny_execs_cons (appendM f₁ (hXX D List.mem_cons_self) off (I'.at fun o e => k₁.keep D o off.own e) hlen (Ev.name rfl) (Ev.name rfl) fun s₂ f₂ k₂ I₂ => wpAny_execs_nil ⟨rfl, f₂.weaken ?_, ?_, ?_, ?_⟩)
    · rw [hrn]
      refine BSub.upd (BSub.skip (BSub.skip (BSub.skip (BSub.refl _) _ _ ?_) _ _ ?_) _ _ ?_) _ _ <;> rfl
    · exact (k₁.more fun a ha => List.mem_append_right _ ha).trans (k₂.more fun a ha => List.mem_append_left _ ha)
    · rw [hrn]; exact I₂
    · refine Tb.stab.kpx (Tb.stab.kpx t' k₁ f'.own own) k₂ (fun a ha => List.mem_singleton.mp ha ▸ hXX D List.mem_cons_self) fun a ha => List.mem_singleton.mp ha ▸ hDT
  · intro s₆ f₆ k₆ I₆
    simp only [List.length_map, List.take_length] at f₆ I₆
    have hqs := h.qs
    have hlq : (dmRun b n (digs n a).reverse).2.length ≤ 2 := by
      have e1 : (dmRun b n (digs n a).reverse).2.length = 0 + ((digs n a).reverse).length := run_len _ _
      have e2 := digs_len (n := n) (a := a)
      rw [e1, List.length_reverse]; omega
    generalize dmRun b n (digs n a).reverse = pr at f₆ I₆ hqs hlq ⊢
    refine wpAny_execs_cons (reverseM f₆ List.mem_cons_self off I₆.1 (by omega) (Ev.name rfl) fun s₇ f₇ k₇ I₇ => ?_)
    have t₇ := Tb.stab.less _ X' _ (fun a ha => List.mem_cons_of_mem _ ha) (Tb.stab.kpx I₆.2 k₇ (fun a ha => List.mem_singleton.mp ha ▸ List.mem_cons_self) fun a ha => List.mem_singleton.mp ha ▸ hDT)
    have f₈ := FrR.mk (f₇.r.toLst (x := Str.ofString "q_digits") rfl hDX I₇) (fun a ha => f₇.bd a (List.mem_cons_of_mem _ ha)) f₄.own
    refine wpAny_execs_cons (assignZ Tb.ok Tb.stab f₈ hTY' t₇ (EvV.glob g.d2i rfl) (EvL.cons (Ev.name rfl) (EvL.cons (Ev.name rfl) EvL.nil)) (by rw [g.k]; rfl) rfl (c_d2i g r.deeper pr.2.reverse (by rw [List.length_reverse]; exact hlq) n h.n0.2 fun d hd => hqs d (List.mem_reverse.mp hd)).z44 (.inl rfl) fun s₉ f₉ k₉ t₉ => ?_)
    refine wpAny_mono (Bdy.ret (y := .tup [.int (dval n pr.2.reverse), .int pr.1]) (Ev.tup (EvL.cons (Ev.name rfl) (EvL.cons (Ev.name rfl) EvL.nil)) (Nat.le_of_ble_eq_true rfl)) X' s₉ f₉) (fun fl s₁₀ ⟨v, e, hr, k₁₀⟩ => ?_) fun _ _ q => q
    subst e
    refine ⟨hr.mono (hid_less hX), dmpK k k₂ k₃ k₄ k₅ k₆ k₇ k₉ k₁₀ hD off.own hDT hO, Tb.stab.less _ _ _ hX (Tb.stab.kpx t₉ k₁₀ f₉.own own)⟩
end
end Mine
end
section
open PySem PySem.W PyProof.Rows PySem.Calls
set_option maxRecDepth 100000
set_option maxHeartbeats 400000
set_option linter.unusedVariables false
namespace Mine
section
variable {w : World} {G : Glb} {A : Around} {env : Env} {ρ : Bnd}
noncomputable def BdyZ (w : World) (G : Glb) (A : Around) (env : Env) (ρ : Bnd) (sts : List Stmt) (y : T) : Prop :=
  ∀ X s, FrR G env (ownOf env) ρ X s → (∀ a ∈ TY, a ∈ X) → Tb X s.heap → wpAny (model PG w) A (execs sts env) (fun fl s' => ∃ v, fl = .ret v ∧ Rep (hid s'.heap X) y v ∧ KpX (TY ++ ownOf env) s s' ∧ Tb X s'.heap) NoE s
theorem BdyZ.elseT {test : PySem.Expr} {body els rest : List Stmt} {pos : Pos} {y : T} (h : Tst PG w G A env ρ test false) (hr : BdyZ w G A env ρ els y) : BdyZ w G A env ρ (.If test body els pos :: rest) y := fun X s f hT t =>
  wpAny_execs_cons (wpAny_If (h.use f.bd f.r fun s₁ k1 _ _ => by
    simp only [Bool.false_eq_true, if_false]
    exact wpAny_mono (hr X s₁ (f.kp k1) hT (Tb.stab.kp t k1)) (fun fl s₂ ⟨v, e, h2, k2, t2⟩ => by subst e; exact ⟨v, rfl, h2, k1.x.trans k2, t2⟩) fun _ _ q => q))
theorem BdyZ.ret {fe e : PySem.Expr} {es : List PySem.Expr} {rest : List Stmt} {pos cp : Pos} {xs : List T} {y : T} {a : Addr} {o : Obj} {fd : FuncData} (hf : EvV PG w G A env ρ fe (.ref a)) (hs : EvL PG w G A env ρ (e :: es) xs) (hk : G.K.lookup a = some o) (hd : o.data = .func fd) (hc : CallZ PG w G A Tb (.ref a) xs y)
    (he : starEach (e :: es) env = (false, eval e env) :: starEach es env := by rfl)
    (hcl : eval (.Call fe (e :: es) [] cp) env = (do callWith cp (← eval fe env) [] (backTo cp (starEach (e :: es) env)) (backToKw cp (keywordEach [] env))) := by rfl) :
    BdyZ w G A env ρ (.Return (some (.Call fe (e :: es) [] cp)) pos :: rest) y := fun X s f hT t =>
  wpAny_execs_cons (wpAny_Return_some (Call_ (hf.use f.bd f.r fun s₁ k1 b1 r1 => callWith_def_at (r1.top.ok.k a o hk) hd (hs.use b1 r1 fun vs s₂ h2 k2 b2 r2 => ⟨r2.top.ok.k a o hk,
    wpAny_mono (hc X s₂ vs b2 r2.top hT (Tb.stab.kp (Tb.stab.kp t k1) k2) h2) (fun v s₃ ⟨hv, k3, t3⟩ => ⟨v, rfl, hv, (k1.trans k2).x.trans (k3.more fun a ha => List.mem_append_left _ ha), t3⟩) fun _ _ q => q⟩) he) hcl))
theorem c_idm (g : GF w G) (r : Rm 5 A) (a b : Int) (n : Nat) (h : DM a b n) : CallZ PG w G A Tb (.ref 63) [.int a, .int b] (.tup [.int (dval n (dmRun b n (digs n a).reverse).2.reverse), .int (dmRun b n (digs n a).reverse).1]) := by
  intro X s vs bd tp hTY t hv
  refine callTop (G := G) (c := 62) _ [Str.ofString "a", Str.ofString "b"] (by rw [g.k]; rfl) rfl rfl (by rw [g.k]; rfl) rfl rfl rfl r.room rfl (two fun a b => rfl) rfl rfl rfl rfl rfl rfl rfl bd tp hv fun L s₁ X' f k hO hX hX' => ?_
  have t₁ : Tb X' s₁.heap := Tb.stab.kp ⟨t.1.more hX', t.2.more hX'⟩ k
  have hb := h.b0
  have ha := h.a0
  refine wpAny_mono ((BdyZ.elseT ((Tst.eqI (a := b) (b := 0) (Ev.name rfl) Ev.int).eq ?_) (BdyZ.elseT ((Tst.ltI (a := b) (b := 0) (Ev.name rfl) Ev.int).eq ?_) (BdyZ.elseT ((Tst.ltI (a := a) (b := 0) (Ev.name rfl) Ev.int).eq ?_)
    (BdyZ.ret (EvV.glob g.dmp rfl) (EvL.cons (Ev.name rfl) (EvL.cons (Ev.name rfl) EvL.nil)) (by rw [g.k]; rfl) rfl (c_dmp g r.deeper a b n h))))) X' s₁ f (fun a ha => hX a (hTY a ha)) t₁) (fun fl s₂ ⟨v, e, hr, k₂, t₂⟩ => ?_) fun _ _ q => q
  · simp; omega
  · exact decide_eq_false (by omega)
  · exact decide_eq_false (by omega)
  · subst e
    exact ⟨hr.mono (hid_less hX), KpX.back k k₂ fun a ha => (List.mem_append.mp ha).imp id (hO a), Tb.stab.less _ _ _ hX t₂⟩
end
end Mine
end
section
open PySem PySem.W PyProof.Rows PySem.Calls
set_option maxRecDepth 100000
set_option linter.unusedVariables false
namespace Mine
section
variable {prog : Program} {w : World} {A : Around} {E : Value → Shared → Prop} {s : Shared}
noncomputable abbrev ByteAt (b : Array UInt8) (i : Nat) (v : Value) : Prop := ∃ c u, b[i]? = some c ∧ v = .int (c.toNat : Int) u

theorem extend_bytes {R : Result → Shared → Prop} (hh : A.handled = none) (x : Array UInt8) (t : Tok) (S : Addr) (res : Value) (c₀ : Nat) (hS : s.heap.get? S = some { cls := .type "list", data := .seq #[] c₀ })
    (hR : ∀ h' tk acc' c', (∀ b o, b ≠ S → s.heap.get? b = some o → h'.get? b = some o) → h'.get? S = some { cls := .type "list", dict := none, data := .seq acc' c', slots := #[] } →
      ItemsOf (ByteAt x) acc' x.size → R (.ok (.ret res)) { s with heap := h', toks := tk }) (hn : x.size ≤ sizeLine) :
    wpAny (model prog w) A.in1 (Builtin.List.listExtendWith (.ref S) (.bytes x t) res)
      (fun fin s' => match fin with | .done f => R (.ok f) s' | .again c' => c'.quiet = true ∧ codeAny (model prog w) A c' R s') (fun e s' => R (.error e) s') s := by
  have hSI : S ≠ s.heap.objs.size := Nat.ne_of_lt (Heap.lt_size hS)
  have hSf : S ∉ [s.heap.objs.size] := fun hm => hSI (List.mem_singleton.mp hm)
  unfold Builtin.List.listExtendWith
  refine wpAny_bind (wpAny_typeOf (T := "bytes") (v := .bytes x t) rfl ?_)
  have h1 : Builtin.List.listSameRef (.ref S) (.bytes x t) = false := rfl
  have h2 : (Value.type "bytes" == Value.type "list") = false := by decide
  have h3 : (Value.type "bytes" == Value.type "tuple") = false := by decide
  simp only [h1, h2, h3, Bool.or_false, Bool.false_eq_true, if_false]
  refine wpAny_bind (KBw.pyIter_bytes ?_)
  refine wpAny_bind (wpAny_holding ?_)
  unfold Builtin.List.listLengthHint
  refine wpAny_bind (wpAny_specialOf (T := "bytes") (v := .bytes x t) rfl FB.slot_bytes_len.lookup ?_)
  wp_delta
  refine wpAny_bind (wpAny_isInstance (T := "bytes") (v := .bytes x t) (b := true) rfl (by rw [isSubtype_type]; kernel_rfl) ?_)
  show wpAny _ _ (typeOf (Value.bytes x t) >>= _) _ _ _
  refine wpAny_bind (wpAny_typeOf (T := "bytes") (v := .bytes x t) rfl ?_)
  refine wpAny_pure ?_
  rw [if_neg (by decide)]
  have W := KBw.walks (prog := prog) (w := w) (A := A.in1) hh s.heap.objs.size x t
  refine wpAny_pure ⟨plainId_quiet F.plain_extend_loop _, codeAny_extend_loopS W.toS hn _ hSf _ x.size 0 _ _ _ rfl (Nat.zero_le _) ⟨_, Heap.get?_push_size _ rfl, rfl, rfl⟩ (Heap.get?_push_of_some _ hS) (ItemsOf.nil _) fun s' acc' c' hm hS' hacc => ?_⟩
  rw [Moved.eq_with hm]
  refine hR s'.heap s'.toks acc' c' (fun b ob hb e => hm.heap b ob (fun hmem => ?_) (Heap.get?_push_of_some _ e)) hS' hacc
  rcases List.mem_cons.mp hmem with e' | hmem
  · exact hb e'
  · exact absurd (Heap.lt_size e) (by rw [List.mem_singleton.mp hmem]; exact Nat.lt_irrefl _)
theorem list_init_bytes {R : Result → Shared → Prop} (hh : A.handled = none) (x : Array UInt8) (t : Tok) (S : Addr) (hS : s.heap.get? S = some { cls := .type "list", data := .seq #[] })
    (hR : ∀ h' tk acc' c', (∀ b o, b ≠ S → s.heap.get? b = some o → h'.get? b = some o) → h'.get? S = some { cls := .type "list", dict := none, data := .seq acc' c', slots := #[] } →
      ItemsOf (ByteAt x) acc' x.size → R (.ok (.ret .none)) { s with heap := h', toks := tk }) (hn : x.size ≤ sizeLine) :
    wpAny (model prog w) A.in1 (Builtin.«list.__init__» ⟨[.ref S, .bytes x t], []⟩)
      (fun fin s' => match fin with | .done f => R (.ok f) s' | .again c' => c'.quiet = true ∧ codeAny (model prog w) A c' R s') (fun e s' => R (.error e) s') s := by
  show wpAny _ _ (do let old ← Builtin.List.listItems (.ref S); Builtin.List.listUpdate (.ref S) (fun _ => #[]); letGo old.toList.reverse; Builtin.List.listExtendWith (.ref S) (.bytes x t) .none) _ _ s
  refine wpAny_bind ?_
  unfold Builtin.List.listItems
  refine wpAny_bind (wpAny_seqItems hS rfl (wpAny_pure ?_))
  show wpAny _ _ (updateSeq S (fun _ => #[]) >>= fun _ => letGo (#[] : Array Value).toList.reverse >>= fun _ => Builtin.List.listExtendWith (.ref S) (.bytes x t) .none) _ _ s
  refine wpAny_bind (wpAny_updateSeq hS rfl ?_)
  have hS₂ := Heap.get?_update_self (Obj.mapSeq (fun _ => (#[] : Array Value))) hS rfl
  have oth : ∀ b o, b ≠ S → s.heap.get? b = some o → (s.heap.update S (Obj.mapSeq (fun _ => (#[] : Array Value)))).get? b = some o :=
    fun b o hb e => (Heap.get?_update_other _ _ (Ne.symm hb)).trans e
  refine wpAny_bind (wpAny_letGo ?_)
  refine extend_bytes (hn := hn) hh x t S .none _ hS₂ fun h' tk acc' c' hk hS' hacc => ?_
  exact hR h' tk acc' c' (fun b o hb e => hk b o hb (oth b o hb e)) hS' hacc
theorem call_list_bytes {Q : Value → Shared → Prop} (hh : A.handled = none) (x : Array UInt8) (t : Tok)
    (hQ : ∀ h' tk acc' c', (∀ b o, s.heap.get? b = some o → h'.get? b = some o) →
      h'.get? s.heap.objs.size = some { cls := .type "list", dict := none, data := .seq acc' c', slots := #[] } → ItemsOf (ByteAt x) acc' x.size → Q (.ref s.heap.objs.size) { s with heap := h', toks := tk }) (hn : x.size ≤ sizeLine) :
    wpAny (model prog w) A (call (.type "list") [.bytes x t]) Q E s := by
  refine callType_codes (Q₁ := fun obj s₁ => obj = .ref s.heap.objs.size ∧ s₁ = { s with heap := s.heap.push { cls := .type "list", data := .seq #[] } }) F.called_list (F.typeCall_list_1 _) F.entry_list_init
    (code_list_new _ ⟨rfl, rfl⟩) fun obj s₁ h₁ => ?_
  obtain ⟨rfl, rfl⟩ := h₁
  have hS : (s.heap.push { cls := .type "list", data := .seq #[] }).get? s.heap.objs.size = some { cls := .type "list", data := .seq #[] } := Heap.get?_push_size _ rfl
  refine ⟨⟨_, hS, rfl⟩, F.args_list_init_2 _ _, list_init_bytes (A := A.in1) (hn := hn) hh x t _ hS fun h' tk acc' c' hk hS' hacc => ?_⟩
  exact ⟨rfl, hQ h' tk acc' c' (fun b o e => hk b o (Nat.ne_of_lt (Heap.lt_size e)) (Heap.get?_push_of_some _ e)) hS' hacc⟩
end
end Mine
end
section
open PySem PySem.W PyProof.Rows PySem.Calls
set_option maxRecDepth 100000
set_option linter.unusedVariables false
namespace Mine
namespace BA
theorem mro : mroOf (.type "bytearray") = pure [.type "bytearray", .type "object"] := by rw [mroOf_type]; kernel_rfl
theorem lookup_new : typeLookup (.type "bytearray") "__new__" = pure (some (.builtin "bytearray.__new__")) := by rw [typeLookup_type, builtinLookup_eq_fast]; kernel_rfl
theorem slot_init : Slot "bytearray" "__init__" "bytearray.__init__" :=
  .of (owner := "bytearray") (n := "__init__") (by rw [typeLookup_type, builtinLookup_eq_fast]; kernel_rfl) (by decide +kernel) (by decide +kernel) (by decide +kernel)
    (by first | exact .inl (by decide +kernel) | exact .inr (by decide +kernel)) (by rw [isSubtype_type]; kernel_rfl)
theorem slot_setitem : Slot "bytearray" "__setitem__" "bytearray.__setitem__" :=
  .of (owner := "bytearray") (n := "__setitem__") (by rw [typeLookup_type, builtinLookup_eq_fast]; kernel_rfl) (by decide +kernel) (by decide +kernel) (by decide +kernel)
    (by first | exact .inl (by decide +kernel) | exact .inr (by decide +kernel)) (by rw [isSubtype_type]; kernel_rfl)
theorem called : TypeCalled "bytearray" "bytearray.__new__" "bytearray.__init__" :=
  ⟨by decide +kernel, by decide +kernel, ⟨_, _, mro⟩, madeBy_type mro lookup_new (by decide +kernel), by decide +kernel, by rw [isSubtype_type]; kernel_rfl, slot_init⟩
theorem typeCall (a : Value) : checkTypeCall "bytearray" ⟨[a], []⟩ = pure () := by kernel_rfl
theorem newCall (a : Value) : checkBuiltinCall "bytearray.__new__" ⟨[.type "bytearray", a], []⟩ = pure () := by kernel_rfl
theorem plain_new : plainId "bytearray.__new__" = true := by decide +kernel
theorem entry_new : entryFor table "bytearray.__new__" = some Builtin.«list.__new__» := entryFor_alias (id' := "list.__new__") (by kernel_rfl) rfl (by decide +kernel) (by kernel_rfl)
theorem entry_init : entryFor table "bytearray.__init__" = some Builtin.«bytearray.__init__» := entryFor_of_tree (by kernel_rfl)
theorem entry_setitem : entryFor table "bytearray.__setitem__" = some Builtin.«bytearray.__setitem__» := entryFor_of_tree (by kernel_rfl)
theorem args_init (a b : Value) : argsOk "bytearray.__init__" ⟨[a, b], []⟩ := by unfold argsOk; kernel_rfl
theorem args_setitem (a b c : Value) : argsOk "bytearray.__setitem__" ⟨[a, b, c], []⟩ := by unfold argsOk; kernel_rfl
theorem look_release : typeLookup (.type "bytearray") "__release_buffer__" = pure (some (.builtin "bytearray.__release_buffer__")) := by rw [typeLookup_type, builtinLookup_eq_fast]; kernel_rfl
theorem look_buffer : typeLookup (.type "bytearray") "__buffer__" = pure (some (.builtin "bytearray.__buffer__")) := by rw [typeLookup_type, builtinLookup_eq_fast]; kernel_rfl
theorem look_bytes : typeLookup (.type "bytearray") "__bytes__" = pure none := by rw [typeLookup_type, builtinLookup_eq_fast]; kernel_rfl
theorem look_index : typeLookup (.type "bytearray") "__index__" = pure none := by rw [typeLookup_type, builtinLookup_eq_fast]; kernel_rfl
theorem sub : isSubtype (.type "bytearray") (.type "bytearray") = pure true := PySem.F.isi_self_bytearray
theorem bind (v : Value) : Builtin.Bytes.bindOptional "bytearray.__init__" "bytearray" ["source", "encoding", "errors"] [v] [] = pure [some v, none, none] := by kernel_rfl
set_option maxRecDepth 1000000 in
set_option maxHeartbeats 4000000 in
theorem owner : ("bytearray.__new__".splitOn ".__new__").headD "" = "bytearray" := by simp +decide [String.splitOn, String.splitOnAux]
end BA
section
variable {prog : Program} {w : World} {A : Around} {E : Value → Shared → Prop} {s : Shared}
noncomputable abbrev baO (bs : Array UInt8) : Obj := { cls := .type "bytearray", data := .bytearray bs }
theorem code_ba_new (a : Value) {Q₁ : Value → Shared → Prop}
    (h : Q₁ (.ref s.heap.objs.size) { s with heap := s.heap.push (baO #[]) }) :
    codeAny (model prog w) A (.call (.builtin "bytearray.__new__") ⟨[.type "bytearray", a], []⟩) (wants Q₁ E) s := by
  refine codeAny_of_tree ?_
  show wpAny _ A.in1 (do checkBuiltinCall "bytearray.__new__" ⟨[.type "bytearray", a], []⟩; again (.builtin "bytearray.__new__" ⟨[.type "bytearray", a], []⟩)) _ _ s
  refine wpAny_bind (wpAny_of_eq (BA.newCall a) (wpAny_pure ⟨plainId_quiet BA.plain_new _, codeAny_builtin_stack BA.entry_new rfl fun p st => ?_⟩))
  rw [Around.under_plainId BA.plain_new _]
  have hsub := BA.sub
  have hown := BA.owner
  obtain ⟨hp, g, d, tk, os⟩ := s
  simp only [hown]
  wp_walk
  exact h
end
end Mine
end
section
open PySem PySem.W PyProof.Rows PySem.Calls
set_option maxRecDepth 100000
set_option linter.unusedVariables false
namespace Mine
section
variable {prog : Program} {w : World} {A : Around} {E : Value → Shared → Prop} {s : Shared}
theorem ba_slotOwn {S : Addr} {nm : String} {id : String} {Q : Bool → Shared → Prop} {o : Obj} (hS : s.heap.get? S = some o) (hc : o.cls = .type "bytearray") (hl : typeLookup (.type "bytearray") (nm : Str) = pure (some (.builtin id)))
    (he : id.endsWith ("." ++ nm) = true) (hd : id.dropRight (nm.length + 1) = "bytearray") (h : Q true s) : wpAny (model prog w) A (Builtin.Bytes.slotIsOwn (.ref S) nm) Q E s := by
  have hT : s.TypeIs (.ref S) "bytearray" := ⟨o, hS, hc⟩
  unfold Builtin.Bytes.slotIsOwn
  refine wpAny_bind (wpAny_specialOf hT hl ?_)
  dsimp only
  rw [he, hd]
  simp only [Bool.not_true, Bool.false_eq_true, if_false]
  exact wpAny_isInstance hT BA.sub h
theorem ba_release {S : Addr} {o : Obj} {Q : Bool → Shared → Prop} (hS : s.heap.get? S = some o) (hc : o.cls = .type "bytearray") (h : Q false s) : wpAny (model prog w) A (Builtin.Bytes.ownRelease (.ref S)) Q E s := by
  unfold Builtin.Bytes.ownRelease
  exact wpAny_bind (ba_slotOwn hS hc BA.look_release (by decide +kernel) (by decide +kernel) (wpAny_pure h))
end
end Mine
end
section
open PySem PySem.W PyProof.Rows PySem.Calls
open PySem.Sem (wp)
set_option maxRecDepth 100000
set_option linter.unusedVariables false
namespace Mine
/- contexts on whose stack no decoder stands -/
noncomputable def isDec : Code → Bool
  | .builtin id _ => Builtin.Bytes.decodersThatHold.contains id
  | _ => false
noncomputable def Cln (l : List (Code × Pos)) : Prop := ∀ x ∈ l, isDec x.1 = false
noncomputable def wpR {α : Type} (M : Model) (A : Around) (t : Sem α) (Q : α → Shared → Prop) (E : Value → Shared → Prop) (s : Shared) : Prop :=
  ∀ Γ p, Γ.In A → isDec Γ.code = false → Cln Γ.below → wp M Γ t (fun a _ s' => Q a s') (fun e _ s' => E e s') p s
noncomputable def codeR (M : Model) (A : Around) (c : Code) (R : Result → Shared → Prop) (s : Shared) : Prop :=
  ∀ Γ p, Γ.code = c → Γ.Below A → Cln Γ.below → wpCode M Γ R p s
section
variable {α β : Type} {M : Model} {A : Around} {E : Value → Shared → Prop} {s : Shared}
theorem wpR.of {t : Sem α} {Q : α → Shared → Prop} (h : wpAny M A t Q E s) : wpR M A t Q E s := fun Γ p hi _ _ => h Γ p hi
theorem codeR.of {c : Code} {R : Result → Shared → Prop} (h : codeAny M A c R s) : codeR M A c R s := fun Γ p hc hb _ => h Γ p hc hb
theorem wpR_mono {t : Sem α} {Q Q' : α → Shared → Prop} {E' : Value → Shared → Prop} (h : wpR M A t Q E s) (hQ : ∀ a s, Q a s → Q' a s) (hE : ∀ e s, E e s → E' e s) : wpR M A t Q' E' s :=
  fun Γ p hi hd hc => Sem.wp_mono M Γ t (fun a _ s => hQ a s) (fun e _ s => hE e s) p s (h Γ p hi hd hc)
theorem wpR_bind {m : Sem α} {f : α → Sem β} {Q : β → Shared → Prop} (h : wpR M A m (fun a s' => wpR M A (f a) Q E s') E s) : wpR M A (m >>= f) Q E s := fun Γ p hi hd hc => by
  rw [Sem.wp_bind']
  exact Sem.wp_mono M Γ m (fun a p' s' h' => h' Γ p' hi hd hc) (fun _ _ _ h' => h') p s (h Γ p hi hd hc)
theorem wpR_pure {a : α} {Q : α → Shared → Prop} (h : Q a s) : wpR M A (pure a) Q E s := fun _ _ _ _ _ => h
theorem wpR_onRaise {m : Sem α} {k : Value → Sem Unit} {Q : α → Shared → Prop} (h : wpR M A m Q (fun e s' => wpR M A (k e) (fun _ s'' => E e s'') E s') s) : wpR M A (m.onRaise k) Q E s := fun Γ p hi hd hc => by
  rw [Sem.wp_onRaise]
  exact Sem.wp_mono M Γ m (fun _ _ _ h' => h') (fun e p' s' h' => h' Γ p' hi hd hc) p s (h Γ p hi hd hc)
theorem wpR_attempt {m : Sem α} {Q : Except Value α → Shared → Prop} (h : wpR M A m (fun a => Q (.ok a)) (fun e => Q (.error e)) s) : wpR M A m.attempt Q E s := fun Γ p hi hd hc => by
  rw [Sem.wp_attempt]; exact h Γ p hi hd hc
theorem wpR_holding {vs : List Value} {m : Sem α} {Q : α → Shared → Prop} (h : wpR M A m Q E s) : wpR M A (holding vs m) Q E s := fun Γ p hi hd hc => by
  rw [Sem.wp_holding]; exact h Γ p hi hd hc
/-- a step that asks nothing of the stack, and then the rest -/
theorem wpR_step {m : Sem α} {f : α → Sem β} {Q : β → Shared → Prop} (h : wpAny M A m (fun a s' => wpR M A (f a) Q E s') E s) : wpR M A (m >>= f) Q E s := wpR_bind (.of h)
theorem cln_cons {Γ : Ctx} {p : Pos} (hd : isDec Γ.code = false) (hc : Cln Γ.below) : Cln ((Γ.code, p) :: Γ.below) := fun x hx => by
  rcases List.mem_cons.mp hx with rfl | hx
  · exact hd
  · exact hc x hx
theorem wpR_run {c : Code} {h : Option Value} {Q : Flow → Shared → Prop} (hc : codeR M (A.mark h) c (fun r s' => match r with | .ok f => Q f s' | .error e => E e s') s) (hnb : h ≠ some byPass := by intro x; cases x) : wpR M A (run c h) Q E s :=
  fun Γ p hi hd hcl => by rw [Sem.wp_run]; exact hc _ p rfl (hi.enter c h p hnb) (cln_cons hd hcl)
theorem wpR_runValue {c : Code} {Q : Value → Shared → Prop} (hc : codeR M A c (fun r s' => match r with | .ok (.ret v) => Q v s' | .ok _ => False | .error e => E e s') s) : wpR M A (runValue c) Q E s :=
  fun Γ p hi hd hcl => by rw [Sem.wp_runValue]; exact hc _ p rfl (hi.enter c none p (by intro x; cases x)) (cln_cons hd hcl)
theorem wpR_call {f : Value} {pos : List Value} {kw : List (Str × Value)} {Q : Value → Shared → Prop} (hc : codeR M A (.call f ⟨pos, kw⟩) (fun r s' => match r with | .ok (.ret v) => Q v s' | .ok _ => False | .error e => E e s') s) :
    wpR M A (call f pos kw) Q E s := wpR_runValue hc
theorem codeR_mono {c : Code} {R R' : Result → Shared → Prop} (h : codeR M A c R s) (hR : ∀ r s, R r s → R' r s) : codeR M A c R' s := fun Γ p hc hb hcl => wpCode_mono hR (h Γ p hc hb hcl)
theorem codeR_of_tree {c : Code} {R : Result → Shared → Prop} (hdec : isDec c = false)
    (h : wpR M (A.under c) (M.den c) (fun fin s' => match fin with | .done f => R (.ok f) s' | .again c' => c'.quiet = true ∧ codeR M A c' R s') (fun e s' => R (.error e) s') s) : codeR M A c R s := fun Γ p hc hb hcl => by
  rw [wpCode_iff_wp, hc]
  refine Sem.wp_mono M Γ _ (fun fin p' s' h' => ?_) (fun _ _ _ h' => h') p s (h Γ p (hc ▸ hb.in) (hc ▸ hdec) hcl)
  cases fin with
  | done f => exact h'
  | again c' => exact ⟨h'.1, h'.2 (Γ.goto c') p' rfl (hb.goto c') hcl⟩
theorem codeR_loop {c : Code} {R : Result → Shared → Prop} (hdec : isDec c = false) (hq : c.quiet = true) (I : Nat → Shared → Prop)
    (turn : ∀ n s, I n s → wpR M (A.under c) (M.den c) (fun fin s' => match fin with | .done f => R (.ok f) s' | .again c' => c' = c ∧ ∃ m, m < n ∧ I m s') (fun e s' => R (.error e) s') s)
    (n : Nat) (h : I n s) : codeR M A c R s := by
  induction n using Nat.strongRecOn generalizing s with
  | ind n ih =>
    refine codeR_of_tree hdec (wpR_mono (turn n s h) (fun fin s' hf => ?_) fun _ _ h' => h')
    cases fin with
    | done f => exact hf
    | again c' => obtain ⟨rfl, m, hm, hI⟩ := hf; exact ⟨hq, ih m hm hI⟩
theorem wpR_exported {v : Value} {Q : Bool → Shared → Prop} (hg : A.guards = some []) (h : Q false s) : wpR M A (Builtin.Bytes.exported v) Q E s := fun Γ p hi hd hc => by
  unfold Builtin.Bytes.exported
  have key : ∀ (f : Code × Pos → Bool), (∀ c p, c.isGuard = false → isDec c = false → f (c, p) = false) → wp M Γ (do return (← stack).any f) (fun a _ s' => Q a s') (fun e _ s' => E e s') p s := fun f hf => by
    show Q (((Γ.code, p) :: Γ.below).any f) s
    have e : ((Γ.code, p) :: Γ.below).any f = false := by
      rw [List.any_eq_false]
      rintro ⟨c, p'⟩ hx
      have hdx : isDec c = false := by
        rcases List.mem_cons.mp hx with e | hx
        · cases e; exact hd
        · exact hc _ hx
      have hgx : c.isGuard = false := by
        have hgs := hi.2.2.2.1 [] hg
        rw [← guardsOf_cons Γ.code p] at hgs
        cases q : c.isGuard with
        | false => rfl
        | true =>
          have : c ∈ guardsOf ((Γ.code, p) :: Γ.below) := List.mem_filter.mpr ⟨List.mem_map.mpr ⟨(c, p'), hx, rfl⟩, q⟩
          rw [hgs] at this; cases this
      rw [hf c p' hgx hdx]; simp
    rw [e]; exact h
  refine key _ fun c p' h1 h2 => ?_
  cases c with
  | builtin id args =>
    obtain ⟨pos, kw⟩ := args
    have h3 : Builtin.Bytes.decodersThatHold.contains id = false := h2
    have no : ∀ i, guardIds.contains i = true → ¬ id = i := fun i hi e => by
      have h4 : guardIds.contains id = false := h1
      rw [e, hi] at h4; cases h4
    delta Builtin.Bytes.exported.match_1
    refine (dif_neg (no "bytearray.__contains__" (by decide +kernel))).trans ?_
    refine (dif_neg (no "bytearray.__mod__" (by decide +kernel))).trans ?_
    refine (dif_neg (no "bytearray.__rmod__" (by decide +kernel))).trans ?_
    refine (dif_neg (no "_struct.pack_into.held" (by decide +kernel))).trans ?_
    refine (dif_neg (no "bytearray.find.held" (by decide +kernel))).trans ?_
    cases pos with
    | nil => rfl
    | cons v r =>
      show (Builtin.Bytes.sameRef v _ && Builtin.Bytes.decodersThatHold.contains id) = false
      rw [h3, Bool.and_false]
  | _ => rfl
end
end Mine
end
section
open PySem PySem.W PyProof.Rows PySem.Calls
open PySem.Sem (wp)
set_option maxRecDepth 100000
set_option linter.unusedVariables false
namespace Mine
section
variable {prog : Program} {w : World} {A : Around} {E : Value → Shared → Prop} {s : Shared}
theorem codeR_builtin {id : String} {args : Args} {b : Builtin} {R : Result → Shared → Prop} (hdec : isDec (.builtin id args) = false) (hb : entryFor table id = some b)
    (h : wpR (model prog w) (A.under (.builtin id args)) (b args) (fun fin s' => match fin with | .done f => R (.ok f) s' | .again c' => c'.quiet = true ∧ codeR (model prog w) A c' R s') (fun e s' => R (.error e) s') s) :
    codeR (model prog w) A (.builtin id args) R s := by
  refine codeR_of_tree hdec ?_
  show wpR _ _ (match entryFor table id with | some b => b args | none => unsupported ((withoutEnding? id "#data").getD id)) _ _ s
  rw [hb]; exact h
theorem wpR_call_entry {T : String} {name : Str} {id : String} {b : Builtin} {self : Value} {rest : List Value} {Q : Value → Shared → Prop} (h : Slot T name id) (hT : s.TypeIs self T) (hb : entryFor table id = some b)
    (hc : wpR (model prog w) A.in1 (b ⟨self :: rest, []⟩) (fun fin s' => ∃ v, fin = .done (.ret v) ∧ Q v s') E s) (ha : argsOk id ⟨self :: rest, []⟩) (hdec : isDec (.builtin id ⟨self :: rest, []⟩) = false) :
    wpR (model prog w) A (call (.builtin id) (self :: rest)) Q E s := by
  refine wpR_call (codeR_of_tree rfl ?_)
  show wpR _ A.in1 (do checkBuiltinCall id ⟨self :: rest, []⟩; again (.builtin id ⟨self :: rest, []⟩)) _ _ s
  refine wpR_step (h.check _ _ _ _ _ _ _ _ hT ha (wpR_pure ⟨plainId_quiet h.plain _, codeR_builtin hdec hb ?_⟩))
  rw [Around.under_plainId h.plain _]
  refine wpR_mono hc (fun fin s' h' => ?_) fun _ _ h' => h'
  obtain ⟨v, rfl, hv⟩ := h'; exact hv
theorem wpR_callSpecial {self : Value} {T : String} {name : Str} {id : String} {args : List Value} {Q : Option Value → Shared → Prop} (hT : s.TypeIs self T) (h : Slot T name id)
    (hc : wpR (model prog w) A (call (.builtin id) (self :: args) []) (fun v => Q (some v)) E s) : wpR (model prog w) A (callSpecial? self name args []) Q E s := by
  simp only [callSpecial?]
  refine wpR_step (wpAny_specialOf hT h.lookup ?_)
  simp only [h.bind]
  exact wpR_holding (wpR_bind (wpR_pure (wpR_bind (wpR_mono hc (fun v s' h' => wpR_pure h') fun _ _ h' => h'))))
theorem ba_write {S : Addr} {bs : Array UInt8} {f : Array UInt8 → Array UInt8} {Q : Unit → Shared → Prop} (hS : s.heap.get? S = some (baO bs)) (hz : (f bs).size ≤ 1000)
    (h : ∀ h', h'.get? S = some (baO (f bs)) → Heap.SameBut S s.heap h' → Q () { s with heap := h' }) : wpAny (model prog w) A (Builtin.Bytes.write (.ref S) f) Q E s := by
  show wpAny _ _ (updateBytearray S f) _ _ _
  unfold updateBytearray
  refine wpAny_bind (wpAny_load hS ?_)
  show wpAny _ _ (update S (Obj.mapBytearray f) >>= fun _ => lookBehind S) _ _ _
  refine wpAny_bind (wpAny_update hS ?_)
  have hS₂ : (s.heap.update S (Obj.mapBytearray f)).get? S = some (baO (f bs)) := Heap.get?_update_self (Obj.mapBytearray f) hS rfl
  refine wpAny_lookBehind hS₂ ?_ (h _ hS₂ (Heap.SameBut.update ..))
  show (if (f bs).size > sizeLine then some "bytearray:memory" else none) = none
  rw [if_neg]
  rw [sizeLine_eq]; omega
theorem ba_init {S : Addr} {n : Int} {t : Tok} {Q : Shared → Prop} (hg : A.guards = some []) (hS : s.heap.get? S = some (baO #[])) (h0 : 0 ≤ n) (h1 : n ≤ 1000)
    (h : ∀ h', h'.get? S = some (baO (Array.replicate n.toNat 0)) → Heap.SameBut S s.heap h' → Q { s with heap := h' }) :
    wpR (model prog w) A (Builtin.«bytearray.__init__» ⟨[.ref S, .int n t], []⟩) (fun fin s' => ∃ v, fin = .done (.ret v) ∧ v = .none ∧ Q s') E s := by
  unfold Builtin.«bytearray.__init__»
  refine wpR_step (ba_release hS rfl ?_)
  rw [if_neg Bool.false_ne_true]
  refine wpR_step (wpAny_of_eq (BA.bind _) ?_)
  refine wpR_step (wpAny_of_eq (a := ()) rfl ?_)
  refine wpR_step (wpAny_of_eq (a := ()) rfl ?_)
  refine wpR_bind ?_
  show wpR _ _ (Builtin.Bytes.exported (Value.ref S) >>= _) _ _ _
  refine wpR_bind (wpR_exported hg ?_)
  refine .of ?_
  show wpAny _ _ (Builtin.Bytes.exportsOf (Value.ref S) >>= _) _ _ _
  unfold Builtin.Bytes.exportsOf
  refine wpAny_bind (wpAny_bind (wpAny_load hS ?_))
  refine wpAny_pure (wpAny_pure ?_)
  refine .of ?_
  rw [if_neg (by decide)]
  refine wpAny_bind (ba_write hS (by simp) fun h' hS' hs' => ?_)
  refine wpAny_bind (wpAny_of_eq (a := none) rfl ?_)
  rw [if_neg (by decide)]
  refine wpAny_bind (wpAny_of_eq (a := ()) (by rfl) ?_)
  refine wpAny_bind (wpAny_specialOf (T := "int") (typeIs_int _ n t) PySem.F.slot_int_index.lookup ?_)
  rw [if_pos (by rfl)]
  refine wpAny_bind (wpAny_of_eq (a := Except.ok n) (by rfl) ?_)
  dsimp only
  have e1 : (!Builtin.Bytes.fitsIndex n) = false := by simp [Builtin.Bytes.fitsIndex]; omega
  have e2 : ¬ (n < 0) := by omega
  have e3 : (n == 2 ^ 63 - 1) = false := by simp; omega
  have e4 : Builtin.Bytes.tooLong n.toNat = false := KBy.tooLong_not (by omega)
  rw [e1, if_neg Bool.false_ne_true, if_neg e2, e3, if_neg Bool.false_ne_true, e4, if_neg Bool.false_ne_true]
  refine wpAny_bind (wpAny_rule ?_)
  by_cases hn : n > 0
  · rw [if_pos hn]
    refine wpAny_bind (ba_write (s := { s with heap := h' }) hS' (by simp; omega) fun h2 hS2 hs2 => ?_)
    exact wpAny_pure ⟨.none, rfl, rfl, h h2 hS2 (hs'.trans hs2)⟩
  · rw [if_neg hn]
    have : n = 0 := by omega
    subst this
    exact wpAny_pure ⟨.none, rfl, rfl, h h' hS' hs'⟩
theorem call_bytearray {n : Int} {t : Tok} {Q : Value → Shared → Prop} (hg : A.guards = some []) (h0 : 0 ≤ n) (h1 : n ≤ 1000)
    (h : ∀ h', (∀ b o, s.heap.get? b = some o → h'.get? b = some o) → h'.get? s.heap.objs.size = some (baO (Array.replicate n.toNat 0)) → Q (.ref s.heap.objs.size) { s with heap := h' }) :
    wpR (model prog w) A (call (.type "bytearray") [.int n t]) Q E s := by
  refine wpR_call (codeR_of_tree rfl ?_)
  show wpR _ A.in1 (again (.builtin "type.__call__" ⟨[.type "bytearray", .int n t], []⟩)) _ _ _
  refine wpR_pure ⟨Code.quiet_builtin _ (by decide +kernel), codeR_builtin rfl F.entry_type_call ?_⟩
  rw [Around.under_plain (weight_type_call_type "bytearray" [.int n t] []) rfl]
  unfold Builtin.«type.__call__»
  have c1 := BA.called.notType
  have c2 := BA.called.canCreate
  dsimp only
  rw [if_neg (by rw [c1]; exact Bool.false_ne_true), if_neg (by rw [c2]; exact Bool.false_ne_true)]
  refine wpR_step (wpAny_of_eq (BA.typeCall _) ?_)
  refine wpR_step (wpAny_of_eq BA.mro ?_)
  rw [if_neg (by decide)]
  refine wpR_step (wpAny_of_eq BA.called.made ?_)
  dsimp only
  refine wpR_step (wpAny_pure ?_)
  refine wpR_step (wpAny_holding (wpAny_call (codeAny_mono (code_ba_new (E := E) (Q₁ := fun v s' => v = .ref s.heap.objs.size ∧ s' = { s with heap := s.heap.push (baO #[]) }) _ ⟨rfl, rfl⟩) fun r s₁ hr => ?_)))
  cases r with
  | error e => exact hr
  | ok fl =>
    cases fl with
    | ret obj =>
      obtain ⟨rfl, rfl⟩ := hr
      have hS : (s.heap.push (baO #[])).get? s.heap.objs.size = some (baO #[]) := Heap.get?_push_size _ rfl
      have hT : ({ s with heap := s.heap.push (baO #[]) } : Shared).TypeIs (.ref s.heap.objs.size) "bytearray" := ⟨_, hS, rfl⟩
      refine wpR_step (wpAny_isInstance hT BA.sub ?_)
      rw [if_neg (by decide)]
      refine wpR_bind (wpR_holding (wpR_callSpecial hT BA.slot_init (wpR_call_entry BA.slot_init hT BA.entry_init (wpR_mono (ba_init (A := A.in1.in1) (Q := fun s' => Q (.ref s.heap.objs.size) s') hg hS h0 h1 fun h' hS' hs' => ?_) (fun fin s' ⟨v, e, ev, hq⟩ => ⟨v, e, ?_⟩) fun _ _ q => q) (BA.args_init _ _) rfl)))
      · exact h h' (fun b o e => hs'.extBut b o (Nat.ne_of_lt (Heap.lt_size e)) (Heap.get?_push_of_some _ e)) hS'
      · subst ev
        exact wpR_pure hq
    | _ => exact hr.elim
end
end Mine
end
section
open PySem PySem.W PyProof.Rows PySem.Calls
open PySem.Sem (wp)
set_option maxRecDepth 100000
set_option linter.unusedVariables false
namespace Mine
section
variable {M : Model} {A : Around} {E : Value → Shared → Prop} {s : Shared} {env : Env}
theorem wpR_execs_cons {st : Stmt} {rest : List Stmt} {Q : Flow → Shared → Prop} (h : wpR M A (exec st env) (fun f s' => match f with | .next => wpR M A (execs rest env) Q E s' | f => Q f s') E s) : wpR M A (execs (st :: rest) env) Q E s := by
  rw [execs_cons]
  refine wpR_bind (wpR_mono h (fun f s' h' => ?_) fun _ _ q => q)
  cases f <;> first | exact h' | exact wpR_pure h'
theorem wpR_Assign_Name {x : Str} {pos' pos : Pos} {value : PySem.Expr} {Q : Flow → Shared → Prop} (h : wpR M A (eval value env) (fun v s₁ => wpAny M A (storeName env x v) (fun _ => Q .next) E s₁) E s)
    (hs : swapsWith value (some (.Name x pos')) pos.line env = pure false := by rfl) : wpR M A (exec (.Assign [.Name x pos'] value pos) env) Q E s := by
  rw [exec_Assign_Name env x pos' value pos hs]
  refine wpR_step (wpAny_standAt (wpR_bind (wpR_mono h (fun v s₁ h₁ => ?_) fun _ _ q => q)))
  exact .of (wpAny_bind (wpAny_standAt (wpAny_bind (wpAny_bindName (wpAny_mono h₁ (fun _ _ q => wpAny_pure q) fun _ _ q => q)))))
theorem wpR_Call {func : PySem.Expr} {args : List PySem.Expr} {pos : Pos} {Q : Value → Shared → Prop} (h : wpAny M A (eval func env) (fun f s₁ => wpR M A (callWith pos f [] (backTo pos (starEach args env)) []) Q E s₁) E s)
    (he : eval (.Call func args [] pos) env = (do callWith pos (← eval func env) [] (backTo pos (starEach args env)) (backToKw pos (keywordEach [] env))) := by rfl) : wpR M A (eval (.Call func args [] pos) env) Q E s := by
  rw [he]; exact wpR_step h
theorem wpR_keep {α : Type} {t : Sem α} {vs : List Value} {Q : α → Shared → Prop} (h : wpR M A t Q E s) : wpR M A (t.keep vs) Q E s := fun Γ p hi hd hc => by
  rw [Sem.wp_keep]; exact h Γ p hi hd hc
/-- the arguments ask nothing, the call does -/
theorem wpR_callDef {pos : Pos} {f : Addr} {o : Obj} {fd : FuncData} {e : PySem.Expr} {rest : List PySem.Expr} {Q : Value → Shared → Prop} (hdat : o.data = .func fd)
    (h : wpAny M A (spliced (backTo pos (starEach (e :: rest) env))) (fun vs s₁ => s₁.heap.get? f = some o ∧ wpR M A (call (.ref f) vs) Q E s₁) E s)
    (he : starEach (e :: rest) env = (false, eval e env) :: starEach rest env := by rfl) (hp : (backTo pos (starEach rest env)).any (·.1) = false := by rfl) :
    wpR M A (callWith pos (.ref f) [] (backTo pos (starEach (e :: rest) env)) []) Q E s := by
  rw [he] at h ⊢
  unfold callWith
  refine wpR_step (wpAny_holding (wpAny_mono (evalArgs_plain (Q := fun a s₁ => a.kw = [] ∧ s₁.heap.get? f = some o ∧ wpR M A (call (.ref f) a.pos) Q E s₁) (wpAny_mono h (fun vs s₁ h₁ => ⟨rfl, h₁⟩) fun _ _ q => q)) (fun a s₁ h₁ => wpR_step (wpAny_standAt ?_)) fun _ _ q => q))
  obtain ⟨hkw, ho, hc⟩ := h₁
  have tail : ∀ {t : Sem Value}, wpR M A t Q E s₁ → wpR M A (t >>= fun r => holding [r] point >>= fun _ => pure r) Q E s₁ :=
    fun ht => wpR_bind (wpR_mono ht (fun r s₂ hr => .of (wpAny_bind (wpAny_holding (wpAny_point (wpAny_pure hr))))) fun _ _ q => q)
  have hany : ((backTo pos ((false, eval e env) :: starEach rest env)).any (·.1)) = false := by
    show (false || (backTo pos (starEach rest env)).any (·.1)) = false
    rw [hp]; rfl
  simp only [List.any_nil, Bool.or_false, hkw, List.nil_append, hany]
  refine wpR_bind (m := keeperOf (.ref f)) ?_
  unfold keeperOf
  refine wpR_step (wpAny_load ho ?_)
  rw [hdat]
  refine wpR_pure ?_
  dsimp only
  split
  · exact tail hc
  · exact tail (by unfold callMarked; exact wpR_keep hc)
/-- a type called upon one argument, which may ask -/
theorem wpR_callType1 {pos : Pos} {T : String} {e : PySem.Expr} {Q : Value → Shared → Prop} (h : wpR M A (eval e env) (fun v s₁ => wpR M A (call (.type T) [v]) Q E s₁) E s)
    (he : starEach [e] env = [(false, eval e env)] := by rfl) : wpR M A (callWith pos (.type T) [] (backTo pos (starEach [e] env)) []) Q E s := by
  rw [he]
  unfold callWith
  refine wpR_bind (wpR_holding (wpR_mono (Q := fun a s₁ => a.kw = [] ∧ wpR M A (call (.type T) a.pos) Q E s₁) ?_ (fun a s₁ h₁ => wpR_step (wpAny_standAt ?_)) fun _ _ q => q))
  · unfold evalArgs
    show wpR M A (spliced [(false, eval e env)] >>= _) _ E s
    refine wpR_bind ?_
    rw [spliced]
    refine wpR_bind (wpR_mono h (fun v s₁ h₁ => ?_) fun _ _ q => q)
    simp only [Bool.false_eq_true, if_false]
    refine .of (wpAny_bind (wpAny_pure (wpAny_bind (wpAny_holding (wpAny_pure (wpAny_pure ?_))))))
    exact .of (wpAny_holding (wpAny_bind (wpAny_pure (wpAny_bind (wpAny_pure (wpAny_pure ⟨rfl, h₁⟩))))))
  · obtain ⟨hkw, hc⟩ := h₁
    have hany : ((backTo pos [(false, eval e env)]).any (·.1)) = false := rfl
    simp only [List.any_nil, Bool.or_false, hkw, List.nil_append, hany]
    refine wpR_step (wpAny_pure ?_)
    exact wpR_bind (wpR_mono hc (fun r s₂ hr => .of (wpAny_bind (wpAny_holding (wpAny_point (wpAny_pure hr))))) fun _ _ q => q)
end
section
variable {prog : Program} {w : World} {A : Around} {s : Shared} {G : Glb}
theorem codeR_func {body : List Stmt} {env : Env} {R : Result → Shared → Prop} (h : wpR (model prog w) (A.deeper env) (execs body env) (fun f s' => R (.ok (.ret (match f with | .ret v => v | _ => .none))) s') NoE s) : codeR (model prog w) A (.func body env) R s := by
  refine codeR_of_tree rfl ?_
  show wpR _ (A.deeper env) (do point; match ← (execs body env).onRaise (leaving env) with | .ret v => ret v | _ => ret .none) _ _ s
  refine wpR_step (wpAny_point (wpR_bind (wpR_onRaise (wpR_mono h (fun f s' h' => ?_) fun _ _ h' => h'.elim))))
  cases f <;> exact wpR_pure h'
/-- a def of the top, called, its body in its frame: the restricted form of callTop -/
theorem callTopR {a c : Addr} {o oc : Obj} {fd : FuncData} {fs : Array Value} {t : Tok} (body : List Stmt) (names : List Str) {xs : List T} {X : List Addr} {vs : List Value} {Q : Value → Shared → Prop} (ho : G.K.lookup a = some o) (hd : o.data = .func fd)
    (hcode : fd.code = .ref c) (hoc : G.K.lookup c = some oc) (hdc : oc.data = .fields fs) (hq : fs[1]? = some (.str fd.qualname t))
    (hst : fd.body = .stmts body) (hroom : A.depth < recursionLimit) (hclo : fd.closure = []) (hbind : ∀ vs, vs.length = names.length → bindArgs fd ⟨vs, []⟩ = pure (names.zip vs)) (hl : names.length = xs.length)
    (hkind : (names.all fun n => fd.scope.names.lookup n == some .local || fd.scope.names.lookup n == some .cell) = true) (hg : fd.globals = mainGlobals) (hb : fd.builtins = builtinsNs)
    (hco : fd.scope.isCoroutine = false) (hgen : fd.scope.isGenerator = false) (hk : fd.scope.kind = .function)
    (b : Bd X s.heap) (tp : TopX G X s.heap) (hv : RepL (hid s.heap X) xs vs)
    (h : ∀ L s' X', FrR G (callEnvC fd L a) (ownOf (callEnvC fd L a)) (updL none0 names xs) X' s' → Kp s s' → (∀ a' ∈ ownOf (callEnvC fd L a), s.heap.get? a' = none) → (∀ a ∈ X, a ∈ X') → (∀ a ∈ X', a ∈ X ∨ s.heap.get? a = none) →
      wpR (model prog w) (A.deeper (callEnvC fd L a)) (execs body (callEnvC fd L a)) (fun f s'' => Q (match f with | .ret v => v | _ => .none) s'') NoE s') : wpR (model prog w) A (call (.ref a) vs) Q NoE s := by
  have ok := tp.ok
  refine wpR_call (codeR_of_tree rfl ?_)
  show wpR _ A.in1 (callAny (.ref a) ⟨vs, []⟩) _ _ s
  simp only [callAny]
  refine wpR_step (wpAny_load (ok.k a o ho) ?_)
  simp only [hd, callFunction, hco, hgen, hst, hcode]
  refine wpR_step (m := field (.ref c) 1) (wpAny_field (ok.k c oc hoc) hdc hq (wpR_step (wpAny_pure ?_)))
  refine wpR_step ?_
  rw [hbind vs (hv.length.trans hl.symm), hclo]
  refine wpAny_pure (wpR_step ?_)
  rw [← hcode]
  exact newEnv_call (names := names) (xs := xs) b tp hk hg hb hv hl (kindAll hkind) fun L s' f k hO => wpR_step (wpAny_enterFrame (ok.nolim.keeps k.keep) hroom (wpR_pure ⟨rfl, codeR_func
    (wpR_mono (h L s' _ f k hO (fun a ha => List.mem_append_right _ ha) fun a ha => (List.mem_append.mp ha).symm.imp id (hO a)) (fun fl s'' q => q) fun _ _ q => q.elim)⟩))
end
end Mine
end
section
open PySem PySem.W PyProof.Rows PySem.Calls
set_option maxRecDepth 100000
set_option linter.unusedVariables false
namespace Mine
noncomputable abbrev baO' (bs : Array UInt8) : Obj := { cls := .type "bytearray", data := .bytearray bs }
section
variable {prog : Program} {w : World} {A : Around} {E : Value → Shared → Prop} {s : Shared}
theorem ba_write' {S : Addr} {bs : Array UInt8} {f : Array UInt8 → Array UInt8} {Q : Unit → Shared → Prop} (hS : s.heap.get? S = some (baO' bs)) (hz : (f bs).size ≤ 1000)
    (h : ∀ h', h'.get? S = some (baO' (f bs)) → Heap.SameBut S s.heap h' → Q () { s with heap := h' }) : wpAny (model prog w) A (Builtin.Bytes.write (.ref S) f) Q E s := by
  show wpAny _ _ (updateBytearray S f) _ _ _
  unfold updateBytearray
  refine wpAny_bind (wpAny_load hS ?_)
  show wpAny _ _ (update S (Obj.mapBytearray f) >>= fun _ => lookBehind S) _ _ _
  refine wpAny_bind (wpAny_update hS ?_)
  have hS₂ : (s.heap.update S (Obj.mapBytearray f)).get? S = some (baO' (f bs)) := Heap.get?_update_self (Obj.mapBytearray f) hS rfl
  refine wpAny_lookBehind hS₂ ?_ (h _ hS₂ (Heap.SameBut.update ..))
  show (if (f bs).size > sizeLine then some "bytearray:memory" else none) = none
  rw [if_neg]
  rw [sizeLine_eq]; omega
theorem setItemBA {S : Addr} {bs : Array UInt8} {k : Int} {c : Int} {t u : Tok} {Q : Unit → Shared → Prop} (hS : s.heap.get? S = some (baO' bs)) (hz : bs.size ≤ 1000) (hk0 : 0 ≤ k) (hk : k < bs.size) (h0 : 0 ≤ c) (h1 : c < 256)
    (h : ∀ h', h'.get? S = some (baO' (bs.setIfInBounds k.toNat c.toNat.toUInt8)) → Heap.SameBut S s.heap h' → Q () { s with heap := h' }) : wpAny (model prog w) A (setItem (.ref S) (.int k t) (.int c u)) Q E s := by
  have hT : s.TypeIs (.ref S) "bytearray" := ⟨_, hS, rfl⟩
  unfold setItem
  try with_reducible refine wpAny_holding ?_
  first | refine wpAny_bind (wpAny_pure ?_) | skip
  refine wpAny_bind (wpAny_sequenceKey hT (by decide) ?_)
  refine wpAny_bind (wpAny_callSpecial?_slot (name := Str.ofString "__setitem__") hT BA.slot_setitem (wpAny_call_entry BA.slot_setitem hT BA.entry_setitem ?_ (BA.args_setitem _ _ _)))
  unfold Builtin.«bytearray.__setitem__»
  dsimp only
  rw [if_neg (by decide)]
  refine wpAny_bind ?_
  unfold Builtin.Bytes.subscript?
  have e1 : Builtin.Bytes.fitsIndex k = true := by
    simp only [Builtin.Bytes.fitsIndex, Bool.and_eq_true, decide_eq_true_eq]; omega
  refine wpAny_bind (wpAny_specialOf (T := "int") (typeIs_int s k t) PySem.F.slot_int_index.lookup ?_)
  rw [if_neg (by decide)]
  refine wpAny_bind (wpAny_of_eq (rfl : asIndex (.int k t) = pure k) ?_)
  rw [if_neg (by rw [e1]; decide)]
  refine wpAny_pure ?_
  dsimp only
  refine wpAny_bind (wpAny_of_eq (a := c.toNat.toUInt8) ?_ ?_)
  · unfold Builtin.Bytes.byteValue
    have e3 : asIndex (.int c u) = pure c := rfl
    have e4 : (decide (c < 0) || decide (c ≥ 256)) = false := by simp; omega
    simp only [e3, pure_bind, e4, Bool.false_eq_true, if_false]
  refine wpAny_bind ?_
  unfold Builtin.Bytes.payload Builtin.Bytes.payload?
  refine wpAny_bind (wpAny_bind (wpAny_load hS (wpAny_pure (wpAny_pure ?_))))
  have e5 : seqIndex? k bs.size = some k.toNat := by
    have hn : ¬ k < 0 := by omega
    simp [seqIndex?, hn, hk0, hk]
  rw [e5]
  dsimp only
  refine wpAny_bind (ba_write' hS (by simp; omega) fun h' hS' hs' => ?_)
  exact wpAny_pure ⟨.none, rfl, wpAny_pure (h h' hS' hs')⟩
theorem ba_slotOwn2 {S : Addr} {o : Obj} {Q : Bool → Shared → Prop} (hS : s.heap.get? S = some o) (hc : o.cls = .type "bytearray") (h : Q true s) : wpAny (model prog w) A (Builtin.Bytes.slotIsOwn (.ref S) "__buffer__") Q E s :=
  ba_slotOwn hS hc BA.look_buffer (by decide +kernel) (by decide +kernel) h
theorem code_bytes_new {S : Addr} {bs : Array UInt8} {Q : Value → Shared → Prop} (hS : s.heap.get? S = some (baO' bs)) (hz : bs.size ≤ sizeLine)
    (hQ : ∀ t k, Q (.bytes bs t) { s with toks := k }) :
    codeAny (model prog w) A (.call (.builtin "bytes.__new__") ⟨[.type "bytes", .ref S], []⟩) (wants Q E) s := by
  refine codeAny_of_tree ?_
  show wpAny _ A.in1 (do checkBuiltinCall "bytes.__new__" ⟨[.type "bytes", .ref S], []⟩; again (.builtin "bytes.__new__" ⟨[.type "bytes", .ref S], []⟩)) _ _ s
  refine wpAny_bind (wpAny_of_eq (PySem.F.bm_newCall _) (wpAny_pure ⟨plainId_quiet PySem.F.bm_plain _, codeAny_builtin PySem.F.bm_entry ?_⟩))
  rw [Around.under_plainId PySem.F.bm_plain _]
  have hT : s.TypeIs (.ref S) "bytearray" := ⟨_, hS, rfl⟩
  unfold Builtin.«bytes.__new__»
  refine wpAny_bind (wpAny_of_eq (a := true) rfl ?_)
  refine bm_if_false rfl ?_
  refine wpAny_bind (wpAny_of_eq PySem.F.bm_sub ?_)
  refine bm_if_false rfl ?_
  refine wpAny_bind (wpAny_of_eq (PySem.F.bm_bind _) ?_)
  refine wpAny_bind (wpAny_of_eq (a := ()) rfl ?_)
  refine wpAny_bind (wpAny_of_eq (a := ()) rfl ?_)
  refine bm_if_false rfl ?_
  refine wpAny_bind (wpAny_specialOf hT BA.look_bytes ?_)
  refine wpAny_bind (wpAny_bind ?_)
  show wpAny _ _ (load S >>= _) _ _ _
  refine wpAny_bind (wpAny_load hS ?_)
  refine wpAny_pure (wpAny_pure ?_)
  refine bm_if_false rfl ?_
  refine wpAny_bind (wpAny_specialOf hT BA.look_index ?_)
  refine bm_if_true rfl ?_
  first
    | show wpAny _ _ (Builtin.Bytes.buffer? "bytes.__new__" (.ref S) true >>= _) _ _ _
    | (refine wpAny_bind ?_; show wpAny _ _ (Builtin.Bytes.buffer? "bytes.__new__" (.ref S) true >>= _) _ _ _)
  refine wpAny_bind ?_
  unfold Builtin.Bytes.buffer?
  refine wpAny_bind (wpAny_specialOf hT BA.look_buffer ?_)
  dsimp only
  refine wpAny_bind (ba_slotOwn2 hS rfl ?_)
  refine bm_if_false rfl ?_
  refine wpAny_bind (wpAny_specialOf hT BA.look_buffer ?_)
  refine wpAny_bind (ba_release hS rfl ?_)
  refine bm_if_false rfl ?_
  refine wpAny_bind ?_
  unfold Builtin.Bytes.payload Builtin.Bytes.payload?
  refine wpAny_bind (wpAny_bind (wpAny_load hS (wpAny_pure (wpAny_pure (wpAny_pure ?_)))))
  refine wpAny_bind (wpAny_rule ?_)
  refine wpAny_bind (wpAny_mkBytes ?_ hz)
  show wpAny _ _ (if (Value.type "bytes" == Value.type "bytes") = true then _ else _) _ _ _
  refine bm_if_true (by decide) ?_
  first
    | exact wpAny_pure (hQ _ _)
    | exact wpAny_bind (wpAny_pure (wpAny_pure (hQ _ _)))
theorem call_bytes_ba {S : Addr} {bs : Array UInt8} {Q : Value → Shared → Prop} (hS : s.heap.get? S = some (baO' bs)) (hz : bs.size ≤ sizeLine)
    (hQ : ∀ t k, Q (.bytes bs t) { s with toks := k }) : wpAny (model prog w) A (call (.type "bytes") [.ref S]) Q E s := by
  refine callType_codes (Q₁ := fun obj s₁ => s₁.TypeIs obj "bytes" ∧ Q obj s₁) PySem.F.bm_called (PySem.F.bm_typeCall _) PySem.F.entry_object_init
    (code_bytes_new hS hz fun t k => ⟨PySem.W.typeIs_bytes _ _ _, hQ t k⟩) fun obj s₁ h₁ => ?_
  exact ⟨h₁.1, PySem.F.args_object_init_2 obj _, object_init_meets PySem.F.bm_called.init.lookup PySem.F.bm_called.made (by decide) prog w A.in1 _ s₁ ⟨h₁.1, rfl, h₁.2⟩⟩
end
end Mine
end
section
open PySem PySem.W PyProof.Rows PySem.Calls
set_option maxRecDepth 100000
set_option maxHeartbeats 400000
set_option linter.unusedVariables false
namespace Mine
noncomputable def BA (D : Addr) (l : List UInt8) (h : Heap) : Prop := h.get? D = some (baO' l.toArray)
theorem Stab.ba {S : List Addr} {D : Addr} {l : List UInt8} (h : D ∈ S) : Stab S fun _ h => BA D l h where
  st := fun X h₁ h' x k => k D _ (.inr h) x
  more := fun X I h₁ x _ => x
  less := fun X Y h₁ _ x => x
noncomputable def swp (bs : List UInt8) : Nat → List UInt8
  | 0 => List.replicate bs.length 0
  | j + 1 => (swp bs j).set (bs.length - 1 - j) (bs.getD j 0)
theorem swp_len (bs : List UInt8) : ∀ j, (swp bs j).length = bs.length
  | 0 => by simp [swp]
  | j + 1 => by simp [swp, swp_len bs j]
theorem swp_get (bs : List UInt8) : ∀ j, j ≤ bs.length → ∀ i, i < bs.length → (swp bs j).getD i 0 = if bs.length - 1 - i < j then bs.getD (bs.length - 1 - i) 0 else 0
  | 0, _, i, hi => by simp [swp, List.getD, List.getElem?_replicate, hi]
  | j + 1, hj, i, hi => by
    have ih := swp_get bs j (by omega) i hi
    unfold swp
    by_cases e : bs.length - 1 - j = i
    · have e2 : bs.length - 1 - i = j := by omega
      rw [e, e2, if_pos (Nat.lt_succ_self _)]
      simp [List.getD, List.getElem?_set_self, swp_len, hi]
    · have e3 : ((swp bs j).set (bs.length - 1 - j) (bs.getD j 0)).getD i 0 = (swp bs j).getD i 0 := by
        simp [List.getD, List.getElem?_set_ne e]
      rw [e3, ih]
      by_cases h1 : bs.length - 1 - i < j
      · rw [if_pos h1, if_pos (by omega)]
      · rw [if_neg h1, if_neg (by omega)]
theorem swp_end (bs : List UInt8) : swp bs bs.length = bs.reverse := by
  refine List.ext_getElem (by rw [swp_len, List.length_reverse]) fun i h1 h2 => ?_
  have hi : i < bs.length := by rwa [swp_len] at h1
  have := swp_get bs bs.length (Nat.le_refl _) i hi
  rw [if_pos (by omega)] at this
  rw [List.getElem_reverse]
  have e1 : (swp bs bs.length).getD i 0 = (swp bs bs.length)[i] := by simp [List.getD, h1]
  have e2 : bs.getD (bs.length - 1 - i) 0 = bs[bs.length - 1 - i]'(by omega) := by
    have : bs.length - 1 - i < bs.length := by omega
    simp [List.getD, this]
  rw [← e1, this, e2]
section
variable {prog : Program} {w : World} {G : Glb} {A : Around} {env : Env} {ρ ρ' : Bnd}
theorem CallT.lenB {bs : List UInt8} (hz : bs.length ≤ 1000) : CallT prog w G A (.builtin "len") [.byt bs] (.int bs.length) := by
  intro X s vs b _ h
  obtain ⟨v, r, rfl, h1, h2⟩ := repL_cons.mp h
  rw [repL_nil.mp h2]
  obtain ⟨t, rfl⟩ := rep_byt.mp h1
  refine len_bytes (by rw [List.size_toArray]; omega) ⟨rep_int.mpr ⟨s.toks + 1, ?_⟩, keeps_tok s _⟩
  rw [List.size_toArray]
theorem Ev.bget {l i : PySem.Expr} {bs : List UInt8} {k : Int} {pos : Pos} (hl : Ev prog w G A env ρ l (.byt bs)) (hi : Ev prog w G A env ρ i (.int k)) (h0 : 0 ≤ k) (h1 : k < bs.length) (hz : bs.length ≤ 1000)
    (hs : ∀ b t u, subscripted i false (.bytes b t) (.int k u) = operate [.bytes b t, .int k u] (getItem (.bytes b t) (.int k u)) := by intro _ _ _; with_unfolding_all rfl) : Ev prog w G A env ρ (.Subscript l i pos) (.int ((bs.getD k.toNat 0).toNat : Nat)) := fun X s b r =>
  Subscript_ (hl.use b r fun v s₁ g1 k1 b1 r1 => hi.use b1 r1 fun u s₂ g2 k2 b2 r2 => by
    obtain ⟨t, rfl⟩ := rep_byt.mp g1
    obtain ⟨t', rfl⟩ := rep_int.mp g2
    exact tail_any (typeIs_bytes _ _ _) FB.slot_bytes_getitem.lookup (getItem_bytes (by omega) h0 h1 ⟨rep_int.mpr ⟨_, rfl⟩, (k1.trans k2).trans (keeps_tok s₂ _)⟩) (hs _ _ _))
end
end Mine
end
section
open PySem PySem.W PyProof.Rows PySem.Calls
set_option maxRecDepth 100000
set_option maxHeartbeats 400000
set_option linter.unusedVariables false
namespace Mine
section
variable {prog : Program} {w : World} {G : Glb} {A : Around} {env : Env} {ρ ρ' : Bnd}
theorem ItT.range1 {f e1 e2 e3 : PySem.Expr} {n : Nat} {pos : Pos} (hf : EvV prog w G A env ρ f (.type "range")) (he : EvL prog w G A env ρ [e1, e2, e3] [.int 0, .int n, .int n]) (h0 : 0 < n) (hz : n ≤ 1000) (hh : A.handled = none)
    (hs : starEach [e1, e2, e3] env = (false, eval e1 env) :: starEach [e2, e3] env := by rfl)
    (hp : (backTo pos (starEach [e2, e3] env)).any (·.1) = false := by rfl)
    (hcl : eval (.Call f [e1, e2, e3] [] pos) env = (do callWith pos (← eval f env) [] (backTo pos (starEach [e1, e2, e3] env)) (backToKw pos (keywordEach [] env))) := by rfl) :
    ItT prog w G A env ρ (.Call f [e1, e2, e3] [] pos) [.int 0] := fun X s b r =>
  Call_ (hf.use b r fun s₁ k1 b1 r1 => Pv.callWith_type1 (he.use b1 r1 fun vs s₂ h2 k2 b2 r2 => by
    obtain ⟨v1, r', rfl, a1, h3⟩ := repL_cons.mp h2
    obtain ⟨v2, r', rfl, a2, h4⟩ := repL_cons.mp h3
    obtain ⟨v3, r', rfl, a3, h5⟩ := repL_cons.mp h4
    rw [repL_nil.mp h5]
    obtain ⟨t1, rfl⟩ := rep_int.mp a1
    obtain ⟨t2, rfl⟩ := rep_int.mp a2
    obtain ⟨t3, rfl⟩ := rep_int.mp a3
    refine call_range_3 (by omega) ?_ (.inl (PyProof.noPylong_small (by omega)))
    have hrs : Builtin.Range.rangeSize 0 (n : Int) n = 1 := by
      unfold Builtin.Range.rangeSize
      rw [if_pos (by omega), if_pos (by omega)]
      have : ((n : Int) - 0 - 1) / n = 0 := Int.ediv_eq_zero_of_lt (by omega) (by omega)
      rw [this]; rfl
    have hsm : Builtin.Range.small 0 (n : Int) n = true := by
      unfold Builtin.Range.small
      rw [hrs]
      simp only [Builtin.Range.rangeFitsLong, Bool.and_eq_true, Bool.or_eq_true, decide_eq_true_eq, beq_iff_eq]
      refine ⟨by omega, .inr ?_⟩
      rw [if_pos (by omega)]
      simp only [Bool.and_eq_true, decide_eq_true_eq]
      omega
    refine wpAny_pyIter_range (IsRange.new _ 0 n n _ _ _) hsm ?_
    rw [hrs]
    dsimp only
    generalize hg : s₂.heap.push { cls := .type "range", data := .fields #[.int 0 t1, .int n t2, .int n t3] } = g
    have kg : ∀ b o, s₂.heap.get? b = some o → g.get? b = some o := fun b o e => hg ▸ Heap.get?_push_of_some _ e
    have W := Walks.range (prog := prog) (w := w) (A := A) hh g.objs.size 0 n 1
    have b3 : Bd X g := b2.keeps kg
    have kk : Kp s { s₂ with heap := g.push { cls := .type "range_iterator", data := .fields #[rawInt 0, rawInt 1, rawInt n] } } :=
      (k1.trans k2).trans ⟨⟨_, _, rfl⟩, fun b o e => Heap.get?_push_of_some _ (kg b o e)⟩
    have hn : g.get? g.objs.size = none := Heap.get?_none_of_le (Nat.le_refl _)
    have hn' : s.heap.get? g.objs.size = none := by
      cases q : s.heap.get? g.objs.size with
      | none => rfl
      | some o => rw [kg _ _ ((k1.trans k2).keep _ _ q)] at hn; cases hn
    refine ⟨_, _, _, _, rfl, W, ?_, b3.new, hn', (fun i h st => ⟨_, st⟩), (fun b hb => .inl (List.mem_singleton.mp hb)), ?_, kk⟩
    · simp
      exact Heap.get?_push_size _ rfl
    · rintro i v hi ⟨t, rfl⟩
      have hi' : i = 0 := by simp only [List.length_singleton] at hi; omega
      subst hi'
      exact ⟨.int 0, rfl, rep_int.mpr ⟨t, by simp⟩⟩) hs hp) hcl

/-- swapped[..] = data[..] -/
theorem setBA {x : Str} {i v : PySem.Expr} {xp sp pos : Pos} {D : Addr} {l : List UInt8} {k : Int} {c : UInt8} {O X : List Addr} {s : Shared} {Q : Flow → Shared → Prop} (f : FrR G env O ρ X s) (hD : D ∈ X) (off : Off env D) (hI : BA D l s.heap)
    (hv : Ev prog w G A env ρ v (.int (c.toNat : Nat))) (hx : Ev prog w G A env ρ (.Name x xp) (.ptr D)) (hi : Ev prog w G A env ρ i (.int k)) (h0 : 0 ≤ k) (h1 : k < l.length) (hz : l.length ≤ 1000)
    (hQ : ∀ s', FrR G env O ρ X s' → KpX [D] s s' → BA D (l.set k.toNat c) s'.heap → Q .next s')
    (hs : swapsWith v (some (.Subscript (.Name x xp) i sp)) pos.line env = pure false := by rfl) :
    wpAny (model prog w) A (exec (.Assign [.Subscript (.Name x xp) i sp] v pos) env) Q NoE s :=
  wpAny_Assign_Subscript (hv.use f.bd f.r fun u s₁ g1 k1 b1 r1 => hx.use b1 r1 fun p s₂ g2 k2 b2 r2 => hi.use b2 r2 fun j s₃ g3 k3 b3 r3 => by
    obtain ⟨t, rfl⟩ := rep_int.mp g1
    rw [rep_ptr.mp g2]
    obtain ⟨t', rfl⟩ := rep_int.mp g3
    have kk := (k1.trans k2).trans k3
    have hc := c.toNat_lt
    refine setItemBA (kk.keep _ _ hI) (by rw [List.size_toArray]; exact hz) h0 (by rw [List.size_toArray]; exact h1) (by omega) (by omega) fun h' hn' hs' => ?_
    have kb : ∀ b o, b ∉ ([D] : List Addr) → s₃.heap.get? b = some o → h'.get? b = some o := fun b o n e => hs'.extBut b o (by simpa using n) e
    refine hQ _ ((f.kp kk).other hD off kb ⟨_, hn'⟩) (kk.x.trans ⟨⟨_, _, rfl⟩, kb⟩) ?_
    show h'.get? D = _
    rw [hn']
    simp) hs
end
section
variable {w : World} {G : Glb} {A : Around}
theorem keeps_toks (s : Shared) (t : Nat) : Kp s { s with toks := t } := ⟨⟨s.heap, t, rfl⟩, fun _ _ e => e⟩
theorem kpBack {Z : List Addr} {s s' s'' : Shared} (k : Kp s s') (k' : KpX Z s' s'') (h : ∀ a ∈ Z, s.heap.get? a = none) : Kp s s'' := by
  obtain ⟨⟨h1, t1, rfl⟩, kb⟩ := k
  obtain ⟨⟨h2, t2, rfl⟩, kc⟩ := k'
  exact ⟨⟨_, _, rfl⟩, fun b o e => kc b o (fun q => by rw [h b q] at e; cases e) (kb b o e)⟩
noncomputable def CallR (w : World) (G : Glb) (A : Around) (f : Value) (xs : List T) (y : T) : Prop :=
  ∀ X s vs, Bd X s.heap → TopX G X s.heap → RepL (hid s.heap X) xs vs → wpR (model PG w) A (call f vs) (fun v s' => Rep (hid s'.heap X) y v ∧ Kp s s') NoE s
theorem c_swap (g : GF w G) (r : Rm 2 A) (bs : List UInt8) (n : Nat) (hn : bs.length = n) (h0 : 0 < n) (hz : n ≤ 100) : CallR w G A (.ref 21) [.byt bs, .int n] (.byt bs.reverse) := by
  intro X s vs bd tp hv
  refine callTopR (G := G) (c := 20) _ [Str.ofString "data", Str.ofString "width"] (by rw [g.k]; rfl) rfl rfl (by rw [g.k]; rfl) rfl rfl rfl r.room rfl (two fun a b => rfl) rfl rfl rfl rfl rfl rfl rfl bd tp hv fun L s₁ X' f k hO hX hX' => ?_
  refine wpR_execs_cons (wpR_Assign_Name (wpR_Call ((EvV.built (ρ := _) g.bytearray.1 g.bytearray.2 rfl).use f.bd f.r fun s₂ k₂ b₂ r₂ => wpR_callType1 (.of (Ev.use (Ev.callB (EvV.built g.len.1 g.len.2 rfl) (EvL.cons (Ev.name rfl) EvL.nil) ((CallT.lenB (bs := bs) (by omega)).eq (u := .int n) (by rw [hn]))) b₂ r₂ fun v s₃ h₃ k₃ b₃ r₃ => ?_)))))
  obtain ⟨t, rfl⟩ := rep_int.mp h₃
  refine call_bytearray r.gd (by omega) (by omega) fun h' up hD' => ?_
  have hDn : s₁.heap.get? s₃.heap.objs.size = none := by
    cases q : s₁.heap.get? s₃.heap.objs.size with
    | none => rfl
    | some o => exact absurd (Heap.lt_size (k₃.keep _ _ (k₂.keep _ _ q))) (Nat.lt_irrefl _)
  generalize s₃.heap.objs.size = D at hD' hDn
  have hDX : D ∉ X' := fun m => by obtain ⟨o, e⟩ := f.bd D m; rw [hDn] at e; cases e
  have off := f.r.fresh hDn
  have k₄ : Kp s₁ { s₃ with heap := h' } := (k₂.trans k₃).trans ⟨⟨_, _, rfl⟩, up⟩
  have f₄ := f.hide k₄ hDn ⟨_, hD'⟩
  refine f₄.store (t := .ptr D) (rep_ptr.mpr rfl) (KindOk.own (.inl rfl)) fun s₅ f₅ k₅ => .of ?_
  have I₅ : BA D (swp bs 0) s₅.heap := by
    have e := k₅.keep D _ (fun m => hDX (f.own D m)) hD'
    show s₅.heap.get? D = _
    rw [e]
    simp [swp, hn]
  have hDo : ∀ a ∈ ([D] : List Addr), a ∈ D :: X' := fun a ha => by rw [List.mem_singleton.mp ha]; exact List.mem_cons_self
  have hoD : ∀ {O : List Addr}, D ∉ O → ∀ a ∈ O, a ∉ ([D] : List Addr) := fun h a ha m => h (List.mem_singleton.mp m ▸ ha)
  refine wpAny_execs_cons (forZ (xs := [.int 0]) (fun _ => upd (updL none0 [Str.ofString "data", Str.ofString "width"] [.byt bs, .int n]) (Str.ofString "swapped_data") (.ptr D)) [D] [D] (fun i X h => BA D (swp bs (if i = 0 then 0 else n)) h)
    f₅ (ItT.range1 (EvV.built g.range.1 g.range.2 rfl) (EvL.cons Ev.int (EvL.cons (Ev.callB (EvV.built g.len.1 g.len.2 rfl) (EvL.cons (Ev.name rfl) EvL.nil) ((CallT.lenB (bs := bs) (by omega)).eq (u := .int n) (by rw [hn]))) (EvL.cons (Ev.name rfl) EvL.nil))) h0 (by omega) r.hh) (.inl rfl)
    (fun _ => Stab.ba List.mem_cons_self) hDo (hoD off.own) hDo I₅ ?_ ?_)
  · intro i t X'' s' ht hXX f' I'
    obtain ⟨rfl, rfl⟩ : i = 0 ∧ t = .int 0 := by
      cases i with
      | zero => exact ⟨rfl, by simpa using ht.symm⟩
      | succ i => simp at ht
    rw [if_pos rfl] at I'
    refine wpAny_execs_cons (forZ (xs := (rngI n).map .int) (fun _ => upd (upd (updL none0 [Str.ofString "data", Str.ofString "width"] [.byt bs, .int n]) (Str.ofString "swapped_data") (.ptr D)) (Str.ofString "i") (.int 0)) [D] [D] (fun j X h => BA D (swp bs j) h)
      f' (rng_name g (by exact r.hh) (by rfl) (by omega)) (.inl rfl) (fun _ => Stab.ba List.mem_cons_self) (fun a ha => hXX a (hDo a ha)) (hoD off.own) (fun a ha => hXX a (hDo a ha)) I' ?_ ?_)
    · intro j t X₃ s₆ ht hX₃ f₆ I₆
      obtain ⟨x, hx, rfl⟩ := lst_int ht
      have hj : j < n ∧ x = (j : Int) := by
        unfold rngI at hx
        rw [List.getElem?_map] at hx
        have hl : j < n := by
          rcases Nat.lt_or_ge j n with h | h
          · exact h
          · rw [List.getElem?_eq_none (by simpa using h)] at hx; cases hx
        rw [List.getElem?_range hl] at hx
        exact ⟨hl, by cases hx; rfl⟩
      obtain ⟨hj, rfl⟩ := hj
      refine wpAny_execs_cons (setBA (c := bs.getD j 0) (k := 0 + (n : Int) - 1 - j) f₆ (hX₃ D (hXX D List.mem_cons_self)) off I₆ (Ev.eq (Ev.bget (bs := bs) (k := 0 + (j : Int)) (Ev.name rfl) (Ev.add (Ev.name rfl) (Ev.name rfl)) (by omega) (by omega) (by omega)) ?_) (Ev.name rfl) (Ev.sub (Ev.sub (Ev.add (Ev.name rfl) (Ev.name rfl)) Ev.int) (Ev.name rfl)) (by omega) (by rw [swp_len]; omega) (by rw [swp_len]; omega)
        fun s₇ f₇ k₇ I₇ => wpAny_execs_nil ⟨rfl, f₇.weaken ?_, k₇.more fun a ha => List.mem_append_left _ ha, ?_⟩)
      · rw [show (0 + (j : Int)).toNat = j by omega]
      · refine BSub.skip (BSub.refl _) _ _ ?_; rfl
      · have e : (0 + (n : Int) - 1 - j).toNat = bs.length - 1 - j := by omega
        rw [e] at I₇
        exact I₇
    · intro s₆ f₆ k₆ I₆
      refine wpAny_execs_nil ⟨rfl, f₆.weaken ?_, k₆, ?_⟩
      · refine BSub.skip (BSub.refl _) _ _ ?_; rfl
      · rw [if_neg (by omega)]
        rw [List.length_map, show (rngI n).length = n by simp [rngI]] at I₆
        exact I₆
  · intro s₆ f₆ k₆ I₆
    have I₆ : BA D bs.reverse s₆.heap := by
      have e : swp bs n = bs.reverse := by rw [← hn]; exact swp_end bs
      rw [← e]; exact I₆
    refine wpAny_execs_cons (wpAny_Return_some (Call_ ((EvV.built g.bytes.1 g.bytes.2 rfl).use f₆.bd f₆.r fun s₇ k₇ b₇ r₇ => Pv.callWith_type1 (spliced_more (Ev.use (Ev.name (t := .ptr D) rfl) b₇ r₇ fun v s₈ h₈ k₈ b₈ r₈ => spliced_none (by
      rw [rep_ptr.mp h₈]
      refine call_bytes_ba (k₈.keep _ _ (k₇.keep _ _ I₆)) (by rw [List.size_toArray, List.length_reverse, sizeLine_eq]; omega) fun t tk => ⟨rep_byt.mpr ⟨t, rfl⟩, ?_⟩
      have mO : ∀ {O : List Addr}, ∀ a ∈ O, a ∈ [D] ++ O := fun a ha => List.mem_append_right _ ha
      refine kpBack k ((((k₄.x.trans (k₅.more mO)).trans k₆).trans k₇.x).trans (k₈.trans (keeps_toks s₈ tk)).x) fun a ha => ?_
      rcases List.mem_append.mp ha with ha | ha
      · rw [List.mem_singleton.mp ha]
        cases q : s.heap.get? D with
        | none => rfl
        | some o => rw [k.keep _ _ q] at hDn; cases hDn
      · exact hO a ha))))))
end
end Mine
end
section
open PySem PySem.W PyProof.Rows PySem.Calls
set_option maxRecDepth 100000
set_option linter.unusedVariables false
namespace Mine
section
variable {M : Model} {A : Around} {E : Value → Shared → Prop} {s : Shared} {env : Env}
theorem wpR_comprehension {e : PySem.Expr} {scope : Scope} {pos : Pos} {newAcc first : Sem Value} {g : Comprehension} {gs : List Comprehension} {cl : List (Str × Addr)} {u : Value → Sem Unit} {Q : Value → Shared → Prop}
    (hcl : clausesOf e = g :: gs) (hs : ∀ x, foldedSetIterable g.iter env x = pure x) (hclos : closureFor scope env = pure cl)
    (hkind : scope.kind = .function) (hnames : ∀ x ∈ scope.names, x.2 = .local → scope.names.lookup x.1 = some .local)
    (h : wpAny M A first (fun x s₁ => wpAny M A (pyIter x) (fun it s₂ => wpAny M A newAcc (fun acc s₃ =>
      wpAny M A (newFunctionEnv scope env.globals cl [] env.qual none .none (some env)) (fun cenv s₄ =>
        codeR M A (.compStart e 0 it acc { cenv with scope := relabel scope env }) (fun r s' => match r with
          | .ok _ => wpAny M A (u acc) (fun _ s'' => ∃ m, s''.heap.Ns cenv.locals m ∧ ∀ h', Heap.SameBut cenv.locals s''.heap h' → Q .none { s'' with heap := h' }) NoE s'
          | .error _ => False) s₄) NoE s₃) NoE s₂) NoE s₁) NoE s) :
    wpR M A (comprehension e scope env pos newAcc false first (some u)) Q NoE s := by
  unfold comprehension
  rw [hclos, hcl]
  refine wpR_step (wpAny_mono h (fun x s₁ h₁ => wpR_step (wpAny_standAt (wpR_step (wpAny_of_eq (hs x) (wpR_step (wpAny_holding (wpAny_mono h₁ (fun it s₂ h₂ => ?_) fun _ _ h' => h'))))))) fun _ _ h' => h')
  simp only [Option.isSome_some, if_true]
  refine wpR_step (wpAny_standAt (wpR_step (wpAny_mono h₂ (fun acc s₃ h₃ => wpR_step (wpAny_pure (wpR_step (wpAny_mono h₃ (fun cenv s₄ h₄ => ?_) fun _ _ h' => h')))) fun _ _ h' => h')))
  have hv : ∀ x ∈ (scope.names.filter fun x => (x.2 == .local || x.2 == .cell) && x.1 != (".0" : Str)).reverse, x.2 = .local →
      Env.kindOf { cenv with scope := relabel scope env } x.1 = some .local := fun x hx hl => lookup_relabel_local (hnames x (List.mem_filter.mp (List.mem_reverse.mp hx)).1 hl)
  have hv' : ∀ x ∈ (scope.names.filter fun x => (x.2 == .local || x.2 == .cell) && x.1 != (".0" : Str)).reverse.drop 1 ++ (scope.names.filter fun x => (x.2 == .local || x.2 == .cell) && x.1 != (".0" : Str)).reverse.take 1,
      x.2 = .local → Env.kindOf { cenv with scope := relabel scope env } x.1 = some .local := fun x hx hl => by
    rcases List.mem_append.mp hx with h1 | h1
    · exact hv x (List.mem_of_mem_drop h1) hl
    · exact hv x (List.mem_of_mem_take h1) hl
  refine wpR_holding (wpR_bind (wpR_attempt (wpR_holding (wpR_run (codeR_mono h₄ fun r s' hr => ?_)))))
  cases r with
  | ok f =>
    refine .of (wpAny_bind (wpAny_rule (wpAny_bind (wpAny_holding (wpAny_mono hr (fun _ s'' hr' => ?_) fun _ _ h' => h')))))
    obtain ⟨m, hn, hr'⟩ := hr'
    exact wpAny_bind (wpAny_comp_letGo (cenv := { cenv with scope := relabel scope env }) hkind _ s'' m hv' hn fun h' m' _ hs' => wpAny_pure (hr' h' hs'))
  | error x => exact hr.elim
end
section
variable {prog : Program} {w : World} {A : Around} {s : Shared}
theorem codeR_compStart_list {elt target iter : PySem.Expr} {ifs : List PySem.Expr} {rest : List Comprehension} {scope : Scope} {pos : Pos} {it acc : Value} {env : Env} {R : Result → Shared → Prop}
    (h0 : codeR (model prog w) A (.compLoop (.ListComp elt (⟨target, iter, ifs, 0⟩ :: rest) scope pos) 0 it acc env) R s)
    (h : wpAny (model prog w) A (pyIter it) (fun it' s' => codeR (model prog w) A (.compLoop (.ListComp elt (⟨target, iter, ifs, 0⟩ :: rest) scope pos) 0 it' acc env) R s') NoE s) :
    codeR (model prog w) A (.compStart (.ListComp elt (⟨target, iter, ifs, 0⟩ :: rest) scope pos) 0 it acc env) R s := by
  refine codeR_of_tree rfl ?_
  show wpR _ _ ((compStart (.ListComp elt (⟨target, iter, ifs, 0⟩ :: rest) scope pos) 0 it acc env).onRaise (fun x => do noteFrame x env; standAt theWindowsPlace)) _ _ s
  refine .of (wpAny_onRaise (wpAny_mono (E := NoE) ?_ (fun _ _ q => q) fun _ _ q => q.elim))
  unfold compStart
  show wpAny _ _ (ask >>= _) _ _ s
  refine wpAny_bind (wpAny_askSetting (wpAny_ite ?_))
  split
  · first
      | exact wpAny_bind (wpAny_pure (wpAny_pure (And.intro rfl h0)))
      | exact wpAny_pure (And.intro rfl h0)
  · first
      | exact wpAny_bind (wpAny_rule (wpAny_bind (wpAny_standAt (wpAny_bind (wpAny_mono h (fun it' s' h' => wpAny_pure (And.intro rfl h')) fun _ _ x => x)))))
      | (refine wpAny_bind (wpAny_rule ?_); show wpAny _ _ (standAt iter.pos >>= _) _ _ s; exact wpAny_bind (wpAny_standAt (wpAny_bind (wpAny_mono h (fun it' s' h' => wpAny_pure (And.intro rfl h')) fun _ _ x => x))))
theorem codeR_compLoop {elt iter : PySem.Expr} {x : Str} {px : Pos} {scope : Scope} {pos : Pos} {it acc : Value} {env : Env} {R : Result → Shared → Prop} (I : Nat → Shared → Prop)
    (turn : ∀ n s, I n s → wpAny (model prog w) A (pyNext it) (fun r s₁ => match r with
      | none => R (.ok .next) s₁
      | some v => wpAny (model prog w) A (assign (.Name x px) env v) (fun _ s₂ => wpR (model prog w) A (eval elt env) (fun y s₄ =>
              wpAny (model prog w) A (call (.builtin "list.append") [acc, y]) (fun _ s₅ => ∃ m, m < n ∧ I m s₅) NoE s₄) NoE s₂) NoE s₁) NoE s)
    (n : Nat) (h : I n s) : codeR (model prog w) A (.compLoop (.ListComp elt [⟨.Name x px, iter, [], 0⟩] scope pos) 0 it acc env) R s := by
  refine codeR_loop rfl rfl I (fun n s hI => ?_) n h
  show wpR _ A ((compTurn (.ListComp elt [⟨.Name x px, iter, [], 0⟩] scope pos) 0 it acc env).onRaise (fun x => do noteFrame x env; theTreesLotGoes x)) _ _ s
  refine wpR_onRaise (wpR_mono (E := NoE) ?_ (fun _ _ q => q) fun _ _ q => q.elim)
  rw [compTurn_list]
  refine wpR_step (wpAny_standAt (wpR_step (wpAny_mono (turn n s hI) (fun r s₁ h₁ => ?_) fun _ _ h' => h')))
  cases r with
  | none => exact wpR_pure h₁
  | some v =>
    refine wpR_step (wpAny_of_eq (a := ()) rfl ?_)
    refine wpR_step (wpAny_mono h₁ (fun _ s₂ h₂ => ?_) fun _ _ h' => h')
    refine wpR_step (wpAny_tests_nil ?_)
    exact wpR_bind (wpR_bind (wpR_mono h₂ (fun x s₄ h₄ => .of (wpAny_bind (wpAny_mono h₄ (fun _ s₅ h₅ => wpAny_pure (wpR_pure ⟨rfl, h₅⟩)) fun _ _ h' => h'))) fun _ _ h' => h'))
end
end Mine
end
section
open PySem PySem.W PyProof.Rows PySem.Calls
set_option maxRecDepth 100000
set_option linter.unusedVariables false
namespace Mine
noncomputable def EvR (prog : Program) (w : World) (G : Glb) (A : Around) (env : Env) (ρ : Bnd) (e : PySem.Expr) (x : T) : Prop :=
  ∀ X s, Bd X s.heap → EnvR G env ρ X s.heap → wpR (model prog w) A (eval e env) (fun v s' => Rep (hid s'.heap X) x v ∧ Kp s s') NoE s
noncomputable def StR (prog : Program) (w : World) (G : Glb) (A : Around) (env : Env) (ρ : Bnd) (st : Stmt) (ρ' : Bnd) : Prop :=
  ∀ X s, FrR G env (ownOf env) ρ X s → wpR (model prog w) A (exec st env) (fun f s' => f = .next ∧ FrR G env (ownOf env) ρ' X s' ∧ KpX (ownOf env) s s') NoE s
section
variable {prog : Program} {w : World} {G : Glb} {A : Around} {env : Env} {ρ ρ' : Bnd}
theorem compLoopR {elt iter : PySem.Expr} {x : Str} {px : Pos} {scope : Scope} {pos : Pos} {I D : Addr} {cenv : Env} {R : Result → Shared → Prop} {s : Shared} {xs : List T} {X O fp : List Addr} {P : Nat → Value → Prop} {Sta : Nat → Heap → Prop}
    (F : T → T)
    (W : Walks prog w A I fp [I] xs.length P Sta) (hz : xs.length ≤ 1000) (st : Sta 0 s.heap) (hIo : ∀ i h, Sta i h → ∃ o, h.get? I = some o)
    (f : FrR G cenv O ρ X s) (hρ : ρ x = none) (hk : (cenv.kindOf x = some .local ∧ cenv.locals ∈ O) ∨ (cenv.kindOf x = some .cell ∧ ∃ c, cenv.cells.lookup x = some c ∧ c ∈ O))
    (hIX : I ∈ X) (hDX : D ∈ X) (hI : Off cenv I) (hD : Off cenv D) (hDI : D ≠ I) (hDf : D ∉ fp) (hDO : D ∉ O) (hIO : I ∉ O) (hfO : ∀ a ∈ O, a ∉ fp)
    (hP : ∀ i v, i < xs.length → P i v → ∃ t, xs[i]? = some t ∧ Rep (hid s.heap X) t v) (hacc : s.heap.PlainList D #[])
    (helt : ∀ t ∈ xs, EvR prog w G A cenv (upd ρ x t) elt (F t))
    (hR : ∀ s' ys, (∃ m, s'.heap.Ns cenv.locals m) → s'.heap.PlainList D ys.toArray → RepL (hid s'.heap X) (xs.map F) ys → KpX (D :: I :: O) s s' → R (.ok .next) s') :
    codeR (model prog w) A (.compLoop (.ListComp elt [⟨.Name x px, iter, [], 0⟩] scope pos) 0 (.ref I) (.ref D) cenv) R s := by
  have hYX : ∀ a ∈ D :: I :: O, a ∈ X := fun a ha => by
    rcases List.mem_cons.mp ha with rfl | ha
    · exact hDX
    · rcases List.mem_cons.mp ha with rfl | ha
      · exact hIX
      · exact f.own a ha
  have mI : I ∈ D :: I :: O := List.mem_cons_of_mem _ List.mem_cons_self
  have mD : D ∈ D :: I :: O := List.mem_cons_self
  have mO : ∀ a ∈ O, a ∈ D :: I :: O := fun a ha => List.mem_cons_of_mem _ (List.mem_cons_of_mem _ ha)
  refine codeR_compLoop (fun k s' => ∃ i ys, i ≤ xs.length ∧ k = xs.length + 1 - i ∧ FrR G cenv O ρ X s' ∧ Sta i s'.heap ∧ s'.heap.PlainList D ys.toArray ∧ RepL (hid s'.heap X) ((xs.take i).map F) ys ∧ KpX (D :: I :: O) s s') ?_ (xs.length + 1)
    ⟨0, [], Nat.zero_le _, rfl, f, st, hacc, by simpa using repL_nil.mpr rfl, .refl _⟩
  rintro k s' ⟨i, ys, hi, rfl, f', st', acc', hys, k'⟩
  by_cases hlt : i < xs.length
  · refine W.item i _ _ _ hlt st' fun v h₁ tk₁ hv st₁ kk₁ => ?_
    have f₁ : FrR G cenv O ρ X { s' with heap := h₁, toks := tk₁ } := f'.other hIX hI kk₁ (hIo _ _ st₁)
    have k₁ := k'.other (tk := tk₁) mI kk₁
    have acc₁ : h₁.PlainList D ys.toArray := acc'.at fun o e => kk₁ D o (by simpa using hDI) e
    have hys₁ : RepL (hid h₁ X) ((xs.take i).map F) ys := hys.mono (hid_in fun b o n e => kk₁ b o (fun q => n (List.mem_singleton.mp q ▸ hIX)) e)
    obtain ⟨t, ht, hr⟩ := hP i v hlt hv
    have hmem : t ∈ xs := List.mem_of_getElem? ht
    refine wpAny_assign_Name (f₁.store (t := t) (hr.kpx k₁ hYX) hk fun s₂ f₂ k₂ => ?_)
    have st₂ : Sta (i + 1) s₂.heap := W.frame _ _ _ st₁ fun b hb o e => k₂.keep b o (fun q => hfO b q hb) e
    have acc₂ : s₂.heap.PlainList D ys.toArray := acc₁.at fun o e => k₂.keep D o hDO e
    have hys₂ := RepL.kpx (s := { s' with heap := h₁, toks := tk₁ }) hys₁ k₂ f₁.own
    have k₂' := k₁.trans (k₂.more mO)
    have hwk : ∀ y u, ρ y = some u → upd ρ x t y = some u := fun y u e => by
      unfold upd
      by_cases hy : y = x
      · subst hy; rw [hρ] at e; cases e
      · rw [if_neg hy]; exact e
    refine wpR_mono (helt t hmem X s₂ f₂.bd f₂.r) (fun y s₄ ⟨hy, k₄⟩ => ?_) fun _ _ q => q.elim
    have acc₄ : s₄.heap.PlainList D ys.toArray := acc₂.at fun o e => k₄.keep D o e
    have hl : ys.length = ((xs.take i).map F).length := hys.length
    have hsz : ys.toArray.size ≤ sizeLine := by
      have e3 : (xs.take i).length ≤ xs.length := by rw [List.length_take]; omega
      rw [List.length_map] at hl
      rw [List.size_toArray, sizeLine_eq]; omega
    refine wpAny_list_append_plain (hsz := hsz) acc₄ fun h₅ hl₅ hs₅ => ?_
    have kk₅ : ∀ b o, b ∉ ([D] : List Addr) → s₄.heap.get? b = some o → h₅.get? b = some o := fun b o n e => hs₅.extBut b o (by simpa using n) e
    have f₅ := (f₂.kp k₄).other (h' := h₅) (tk := s₄.toks) hDX hD kk₅ (by obtain ⟨n, e⟩ := hl₅; exact ⟨_, e⟩)
    have up : Sub (hid s₄.heap X) (hid h₅ X) := hid_in fun b o n e => kk₅ b o (fun q => n (List.mem_singleton.mp q ▸ hDX)) e
    refine ⟨xs.length + 1 - (i + 1), by omega, i + 1, ys ++ [y], hlt, rfl, f₅.weaken hwk, ?_, by simpa using hl₅, ?_, ?_⟩
    · exact W.frame _ _ _ (W.frame _ _ _ st₂ fun b _ o e => k₄.keep b o e) fun b hb o e => hs₅.extBut b o (fun h => hDf (h ▸ hb)) e
    · rw [List.take_add_one, ht]
      simp only [Option.toList_some, List.map_append, List.map_cons, List.map_nil]
      exact ((hys₂.mono (hid_keeps k₄.keep)).mono up).append (.one (hy.mono up))
    · exact (k₂'.trans k₄.x).other mD kk₅
  · obtain rfl : i = xs.length := by omega
    refine W.done _ _ _ st' fun h' tk kk => ?_
    refine hR _ ys ?_ (acc'.at fun o e => kk D o (by simpa using hDI) e) ?_ (k'.other mI kk)
    · obtain ⟨m, ⟨o, es, ep, e, q⟩, _⟩ := f'.r.loc
      exact ⟨m, o, es, ep, kk _ o (by simpa using hI.loc) e, q⟩
    · rw [List.take_length] at hys
      exact hys.mono (hid_in fun b o n e => kk b o (fun q => n (List.mem_singleton.mp q ▸ hIX)) e)

theorem compBlockR {elt iter : PySem.Expr} {x : Str} {px : Pos} {scope : Scope} {pos : Pos} {I : Addr} {RR : Value → Addr → Result → Shared → Prop} {s s₂ : Shared} {xs : List T} {X fp : List Addr} {P : Nat → Value → Prop} {Sta : Nat → Heap → Prop}
    (F : T → T) (k : CompOK scope env) (hx : scope.names.lookup x = some .local ∨ scope.names.lookup x = some .cell)
    (W : Walks prog w A I fp [I] xs.length P Sta) (hz : xs.length ≤ 1000) (st : Sta 0 s₂.heap) (hIo : ∀ i h, Sta i h → ∃ o, h.get? I = some o)
    (b : Bd X s.heap) (r : EnvR G env ρ X s.heap) (hIX : I ∉ X) (hIs : s.heap.get? I = none) (hfp : ∀ b ∈ fp, b = I ∨ (b ∉ X ∧ ∃ o, s₂.heap.get? b = some o))
    (hP : ∀ i v, i < xs.length → P i v → ∃ t, xs[i]? = some t ∧ Rep (hid s₂.heap (I :: X)) t v) (k2 : Kp s s₂)
    (helt : ∀ C, ∀ t ∈ xs, EvR prog w G A (cEnv scope (clo scope env) C env) (upd (restr scope ρ) x t) elt (F t))
    (hRR : ∀ D C s' ys, D ∉ X → C ∉ X → s.heap.get? D = none → s.heap.get? C = none → D ≠ C → (∃ m, s'.heap.Ns C m) → s'.heap.PlainList D ys.toArray → RepL (hid s'.heap (C :: X)) (xs.map F) ys → (∃ o, s'.heap.get? C = some o) → Kp s s' → RR (.ref D) C (.ok .next) s') :
    wpAny (model prog w) A (newList []) (fun acc s₃ => wpAny (model prog w) A (newFunctionEnv scope env.globals (clo scope env) [] env.qual none .none (some env)) (fun cenv s₄ =>
      codeR (model prog w) A (.compStart (.ListComp elt [⟨.Name x px, iter, [], 0⟩] scope pos) 0 (.ref I) acc { cenv with scope := relabel scope env }) (RR acc cenv.locals) s₄) NoE s₃) NoE s₂ := by
  refine wpAny_newObj_type ?_
  generalize hH2 : s₂.heap.push { cls := .type "list", dict := none, data := .seq ([] : List Value).toArray } = H2
  refine newEnv_comp (s := { s₂ with heap := H2 }) fun h₁ up hn hc => ?_
  dsimp only at up hn hc ⊢
  have hC : H2.objs.size = s₂.heap.objs.size + 1 := by rw [← hH2, Heap.size_push]
  have up2 : ∀ b o, s₂.heap.get? b = some o → H2.get? b = some o := fun b o e => hH2 ▸ Heap.get?_push_of_some _ e
  have hD2 : H2.get? s₂.heap.objs.size = some (lstO [] 0) := by rw [← hH2]; exact Heap.get?_push_size _ rfl
  generalize hDd : s₂.heap.objs.size = D at hC hD2 ⊢
  generalize hCc : H2.objs.size = C at hC hn hc ⊢
  have noneD : s₂.heap.get? D = none := Heap.get?_none_of_le (Nat.le_of_eq hDd)
  have noneC : s₂.heap.get? C = none := Heap.get?_none_of_le (by omega)
  have nos : ∀ a, s₂.heap.get? a = none → s.heap.get? a = none := fun a ha => by
    cases q : s.heap.get? a with
    | none => rfl
    | some o => rw [k2.keep _ _ q] at ha; cases ha
  have b2 : Bd X s₂.heap := b.keeps k2.keep
  have noX : ∀ a, s₂.heap.get? a = none → a ∉ X := fun a ha hm => by obtain ⟨o, e⟩ := b2 a hm; rw [ha] at e; cases e
  have noI : ∀ a, s₂.heap.get? a = none → a ≠ I := fun a ha e => by obtain ⟨o, e'⟩ := hIo _ _ st; rw [← e, ha] at e'; cases e'
  have noF : ∀ a, s₂.heap.get? a = none → a ∉ fp := fun a ha hm => by
    rcases hfp a hm with e | ⟨_, o, e⟩
    · exact noI a ha e
    · rw [ha] at e; cases e
  have hO : ∀ a ∈ cOwn scope C, s₂.heap.get? a = none := fun a ha => by
    rcases List.mem_cons.mp ha with rfl | ha
    · exact noneC
    · obtain ⟨⟨y, c⟩, hm, rfl⟩ := List.mem_map.mp ha
      exact Heap.get?_none_of_le (by have := (hc.empty y c hm).2; omega)
  have hDO : D ∉ cOwn scope C := fun ha => by
    rcases List.mem_cons.mp ha with e | ha
    · omega
    · obtain ⟨⟨y, c⟩, hm, e⟩ := List.mem_map.mp ha
      have := (hc.empty y c hm).2; have e' : c = D := e; omega
  have ups : ∀ b o, s.heap.get? b = some o → h₁.get? b = some o := fun b o e => up b o (up2 b o (k2.keep b o e))
  -- the frame
  have r2 : EnvR G env ρ X s₂.heap := r.keeps k2.keep
  have offI : Off (cEnv scope (clo scope env) C env) I := ⟨(noI C noneC), fun n c e => by
    rcases k.cases e with h | ⟨_, h⟩
    · exact noI c (hO c (List.mem_cons_of_mem _ (List.mem_map.mpr ⟨_, mem_of_lookup' h, rfl⟩)))
    · exact (r.fresh hIs).cel n c h⟩
  have offD : Off (cEnv scope (clo scope env) C env) D := ⟨by show C ≠ D; omega, fun n c e => by
    rcases k.cases e with h | ⟨_, h⟩
    · exact fun e => hDO (e ▸ List.mem_cons_of_mem _ (List.mem_map.mpr ⟨_, mem_of_lookup' h, rfl⟩))
    · exact (r2.fresh noneD).cel n c h⟩
  have hID : ∀ y ∈ [D, I], s.heap.get? y = none := fun y hy => by
    rcases List.mem_cons.mp hy with rfl | hy
    · exact nos _ noneD
    · rw [List.mem_singleton.mp hy]; exact hIs
  have bI : ∃ o, H2.get? I = some o := by obtain ⟨o, e⟩ := hIo _ _ st; exact ⟨o, up2 _ _ e⟩
  have b3 : Bd ([D, I] ++ X) H2 := fun a ha => by
    rcases List.mem_append.mp ha with ha | ha
    · rcases List.mem_cons.mp ha with rfl | ha
      · exact ⟨_, hD2⟩
      · rw [List.mem_singleton.mp ha]; exact bI
    · exact b2.keeps up2 a ha
  have r3 : EnvR G env ρ ([D, I] ++ X) H2 := (r.more (Y := [D, I]) fun y hy => .inr (hID y hy)).keeps fun b o e => up2 b o (k2.keep b o e)
  have f : FrR G (cEnv scope (clo scope env) C env) (cOwn scope C) (restr scope ρ) (cOwn scope C ++ ([D, I] ++ X)) { s₂ with heap := h₁ } :=
    FrR.comp (s := { s₂ with heap := H2 }) k b3 r3 (Nat.le_of_eq hCc) up s₂.toks hn hc
  have mD : D ∈ cOwn scope C ++ ([D, I] ++ X) := List.mem_append_right _ (List.mem_append_left _ List.mem_cons_self)
  have mI : I ∈ cOwn scope C ++ ([D, I] ++ X) := List.mem_append_right _ (List.mem_append_left _ (List.mem_cons_of_mem _ List.mem_cons_self))
  have mX : ∀ a ∈ X, a ∈ cOwn scope C ++ ([D, I] ++ X) := fun a ha => List.mem_append_right _ (List.mem_append_right _ ha)
  have st1 : Sta 0 h₁ := W.frame _ _ _ st fun b _ o e => up b o (up2 b o e)
  have loop : codeR (model prog w) A (.compLoop (.ListComp elt [⟨.Name x px, iter, [], 0⟩] scope pos) 0 (.ref I) (.ref D) (cEnv scope (clo scope env) C env)) (RR (.ref D) C) { s₂ with heap := h₁ } := by
    refine compLoopR (xs := xs) (X := cOwn scope C ++ ([D, I] ++ X)) (O := cOwn scope C) (ρ := restr scope ρ) F W hz st1 hIo f ?_ ?_ mI mD offI offD (noI D noneD) (noF D noneD) hDO (fun h => noI I (hO I h) rfl) (fun a ha => noF a (hO a ha)) ?_ ⟨0, up _ _ hD2⟩ (helt C) ?_
    · unfold restr
      rcases hx with h | h <;> rw [h] <;> rfl
    · rcases hx with h | h
      · exact .inl ⟨cEnv_kind_ne h (by decide), List.mem_cons_self⟩
      · refine .inr ⟨cEnv_kind_ne h (by decide), ?_⟩
        obtain ⟨c, hc'⟩ := cellsFrom_has scope.names (C + 1) (mem_of_lookup' h)
        exact ⟨c, by rw [k.look, hc']; rfl, List.mem_cons_of_mem _ (List.mem_map.mpr ⟨_, mem_of_lookup' hc', rfl⟩)⟩
    · intro i v hi hv
      obtain ⟨t, ht, hr⟩ := hP i v hi hv
      refine ⟨t, ht, hr.mono fun a o e => ?_⟩
      obtain ⟨hx', ho⟩ := hid_some e
      refine hid_of (fun hm => ?_) (up _ _ (up2 _ _ ho))
      rcases List.mem_append.mp hm with hm | hm
      · rw [hO a hm] at ho; cases ho
      · rcases List.mem_append.mp hm with hm | hm
        · rcases List.mem_cons.mp hm with rfl | hm
          · rw [noneD] at ho; cases ho
          · exact hx' (List.mem_singleton.mp hm ▸ List.mem_cons_self)
        · exact hx' (List.mem_cons_of_mem _ hm)
    · intro s' ys hm hl hr kk
      have kk' : Kp s s' := by
        obtain ⟨⟨h', t', rfl⟩, kb⟩ := kk
        obtain ⟨⟨h2', t2', e2⟩, _⟩ := k2
        refine ⟨⟨h', t', by rw [e2]⟩, fun b o e => kb b o (fun hm => ?_) (ups b o e)⟩
        have hnone : s.heap.get? b = none := by
          rcases List.mem_cons.mp hm with rfl | hm
          · exact nos _ noneD
          · rcases List.mem_cons.mp hm with rfl | hm
            · exact hIs
            · exact nos _ (hO b hm)
        rw [hnone] at e; cases e
      refine hRR D C s' ys (noX D noneD) (noX C noneC) (nos D noneD) (nos C noneC) (Nat.ne_of_lt (by omega)) hm hl (hr.mono (hid_less fun a ha => ?_)) (by obtain ⟨m, o, _, _, e, _⟩ := hm; exact ⟨o, e⟩) kk'
      rcases List.mem_cons.mp ha with rfl | ha
      · exact List.mem_append_left _ List.mem_cons_self
      · exact mX a ha
  exact codeR_compStart_list loop (W.self 0 _ _ _ st1 loop)

theorem St_compR {y : Str} {py : Pos} {spos : Pos} {elt iter : PySem.Expr} {x : Str} {px : Pos} {scope : Scope} {pos : Pos} {xs : List T} (F : T → T) (hi : ItT prog w G A env ρ iter xs) (k : CompOK scope env)
    (hx : scope.names.lookup x = some .local ∨ scope.names.lookup x = some .cell) (hz : xs.length ≤ 1000)
    (helt : ∀ C, ∀ t ∈ xs, EvR prog w G A (cEnv scope (clo scope env) C env) (upd (restr scope ρ) x t) elt (F t))
    (hk : KindOk env y) (hsw : swapsWith (.ListComp elt [⟨.Name x px, iter, [], 0⟩] scope pos) (some (.Name y py)) spos.line env = pure true := by rfl)
    (hs : ∀ x, foldedSetIterable iter env x = pure x := by intro _; rfl) : StR prog w G A env ρ (.Assign [.Name y py] (.ListComp elt [⟨.Name x px, iter, [], 0⟩] scope pos) spos) (upd ρ y (.lst (xs.map F))) := fun X s f => by
  rw [exec_Assign_Name_used _ _ _ _ hsw]
  refine wpR_step (wpAny_standAt (wpR_bind ?_))
  show wpR _ A (do let _ ← comprehension (.ListComp elt [⟨.Name x px, iter, [], 0⟩] scope pos) scope env _ (newList []) false (eval iter env) (some (assign (PySem.Expr.Name y py) env))) _ _ s
  refine wpR_bind (wpR_mono (wpR_comprehension (u := assign (PySem.Expr.Name y py) env) (Q := fun _ s' => FrR G env (ownOf env) (upd ρ y (.lst (xs.map F))) X s' ∧ KpX (ownOf env) s s') rfl hs (closureFor_clo k.free) k.kind
    (fun y hy hl => by rw [k.at hy, hl]) (wpAny_mono (hi X s f.bd f.r) (fun v s₁ h₁ => wpAny_mono h₁ (fun it s₂ h₂ => ?_) fun _ _ q => q) fun _ _ q => q)) (fun _ s' hq => wpR_pure (wpR_pure ⟨rfl, hq⟩)) fun _ _ e => e)
  obtain ⟨I, fp, P, Sta, rfl, W, st, hIX, hI, hIo, hfp, hP, k2⟩ := h₂
  refine compBlockR (RR := fun acc C r s' => match r with
          | .ok _ => wpAny (model prog w) A (assign (PySem.Expr.Name y py) env acc) (fun _ s'' => ∃ m, s''.heap.Ns C m ∧ ∀ h', Heap.SameBut C s''.heap h' → FrR G env (ownOf env) (upd ρ y (.lst (xs.map F))) X { s'' with heap := h' } ∧ KpX (ownOf env) s { s'' with heap := h' }) NoE s'
          | .error _ => False) F k hx W hz st hIo f.bd f.r hIX hI hfp hP k2 helt fun D C s' ys hDX hCX hD hC hDC hm hl hr ho kk => ?_
  obtain ⟨m, hm⟩ := hm
  show wpAny _ A (assign (.Name y py) env (.ref D)) _ _ _
  have f' := f.hide kk hC ho
  obtain ⟨n, hn⟩ := hl
  refine wpAny_assign_Name (f'.store (t := .lst (xs.map F)) (rep_lst.mpr ⟨D, n, ys, rfl, hid_of (fun q => (List.mem_cons.mp q).elim hDC hDX) hn, hr⟩) hk.own fun s'' f'' k'' => ?_)
  have hCo : C ∉ ownOf env := fun q => hCX (f.own C q)
  refine ⟨m, ?_, fun h' hs' => ?_⟩
  · obtain ⟨o, es, ep, e, q⟩ := hm
    exact ⟨o, es, ep, k''.keep C o hCo e, q⟩
  · have up : ∀ b o, b ∉ ([C] : List Addr) → s''.heap.get? b = some o → h'.get? b = some o := fun b o n e => hs'.extBut b o (by simpa using n) e
    refine ⟨f''.drop hCX f.own (f.r.fresh hC) up, ?_⟩
    obtain ⟨⟨h2, t2, rfl⟩, kb⟩ := kk
    obtain ⟨⟨h3, t3, rfl⟩, kc⟩ := k''
    exact ⟨⟨_, _, rfl⟩, fun b o n e => up b o (fun q => by rw [List.mem_singleton.mp q, hC] at e; cases e) (kc b o n (kb b o e))⟩
end
end Mine
end
section
open PySem PySem.W PyProof.Rows PySem.Calls
open PySem.Sem (wp)
set_option maxRecDepth 100000
set_option maxHeartbeats 4000000
set_option linter.unusedVariables false
namespace Mine
noncomputable abbrev RW : RowW := PySem.Challenge.rw_zx0002_01.row.toRowW
theorem cln0 : isDec (⟨.builtin "claim.caller" {}, none, none, [], none⟩ : Ctx).code = false := by decide
/-- a thread that ends, from the caller's own context, on which no decoder stands -/
theorem thread_endsR {w : World} {t : Sem PySem.Fin} {s : Shared} {R : Result → Shared → Prop} (hreg : s.asleep)
    (h : wpR (model PG w) callerA t (fun fin s' => ∃ f, fin = .done f ∧ (R (.ok f) s' ∧ leftWithCleanup s'.gens = false)) NoE s) :
    ∃ n r s' s'', runN (denote table) PG w n s ⟨t, .builtin "claim.caller" {}, default, []⟩ = .halted (outcomeOf r) s' ∧
      schedN (denote table) PG w n (.single s ⟨t, .builtin "claim.caller" {}, default, []⟩) = .halted (outcomeOf r) s' ∧ s'.forget = s''.forget ∧ R r s'' := by
  have hwp : wp (model PG w) ⟨.builtin "claim.caller" {}, none, none, [], none⟩ t (Sem.finPost (model PG w) ⟨.builtin "claim.caller" {}, none, none, [], none⟩ fun r s' => R r s' ∧ leftWithCleanup s'.gens = false)
      (fun e _ s' => R (.error e) s' ∧ leftWithCleanup s'.gens = false) default s := by
    refine Sem.wp_mono _ _ t (fun fin p' s' h' => ?_) (fun _ _ _ h' => h'.elim) default s (h _ default caller_in cln0 (fun x hx => nomatch hx))
    obtain ⟨f, rfl, hf⟩ := h'
    exact hf
  obtain ⟨n, r, s₁, s₂, hs, hn, hfo, hR⟩ := wp_halts_full (M := model PG w) (R := R) hreg hwp
  exact ⟨n, r, s₂, s₁, hn, hs, hfo, hR⟩
end Mine
namespace Mine
/-- what the call of the law is asked to show -/
noncomputable def LawR (H : Hook) : Prop :=
  ∀ (w : World) (s₀ s₁ : Shared) (mg mb : Str → Option Value), Ground hd.view_39 [] RW.records (XL hd.view_39 []) w s₀ mg mb s₁.heap → H.says w s₁.heap → ∀ f, mg RW.name = some f → s₁.gens = #[] →
    ∀ (args : List WData) (vals : List Value) (as : List Addr), RW.claim.pre args = true → WData.layableAll args = true → ReadsAllW RW.records (classAt s₀.heap) s₁.heap vals args as → WellAll w.params s₁.heap vals args → (∀ a ∈ as, (a == sysModules) = false) →
      wpR (model PG w) callerA (PySem.call f vals) (fun v s' => GoodWG RW.claim (classAt s₀.heap) (ExcName.means s₀.heap) args s₁ (.ok (.ret v)) s') NoE s₁
theorem callFromR {tree : List Value → Sem PySem.Fin} {w : World} {s : Shared} {free : Addr → Prop} {gens : Prop} {kept : Heap → Prop} (hz : s.asleep) (hgens : s.gens = #[])
    (hspec : ∀ args, RW.claim.pre args = true → WData.layableAll args = true → ∀ ord : List DictEntry → List DictEntry, (∀ l, (ord l).Perm l) →
      ∃ vs s₁, layAllW RW.claim.records (classAt s.heap) w.params ord args s = some (vs, s₁) ∧
        wpR (model PG w) callerA (tree vs) (fun fin s' => ∃ f, fin = .done f ∧ (RW.claim.Ends s args vs s₁ (.ok f) s' ∧ s'.os = s.os ∧ AllBare s'.gens ∧ kept s'.heap)) NoE s₁) :
    RW.claim.CallFrom (fun vs => ⟨tree vs, .builtin "claim.caller" {}, default, []⟩) w free gens kept s := by
  intro args hpre hlay ord hord
  obtain ⟨vs, s₁, hlaid, hcode⟩ := hspec args hpre hlay ord hord
  have hal := layAllW_rest _ _ _ hlaid
  obtain ⟨k, r, s', s'', hrun, hsched, hfo, hcase, hos, hkp⟩ := thread_endsR (w := w) (t := tree vs) (s := s₁) (R := fun r s' => RW.claim.Ends s args vs s₁ r s' ∧ s'.os = s.os ∧ kept s'.heap)
    (Shared.asleep_of_life hal.2.2.2 hz) (wpR_mono hcode (by
      rintro fin s' ⟨f, e, h1, h2, h3, h4⟩
      exact ⟨f, e, ⟨h1, h2, h4⟩, leftWithCleanup_false_of_bare h3⟩) fun _ _ q => q)
  obtain ⟨eh, _, _, eo, _⟩ := Shared.forget_eq hfo
  have hcase := hcase.congr eh
  have hkp : kept s'.heap := by first | exact eh ▸ hkp | (rw [eh] at hkp; exact hkp) | (rw [← eh] at hkp; exact hkp)
  rw [← eo] at hos
  have hlife : s'.heap.life = s.heap.life := (runN_life _ _ _ hrun).trans hal.2.2.2
  refine ⟨vs, s₁, hlaid, k, _, s', hsched, ?_, (fun _ i x hx => by rw [hgens] at hx; simp at hx), hkp, by rw [hlife], Shared.rest_eq hos⟩
  rcases hcase with ⟨v, rfl, d1, d2, d3, d4, d5⟩ | ⟨e, ob, cls, rfl, d1, d2, d3, d4, d5⟩
  · exact .inl ⟨v, rfl, d1, d2, d3, fun b o y _ => d4 b o y, d5⟩
  · exact .inr ⟨e, ob, cls, rfl, d1, d2, d3, d4, fun b o y _ => d5 b o y⟩
end Mine
end
section
open PySem PySem.W PyProof.Rows PySem.Calls
set_option maxRecDepth 100000
set_option maxHeartbeats 4000000
set_option linter.unusedVariables false
namespace Mine
theorem holdsR (H : Hook) {d : DefRec} {kwd : List (Str × PySem.Expr)} {N : Nat}
    (left : LeftO PG hd.view_39 [] (fun s => xlAt hd.view_39 [] s && recOk RW.records s) H.obs H.val N) (said : PySem.Challenge.rw_zx0002_01.row.wellSaid = true)
    (hdef : defOf hd.view_39 RW.name = some (d, kwd)) (hp : PG.theDef RW.name = some (d.params, d.body, d.scope)) (hk : kwWritten? d.params.kwonlyargs d.params.kw_defaults = some kwd)
    (ok : (chainsOk hd.view_39 && opensWell PG && (frees RW && RW.within.isEmpty)) = true) (hb : PG.bare) (hw : RW.promised) (call : LawR H) : PySem.Challenge.rw_zx0002_01.row.Holds := by
  refine ⟨said, hw, ?_⟩
  have hX : ∀ s, (xlAt hd.view_39 [] s && recOk RW.records s) = true → XL hd.view_39 [] (s.heap.nsMap mainGlobals) s.heap := fun s e => xl_of s (Bool.and_eq_true_iff.mp e).1
  have hRf : ∀ s, (xlAt hd.view_39 [] s && recOk RW.records s) = true → RecFacts RW.records s.heap := fun s e => recFacts_of (Bool.and_eq_true_iff.mp e).2
  obtain ⟨ok, k5⟩ := Bool.and_eq_true_iff.mp ok
  obtain ⟨hch, o1⟩ := Bool.and_eq_true_iff.mp ok
  obtain ⟨k5, k6⟩ := Bool.and_eq_true_iff.mp k5
  obtain ⟨hsame, hu, ha, hap, hm⟩ := frees_parts k5
  refine ⟨⟨hb, o1, by rfl⟩, hw.witness, fun w => ⟨(left.behind hX hch w).1, fun s' hs' => ?_⟩⟩
  obtain ⟨s₀, hf, hg0, s, hT, hz, hgens, hg, G00, y⟩ := (left.behind (XP := fun mg h => XL hd.view_39 [] mg h ∧ RecFacts RW.records h) (fun s hs => ⟨hX s hs, hRf s hs⟩) hch w).2 s' hs'
  have G0 : Ground hd.view_39 [] [] (XL hd.view_39 []) w s (s.heap.nsMap mainGlobals) (s.heap.nsMap builtinsNs) s.heap := ⟨G00.T, G00.B, G00.D, G00.TE, G00.TD, G00.W, G00.X.1, G00.cls, G00.has, G00.apart, G00.once, G00.K⟩
  have RF := G00.X.2
  have hT' := hT
  refine ⟨s₀, hf, hg0, s, hT, fun n hn => ?_, RF.1, RF.2.1, ?_⟩
  · obtain rfl : n = RW.name := by
      have : n ∈ [RW.name] := hn
      simpa using this
    exact pinned_of_view hg G0 hdef hp hk
  have hgens : s.gens = #[] := Array.eq_empty_of_size_eq_zero (beq_iff_eq.mp hgens)
  have G : Ground hd.view_39 [] RW.records (XL hd.view_39 []) w s _ _ s.heap := RF.ground G0
  refine callFromR (tree := fun vs => do match ← nsGet mainNs RW.name with
      | some f => do ret (← PySem.call f vs)
      | none => unsupported "claim.caller:no-such-global") hz hgens fun args hpre hlay ord hord => ?_
  obtain ⟨⟨vs, s₁⟩, hlaid⟩ := Option.isSome_iff_exists.mp (layAllW_isSome (P := w.params) (ord := ord) G.has args RW.args s (pre_splitW hpre).1)
  have keeps := layAllW_keeps _ _ _ hlaid
  have hal := layAllW_rest _ _ _ hlaid
  obtain ⟨as, hrd, hin, hold⟩ := reads_layAllW hord _ _ _ hlaid hlay s₁.heap (fun _ _ e => e)
  have L : Laid RW.records w s s₁ args vs as := ⟨⟨ord, hord, hlaid⟩, hrd, hin, hold, keeps, hal.1.trans hgens, hal.2.2.1⟩
  have G₁ := G.keeps XL.keeps keeps
  obtain ⟨a, o, pm, cd, doc, dV, kV, h1, h2, h3, h4, h5⟩ := G₁.fn hdef
  have h := call w s s₁ _ _ G₁ (H.keeps _ _ _ (H.of w s y) keeps) _ h1 L.gens args vs as hpre hlay L.reads L.well (L.low G.low)
  have hi := ident_freeW hu ha hap
  have hwi : RW.claim.within = [] := List.isEmpty_iff.mp k6
  refine ⟨vs, s₁, hlaid, wpR_step (wpAny_nsGet G₁.T.g ?_)⟩
  rw [h1]
  refine wpR_bind (wpR_mono h (fun v s' g => wpR_pure ⟨_, rfl, ?_⟩) fun _ _ q => q)
  have z := g.laid (c := RW.claim) hsame hwi hi L
  exact ⟨z.1, z.2.1, z.2.2, fun q => ⟨namesKept_of hT' hg _ keeps g.2.1.old, noTable (by rfl) q⟩⟩
end Mine
end
section
open PySem PySem.W PyProof.Rows PySem.Calls
set_option maxRecDepth 100000
set_option maxHeartbeats 4000000
set_option linter.unusedVariables false
namespace Mine
noncomputable abbrev HK : Hook := kmHook hd.heap_39 [2,3,6,15,17,18,20,21,22,24,25,27,28,29,31,32,34,35,36,38,39,41,42,43,45,46,48,49,50,52,53,55,56,57,59,60,62,63,64,66,67,69,70,71,73,74,76,77,78,81,82,83,85,86,88,89,90,93,94,95,98,99] (fun _ => id (Eq.refl _)) [44, 37]
theorem top (call : LawR HK) : PySem.Challenge.rw_zx0002_01.Holds := by
  o_law
  rename_i said
  exact holdsR (N := 1066) HK (LeftO.of_pieces (boot_open hd._proof_42 (of_decide_eq_true (id (Eq.refl true))) hd._proof_43) hd._proof_143 hd._proof_141 (of_decide_eq_true (id (Eq.refl true))) fun w => funext fun os => hd._proof_175 w os)
    said (by rfl) (by rfl) (by rfl) hd._proof_40 ⟨rfl, rfl, rfl, rfl, rfl, hd._proof_41⟩ ⟨[.list []], by decide +kernel, by decide +kernel⟩ call
end Mine
end
section
open PySem PySem.W PyProof.Rows PySem.Calls
set_option maxRecDepth 100000
set_option maxHeartbeats 400000
set_option linter.unusedVariables false
namespace Mine
/-! a dict in the making: pairs of ints to pairs of ints -/
noncomputable def tupI (p : List Int) : T := .tup (p.map .int)
noncomputable def FDs (g : View) : List (List Int × List Int) → List (List Int × Addr × Value) → Prop
  | [], ys => ys = []
  | (k, v) :: xs, ys => ∃ a u r, ys = (k, a, u) :: r ∧ Rep g (tupI k) (.ref a) ∧ Rep g (tupI v) u ∧ FDs g xs r
theorem FDs.mono {g g' : View} (h : Sub g g') : ∀ {xs : List (List Int × List Int)} {ys : List (List Int × Addr × Value)}, FDs g xs ys → FDs g' xs ys
  | [], _, e => e
  | (_, _) :: _, _, ⟨a, u, r, e, h1, h2, h3⟩ => ⟨a, u, r, e, h1.mono h, h2.mono h, FDs.mono h h3⟩
theorem FDs.keys {g : View} : ∀ {xs : List (List Int × List Int)} {ys : List (List Int × Addr × Value)}, FDs g xs ys → ys.map (·.1) = xs.map (·.1)
  | [], _, e => by cases e; rfl
  | (_, _) :: _, _, ⟨a, u, r, e, h1, h2, h3⟩ => by subst e; rw [List.map_cons, List.map_cons, h3.keys]
theorem FDs.snoc {g : View} {k v : List Int} {a : Addr} {u : Value} (h1 : Rep g (tupI k) (.ref a)) (h2 : Rep g (tupI v) u) : ∀ {xs : List (List Int × List Int)} {ys : List (List Int × Addr × Value)}, FDs g xs ys → FDs g (xs ++ [(k, v)]) (ys ++ [(k, a, u)])
  | [], _, e => by cases e; exact ⟨a, u, [], rfl, h1, h2, rfl⟩
  | (_, _) :: _, _, ⟨a', u', r, e, h1', h2', h3⟩ => by subst e; exact ⟨a', u', _, rfl, h1', h2', FDs.snoc h1 h2 h3⟩
theorem itemsAre {prog : Program} {w : World} {g : View} : ∀ {k : List Int} {vs : List Value}, RepL g (k.map .int) vs → ItemsAre (intKind prog w) k vs
  | [], vs, h => by rw [repL_nil.mp h]; exact .nil
  | i :: k, vs, h => by
    obtain ⟨v, r, rfl, h1, h2⟩ := repL_cons.mp h
    obtain ⟨t, rfl⟩ := rep_int.mp h1
    exact .cons (by show (i == i) = true; exact beq_self_eq_true i) (itemsAre h2)
theorem isKey {prog : Program} {w : World} {h : Heap} {X : List Addr} {k : List Int} {a : Addr} (r : Rep (hid h X) (tupI k) (.ref a)) : IsTupleKey (intKind prog w) h k a := by
  obtain ⟨b, n, vs, e, hb, hv⟩ := rep_tup.mp r
  cases e
  exact ⟨_, _, n, (hid_some hb).2, rfl, rfl, itemsAre hv⟩
theorem FDs.is {prog : Program} {w : World} {h : Heap} {X : List Addr} : ∀ {xs : List (List Int × List Int)} {ys : List (List Int × Addr × Value)}, FDs (hid h X) xs ys → ∀ x ∈ ys, (tupleKind (intKind prog w)).is h x.1 x.2.1
  | [], _, e, x, hx => by cases e; cases hx
  | (_, _) :: _, _, ⟨a', u', r, e, h1', h2', h3⟩, x, hx => by
    subst e
    rcases List.mem_cons.mp hx with rfl | hx
    · exact isKey h1'
    · exact FDs.is h3 x hx
noncomputable def FD (prog : Program) (w : World) (D : Addr) (xs : List (List Int × List Int)) (X : List Addr) (h : Heap) : Prop :=
  ∃ o es ep ys, h.get? D = some o ∧ o.ExactDict ∧ o.data = .dict es ep ∧ (D == sysModules) = false ∧ es.toList = ys.map (entryOfKey (tupleKind (intKind prog w))) ∧ FDs (hid h X) xs ys ∧ (xs.map (·.1)).Nodup
theorem FD.stab {prog : Program} {w : World} {D : Addr} {xs : List (List Int × List Int)} {S : List Addr} (hD : D ∈ S) : Stab S fun X h => FD prog w D xs X h where
  st := fun X h h' ⟨o, es, ep, ys, a, b, c, d, e, f, g⟩ k => ⟨o, es, ep, ys, k _ _ (.inr hD) a, b, c, d, e, f.mono (hid_in fun b o n e => k b o (.inl n) e), g⟩
  more := fun X I h ⟨o, es, ep, ys, a, b, c, d, e, f, g⟩ hI => ⟨o, es, ep, ys, a, b, c, d, e, f.mono fun b o q => (by
    obtain ⟨h1, h2⟩ := hid_some q
    exact hid_of (fun m => (List.mem_cons.mp m).elim (fun e => by rw [e, hI] at h2; cases h2) h1) h2), g⟩
  less := fun X Y h k ⟨o, es, ep, ys, a, b, c, d, e, f, g⟩ => ⟨o, es, ep, ys, a, b, c, d, e, f.mono fun b o q => (by
    obtain ⟨h1, h2⟩ := hid_some q
    exact hid_of (fun m => h1 (k _ m)) h2), g⟩
section
variable {prog : Program} {w : World} {G : Glb} {A : Around} {env : Env} {ρ ρ' : Bnd}
theorem dict0New {pos : Pos} (hb : BigK G) {X : List Addr} {s : Shared} (b : Bd X s.heap) (r : EnvR G env ρ X s.heap) :
    wpAny (model prog w) A (eval (.Dict [] [] pos) env) (fun v s' => ∃ D, v = .ref D ∧ s.heap.get? D = none ∧ FD prog w D [] (D :: X) s'.heap ∧ Kp s s') NoE s :=
  wpAny_Dict_empty ⟨_, rfl, Heap.get?_none_of_le (Nat.le_refl _), ⟨_, #[], 0, [], Heap.get?_push_size _ rfl, ⟨rfl, rfl, rfl⟩, rfl, r.top.ok.big hb, rfl, rfl, List.nodup_nil⟩, keeps_push s _ _⟩
theorem assignDict {x : Str} {p pos dp : Pos} {X : List Addr} {s : Shared} {Q : Flow → Shared → Prop} (hb : BigK G) (hk : KindOk env x) (f : FrR G env (ownOf env) ρ X s)
    (hQ : ∀ D s', D ∉ X → s.heap.get? D = none → Off env D → FrR G env (ownOf env) (upd ρ x (.ptr D)) (D :: X) s' → KpX (ownOf env) s s' → FD prog w D [] (D :: X) s'.heap → Q .next s')
    (hs : swapsWith (.Dict [] [] dp) (some (.Name x p)) pos.line env = pure false := by rfl) : wpAny (model prog w) A (exec (.Assign [.Name x p] (.Dict [] [] dp) pos) env) Q NoE s :=
  wpAny_Assign_Name (wpAny_mono (dict0New hb f.bd f.r) (fun v s₁ ⟨D, e, hD, hI, k⟩ => by
    subst e
    have hDX : D ∉ X := fun m => by obtain ⟨o, e⟩ := f.bd D m; rw [hD] at e; cases e
    have off := f.r.fresh hD
    have f1 := f.hide k hD (by obtain ⟨o, _, _, _, a, _⟩ := hI; exact ⟨_, a⟩)
    refine f1.store (t := .ptr D) (rep_ptr.mpr rfl) hk.own fun s' f' k' => hQ D s' hDX hD off f' (k.x.trans k') ?_
    exact (FD.stab (S := [D]) List.mem_cons_self).kpx hI k' f1.own fun a ha m => hDX (List.mem_singleton.mp m ▸ f.own a ha)) fun _ _ q => q.elim) hs

theorem storeD {Tb : List Addr → Heap → Prop} (tb : TbOK Tb) (stb : Stab TY Tb) {x : Str} {xp pos cp sp : Pos} {fe e value : PySem.Expr} {es : List PySem.Expr} {ts : List T} {k v : List Int} {D a : Addr} {xs : List (List Int × List Int)} {o : Obj} {fd : FuncData} {X : List Addr} {s : Shared} {Q : Flow → Shared → Prop}
    (f : FrR G env (ownOf env) ρ X s) (hTY : ∀ a ∈ TY, a ∈ X) (t : Tb X s.heap) (hD : D ∈ X) (hDT : D ∉ TY) (off : Off env D) (hF : FD prog w D xs X s.heap)
    (hv : Ev prog w G A env ρ value (tupI v)) (hx : Ev prog w G A env ρ (.Name x xp) (.ptr D))
    (hf : EvV prog w G A env ρ fe (.ref a)) (hs : EvL prog w G A env ρ (e :: es) ts) (hk : G.K.lookup a = some o) (hd : o.data = .func fd) (hc : CallZ prog w G A Tb (.ref a) ts (tupI k))
    (hnew : k ∉ xs.map (·.1)) (hu : A.units + 1 < cLine) (hz : xs.length ≤ 1000)
    (hQ : ∀ s', FrR G env (ownOf env) ρ X s' → KpX (D :: TY) s s' → Tb X s'.heap → FD prog w D (xs ++ [(k, v)]) X s'.heap → Q .next s')
    (he : starEach (e :: es) env = (false, eval e env) :: starEach es env := by rfl)
    (hcl : eval (.Call fe (e :: es) [] cp) env = (do callWith cp (← eval fe env) [] (backTo cp (starEach (e :: es) env)) (backToKw cp (keywordEach [] env))) := by rfl)
    (hsw : swapsWith value (some (.Subscript (.Name x xp) (.Call fe (e :: es) [] cp) sp)) pos.line env = pure false := by rfl) :
    wpAny (model prog w) A (exec (.Assign [.Subscript (.Name x xp) (.Call fe (e :: es) [] cp) sp] value pos) env) Q NoE s :=
  wpAny_Assign_Subscript (hv.use f.bd f.r fun u s₁ g1 k1 b1 r1 => hx.use b1 r1 fun p s₂ g2 k2 b2 r2 =>
    Call_ (hf.use b2 r2 fun s₃ k3 b3 r3 => callWith_def_at (r3.top.ok.k a o hk) hd (hs.use b3 r3 fun vs s₄ h4 k4 b4 r4 => ⟨r4.top.ok.k a o hk, by
      have kk := ((k1.trans k2).trans k3).trans k4
      refine wpAny_mono (hc X s₄ vs b4 r4.top hTY (stb.kp t kk) h4) (fun j s₅ ⟨hj, k5, t5⟩ => ?_) fun _ _ q => q
      rw [rep_ptr.mp g2]
      have f5 := (f.kp kk).kpx k5 hTY (tb.off (stb.kp t kk) r4) fun a ha => let ⟨ps, e⟩ := tb.has X _ t5 a ha; ⟨_, e⟩
      have hF5 : FD prog w D xs X s₅.heap := (FD.stab (S := [D]) List.mem_cons_self).kpx ((FD.stab (S := [D]) List.mem_cons_self).kp hF kk) k5 hTY fun a ha m => hDT (List.mem_singleton.mp m ▸ ha)
      have g5 : Rep (hid s₅.heap X) (tupI v) u := (g1.mono (hid_keeps ((k2.trans k3).trans k4).keep)).kpx k5 hTY
      obtain ⟨oD, es', ep, ys, hoD, hex, hdD, hsys, hes, hFs, hnd⟩ := hF5
      obtain ⟨c, n, zs, rfl, hc', hzs⟩ := rep_tup.mp hj
      have hm : s₅.heap.DictOfH (tupleKind (intKind prog w)) D ys := ⟨oD, es', ep, hoD, hex, hdD, hes, hFs.is, by rw [hFs.keys]; exact hnd⟩
      have hlen : ys.length = xs.length := by have := congrArg List.length hFs.keys; simpa using this
      refine wpAny_setItem_heap (knd := tupleKind (intKind prog w)) (xs := ys) (k := k) hu (isKey hj) hm (fun h' hm' hs' => ?_) (by rw [sizeLine_eq]; omega)
      have hat : atKey ys k = none := atKey_none_of_get fun j p hp => hnew (by
        rw [← hFs.keys]
        exact List.mem_map.mpr ⟨_, List.mem_of_getElem? hp, rfl⟩)
      rw [storedH_new hat] at hm'
      have kb : ∀ b o, b ∉ ([D] : List Addr) → s₅.heap.get? b = some o → h'.get? b = some o := fun b o n e => hs'.extBut b o (by simpa using n) e
      obtain ⟨o', es'', ep', ho', hex', hd', hes'', _, _⟩ := hm'
      have sub : Sub (hid s₅.heap X) (hid h' X) := hid_in fun b o n e => kb b o (fun q => n (List.mem_singleton.mp q ▸ hD)) e
      refine hQ _ (f5.other (h' := h') (tk := _) hD off kb ⟨_, ho'⟩) ((kk.x.trans (k5.more fun a ha => List.mem_cons_of_mem _ ha)).trans ⟨⟨_, _, rfl⟩, fun b o n e => kb b o (fun q => n (List.mem_singleton.mp q ▸ List.mem_cons_self)) e⟩) ?_ ⟨o', es'', ep', _, ho', hex', hd', hsys, hes'', (hFs.mono sub).snoc (hj.mono sub) (g5.mono sub), ?_⟩
      · exact stb.kpx (s := s₅) (s' := { s₅ with heap := h', toks := s₅.toks + (tupleKind (intKind prog w)).draws k }) t5 ⟨⟨_, _, rfl⟩, kb⟩ (fun a ha => List.mem_singleton.mp ha ▸ hD) fun a ha m => hDT (List.mem_singleton.mp ha ▸ m)
      · rw [List.map_append]
        refine List.nodup_append.mpr ⟨hnd, by simp, ?_⟩
        intro p hp q hq e
        rw [List.mem_singleton.mp (by simpa using hq : q ∈ [k])] at e
        exact hnew (e ▸ hp)⟩) he) hcl) hsw
end
end Mine
end
section
open PySem PySem.W PyProof.Rows PySem.Calls
set_option maxRecDepth 100000
set_option maxHeartbeats 400000
set_option linter.unusedVariables false
namespace Mine
/-- a dict of any keys, by its entries -/
noncomputable def ED (h : Heap) (d : Addr) (es : Array DictEntry) (ep : Nat) : Prop := ∃ o, h.get? d = some o ∧ o.ExactDict ∧ o.data = .dict es ep
theorem ED.ty {s : Shared} {d : Addr} {es : Array DictEntry} {ep : Nat} (x : ED s.heap d es ep) : s.TypeIs (.ref d) "dict" := let ⟨o, a, b, _⟩ := x; ⟨o, a, b.1⟩
section
variable {prog : Program} {w : World} {A : Around} {E : Value → Shared → Prop} {s : Shared} {d it : Addr} {es : Array DictEntry} {ep i : Nat}


/-- an iterator over its keys -/
theorem edIter {Q : Value → Shared → Prop} (hd : (d == sysModules) = false) (hm : ED s.heap d es ep)
    (hQ : Q (.ref s.heap.objs.size) { s with heap := s.heap.push { cls := .type "dict_keyiterator", data := .fields #[.ref d, .int 0 0, .int es.size 0, .int ep 0] } }) :
    wpAny (model prog w) A (pyIter (.ref d)) Q E s := by
  have hT := hm.ty
  obtain ⟨o, ho, hx, hdat⟩ := hm
  refine wpAny_pyIter_slot hT F.slot_dict_iter (wpAny_call_entry F.slot_dict_iter hT F.entry_dict_iter ?_ (F.args_dict_iter_1 _))
  unfold Builtin.«dict.__iter__»
  refine wpAny_bind ?_
  unfold Builtin.Dict.dictSlotNone
  refine wpAny_bind (wpAny_notOrdered_dict hT (wpAny_pure ?_))
  show wpAny _ _ (Builtin.Dict.showsAll d >>= _) _ _ s
  unfold Builtin.Dict.showsAll
  rw [if_neg (by rw [hd]; exact Bool.false_ne_true)]
  refine wpAny_bind (wpAny_pure (wpAny_bind (wpAny_dictEntries ho hdat (wpAny_bind (wpAny_dictEpoch ho hdat ?_)))))
  exact wpAny_bind (wpAny_newObj_type (wpAny_pure ⟨_, rfl, "dict_keyiterator", _, ⟨_, Heap.get?_push_size _ rfl, rfl⟩, F.slot_dict_keyiterator_next.lookup, hQ⟩))

/-- what its turn does first -/
theorem keyNext {Q : Option Value → Shared → Prop} (hit : s.heap.IsKeyIter it d i es.size ep) (hm : ED s.heap d es ep) (hlt : i < es.size)
    (hQ : ∀ h', h'.IsKeyIter it d (i + 1) es.size ep → Heap.SameBut it s.heap h' → Q (some es[i].key) { s with heap := h' }) :
    wpAny (model prog w) A (pyNext (.ref it)) Q E s := by
  have hT := hit.typeIs
  obtain ⟨o, ho, hc, hd⟩ := hit
  obtain ⟨od, hod, _, hdd⟩ := hm
  unfold pyNext
  refine wpAny_bind (wpAny_attempt (wpAny_callSpecial?_slot (name := Str.ofString "__next__") hT F.slot_dict_keyiterator_next
    (wpAny_call_entry F.slot_dict_keyiterator_next hT F.entry_dict_keyiterator_next ?_ (F.args_dict_keyiterator_next_1 _))))
  refine wpAny_bind (wpAny_pure (wpAny_bind (wpAny_bind ?_)))
  first | refine wpAny_bind (wpAny_typeNameOfWhole_keyiter hT (wpAny_pure ?_)) | refine wpAny_bind (wpAny_typeNameOf_keyiter hT (wpAny_pure ?_))
  refine wpAny_bind (wpAny_fieldsOf ho hd ?_)
  have hown : Builtin.Dict_items.ownsTuple "dict_keyiterator" = false := by decide
  rw [hown, if_neg Bool.false_ne_true]
  show wpAny _ _ (if (Value.ref d == Value.none) = true then _ else _) _ _ s
  rw [if_neg (show ¬ ((Value.ref d == Value.none) = true) from Bool.false_ne_true)]
  refine wpAny_bind (wpAny_pure (wpAny_bind (wpAny_dictEntries hod hdd ?_)))
  rw [if_neg (by simp)]
  refine wpAny_bind (wpAny_pure (wpAny_bind (wpAny_dictEpoch hod hdd ?_)))
  rw [if_neg (by simp)]
  refine wpAny_pure ?_
  simp only [show ¬ ((i : Int) < 0) from by omega, if_false, Int.toNat_natCast, Array.getElem?_eq_getElem hlt]
  refine wpAny_bind ?_
  first | refine wpAny_bind (wpAny_typeNameOfWhole_keyiter hT (wpAny_pure ?_)) | refine wpAny_bind (wpAny_typeNameOf_keyiter hT (wpAny_pure ?_))
  refine wpAny_bind (wpAny_isOneOf_keyiter hT ?_)
  show wpAny _ _ (setField (.ref it) 1 (rawInt ((i : Int) + 1)) >>= _) _ _ s
  refine wpAny_bind (wpAny_setField ho hd (by simp) ?_)
  have hit' : (s.heap.update it (Obj.mapFields (·.setIfInBounds 1 (rawInt ((i : Int) + 1))))).IsKeyIter it d (i + 1) es.size ep :=
    ⟨_, Heap.get?_update_self _ ho (Obj.isFreed_of_fields (Obj.data_mapFields hd _)), (Obj.cls_mapFields ..).trans hc, by rw [Obj.data_mapFields hd]; simp [rawInt]⟩
  refine wpAny_bind (wpAny_holding (wpAny_bind (wpAny_isOneOf_keyiter (s := { s with heap := s.heap.update it (Obj.mapFields (·.setIfInBounds 1 (rawInt ((i : Int) + 1)))) }) hit'.typeIs ?_)))
  show wpAny _ _ (pure es[i].key) _ _ _
  exact wpAny_pure (wpAny_pure ⟨_, rfl, wpAny_pure (hQ _ hit' (Heap.SameBut.update ..))⟩)

theorem keyEnd {Q : Option Value → Shared → Prop} (hh : A.handled = none) (hit : s.heap.IsKeyIter it d i es.size ep) (hm : ED s.heap d es ep) (hge : es.size ≤ i)
    (hQ : ∀ h', Heap.ExtBut it s.heap h' → Q none { s with heap := h' }) : wpAny (model prog w) A (pyNext (.ref it)) Q E s := by
  have hT := hit.typeIs
  obtain ⟨o, ho, hc, hd⟩ := hit
  obtain ⟨od, hod, _, hdd⟩ := hm
  unfold pyNext
  refine wpAny_bind (wpAny_attempt (wpAny_callSpecial?_slot (name := Str.ofString "__next__") hT F.slot_dict_keyiterator_next
    (wpAny_call_entry F.slot_dict_keyiterator_next hT F.entry_dict_keyiterator_next ?_ (F.args_dict_keyiterator_next_1 _))))
  refine wpAny_bind (wpAny_pure (wpAny_bind (wpAny_bind ?_)))
  first | refine wpAny_bind (wpAny_typeNameOfWhole_keyiter hT (wpAny_pure ?_)) | refine wpAny_bind (wpAny_typeNameOf_keyiter hT (wpAny_pure ?_))
  refine wpAny_bind (wpAny_fieldsOf ho hd ?_)
  have hown : Builtin.Dict_items.ownsTuple "dict_keyiterator" = false := by decide
  rw [hown, if_neg Bool.false_ne_true]
  show wpAny _ _ (if (Value.ref d == Value.none) = true then _ else _) _ _ s
  rw [if_neg (show ¬ ((Value.ref d == Value.none) = true) from Bool.false_ne_true)]
  refine wpAny_bind (wpAny_pure (wpAny_bind (wpAny_dictEntries hod hdd ?_)))
  rw [if_neg (by simp)]
  refine wpAny_bind (wpAny_pure (wpAny_bind (wpAny_dictEpoch hod hdd ?_)))
  rw [if_neg (by simp)]
  refine wpAny_pure ?_
  simp only [show ¬ ((i : Int) < 0) from by omega, if_false, Int.toNat_natCast, Array.getElem?_eq_none hge]
  refine wpAny_bind ?_
  first | refine wpAny_bind (wpAny_typeNameOfWhole_keyiter hT (wpAny_pure ?_)) | refine wpAny_bind (wpAny_typeNameOf_keyiter hT (wpAny_pure ?_))
  show wpAny _ _ (setField (.ref it) 0 .none >>= _) _ _ s
  refine wpAny_bind (wpAny_setField ho hd (by simp) ?_)
  show wpAny _ _ (newExc (.type "StopIteration") [] >>= _) _ _ _
  refine wpAny_bind ?_
  unfold newExc newTuple
  refine wpAny_bind (wpAny_newObj_type ?_ (by size_fits))
  refine wpAny_bind (m := firstArgMember _ _) (wpAny_of_eq (a := Value.none) (by first | rfl | (simp only [firstArgMember]; rfl)) ?_)
  refine wpAny_newObj_type ?_ (by size_fits)
  unfold raiseNew
  refine wpAny_bind (wpAny_handled ?_)
  rw [show A.in1.handled = none from hh]
  refine wpAny_bind (wpAny_pure (wpAny_throw ?_))
  refine wpAny_bind (wpAny_isInstance (T := "StopIteration") (b := true) ⟨_, Heap.get?_push_size _ rfl, rfl⟩ isSubtype_stop ?_)
  exact wpAny_pure (hQ _ (((Heap.SameBut.update ..).extBut.push _).push _))

/-- d.items() -/
theorem edItemsM (hd : (d == sysModules) = false) :
    MeetsIn prog w (Builtin.«dict.items» ⟨[.ref d], []⟩) (fun _ R s => (∃ es ep, ED s.heap d es ep) ∧
      R (.ok (.ret (.ref s.heap.objs.size))) { s with heap := s.heap.push { cls := .type "dict_items", data := .fields #[.ref d] } }) :=
  .of_wp fun A R s ⟨⟨es, ep, hm⟩, h⟩ => by
    unfold Builtin.«dict.items»
    refine wpAny_bind ?_
    unfold Builtin.Dict.noArgs
    refine wpAny_bind (wpAny_notOrdered_dict hm.ty ?_)
    show wpAny _ _ (pure d) _ _ s
    refine wpAny_pure ?_
    show wpAny _ _ (Builtin.Dict.showsAll d >>= _) _ _ s
    unfold Builtin.Dict.showsAll
    rw [if_neg (by rw [hd]; exact Bool.false_ne_true)]
    exact wpAny_bind (wpAny_pure (wpAny_bind (wpAny_newObj_type (wpAny_pure ⟨_, rfl, h⟩))))
theorem edItemsIter {v : Addr} {Q : Value → Shared → Prop} (hv : s.heap.IsItemsView v d) (hm : ED s.heap d es ep)
    (hQ : Q (.ref s.heap.objs.size) { s with heap := s.heap.push { cls := .type "dict_itemiterator", data := .fields #[.none, .bool false, .ref d, .int 0 0, .int es.size 0, .int ep 0, .none, .none] } }) :
    wpAny (model prog w) A (pyIter (.ref v)) Q E s := by
  obtain ⟨ov, hov, hcv, hdv⟩ := id hv
  obtain ⟨o, ho, _, hdat⟩ := hm
  refine wpAny_pyIter_slot hv.typeIs F.slot_dict_items_iter (wpAny_call_entry F.slot_dict_items_iter hv.typeIs F.entry_dict_items_iter ?_ (F.args_dict_items_iter_1 _))
  unfold Builtin.«dict_items.__iter__»
  refine wpAny_bind (wpAny_pure (wpAny_bind ?_))
  unfold Builtin.Dict_items.dictOf
  refine wpAny_bind (wpAny_field hov hdv (x := .ref d) rfl (wpAny_pure (wpAny_bind ?_)))
  unfold Builtin.Dict_items.newIterator
  refine wpAny_bind (wpAny_dictEntries ho hdat (wpAny_bind (wpAny_dictEpoch ho hdat ?_)))
  have hown : Builtin.Dict_items.ownsTuple "dict_itemiterator" = true := by decide
  simp only [hown, if_true]
  refine wpAny_newObj_type (wpAny_pure ⟨_, rfl, "dict_itemiterator", _, ⟨_, Heap.get?_push_size _ rfl, rfl⟩, F.slot_dict_itemiterator_next.lookup, ?_⟩)
    (by simp only [sizeOk, Builtin.Dict_items.ownedTupleFields, List.size_toArray, List.length_append, List.length_cons, List.length_nil, sizeLine_eq]; omega)
  simpa [rawInt, Builtin.Dict_items.ownedTupleFields] using hQ

theorem itemNext {ok ov : Value} {Q : Option Value → Shared → Prop} (hit : IsItemIter s.heap it d i es.size ep ok ov) (hm : ED s.heap d es ep) (hlt : i < es.size)
    (hQ : ∀ h', IsItemIterOut h' it d (i + 1) es.size ep es[i].key es[i].val s.heap.objs.size →
      h'.get? s.heap.objs.size = some { cls := .type "tuple", data := .seq #[es[i].key, es[i].val] } → 
      (∀ b o, b ≠ it → s.heap.get? b = some o → h'.get? b = some o) → Q (some (.ref s.heap.objs.size)) { s with heap := h' }) :
    wpAny (model prog w) A (pyNext (.ref it)) Q E s := by
  obtain ⟨hp, g, dr, tk, os⟩ := s
  obtain ⟨od, hod, _, hdd⟩ := hm
  have hT : Shared.TypeIs ⟨hp, g, dr, tk, os⟩ (.ref it) "dict_itemiterator" := ⟨_, hit, rfl⟩
  unfold pyNext
  refine wpAny_bind (wpAny_attempt (wpAny_callSpecial?_slot (name := Str.ofString "__next__") hT F.slot_dict_itemiterator_next
    (wpAny_call_entry F.slot_dict_itemiterator_next hT F.entry_dict_itemiterator_next ?_ (F.args_dict_itemiterator_next_1 _))))
  refine wpAny_bind (wpAny_pure (wpAny_bind (wpAny_bind ?_)))
  first | refine wpAny_bind (wpAny_typeNameOfWhole_itemiter hT (wpAny_pure ?_)) | refine wpAny_bind (wpAny_typeNameOf_itemiter hT (wpAny_pure ?_))
  refine wpAny_bind (wpAny_fieldsOf hit rfl ?_)
  have hown : Builtin.Dict_items.ownsTuple "dict_itemiterator" = true := by decide
  rw [hown, if_pos rfl]
  show wpAny _ _ (if (Value.ref d == Value.none) = true then _ else _) _ _ _
  rw [if_neg (show ¬ ((Value.ref d == Value.none) = true) from Bool.false_ne_true)]
  refine wpAny_bind (wpAny_pure (wpAny_bind (wpAny_dictEntries hod hdd ?_)))
  rw [if_neg (by simp)]
  refine wpAny_bind (wpAny_pure (wpAny_bind (wpAny_dictEpoch hod hdd ?_)))
  rw [if_neg (by simp)]
  refine wpAny_pure ?_
  simp only [show ¬ ((i : Int) < 0) from by omega, if_false, Int.toNat_natCast, Array.getElem?_eq_getElem hlt]
  refine wpAny_bind ?_
  first | refine wpAny_bind (wpAny_typeNameOfWhole_itemiter hT (wpAny_pure ?_)) | refine wpAny_bind (wpAny_typeNameOf_itemiter hT (wpAny_pure ?_))
  refine wpAny_bind (wpAny_isOneOf_itemiter hT ?_)
  show wpAny _ _ (setField (.ref it) 3 (rawInt ((i : Int) + 1)) >>= _) _ _ ⟨hp, g, dr, tk, os⟩
  refine wpAny_bind (wpAny_setField_rec hit (by simp) fun h₁ he₁ hs₁ => ?_)
  replace hs₁ : Heap.SameBut it hp h₁ := hs₁
  replace he₁ : IsItemIter h₁ it d (i + 1) es.size ep ok ov := by
    have e : ((i + 1 : Nat) : Int) = (i : Int) + 1 := by omega
    unfold IsItemIter; rw [e]; simpa [rawInt] using he₁
  have hT₁ : Shared.TypeIs ⟨h₁, g, dr, tk, os⟩ (.ref it) "dict_itemiterator" := ⟨_, he₁, rfl⟩
  refine wpAny_bind (wpAny_holding (wpAny_bind (wpAny_isOneOf_itemiter hT₁ (wpAny_bind (wpAny_isOneOf_itemiter hT₁ ?_)))))
  show wpAny _ _ (Builtin.Dict_items.pairFromOwner (.ref it) 6 es[i].key es[i].val) _ _ ⟨h₁, g, dr, tk, os⟩
  unfold Builtin.Dict_items.pairFromOwner
  refine wpAny_bind (wpAny_newTuple ?_)
  have hz₁ : h₁.objs.size = hp.objs.size := hs₁.1
  have hil : hp.objs.size ≠ it := Nat.ne_of_gt (Heap.lt_size hit)
  have he₂ : IsItemIter (h₁.push { cls := .type "tuple", data := .seq #[es[i].key, es[i].val] }) it d (i + 1) es.size ep ok ov := Heap.get?_push_of_some _ he₁
  generalize hh₂ : h₁.push { cls := .type "tuple", data := .seq #[es[i].key, es[i].val] } = h₂ at he₂
  have ht₂ : h₂.get? hp.objs.size = some { cls := .type "tuple", data := .seq #[es[i].key, es[i].val] } := by rw [← hh₂, ← hz₁]; exact Heap.get?_push_size _ rfl
  have hk₂ : ∀ b o, b ≠ it → hp.get? b = some o → h₂.get? b = some o := fun b o hb e => by rw [← hh₂]; exact Heap.get?_push_of_some _ (hs₁.extBut b o hb e)
  show wpAny _ _ (Builtin.Dict_items.ownedTupleIsFree (.ref it) >>= _) _ _ ⟨h₂, g, dr, tk, os⟩
  rw [hz₁]
  clear hh₂ he₁ hs₁ hT₁ hz₁ h₁
  refine wpAny_bind ?_
  unfold Builtin.Dict_items.ownedTupleIsFree
  refine wpAny_bind (wpAny_field he₂ rfl (x := .none) rfl (wpAny_pure ?_))
  simp only [if_true]
  refine wpAny_bind (wpAny_field he₂ rfl (x := ok) rfl (wpAny_bind (wpAny_field he₂ rfl (x := ov) rfl ?_)))
  refine wpAny_bind (wpAny_setField_rec he₂ (by simp) fun h₃ he₃ hs₃ => ?_)
  replace hs₃ : Heap.SameBut it h₂ h₃ := hs₃
  replace he₃ : IsItemIter h₃ it d (i + 1) es.size ep es[i].key ov := he₃
  refine wpAny_bind (wpAny_setField_rec he₃ (by simp) fun h₄ he₄ hs₄ => ?_)
  replace hs₄ : Heap.SameBut it h₃ h₄ := hs₄
  replace he₄ : IsItemIter h₄ it d (i + 1) es.size ep es[i].key es[i].val := he₄
  refine wpAny_bind (wpAny_setField_rec he₄ (by simp) fun h₅ he₅ hs₅ => ?_)
  replace hs₅ : Heap.SameBut it h₄ h₅ := hs₅
  replace he₅ : IsItemIterOut h₅ it d (i + 1) es.size ep es[i].key es[i].val hp.objs.size := he₅
  refine wpAny_bind (wpAny_setField_rec he₅ (by simp) fun h₆ he₆ hs₆ => ?_)
  replace hs₆ : Heap.SameBut it h₅ h₆ := hs₆
  replace he₆ : IsItemIterOut h₆ it d (i + 1) es.size ep es[i].key es[i].val hp.objs.size := he₆
  have kk : ∀ b o, b ≠ it → h₂.get? b = some o → h₆.get? b = some o := fun b o hb e => hs₆.extBut b o hb (hs₅.extBut b o hb (hs₄.extBut b o hb (hs₃.extBut b o hb e)))
  exact wpAny_bind (wpAny_letGo (wpAny_pure (wpAny_pure ⟨_, rfl, wpAny_pure (hQ h₆ he₆ (kk _ _ hil ht₂) fun b o hb e => kk b o hb (hk₂ b o hb e))⟩)))

theorem itemEnd {ok ov : Value} {Q : Option Value → Shared → Prop} (hh : A.handled = none) (hit : IsItemIter s.heap it d i es.size ep ok ov) (hm : ED s.heap d es ep) (hge : es.size ≤ i)
    (hQ : ∀ h', Heap.ExtBut it s.heap h' → Q none { s with heap := h' }) : wpAny (model prog w) A (pyNext (.ref it)) Q E s := by
  obtain ⟨od, hod, _, hdd⟩ := hm
  have hT : s.TypeIs (.ref it) "dict_itemiterator" := ⟨_, hit, rfl⟩
  unfold pyNext
  refine wpAny_bind (wpAny_attempt (wpAny_callSpecial?_slot (name := Str.ofString "__next__") hT F.slot_dict_itemiterator_next
    (wpAny_call_entry F.slot_dict_itemiterator_next hT F.entry_dict_itemiterator_next ?_ (F.args_dict_itemiterator_next_1 _))))
  refine wpAny_bind (wpAny_pure (wpAny_bind (wpAny_bind ?_)))
  first | refine wpAny_bind (wpAny_typeNameOfWhole_itemiter hT (wpAny_pure ?_)) | refine wpAny_bind (wpAny_typeNameOf_itemiter hT (wpAny_pure ?_))
  refine wpAny_bind (wpAny_fieldsOf hit rfl ?_)
  have hown : Builtin.Dict_items.ownsTuple "dict_itemiterator" = true := by decide
  rw [hown, if_pos rfl]
  show wpAny _ _ (if (Value.ref d == Value.none) = true then _ else _) _ _ s
  rw [if_neg (show ¬ ((Value.ref d == Value.none) = true) from Bool.false_ne_true)]
  refine wpAny_bind (wpAny_pure (wpAny_bind (wpAny_dictEntries hod hdd ?_)))
  rw [if_neg (by simp)]
  refine wpAny_bind (wpAny_pure (wpAny_bind (wpAny_dictEpoch hod hdd ?_)))
  rw [if_neg (by simp)]
  refine wpAny_pure ?_
  simp only [show ¬ ((i : Int) < 0) from by omega, if_false, Int.toNat_natCast, Array.getElem?_eq_none hge]
  refine wpAny_bind ?_
  first | refine wpAny_bind (wpAny_typeNameOfWhole_itemiter hT (wpAny_pure ?_)) | refine wpAny_bind (wpAny_typeNameOf_itemiter hT (wpAny_pure ?_))
  show wpAny _ _ (setField (.ref it) 2 .none >>= _) _ _ s
  refine wpAny_bind (wpAny_setField hit rfl (by simp) ?_)
  show wpAny _ _ (newExc (.type "StopIteration") [] >>= _) _ _ _
  refine wpAny_bind ?_
  unfold newExc newTuple
  refine wpAny_bind (wpAny_newObj_type ?_ (by size_fits))
  refine wpAny_bind (m := firstArgMember _ _) (wpAny_of_eq (a := Value.none) (by first | rfl | (simp only [firstArgMember]; rfl)) ?_)
  refine wpAny_newObj_type ?_ (by size_fits)
  unfold raiseNew
  refine wpAny_bind (wpAny_handled ?_)
  rw [show A.in1.handled = none from hh]
  refine wpAny_bind (wpAny_pure (wpAny_throw ?_))
  refine wpAny_bind (wpAny_isInstance (T := "StopIteration") (b := true) ⟨_, Heap.get?_push_size _ rfl, rfl⟩ isSubtype_stop ?_)
  exact wpAny_pure (hQ _ (((Heap.SameBut.update ..).extBut.push _).push _))
end
end Mine
end
section
open PySem PySem.W PyProof.Rows PySem.Calls
set_option maxRecDepth 100000
set_option maxHeartbeats 400000
set_option linter.unusedVariables false
namespace Mine
section
variable {prog : Program} {w : World} {G : Glb} {A : Around} {env : Env} {ρ ρ' : Bnd}
theorem loopGo {elt target iter c : PySem.Expr} {scope : Scope} {pos : Pos} {it acc : Value} {env : Env} {R : Result → Shared → Prop} {s : Shared} (I : Nat → Shared → Prop)
    (turn : ∀ n s, I n s → wpAny (model prog w) A (pyNext it) (fun r s₁ => match r with
      | none => R (.ok .next) s₁
      | some v => wpAny (model prog w) A (letOwnedTupleGo target it v) (fun _ s₀ => wpAny (model prog w) A (assign target env v) (fun _ s₂ =>
          wpAny (model prog w) A (isTrue c env (eval c env)) (fun ok s₃ => ok = false ∧ ∃ m, m < n ∧ I m s₃) NoE s₂) NoE s₀) NoE s₁) NoE s)
    (n : Nat) (h : I n s) : codeAny (model prog w) A (.compLoop (.ListComp elt [⟨target, iter, [c], 0⟩] scope pos) 0 it acc env) R s := by
  refine codeAny_loop rfl I (fun n s hI => ?_) n h
  show wpAny _ A ((compTurn (.ListComp elt [⟨target, iter, [c], 0⟩] scope pos) 0 it acc env).onRaise (fun x => do noteFrame x env; theTreesLotGoes x)) _ _ s
  refine wpAny_noted ?_
  rw [compTurn_list]
  refine wpAny_bind (wpAny_standAt (wpAny_bind (wpAny_mono (turn n s hI) (fun r s₁ h₁ => ?_) fun _ _ q => q.elim)))
  cases r with
  | none => exact wpAny_pure h₁
  | some v =>
    refine wpAny_bind (wpAny_mono h₁ (fun _ s₀ h₀ => wpAny_bind (wpAny_mono h₀ (fun _ s₂ h₂ => wpAny_bind (wpAny_mono (wpAny_tests_one h₂) (fun ok s₃ h₃ => ?_) fun _ _ q => q.elim)) fun _ _ q => q.elim)) fun _ _ q => q.elim)
    obtain ⟨rfl, h₃⟩ := h₃
    exact wpAny_pure ⟨rfl, h₃⟩

theorem assign2 {E : Value → Shared → Prop} {O X : List Addr} {s : Shared} {a b : Str} {pa pb tp : Pos} {kk : Nat} {t0 t1 : T} {v : Value} {Q : Unit → Shared → Prop} (f : FrR G env O ρ X s) (hh : A.handled = none) (hv : Rep (hid s.heap X) (.tup [t0, t1]) v)
    (ha : env.kindOf a = some .local) (hb : env.kindOf b = some .local) (hO : env.locals ∈ O) (hQ : ∀ s', FrR G env O (upd (upd ρ a t0) b t1) X s' → KpX O s s' → Q () s') :
    wpAny (model prog w) A (assign (.Tuple [.Name a pa, .Name b pb] kk tp) env v) Q E s := by
  obtain ⟨T', n, vs, rfl, hT, hvs⟩ := rep_tup.mp hv
  obtain ⟨x, r, rfl, hx, hr⟩ := repL_cons.mp hvs
  obtain ⟨y, r', rfl, hy, hr'⟩ := repL_cons.mp hr
  obtain rfl := repL_nil.mp hr'
  refine wpAny_assign_Tuple hh (items := #[x, y]) ⟨_, (hid_some hT).2, rfl, n, rfl⟩ rfl rfl fun h' hx' => ?_
  have k2 : Kp s { s with heap := h' } := ⟨⟨_, _, rfl⟩, fun b o e => hx' b o (Nat.ne_of_lt (Heap.lt_size e)) e⟩
  show wpAny _ _ (assignInOrder [assign (.Name a pa) env, assign (.Name b pb) env] [x, y]) _ _ _
  refine assignInOrder_cons (wpAny_assign_Name ((f.kp k2).store (hx.mono (hid_keeps k2.keep)) (.inl ⟨ha, hO⟩) fun s₁ f₁ k₁ => ?_))
  refine assignInOrder_cons (wpAny_assign_Name (f₁.store (Rep.kpx (hy.mono (hid_keeps k2.keep)) k₁ f.own) (.inl ⟨hb, hO⟩) fun s₂ f₂ k₃ => ?_))
  exact assignInOrder_nil (hQ s₂ f₂ (k2.x.trans (k₁.trans k₃)))

theorem startSelf {elt target iter c : PySem.Expr} {scope : Scope} {pos : Pos} {I D : Addr} {i n ep : Nat} {ok ov acc : Value} {env : Env} {R : Result → Shared → Prop} {s : Shared} (hit : IsItemIter s.heap I D i n ep ok ov)
    (h0 : codeAny (model prog w) A (.compLoop (.ListComp elt [⟨target, iter, [c], 0⟩] scope pos) 0 (.ref I) acc env) R s) :
    codeAny (model prog w) A (.compStart (.ListComp elt [⟨target, iter, [c], 0⟩] scope pos) 0 (.ref I) acc env) R s := codeAny_compStart_list h0 (kcp_self hit h0)
theorem FDs.get {g : View} : ∀ {xs : List (List Int × List Int)} {ys : List (List Int × Addr × Value)}, FDs g xs ys → ∀ {i : Nat}, i < xs.length → ∃ k v a u, xs[i]? = some (k, v) ∧ ys[i]? = some (k, a, u) ∧ Rep g (tupI k) (.ref a) ∧ Rep g (tupI v) u
  | [], _, _, i, h => by simp at h
  | (k, v) :: xs, _, ⟨a, u, r, e, h1, h2, h3⟩, 0, _ => by subst e; exact ⟨k, v, a, u, rfl, rfl, h1, h2⟩
  | (_, _) :: xs, _, ⟨a, u, r, e, h1, h2, h3⟩, i + 1, h => by
    subst e
    obtain ⟨k, v, a, u, e1, e2, r⟩ := h3.get (i := i) (by simpa using h)
    exact ⟨k, v, a, u, by simpa using e1, by simpa using e2, r⟩
/-- [elt for (a, b), (row, column) in d.items() if c] when c never holds -/
theorem compItems0 {d a b x y : Str} {dp ap cp pa pb px py tp tp1 tp2 pos : Pos} {n0 n1 n2 : Nat} {elt c : PySem.Expr} {scope : Scope} {pl : Sem Bool} {D : Addr} {xs : List (List Int × List Int)} {X : List Addr} {s : Shared}
    (hb : Bd X s.heap) (r : EnvR G env ρ X s.heap) (hh : A.handled = none) (hD : D ∈ X) (hF : FD prog w D xs X s.heap) (hz : xs.length ≤ 1000) (hρ : ρ d = some (.ptr D))
    (k : CompOK scope env) (ha : scope.names.lookup a = some .local) (hb' : scope.names.lookup b = some .local) (hx : scope.names.lookup x = some .local) (hy : scope.names.lookup y = some .local)
    (hxs : ∀ p ∈ xs, ∃ i j k l, p = ([i, j], [k, l]) ∧ ∀ C, Tst prog w G A (cEnv scope (clo scope env) C env) (Mine.upd (Mine.upd (Mine.upd (Mine.upd (restr scope ρ) a (.int i)) b (.int j)) x (.int k)) y (.int l)) c false)
    (he : eval (.Call (.Attribute (.Name d dp) (Str.ofString "items") ap) [] [] cp) env = (do
      let ov ← eval (.Name d dp) env
      standAt ap.atName
      let (f, first) ← holding [ov] (getMethod ov (Str.ofString "items") pl)
      callWith cp f first (backTo cp (starEach [] env)) []) := by rfl)
    (hs : ∀ x, foldedSetIterable (.Call (.Attribute (.Name d dp) (Str.ofString "items") ap) [] [] cp) env x = pure x := by intro _; rfl)
    (hd : (d == ("__debug__" : Str)) = false := by decide) (hc : (d == ("__classdict__" : Str)) = false := by decide) :
    wpAny (model prog w) A (eval (.ListComp elt [⟨.Tuple [.Tuple [.Name a pa, .Name b pb] n0 tp, .Tuple [.Name x px, .Name y py] n1 tp1] n2 tp2, .Call (.Attribute (.Name d dp) (Str.ofString "items") ap) [] [] cp, [c], 0⟩] scope pos) env)
      (fun v s' => Rep (hid s'.heap X) (.lst []) v ∧ Kp s s') NoE s := by
  rw [eval_ListComp]
  refine wpAny_comprehension_free (use := none) rfl hs (closureFor_clo k.free) k.kind (fun y hy hl => by rw [k.at hy, hl]) ?_
  refine MethodCall_ ((Ev.name (ρ := ρ) (x := d) hρ hd hc).use hb r fun v s₁ h1 k1 b1 r1 => ?_) he
  rw [rep_ptr.mp h1]
  obtain ⟨o, es, ep, ys, hoD, hex, hdat, hsys, hes, hfs, hnd⟩ := (FD.stab (S := [D]) List.mem_cons_self).kp hF k1
  have hE : ED s₁.heap D es ep := ⟨o, hoD, hex, hdat⟩
  have hlen : es.size = xs.length := by
    have h2 := congrArg List.length hfs.keys
    rw [← Array.length_toList, hes]; simpa using h2
  refine getMethod_builtin hE.ty PySem.F.plainAttrs_dict PySem.F.slot_dict_items PySem.F.type_dict_items (fun b e => by cases e; exact ⟨_, hoD, hex.2.1⟩) (callWith_method0 ?_)
  refine call_meetsIn PySem.F.slot_dict_items hE.ty PySem.F.entry_dict_items (PySem.F.args_dict_items_1 _) (edItemsM hsys) ⟨⟨es, ep, hE⟩, ?_⟩
  generalize hg : s₁.heap.push { cls := .type "dict_items", data := .fields #[.ref D] } = g
  have kg : ∀ b o, s₁.heap.get? b = some o → g.get? b = some o := fun b o e => hg ▸ Heap.get?_push_of_some _ e
  have hv : g.IsItemsView s₁.heap.objs.size D := ⟨_, hg ▸ Heap.get?_push_size _ rfl, rfl, rfl⟩
  have hEg : ED g D es ep := ⟨o, kg _ _ hoD, hex, hdat⟩
  have hgz : s₁.heap.objs.size ≤ g.objs.size := by rw [← hg, Heap.size_push]; omega
  refine edItemsIter (s := { s₁ with heap := g }) hv hEg ?_
  dsimp only
  generalize hi : g.push { cls := .type "dict_itemiterator", data := .fields #[.none, .bool false, .ref D, .int 0 0, .int es.size 0, .int ep 0, .none, .none] } = g2
  have kg2 : ∀ b o, s₁.heap.get? b = some o → g2.get? b = some o := fun b o e => hi ▸ Heap.get?_push_of_some _ (kg b o e)
  have hit : IsItemIter g2 g.objs.size D 0 es.size ep .none .none := hi ▸ Heap.get?_push_size _ rfl
  have hIn : s.heap.get? g.objs.size = none := by
    cases q : s.heap.get? g.objs.size with
    | none => rfl
    | some o => exact absurd (Heap.lt_size (k1.keep _ _ q)) (Nat.not_lt.mpr hgz)
  have hI1 : s₁.heap.get? g.objs.size = none := Heap.get?_none_of_le hgz
  generalize hIg : g.objs.size = I at hit hIn hI1
  clear hi hIg hgz hEg hv kg hg
  have kA : Kp s { s₁ with heap := g2 } := k1.trans ⟨⟨_, _, rfl⟩, kg2⟩
  have hIX : I ∉ X := fun m => by obtain ⟨o, e⟩ := hb I m; rw [hIn] at e; cases e
  -- the list, the frame
  refine wpAny_newObj_type ?_
  dsimp only
  generalize hH2 : g2.push { cls := .type "list", dict := none, data := .seq ([] : List Value).toArray } = H2
  refine newEnv_comp (s := { s₁ with heap := H2 }) fun h₁ up hn hc => ?_
  dsimp only at up hn hc ⊢
  have hC : H2.objs.size = g2.objs.size + 1 := by rw [← hH2, Heap.size_push]
  have up2 : ∀ b o, g2.get? b = some o → H2.get? b = some o := fun b o e => hH2 ▸ Heap.get?_push_of_some _ e
  have hD2 : H2.get? g2.objs.size = some (lstO [] 0) := by rw [← hH2]; exact Heap.get?_push_size _ rfl
  generalize hDd : g2.objs.size = L at hC hD2 ⊢
  generalize hCc : H2.objs.size = C at hC hn hc ⊢
  have noneL : g2.get? L = none := Heap.get?_none_of_le (Nat.le_of_eq hDd)
  have noneC : g2.get? C = none := Heap.get?_none_of_le (by omega)
  have nos : ∀ a, g2.get? a = none → s.heap.get? a = none := fun a ha => by
    cases q : s.heap.get? a with
    | none => rfl
    | some o => have := kA.keep _ _ q; rw [show g2.get? a = some o from this] at ha; cases ha
  have noX : ∀ a, g2.get? a = none → a ∉ X := fun a ha hm => by obtain ⟨o, e⟩ := hb a hm; rw [nos a ha] at e; cases e
  have noI : ∀ a, g2.get? a = none → a ≠ I := fun a ha e => by rw [e, hit] at ha; cases ha
  have hO : ∀ a ∈ cOwn scope C, g2.get? a = none := fun a ha => by
    rcases List.mem_cons.mp ha with rfl | ha
    · exact noneC
    · obtain ⟨⟨y, c⟩, hm, rfl⟩ := List.mem_map.mp ha
      exact Heap.get?_none_of_le (by have := (hc.empty y c hm).2; omega)
  have hLO : L ∉ cOwn scope C := fun ha => by
    rcases List.mem_cons.mp ha with e | ha
    · omega
    · obtain ⟨⟨y, c⟩, hm, e⟩ := List.mem_map.mp ha
      have := (hc.empty y c hm).2; have e' : c = L := e; omega
  have ups : ∀ b o, s.heap.get? b = some o → h₁.get? b = some o := fun b o e => up b o (up2 b o (kA.keep b o e))
  have r2 : EnvR G env ρ X g2 := r.keeps kA.keep
  have offI : Off (cEnv scope (clo scope env) C env) I := ⟨(noI C noneC), fun n c e => by
    rcases k.cases e with h | ⟨_, h⟩
    · exact noI c (hO c (List.mem_cons_of_mem _ (List.mem_map.mpr ⟨_, mem_of_lookup' h, rfl⟩)))
    · exact (r.fresh hIn).cel n c h⟩
  have hIL : ∀ y ∈ [L, I], s.heap.get? y = none := fun y hy => by
    rcases List.mem_cons.mp hy with rfl | hy
    · exact nos _ noneL
    · rw [List.mem_singleton.mp hy]; exact hIn
  have b3 : Bd ([L, I] ++ X) H2 := fun a ha => by
    rcases List.mem_append.mp ha with ha | ha
    · rcases List.mem_cons.mp ha with rfl | ha
      · exact ⟨_, hD2⟩
      · rw [List.mem_singleton.mp ha]; exact ⟨_, up2 _ _ hit⟩
    · exact hb.keeps (fun b o e => up2 b o (kA.keep b o e)) a ha
  have r3 : EnvR G env ρ ([L, I] ++ X) H2 := (r.more (Y := [L, I]) fun y hy => .inr (hIL y hy)).keeps fun b o e => up2 b o (kA.keep b o e)
  have f : FrR G (cEnv scope (clo scope env) C env) (cOwn scope C) (restr scope ρ) (cOwn scope C ++ ([L, I] ++ X)) { s₁ with heap := h₁ } :=
    FrR.comp (s := { s₁ with heap := H2 }) k b3 r3 (Nat.le_of_eq hCc) up s₁.toks hn hc
  have mI : I ∈ cOwn scope C ++ ([L, I] ++ X) := List.mem_append_right _ (List.mem_append_left _ (List.mem_cons_of_mem _ List.mem_cons_self))
  have mX : ∀ a ∈ X, a ∈ cOwn scope C ++ ([L, I] ++ X) := fun a ha => List.mem_append_right _ (List.mem_append_right _ ha)
  have hDO : D ∉ cOwn scope C := fun m => by have := hO D m; rw [kg2 _ _ hoD] at this; cases this
  have hDI : D ≠ I := fun e => hIX (e ▸ hD)
  have hIO : I ∉ cOwn scope C := fun m => noI I (hO I m) rfl
  have hLI : L ≠ I := noI L noneL
  have subX : ∀ a o, hid s₁.heap X a = some o → hid h₁ (cOwn scope C ++ ([L, I] ++ X)) a = some o := fun a o e => by
    obtain ⟨h1, h2⟩ := hid_some e
    have hg : g2.get? a = some o := kg2 _ _ h2
    refine hid_of (fun m => ?_) (up _ _ (up2 _ _ hg))
    rcases List.mem_append.mp m with m | m
    · rw [hO a m] at hg; cases hg
    · rcases List.mem_append.mp m with m | m
      · rcases List.mem_cons.mp m with rfl | m
        · rw [noneL] at hg; cases hg
        · rw [List.mem_singleton.mp m, hI1] at h2; cases h2
      · exact h1 m
  have hit1 : IsItemIter h₁ I D 0 es.size ep .none .none := up _ _ (up2 _ _ hit)
  refine startSelf (s := { s₁ with heap := h₁ }) hit1 ?_
  have hYX : ∀ a ∈ I :: cOwn scope C, a ∈ cOwn scope C ++ ([L, I] ++ X) := fun a ha => by
    rcases List.mem_cons.mp ha with rfl | ha
    · exact mI
    · exact List.mem_append_left _ ha
  have kin : ∀ n, scope.names.lookup n = some .local → (cEnv scope (clo scope env) C env).kindOf n = some .local := fun n h => cEnv_kind_ne h (by decide)
  have rno : ∀ n, scope.names.lookup n = some .local → restr scope ρ n = none := fun n h => by unfold restr; rw [h]; rfl
  refine loopGo (env := cEnv scope (clo scope env) C env) (fun n s' => ∃ i ok ov, i ≤ es.size ∧ n = es.size + 1 - i ∧ FrR G (cEnv scope (clo scope env) C env) (cOwn scope C) (restr scope ρ) (cOwn scope C ++ ([L, I] ++ X)) s' ∧ IsItemIter s'.heap I D i es.size ep ok ov ∧
    KpX (I :: cOwn scope C) { s₁ with heap := h₁ } s') ?_ (es.size + 1) ⟨0, _, _, Nat.zero_le _, rfl, f, hit1, .refl _⟩
  rintro n s' ⟨i, ok, ov, hi, rfl, f', hit', k'⟩
  have hE' : ED s'.heap D es ep := ⟨o, k'.keep _ _ (fun m => (List.mem_cons.mp m).elim hDI hDO) (up _ _ (up2 _ _ (kg2 _ _ hoD))), hex, hdat⟩
  by_cases hlt : i < es.size
  · refine itemNext hit' hE' hlt fun h2 hout htt hk2 => ?_
    refine wpAny_letOwnedTupleGo_items (s := { s' with heap := h2 }) hout fun h3 hit3 hs3 => ?_
    have hTI : s'.heap.objs.size ≠ I := Nat.ne_of_gt (Heap.lt_size hit')
    have kk3 : ∀ b o, b ∉ ([I] : List Addr) → s'.heap.get? b = some o → h3.get? b = some o := fun b o n e => hs3.extBut b o (by simpa using n) (hk2 b o (by simpa using n) e)
    have f3 : FrR G (cEnv scope (clo scope env) C env) (cOwn scope C) (restr scope ρ) (cOwn scope C ++ ([L, I] ++ X)) { s' with heap := h3, toks := s'.toks } := f'.other mI offI kk3 ⟨_, hit3⟩
    have k3 : KpX (I :: cOwn scope C) { s₁ with heap := h₁ } { s' with heap := h3, toks := s'.toks } := k'.other (tk := s'.toks) List.mem_cons_self kk3
    have htt3 := hs3.extBut _ _ hTI htt
    obtain ⟨ki, vi, ai, ui, hxi, hyi, r1', r2'⟩ := hfs.get (i := i) (by omega)
    have hei : es[i] = entryOfKey (tupleKind (intKind prog w)) (ki, ai, ui) := by
      have e1 : es.toList[i]? = some (entryOfKey (tupleKind (intKind prog w)) (ki, ai, ui)) := by rw [hes, List.getElem?_map, hyi]; rfl
      rw [Array.getElem?_toList, Array.getElem?_eq_getElem hlt] at e1
      exact Option.some.inj e1
    rw [hei] at htt3 hit3
    obtain ⟨i1, j1, k1', l1, hp, htst⟩ := hxs _ (List.mem_of_getElem? hxi)
    obtain ⟨rfl, rfl⟩ := Prod.mk.inj hp
    refine wpAny_assign_Tuple (s := { s' with heap := h3 }) hh (items := #[.ref ai, ui]) ⟨_, htt3, rfl, 0, rfl⟩ rfl rfl fun h4 hx4 => ?_
    have k4 : Kp { s' with heap := h3, toks := s'.toks } { s' with heap := h4, toks := s'.toks } := ⟨⟨_, _, rfl⟩, fun b o e => hx4 b o (Nat.ne_of_lt (Heap.lt_size e)) e⟩
    have kx4 := k3.trans k4.x
    have rk := Rep.kpx (s := { s₁ with heap := h₁ }) (r1'.mono subX) kx4 hYX
    have rv := Rep.kpx (s := { s₁ with heap := h₁ }) (r2'.mono subX) kx4 hYX
    show wpAny _ _ (assignInOrder [assign (.Tuple [.Name a pa, .Name b pb] n0 tp) (cEnv scope (clo scope env) C env), assign (.Tuple [.Name x px, .Name y py] n1 tp1) (cEnv scope (clo scope env) C env)] [.ref ai, ui]) _ _ _
    refine assignInOrder_cons (assign2 (f3.kp k4) hh (t0 := .int i1) (t1 := .int j1) rk (kin a ha) (kin b hb') List.mem_cons_self fun s5 f5 k5 => ?_)
    refine assignInOrder_cons (assign2 f5 hh (t0 := .int k1') (t1 := .int l1) (Rep.kpx rv k5 f5.own) (kin x hx) (kin y hy) List.mem_cons_self fun s6 f6 k6 => assignInOrder_nil ?_)
    refine wpAny_mono (htst C _ s6 f6.bd f6.r) (fun ok' s7 ⟨e7, k7⟩ => ⟨e7, es.size + 1 - (i + 1), ?_, i + 1, (entryOfKey (tupleKind (intKind prog w)) ([i1, j1], ai, ui)).key, (entryOfKey (tupleKind (intKind prog w)) ([i1, j1], ai, ui)).val, hlt, rfl, (f6.kp k7).weaken ?_, ?_, ?_⟩) fun _ _ q => q
    · omega
    · exact (BSub.refl _).skip _ _ (rno a ha) |>.skip _ _ (rno b hb') |>.skip _ _ (rno x hx) |>.skip _ _ (rno y hy)
    · exact k7.keep _ _ (k6.keep _ _ hIO (k5.keep _ _ hIO (k4.keep _ _ hit3)))
    · exact (kx4.trans ((k5.trans k6).more fun a ha => List.mem_cons_of_mem _ ha)).trans k7.x
  · obtain rfl : i = es.size := by omega
    refine itemEnd hh hit' hE' (Nat.le_refl _) fun h' hx' => ?_
    have kk : ∀ b o, b ∉ ([I] : List Addr) → s'.heap.get? b = some o → h'.get? b = some o := fun b o n e => hx' b o (by simpa using n) e
    have kE := k'.other (tk := s'.toks) List.mem_cons_self kk
    have hCI : C ≠ I := noI C noneC
    obtain ⟨m, hm, _⟩ := f'.r.loc
    refine ⟨m, ?_, fun h'' hs'' => ?_⟩
    · obtain ⟨o, es', ep', e, q⟩ := hm
      exact ⟨o, es', ep', kk _ o (by simpa using hCI) e, q⟩
    have upE : ∀ b o, b ≠ C → h'.get? b = some o → h''.get? b = some o := fun b o n e => hs''.extBut b o n e
    have hLC : L ≠ C := Nat.ne_of_lt (by omega)
    refine ⟨rep_lst.mpr ⟨L, 0, [], rfl, hid_of (noX L noneL) (upE _ _ hLC (kE.keep L _ (fun m => (List.mem_cons.mp m).elim hLI hLO) (up _ _ hD2))), repL_nil.mpr rfl⟩, ?_⟩
    have kE' := kE
    obtain ⟨⟨h8, t8, e8⟩, _⟩ := kE
    obtain ⟨⟨h9, t9, e9⟩, _⟩ := k1
    refine ⟨?_, fun b o e => ?_⟩
    · cases e9
      exact ⟨_, _, by
        have := congrArg (fun z : Shared => { z with heap := h'' }) e8
        exact this⟩
    · have hbs : s.heap.get? b ≠ none := by rw [e]; simp
      refine upE b o (fun q => hbs (q ▸ nos _ noneC)) (kE'.keep b o (fun m => ?_) (ups b o e))
      rcases List.mem_cons.mp m with rfl | m
      · exact hbs hIn
      · exact hbs (nos _ (hO b m))
end
end Mine
end
section
open PySem PySem.W PyProof.Rows PySem.Calls
set_option maxRecDepth 100000
set_option maxHeartbeats 400000
set_option linter.unusedVariables false
namespace Mine
/-! sorted(d), of keys that are pairs of ints -/
noncomputable def runT {α : Type} (n : Nat) (lt : Nat → Nat → Bool) : KasT α → Option α
  | .ret a => some a
  | .ask i j k => if i < n ∧ j < n then runT n lt (k (lt i j)) else none
theorem runT_wp {α : Type} {n : Nat} {cmp : Nat → Nat → (Bool → Shared → Prop) → Shared → Prop} {lt : Nat → Nat → Bool} {s : Shared} {Q : α → Shared → Prop} (h : ∀ i j C, i < n → j < n → C (lt i j) s → cmp i j C s) :
    ∀ (t : KasT α) {p : α}, runT n lt t = some p → Q p s → t.kasWp cmp Q s
  | .ret a, p, e, q => by cases e; exact q
  | .ask i j k, p, e, q => by
    unfold runT at e
    split at e
    · rename_i hij
      exact h i j _ hij.1 hij.2 (runT_wp h (k (lt i j)) e q)
    · cases e
noncomputable def ltK : List Int → List Int → Bool
  | [a, b], [c, d] => if a == c then (if b == d then false else decide (b < d)) else decide (a < c)
  | _, _ => false
noncomputable def sortK (ks : List (List Int)) : Option (List (List Int)) :=
  match runT ks.length (fun i j => ltK (ks.getD i []) (ks.getD j [])) (kas_sort ks.length) with
  | some p => if p.toList.all (fun i => decide (i < ks.length)) then some (p.toList.map fun i => ks.getD i []) else none
  | none => none
section
variable {prog : Program} {w : World} {G : Glb} {A : Around} {E : Value → Shared → Prop} {s : Shared} {d : Addr} {es : Array DictEntry} {ep : Nat}
theorem edKeys (hh : A.handled = none) (I d : Addr) (hne : d ≠ I) (es : Array DictEntry) (ep : Nat) :
    Walks prog w A I [I, d] [I] es.size (fun i v => es[i]?.map (·.key) = some v) (fun i h => h.IsKeyIter I d i es.size ep ∧ ED h d es ep) where
  sub := fun b hb => by simp at hb; simp [hb]
  frame := fun _ _ _ st hk => ⟨st.1.at fun o e => hk I (by simp) o e, let ⟨o, e, r⟩ := st.2; ⟨o, hk d (by simp) o e, r⟩⟩
  item := fun i s Q E hi st hQ => keyNext st.1 st.2 hi fun h' hit' hs' =>
    hQ _ h' s.toks (by rw [Array.getElem?_eq_getElem hi]; rfl) ⟨hit', let ⟨o, e, r⟩ := st.2; ⟨o, hs'.extBut d o hne e, r⟩⟩ fun b o hb e => hs'.extBut b o (fun h => hb (by simp [h])) e
  done := fun s Q E st hQ => keyEnd hh st.1 st.2 (Nat.le_refl _) fun h' he' => hQ h' s.toks fun b o hb e => he' b o (fun h => hb (by simp [h])) e
  self := fun _ _ _ _ st hQ => wpAny_pyIter_keyiter st.1 hQ
theorem edSrc (lo : (d == sysModules) = false) : KdlSrc prog w "dict" d d es.size (fun i v => es[i]?.map (·.key) = some v) (fun h => ED h d es ep) where
  type := fun _ hm => hm.ty
  there := fun _ hm => let ⟨_, e, _⟩ := hm; ⟨Heap.lt_size e, Heap.lt_size e⟩
  keep := fun _ _ hm hk => let ⟨o, e, r⟩ := hm; ⟨o, hk d (.inl rfl) o e, r⟩
  notList := by decide
  notTuple := by decide
  hint := fun _ _ _ _ hm hq => kdl_hint_dict hm.ty hq
  iter := fun _ s hh hm => ⟨_, _, (fun _ _ hq => edIter lo hm hq), edKeys hh _ d (Nat.ne_of_lt (let ⟨_, e, _⟩ := hm; Heap.lt_size e)) es ep, ⟨⟨_, Heap.get?_push_size _ rfl, rfl, rfl⟩, let ⟨o, e, r⟩ := hm; ⟨o, Heap.get?_push_of_some _ e, r⟩⟩⟩

theorem edCollect {R : List Value → Shared → Prop} (hh : A.handled = none) (lo : (d == sysModules) = false) (hm : ED s.heap d es ep) (hn : es.size ≤ sizeLine)
    (h : ∀ (h' : Heap) (tk : Nat), (∀ b o, s.heap.get? b = some o → h'.get? b = some o) → R (es.toList.map (·.key)) { s with heap := h', toks := tk }) :
    wpAny (model prog w) A (collect (.ref d)) R E s := by
  have hd : d < s.heap.objs.size := let ⟨_, e, _⟩ := hm; Heap.lt_size e
  unfold collect
  refine wpAny_bind (wpAny_runValue (codeAny_builtin entry_proto_collect' ?_))
  rw [Around.under_plainId PySem.F.plain_proto_collect _]
  show wpAny _ A.in1 (newList [] >>= fun l => again (.builtin "list.__iadd__" ⟨[l, .ref d], []⟩)) _ _ s
  refine wpAny_bind (wpAny_newObj_type ?_)
  refine wpAny_pure ⟨plainId_quiet PySem.F.plain_list_iadd _, codeAny_builtin entry_list_iadd' ?_⟩
  rw [Around.under_plainId PySem.F.plain_list_iadd _]
  have hS₁ : (s.heap.push { cls := .type "list", data := .seq ([] : List Value).toArray }).get? s.heap.objs.size = some { cls := .type "list", data := .seq #[] } := Heap.get?_push_size _ rfl
  have hm1 : ED (s.heap.push { cls := .type "list", data := .seq ([] : List Value).toArray }) d es ep := let ⟨o, e, r⟩ := hm; ⟨o, Heap.get?_push_of_some _ e, r⟩
  show wpAny _ A.in1 (Builtin.List.listExtendWith (.ref s.heap.objs.size) (.ref d) (.ref s.heap.objs.size)) _ _ _
  have fin : ∀ h' tk acc' c', (∀ b o, s.heap.get? b = some o → h'.get? b = some o) → h'.get? s.heap.objs.size = some { cls := .type "list", dict := none, data := .seq acc' c', slots := #[] } → ItemsOf (fun i v => es[i]?.map (·.key) = some v) acc' es.size →
      wpAny (model prog w) A (load s.heap.objs.size >>= fun o => match o.data with | .seq xs _ => pure xs.toList | _ => unsupported "internal:collect") R E { s with heap := h', toks := tk } := by
    intro h' tk acc' c' hk hS' hacc
    refine wpAny_bind (wpAny_load hS' (wpAny_pure ?_))
    have e : acc'.toList = es.toList.map (·.key) := by
      apply List.ext_getElem?
      intro i
      rw [List.getElem?_map, Array.getElem?_toList, Array.getElem?_toList]
      by_cases hi : i < acc'.size
      · rw [Array.getElem?_eq_getElem hi]
        exact (hacc.2 i _ (Array.getElem?_eq_getElem hi)).symm
      · rw [Array.getElem?_eq_none (by omega), Array.getElem?_eq_none (by rw [hacc.1] at hi; omega)]; rfl
    rw [e]
    exact h h' tk hk
  have key := kdl_extend (A := A) (s := { s with heap := s.heap.push { cls := .type "list", data := .seq ([] : List Value).toArray } }) (edSrc (prog := prog) (w := w) (es := es) (ep := ep) lo)
    (R := fun (q : Result) (s' : Shared) => ∃ (h' : Heap) (tk : Nat) (acc' : Array Value) (c' : Nat), q = .ok (.ret (.ref s.heap.objs.size)) ∧ s' = { s with heap := h', toks := tk } ∧
      (∀ b o, s.heap.get? b = some o → h'.get? b = some o) ∧ h'.get? s.heap.objs.size = some { cls := .type "list", dict := none, data := .seq acc' c', slots := #[] } ∧ ItemsOf (fun i v => es[i]?.map (·.key) = some v) acc' es.size)
    hh hm1 s.heap.objs.size (Nat.ne_of_gt hd) (Nat.ne_of_gt hd) (.ref s.heap.objs.size) 0 hS₁
    (fun h' tk acc' c' hk hS' hacc => ⟨h', tk, acc', c', rfl, rfl, fun b o e => hk b o (Nat.ne_of_lt (Heap.lt_size e)) (Heap.get?_push_of_some _ e), hS', hacc⟩) hn
  refine wpAny_mono key (fun f s' x => ?_) fun e s' x => ?_
  · cases f with
    | done f =>
      obtain ⟨h', tk, acc', c', e, rfl, hk, hS', hacc⟩ := x
      cases e
      exact fin h' tk acc' c' hk hS' hacc
    | again c₁ =>
      refine ⟨x.1, codeAny_mono x.2 fun q s₂ y => ?_⟩
      obtain ⟨h', tk, acc', c', rfl, rfl, hk, hS', hacc⟩ := y
      exact fin h' tk acc' c' hk hS' hacc
  · obtain ⟨_, _, _, _, e', _⟩ := x
    cases e'

/-- the order of two pairs -/
theorem pairLt {g : View} {a b c d : Int} {x y : Value} {Q : Bool → Shared → Prop} (hg : ∀ p o, g p = some o → s.heap.get? p = some o) (hx : Rep g (tupI [a, b]) x) (hy : Rep g (tupI [c, d]) y) (h : Q (ltK [a, b] [c, d]) s) :
    wpAny (model prog w) A (keyLt' (tuples' true) x y) Q E s := by
  obtain ⟨px, n, vs, rfl, hpx, hvs⟩ := rep_tup.mp hx
  obtain ⟨py, m, us, rfl, hpy, hus⟩ := rep_tup.mp hy
  obtain ⟨v1, r1, rfl, hv1, hr1⟩ := repL_cons.mp hvs
  obtain ⟨v2, r2, rfl, hv2, hr2⟩ := repL_cons.mp hr1
  obtain rfl := repL_nil.mp hr2
  obtain ⟨u1, q1, rfl, hu1, hq1⟩ := repL_cons.mp hus
  obtain ⟨u2, q2, rfl, hu2, hq2⟩ := repL_cons.mp hq1
  obtain rfl := repL_nil.mp hq2
  obtain ⟨t1, rfl⟩ := rep_int.mp hv1
  obtain ⟨t2, rfl⟩ := rep_int.mp hv2
  obtain ⟨t3, rfl⟩ := rep_int.mp hu1
  obtain ⟨t4, rfl⟩ := rep_int.mp hu2
  refine kat_lt (hg _ _ hpx) rfl (hg _ _ hpy) rfl ?_
  show KatLex prog w A true false Q [(.int a t1, .int c t3), (.int b t2, .int d t4)] 0 s
  refine kat_cons (wpAny_eqBool_int ?_)
  replace h : Q (if (a == c) = true then if (b == d) = true then false else decide (b < d) else decide (a < c)) s := h
  cases hac : a == c with
  | true =>
    rw [hac] at h
    simp only [if_true] at h
    refine kat_yes (kat_cons (wpAny_eqBool_int ?_))
    cases hbd : b == d with
    | true => rw [hbd] at h; simp only [if_true] at h; exact kat_yes (kat_nil h)
    | false =>
      rw [hbd] at h
      simp only [Bool.false_eq_true, if_false] at h
      refine kat_no ?_
      show wpAny _ _ (oneLt' false _ _) _ _ _
      exact kat_one _ _ (lt_int h)
  | false =>
    rw [hac] at h
    simp only [Bool.false_eq_true, if_false] at h
    refine kat_no ?_
    show wpAny _ _ (oneLt' true _ _) _ _ _
    exact oneLt_int h

theorem pairTups {h : Heap} : ∀ {ks : List (List Int)} {vs : List Value}, RepL (fun p => h.get? p) (ks.map tupI) vs → (∀ k ∈ ks, ∃ a b, k = [a, b]) → ∃ fs, KatTups h vs fs ∧ fs.length = ks.length ∧ ∀ v ∈ fs, ∃ i t, v = .int i t
  | [], vs, hv, _ => by rw [repL_nil.mp hv]; exact ⟨[], KatTups.nil, rfl, fun _ hx => nomatch hx⟩
  | k :: ks, vs, hv, hk => by
    obtain ⟨v, r, rfl, h1, h2⟩ := repL_cons.mp hv
    obtain ⟨a, b, rfl⟩ := hk _ List.mem_cons_self
    obtain ⟨fs, k1, k2, k3⟩ := pairTups h2 fun k m => hk k (List.mem_cons_of_mem _ m)
    obtain ⟨p, n, us, rfl, hp, hu⟩ := rep_tup.mp h1
    obtain ⟨u, r', rfl, h3, h4⟩ := repL_cons.mp hu
    obtain ⟨t, rfl⟩ := rep_int.mp h3
    refine ⟨.int a t :: fs, KatTups.cons hp rfl rfl (by simp) k1, by simp [k2], fun v hv => ?_⟩
    rcases List.mem_cons.mp hv with rfl | hv
    · exact ⟨a, t, rfl⟩
    · exact k3 v hv
theorem RepL.at {g : View} : ∀ {xs : List T} {vs : List Value} {i : Nat}, RepL g xs vs → i < xs.length → ∃ t v, xs[i]? = some t ∧ vs.getD i .none = v ∧ Rep g t v
  | [], _, i, _, h => by simp at h
  | x :: xs, vs, 0, hv, _ => by obtain ⟨v, r, rfl, h1, _⟩ := repL_cons.mp hv; exact ⟨x, v, rfl, rfl, h1⟩
  | x :: xs, vs, i + 1, hv, h => by
    obtain ⟨v, r, rfl, _, h2⟩ := repL_cons.mp hv
    obtain ⟨t, v', e1, e2, r'⟩ := h2.at (i := i) (by simpa using h)
    exact ⟨t, v', by simpa using e1, by simpa using e2, r'⟩
theorem pairAt {g : View} {ks : List (List Int)} {vs : List Value} {i : Nat} (hv : RepL g (ks.map tupI) vs) (hi : i < ks.length) : Rep g (tupI (ks.getD i [])) (vs.getD i .none) := by
  obtain ⟨t, v, e1, e2, r⟩ := hv.at (i := i) (by simpa using hi)
  rw [List.getElem?_map, List.getElem?_eq_getElem hi] at e1
  cases e1
  rw [e2]
  have : ks.getD i [] = ks[i] := by simp [List.getD, List.getElem?_eq_getElem hi]
  rw [this]; exact r
theorem pairOut {g : View} {ks : List (List Int)} {vs : List Value} (hv : RepL g (ks.map tupI) vs) : ∀ (l : List Nat), (∀ i ∈ l, i < ks.length) → RepL g ((l.map fun i => ks.getD i []).map tupI) (l.map fun i => vs.getD i .none)
  | [], _ => repL_nil.mpr rfl
  | i :: l, h => repL_cons.mpr ⟨_, _, rfl, pairAt hv (h i List.mem_cons_self), pairOut hv l fun j m => h j (List.mem_cons_of_mem _ m)⟩

theorem sortPairs {a : Addr} {vs : List Value} {ks out : List (List Int)} {n : Nat} {P : PySem.Fin → Shared → Prop} (ho : s.heap.get? a = some (seqObj "list" vs.toArray n)) {g : View} (hg : ∀ p o, g p = some o → s.heap.get? p = some o) (hga : g a = none)
    (hv : RepL g (ks.map tupI) vs) (hk : ∀ k ∈ ks, ∃ a b, k = [a, b]) (h2 : 2 ≤ ks.length) (h64 : ks.length < 64) (hs : sortK ks = some out)
    (h : ∀ h' us c, (∀ p o, p ≠ a → s.heap.get? p = some o → h'.get? p = some o) → h'.get? a = some (seqObj "list" (List.toArray us) c) → RepL g (out.map tupI) us → P (.done (.ret .none)) { s with heap := h' }) :
    wpAny (model prog w) A (Builtin.«list.sort» ⟨[.ref a], []⟩) P E s := by
  have hl : vs.length = ks.length := by rw [hv.length, List.length_map]
  have ha : a < s.heap.objs.size := Heap.lt_size ho
  obtain ⟨e1, ho1⟩ : ∃ e1, (s.heap.update a (Obj.mapSeq fun _ => (#[] : Array Value))).get? a = some (seqObj "list" #[] e1) := ⟨_, get?_update_seq ho fun _ => #[]⟩
  rw [list_sort_plain]
  refine wpAny_bind (listItems_at ho rfl ?_)
  refine wpAny_bind (listUpdate_at ho rfl ?_ (by rw [List.size_toArray, sizeLine_eq]; omega) (Nat.zero_le _))
  refine wpAny_bind (seqEpoch_at ho1 rfl ?_)
  refine wpAny_bind (wpAny_newTuple ?_ (by show vs.length ≤ _; rw [sizeLine_eq]; omega))
  refine wpAny_bind (wpAny_newList ?_ (Nat.zero_le _))
  refine wpAny_holding ?_
  show wpAny (model prog w) A _ P E { s with heap := ((s.heap.update a (Obj.mapSeq fun _ => (#[] : Array Value))).push (seqObj "tuple" vs.toArray 0)).push (seqObj "list" #[] 0) }
  dsimp only
  have hn2 : ¬ vs.toArray.size < 2 := by rw [List.size_toArray]; omega
  rw [if_neg hn2, if_neg hn2]
  have up : ∀ p o, p ≠ a → s.heap.get? p = some o → (((s.heap.update a (Obj.mapSeq fun _ => (#[] : Array Value))).push (seqObj "tuple" vs.toArray 0)).push (seqObj "list" #[] 0)).get? p = some o := fun p o n e =>
    Heap.get?_push_of_some _ (Heap.get?_push_of_some _ ((Heap.get?_update_other _ _ (Ne.symm n)).trans e))
  have ho6 : (((s.heap.update a (Obj.mapSeq fun _ => (#[] : Array Value))).push (seqObj "tuple" vs.toArray 0)).push (seqObj "list" #[] 0)).get? a = some (seqObj "list" #[] e1) := Heap.get?_push_of_some _ (Heap.get?_push_of_some _ ho1)
  generalize (((s.heap.update a (Obj.mapSeq fun _ => (#[] : Array Value))).push (seqObj "tuple" vs.toArray 0)).push (seqObj "list" #[] 0)) = H at up ho6 ⊢
  have upg : ∀ p o, g p = some o → H.get? p = some o := fun p o e => up p o (fun q => by rw [q, hga] at e; cases e) (hg p o e)
  obtain ⟨fs, t1, t2, t3⟩ := pairTups (hv.mono upg) hk
  unfold sortK at hs
  cases hr : runT ks.length (fun i j => ltK (ks.getD i []) (ks.getD j [])) (kas_sort ks.length) with
  | none => rw [hr] at hs; cases hs
  | some p =>
  rw [hr] at hs
  dsimp only at hs
  split at hs
  · rename_i hall
    cases hs
    refine wpAny_bind (kat_kind (T := .type "int") (Q := fun κ s' => κ = tuples' true ∧ s' = { s with heap := H }) t1 (by omega) (fun v hv => by obtain ⟨i, t, rfl⟩ := t3 v hv; exact Looks.of_pure rfl) rfl ⟨rfl, rfl⟩ |> fun x => wpAny_mono x (fun κ s0 hk0 => ?_) fun _ _ q => q)
    obtain ⟨rfl, rfl⟩ := hk0
    refine wpAny_bind (wpAny_mono (kat_run (w := w) (prog := prog) (κ := tuples' true) (ks := vs) (vs := vs) (Q := fun st' s' => s' = { s with heap := H } ∧ p.size = vs.length ∧ arrOf st' = p.map (kas_item (vs.toArray.zip vs.toArray)) ∧ failedOf st' = none)
      (G := fun p' s' => p' = p ∧ s' = { s with heap := H }) rfl (by omega) (by omega) (fun p' st' s' a1 a2 a3 a4 => by obtain ⟨rfl, rfl⟩ := a4; exact ⟨rfl, a1, a2, a3⟩) ?_) ?_ fun _ _ e => e)
    · rw [hl]
      refine runT_wp (fun i j C hi hj hC => ?_) _ hr ⟨rfl, rfl⟩
      obtain ⟨x1, y1, e1⟩ := hk (ks.getD i []) (by rw [List.getD, List.getElem?_eq_getElem hi]; exact List.getElem_mem hi)
      obtain ⟨x2, y2, e2⟩ := hk (ks.getD j []) (by rw [List.getD, List.getElem?_eq_getElem hj]; exact List.getElem_mem hj)
      have q1 := pairAt hv hi
      have q2 := pairAt hv hj
      rw [e1] at q1 hC
      rw [e2] at q2 hC
      exact pairLt (s := { s with heap := H }) upg q1 q2 hC
    · rintro ⟨⟨⟩, st'⟩ s' ⟨rfl, hp, har, hf⟩
      dsimp only at har hf ⊢
      have hout := kat_snds (ks := vs) (vs := vs) rfl har
      have hsz : (List.toArray (p.toList.map fun i => vs.getD i Value.none)).size = vs.length := by rw [List.size_toArray, List.length_map, Array.length_toList, hp]
      rw [hout]
      obtain ⟨c2, hc2⟩ : ∃ c2, (H.update a (Obj.mapSeq fun _ => List.toArray (p.toList.map fun i => vs.getD i Value.none))).get? a = some (seqObj "list" (List.toArray (p.toList.map fun i => vs.getD i Value.none)) c2) := ⟨_, get?_update_seq ho6 fun _ => List.toArray (p.toList.map fun i => vs.getD i Value.none)⟩
      refine wpAny_bind (seqEpoch_at ho6 rfl ?_)
      refine wpAny_bind (listUpdate_at ho6 rfl ?_ (Nat.zero_le _) (Nat.le_trans (Nat.le_of_eq hsz) (by rw [sizeLine_eq]; omega)))
      rw [hf]
      simp only [bne_self_eq_false, Bool.false_eq_true, if_false]
      refine wpAny_pure (h _ _ c2 (fun p o n e => (Heap.get?_update_other _ _ (Ne.symm n)).trans (up p o n e)) hc2 (pairOut hv _ fun i hi => of_decide_eq_true (List.all_eq_true.mp hall i hi)))
  · cases hs
end
section
variable {prog : Program} {w : World} {G : Glb} {A : Around} {env : Env} {ρ ρ' : Bnd}
theorem FDs.vals {prog : Program} {w : World} {g : View} : ∀ {xs : List (List Int × List Int)} {ys : List (List Int × Addr × Value)}, FDs g xs ys → RepL g ((xs.map (·.1)).map tupI) ((ys.map (entryOfKey (tupleKind (intKind prog w)))).map (·.key))
  | [], _, e => by cases e; exact repL_nil.mpr rfl
  | (_, _) :: _, _, ⟨a, u, r, e, h1, h2, h3⟩ => by subst e; exact repL_cons.mpr ⟨_, _, rfl, h1, FDs.vals h3⟩
/-- sorted(d) -/
theorem evSorted {d : Str} {dp fp pos : Pos} {f : Str} {D : Addr} {xs : List (List Int × List Int)} {out : List (List Int)} {X : List Addr} {s : Shared} (hb : Bd X s.heap) (r : EnvR G env ρ X s.heap) (hh : A.handled = none) (hF : FD prog w D xs X s.heap) (hρ : ρ d = some (.ptr D))
    (hf : EvV prog w G A env ρ (.Name f fp) (.builtin "sorted")) (hk : ∀ k ∈ xs.map (·.1), ∃ a b, k = [a, b]) (h2 : 2 ≤ xs.length) (h64 : xs.length < 64) (hs : sortK (xs.map (·.1)) = some out)
    (he : starEach [.Name d dp] env = (false, eval (.Name d dp) env) :: starEach [] env := by rfl)
    (hp : (backTo pos (starEach [] env)).any (·.1) = false := by rfl)
    (hcl : eval (.Call (.Name f fp) [.Name d dp] [] pos) env = (do callWith pos (← eval (.Name f fp) env) [] (backTo pos (starEach [.Name d dp] env)) (backToKw pos (keywordEach [] env))) := by rfl)
    (hd : (d == ("__debug__" : Str)) = false := by decide) (hc : (d == ("__classdict__" : Str)) = false := by decide) :
    wpAny (model prog w) A (eval (.Call (.Name f fp) [.Name d dp] [] pos) env) (fun v s' => Rep (hid s'.heap X) (.lst (out.map tupI)) v ∧ Kp s s') NoE s :=
  Call_ (hf.use hb r fun s₁ k1 b1 r1 => PyProof.Rows.callWith_builtin1 (spliced_more ((Ev.name (ρ := ρ) (x := d) hρ hd hc).use b1 r1 fun v s₂ h1 k2 b2 r2 => spliced_none (by
    rw [rep_ptr.mp h1]
    obtain ⟨o, es, ep, ys, hoD, hex, hdat, hsys, hes, hfs, hnd⟩ := (FD.stab (S := [D]) List.mem_cons_self).kp hF (k1.trans k2)
    have hE : ED s₂.heap D es ep := ⟨o, hoD, hex, hdat⟩
    have hlen : es.size = xs.length := by
      have h3 := congrArg List.length hfs.keys
      rw [← Array.length_toList, hes]; simpa using h3
    refine call_function_entry kind_sorted plain_sorted entry_sorted (args_sorted1 _) ?_
    unfold Builtin.«sorted»
    refine wpAny_bind (m := checkCount "sorted" 1 1 _) (wpAny_pure ?_)
    refine wpAny_bind (edCollect (A := A.in1) hh hsys hE (by rw [sizeLine_eq]; omega) fun h' tk up => ?_)
    have hvs : RepL (hid h' X) ((xs.map (·.1)).map tupI) (es.toList.map (·.key)) := by
      rw [hes]; exact (hfs.mono (hid_keeps up)).vals
    have hvl : (es.toList.map (·.key)).length = xs.length := by rw [List.length_map, Array.length_toList, hlen]
    generalize hvv : es.toList.map (·.key) = vs at hvs hvl ⊢
    refine wpAny_bind (wpAny_newList ?_ (by rw [sizeLine_eq]; omega))
    have hnone : h'.get? h'.objs.size = none := Heap.get?_none_of_le (Nat.le_refl _)
    have hob : (h'.push (seqObj "list" vs.toArray 0)).get? h'.objs.size = some (seqObj "list" vs.toArray 0) := Heap.get?_push_size _ rfl
    refine wpAny_bind (wpAny_holding (wpAny_call_entry slot_list_sort ⟨_, hob, rfl⟩ entry_list_sort ?_ (args_list_sort _)))
    have hX' : h'.objs.size ∉ X := fun m => by obtain ⟨o, e⟩ := b2 _ m; have := up _ _ e; rw [hnone] at this; cases this
    refine sortPairs (s := { s₂ with heap := h'.push (seqObj "list" vs.toArray 0), toks := tk }) (g := hid h' X) hob (fun p o e => Heap.get?_push_of_some _ (hid_some e).2) ?_ hvs hk (by rw [List.length_map]; exact h2) (by rw [List.length_map]; exact h64) hs fun h'' us c keep hlist hus => ?_
    · unfold hid; rw [if_neg hX']; exact hnone
    · have keep' : ∀ p o, h'.get? p = some o → h''.get? p = some o := fun p o e => keep p o (fun q => by rw [q, hnone] at e; cases e) (Heap.get?_push_of_some _ e)
      exact ⟨_, rfl, wpAny_pure ⟨_, rfl, rep_lst.mpr ⟨_, c, us, rfl, hid_of hX' hlist, hus.mono (hid_keeps keep')⟩, (k1.trans k2).trans ⟨⟨_, _, rfl⟩, fun p o e => keep' p o (up p o e)⟩⟩⟩))) he hp) hcl
end
end Mine
end
section
open PySem PySem.W PyProof.Rows PySem.Calls
set_option maxRecDepth 100000
set_option maxHeartbeats 400000
set_option linter.unusedVariables false
namespace Mine
section
variable {prog : Program} {w : World} {G : Glb} {A : Around} {env : Env} {ρ ρ' : Bnd}
/-- the loop of a comprehension, in its frame -/
noncomputable def LoopOK (prog : Program) (w : World) (G : Glb) (A : Around) (env : Env) (ρ : Bnd) (e : PySem.Expr) (scope : Scope) (n : Nat) (xs zs : List T) : Prop :=
  ∀ I D C X s fp (P : Nat → Value → Prop) (Sta : Nat → Heap → Prop) (R : Result → Shared → Prop), n = xs.length → Walks prog w A I fp [I] xs.length P Sta → (∀ i h, Sta i h → ∃ o, h.get? I = some o) → Sta 0 s.heap →
    FrR G (cEnv scope (clo scope env) C env) (cOwn scope C) (restr scope ρ) X s → I ∈ X → D ∈ X → Off (cEnv scope (clo scope env) C env) I → Off (cEnv scope (clo scope env) C env) D → D ≠ I → D ∉ fp → D ∉ cOwn scope C → I ∉ cOwn scope C → (∀ a ∈ cOwn scope C, a ∉ fp) →
    (∀ i v, i < xs.length → P i v → ∃ t, xs[i]? = some t ∧ Rep (hid s.heap X) t v) → s.heap.PlainList D #[] →
    (∀ s' ys, (∃ m, s'.heap.Ns C m) → s'.heap.PlainList D ys.toArray → RepL (hid s'.heap X) zs ys → KpX (D :: I :: cOwn scope C) s s' → R (.ok .next) s') →
    codeAny (model prog w) A (.compLoop e 0 (.ref I) (.ref D) (cEnv scope (clo scope env) C env)) R s
theorem compBlockG {elt target iter : PySem.Expr} {ifs : List PySem.Expr} {rest : List Comprehension} {scope : Scope} {pos : Pos} {I : Addr} {RR : Value → Addr → Result → Shared → Prop} {E : Value → Shared → Prop} {s s₂ : Shared} {xs zs : List T} {X fp : List Addr} {P : Nat → Value → Prop} {Sta : Nat → Heap → Prop}
    (k : CompOK scope env)
    (W : Walks prog w A I fp [I] xs.length P Sta) (st : Sta 0 s₂.heap) (hIo : ∀ i h, Sta i h → ∃ o, h.get? I = some o)
    (b : Bd X s.heap) (r : EnvR G env ρ X s.heap) (hIX : I ∉ X) (hIs : s.heap.get? I = none) (hfp : ∀ b ∈ fp, b = I ∨ (b ∉ X ∧ ∃ o, s₂.heap.get? b = some o))
    (hP : ∀ i v, i < xs.length → P i v → ∃ t, xs[i]? = some t ∧ Rep (hid s₂.heap (I :: X)) t v) (k2 : Kp s s₂)
    (hloop : LoopOK prog w G A env ρ (.ListComp elt (⟨target, iter, ifs, 0⟩ :: rest) scope pos) scope xs.length xs zs)
    (hRR : ∀ D C s' ys, D ∉ X → C ∉ X → s.heap.get? D = none → s.heap.get? C = none → D ≠ C → (∃ m, s'.heap.Ns C m) → s'.heap.PlainList D ys.toArray → RepL (hid s'.heap (C :: X)) zs ys → (∃ o, s'.heap.get? C = some o) → Kp s s' → RR (.ref D) C (.ok .next) s') :
    wpAny (model prog w) A (newList []) (fun acc s₃ => wpAny (model prog w) A (newFunctionEnv scope env.globals (clo scope env) [] env.qual none .none (some env)) (fun cenv s₄ =>
      codeAny (model prog w) A (.compStart (.ListComp elt (⟨target, iter, ifs, 0⟩ :: rest) scope pos) 0 (.ref I) acc { cenv with scope := relabel scope env }) (RR acc cenv.locals) s₄) E s₃) E s₂ := by
  refine wpAny_newObj_type ?_
  generalize hH2 : s₂.heap.push { cls := .type "list", dict := none, data := .seq ([] : List Value).toArray } = H2
  refine newEnv_comp (s := { s₂ with heap := H2 }) fun h₁ up hn hc => ?_
  dsimp only at up hn hc ⊢
  have hC : H2.objs.size = s₂.heap.objs.size + 1 := by rw [← hH2, Heap.size_push]
  have up2 : ∀ b o, s₂.heap.get? b = some o → H2.get? b = some o := fun b o e => hH2 ▸ Heap.get?_push_of_some _ e
  have hD2 : H2.get? s₂.heap.objs.size = some (lstO [] 0) := by rw [← hH2]; exact Heap.get?_push_size _ rfl
  generalize hDd : s₂.heap.objs.size = D at hC hD2 ⊢
  generalize hCc : H2.objs.size = C at hC hn hc ⊢
  have noneD : s₂.heap.get? D = none := Heap.get?_none_of_le (Nat.le_of_eq hDd)
  have noneC : s₂.heap.get? C = none := Heap.get?_none_of_le (by omega)
  have nos : ∀ a, s₂.heap.get? a = none → s.heap.get? a = none := fun a ha => by
    cases q : s.heap.get? a with
    | none => rfl
    | some o => rw [k2.keep _ _ q] at ha; cases ha
  have b2 : Bd X s₂.heap := b.keeps k2.keep
  have noX : ∀ a, s₂.heap.get? a = none → a ∉ X := fun a ha hm => by obtain ⟨o, e⟩ := b2 a hm; rw [ha] at e; cases e
  have noI : ∀ a, s₂.heap.get? a = none → a ≠ I := fun a ha e => by obtain ⟨o, e'⟩ := hIo _ _ st; rw [← e, ha] at e'; cases e'
  have noF : ∀ a, s₂.heap.get? a = none → a ∉ fp := fun a ha hm => by
    rcases hfp a hm with e | ⟨_, o, e⟩
    · exact noI a ha e
    · rw [ha] at e; cases e
  have hO : ∀ a ∈ cOwn scope C, s₂.heap.get? a = none := fun a ha => by
    rcases List.mem_cons.mp ha with rfl | ha
    · exact noneC
    · obtain ⟨⟨y, c⟩, hm, rfl⟩ := List.mem_map.mp ha
      exact Heap.get?_none_of_le (by have := (hc.empty y c hm).2; omega)
  have hDO : D ∉ cOwn scope C := fun ha => by
    rcases List.mem_cons.mp ha with e | ha
    · omega
    · obtain ⟨⟨y, c⟩, hm, e⟩ := List.mem_map.mp ha
      have := (hc.empty y c hm).2; have e' : c = D := e; omega
  have ups : ∀ b o, s.heap.get? b = some o → h₁.get? b = some o := fun b o e => up b o (up2 b o (k2.keep b o e))
  -- the frame
  have r2 : EnvR G env ρ X s₂.heap := r.keeps k2.keep
  have offI : Off (cEnv scope (clo scope env) C env) I := ⟨(noI C noneC), fun n c e => by
    rcases k.cases e with h | ⟨_, h⟩
    · exact noI c (hO c (List.mem_cons_of_mem _ (List.mem_map.mpr ⟨_, mem_of_lookup' h, rfl⟩)))
    · exact (r.fresh hIs).cel n c h⟩
  have offD : Off (cEnv scope (clo scope env) C env) D := ⟨by show C ≠ D; omega, fun n c e => by
    rcases k.cases e with h | ⟨_, h⟩
    · exact fun e => hDO (e ▸ List.mem_cons_of_mem _ (List.mem_map.mpr ⟨_, mem_of_lookup' h, rfl⟩))
    · exact (r2.fresh noneD).cel n c h⟩
  have hID : ∀ y ∈ [D, I], s.heap.get? y = none := fun y hy => by
    rcases List.mem_cons.mp hy with rfl | hy
    · exact nos _ noneD
    · rw [List.mem_singleton.mp hy]; exact hIs
  have bI : ∃ o, H2.get? I = some o := by obtain ⟨o, e⟩ := hIo _ _ st; exact ⟨o, up2 _ _ e⟩
  have b3 : Bd ([D, I] ++ X) H2 := fun a ha => by
    rcases List.mem_append.mp ha with ha | ha
    · rcases List.mem_cons.mp ha with rfl | ha
      · exact ⟨_, hD2⟩
      · rw [List.mem_singleton.mp ha]; exact bI
    · exact b2.keeps up2 a ha
  have r3 : EnvR G env ρ ([D, I] ++ X) H2 := (r.more (Y := [D, I]) fun y hy => .inr (hID y hy)).keeps fun b o e => up2 b o (k2.keep b o e)
  have f : FrR G (cEnv scope (clo scope env) C env) (cOwn scope C) (restr scope ρ) (cOwn scope C ++ ([D, I] ++ X)) { s₂ with heap := h₁ } :=
    FrR.comp (s := { s₂ with heap := H2 }) k b3 r3 (Nat.le_of_eq hCc) up s₂.toks hn hc
  have mD : D ∈ cOwn scope C ++ ([D, I] ++ X) := List.mem_append_right _ (List.mem_append_left _ List.mem_cons_self)
  have mI : I ∈ cOwn scope C ++ ([D, I] ++ X) := List.mem_append_right _ (List.mem_append_left _ (List.mem_cons_of_mem _ List.mem_cons_self))
  have mX : ∀ a ∈ X, a ∈ cOwn scope C ++ ([D, I] ++ X) := fun a ha => List.mem_append_right _ (List.mem_append_right _ ha)
  have st1 : Sta 0 h₁ := W.frame _ _ _ st fun b _ o e => up b o (up2 b o e)
  have loop : codeAny (model prog w) A (.compLoop (.ListComp elt (⟨target, iter, ifs, 0⟩ :: rest) scope pos) 0 (.ref I) (.ref D) (cEnv scope (clo scope env) C env)) (RR (.ref D) C) { s₂ with heap := h₁ } := by
    refine hloop I D C _ _ fp P Sta _ rfl W hIo st1 f mI mD offI offD (noI D noneD) (noF D noneD) hDO (fun h => noI I (hO I h) rfl) (fun a ha => noF a (hO a ha)) ?_ ⟨0, up _ _ hD2⟩ ?_
    · intro i v hi hv
      obtain ⟨t, ht, hr⟩ := hP i v hi hv
      refine ⟨t, ht, hr.mono fun a o e => ?_⟩
      obtain ⟨hx', ho⟩ := hid_some e
      refine hid_of (fun hm => ?_) (up _ _ (up2 _ _ ho))
      rcases List.mem_append.mp hm with hm | hm
      · rw [hO a hm] at ho; cases ho
      · rcases List.mem_append.mp hm with hm | hm
        · rcases List.mem_cons.mp hm with rfl | hm
          · rw [noneD] at ho; cases ho
          · exact hx' (List.mem_singleton.mp hm ▸ List.mem_cons_self)
        · exact hx' (List.mem_cons_of_mem _ hm)
    · intro s' ys hm hl hr kk
      have kk' : Kp s s' := by
        obtain ⟨⟨h', t', rfl⟩, kb⟩ := kk
        obtain ⟨⟨h2', t2', e2⟩, _⟩ := k2
        refine ⟨⟨h', t', by rw [e2]⟩, fun b o e => kb b o (fun hm => ?_) (ups b o e)⟩
        have hnone : s.heap.get? b = none := by
          rcases List.mem_cons.mp hm with rfl | hm
          · exact nos _ noneD
          · rcases List.mem_cons.mp hm with rfl | hm
            · exact hIs
            · exact nos _ (hO b hm)
        rw [hnone] at e; cases e
      refine hRR D C s' ys (noX D noneD) (noX C noneC) (nos D noneD) (nos C noneC) (Nat.ne_of_lt (by omega)) hm hl (hr.mono (hid_less fun a ha => ?_)) (by obtain ⟨m, o, _, _, e, _⟩ := hm; exact ⟨o, e⟩) kk'
      rcases List.mem_cons.mp ha with rfl | ha
      · exact List.mem_append_left _ List.mem_cons_self
      · exact mX a ha
  exact codeAny_compStart_list loop (W.self 0 _ _ _ st1 loop)

theorem Ev.compG {elt target iter : PySem.Expr} {ifs : List PySem.Expr} {rest : List Comprehension} {scope : Scope} {pos : Pos} {xs zs : List T} (hi : ItT prog w G A env ρ iter xs) (k : CompOK scope env)
    (hloop : LoopOK prog w G A env ρ (.ListComp elt (⟨target, iter, ifs, 0⟩ :: rest) scope pos) scope xs.length xs zs)
    (hs : ∀ x, foldedSetIterable iter env x = pure x := by intro _; rfl) : Ev prog w G A env ρ (.ListComp elt (⟨target, iter, ifs, 0⟩ :: rest) scope pos) (.lst zs) := fun X s b r => by
  rw [eval_ListComp]
  refine wpAny_comprehension_free (use := none) rfl hs (closureFor_clo k.free) k.kind (fun y hy hl => by rw [k.at hy, hl]) (wpAny_mono (hi X s b r) (fun v s₁ h₁ => wpAny_mono h₁ (fun it s₂ h₂ => ?_) fun _ _ q => q) fun _ _ q => q)
  obtain ⟨I, fp, P, Sta, rfl, W, st, hIX, hI, hIo, hfp, hP, k2⟩ := h₂
  refine compBlockG k W st hIo b r hIX hI hfp hP k2 hloop fun D C s' ys hDX hCX hD hC hDC hm hl hr _ kk => ?_
  obtain ⟨m, hm⟩ := hm
  refine ⟨m, hm, fun h' hs' => ?_⟩
  have up : ∀ b o, b ≠ C → s'.heap.get? b = some o → h'.get? b = some o := fun b o n e => hs'.extBut b o n e
  obtain ⟨n, hn⟩ := hl
  refine ⟨rep_lst.mpr ⟨D, n, ys, rfl, hid_of hDX (up _ _ hDC hn), hr.mono fun a o e => ?_⟩, ?_⟩
  · obtain ⟨h1, h2⟩ := hid_some e
    exact hid_of (fun q => h1 (List.mem_cons_of_mem _ q)) (up _ _ (fun q => h1 (q ▸ List.mem_cons_self)) h2)
  · obtain ⟨⟨h2, t2, rfl⟩, kb⟩ := kk
    exact ⟨⟨_, _, rfl⟩, fun b o e => up b o (fun q => by rw [q, hC] at e; cases e) (kb b o e)⟩

theorem turn1 (elt y iter2 : PySem.Expr) (g0 : Comprehension) (scope : Scope) (pos : Pos) (it acc : Value) (env : Env) :
    compTurn (.ListComp elt [g0, ⟨y, iter2, [], 0⟩] scope pos) 1 it acc env = (standAt iter2.pos >>= fun _ => pyNext it >>= fun r => match r with
      | none => pure (.done .next)
      | some v => letOwnedTupleGo y it v >>= fun _ => assign y env v >>= fun _ =>
        (eval elt env >>= fun x => call (.builtin "list.append") [acc, x] >>= fun _ => pure ()) >>= fun _ =>
          again (.compLoop (.ListComp elt [g0, ⟨y, iter2, [], 0⟩] scope pos) 1 it acc env)) := by rfl
theorem turn0 (elt x iter y iter2 : PySem.Expr) (scope : Scope) (pos : Pos) (it acc : Value) (env : Env) :
    compTurn (.ListComp elt [⟨x, iter, [], 0⟩, ⟨y, iter2, [], 0⟩] scope pos) 0 it acc env = (standAt iter.pos >>= fun _ => pyNext it >>= fun r => match r with
      | none => pure (.done .next)
      | some v => letOwnedTupleGo x it v >>= fun _ => assign x env v >>= fun _ =>
        eval iter2 env >>= fun z => standAt iter2.pos >>= fun _ => foldedSetIterable iter2 env z >>= fun z => holding [z] (pyIter z) >>= fun it' =>
          runOwn (.compStart (.ListComp elt [⟨x, iter, [], 0⟩, ⟨y, iter2, [], 0⟩] scope pos) 1 it' acc env) env >>= fun _ =>
          again (.compLoop (.ListComp elt [⟨x, iter, [], 0⟩, ⟨y, iter2, [], 0⟩] scope pos) 0 it acc env)) := by rfl
section
variable {prog : Program} {w : World} {G : Glb} {A : Around} {env : Env} {ρ ρ' : Bnd}
theorem loop1 {elt iter2 : PySem.Expr} {y : Str} {py : Pos} {g0 : Comprehension} {scope : Scope} {pos : Pos} {it acc : Value} {env : Env} {R : Result → Shared → Prop} {s : Shared} (I : Nat → Shared → Prop)
    (turn : ∀ n s, I n s → wpAny (model prog w) A (pyNext it) (fun r s₁ => match r with
      | none => R (.ok .next) s₁
      | some v => wpAny (model prog w) A (assign (.Name y py) env v) (fun _ s₂ => wpAny (model prog w) A (eval elt env) (fun x s₄ =>
          wpAny (model prog w) A (call (.builtin "list.append") [acc, x]) (fun _ s₅ => ∃ m, m < n ∧ I m s₅) NoE s₄) NoE s₂) NoE s₁) NoE s)
    (n : Nat) (h : I n s) : codeAny (model prog w) A (.compLoop (.ListComp elt [g0, ⟨.Name y py, iter2, [], 0⟩] scope pos) 1 it acc env) R s := by
  refine codeAny_loop rfl I (fun n s hI => ?_) n h
  show wpAny _ A ((compTurn (.ListComp elt [g0, ⟨.Name y py, iter2, [], 0⟩] scope pos) 1 it acc env).onRaise (fun x => do noteFrame x env; theTreesLotGoes x)) _ _ s
  refine wpAny_noted ?_
  rw [turn1]
  refine wpAny_bind (wpAny_standAt (wpAny_bind (wpAny_mono (turn n s hI) (fun r s₁ h₁ => ?_) fun _ _ q => q.elim)))
  cases r with
  | none => exact wpAny_pure h₁
  | some v =>
    refine wpAny_bind (wpAny_of_eq (a := ()) rfl (wpAny_bind (wpAny_mono h₁ (fun _ s₂ h₂ => ?_) fun _ _ q => q.elim)))
    exact wpAny_bind (wpAny_bind (wpAny_mono h₂ (fun x s₄ h₄ => wpAny_bind (wpAny_mono h₄ (fun _ s₅ h₅ => wpAny_pure (wpAny_pure ⟨rfl, h₅⟩)) fun _ _ q => q.elim)) fun _ _ q => q.elim))
theorem start1 {elt iter2 : PySem.Expr} {y : PySem.Expr} {g0 : Comprehension} {scope : Scope} {pos : Pos} {it acc : Value} {env : Env} {R : Result → Shared → Prop} {s : Shared}
    (h0 : codeAny (model prog w) A (.compLoop (.ListComp elt [g0, ⟨y, iter2, [], 0⟩] scope pos) 1 it acc env) R s)
    (h : wpAny (model prog w) A (pyIter it) (fun it' s' => it' = it ∧ s' = s) NoE s) : codeAny (model prog w) A (.compStart (.ListComp elt [g0, ⟨y, iter2, [], 0⟩] scope pos) 1 it acc env) R s := by
  refine codeAny_of_tree ?_
  show wpAny _ _ ((compStart (.ListComp elt [g0, ⟨y, iter2, [], 0⟩] scope pos) 1 it acc env).onRaise (fun x => do noteFrame x env; standAt theWindowsPlace)) _ _ s
  refine wpAny_notedAt ?_
  unfold compStart
  show wpAny _ _ (ask >>= _) _ _ s
  refine wpAny_bind (wpAny_askSetting (wpAny_ite ?_))
  split
  · first
      | exact wpAny_bind (wpAny_pure (wpAny_pure (And.intro rfl h0)))
      | exact wpAny_pure (And.intro rfl h0)
  · refine wpAny_bind (wpAny_rule ?_)
    show wpAny _ _ (standAt iter2.pos >>= _) _ _ s
    refine wpAny_bind (wpAny_standAt (wpAny_bind (wpAny_mono h (fun it' s' ⟨e1, e2⟩ => ?_) fun _ _ q => q.elim)))
    subst e1 e2
    exact wpAny_pure (And.intro rfl h0)
theorem loop0 {elt iter iter2 : PySem.Expr} {x y : Str} {px py : Pos} {scope : Scope} {pos : Pos} {it acc : Value} {env : Env} {R : Result → Shared → Prop} {s : Shared} (I : Nat → Shared → Prop)
    (turn : ∀ n s, I n s → wpAny (model prog w) A (pyNext it) (fun r s₁ => match r with
      | none => R (.ok .next) s₁
      | some v => wpAny (model prog w) A (assign (.Name x px) env v) (fun _ s₂ => wpAny (model prog w) A (eval iter2 env) (fun z s₃ => wpAny (model prog w) A (pyIter z) (fun it' s₄ =>
          codeAny (model prog w) A (.compLoop (.ListComp elt [⟨.Name x px, iter, [], 0⟩, ⟨.Name y py, iter2, [], 0⟩] scope pos) 1 it' acc env) (fun r s₅ => (∃ f, r = .ok f) ∧ ∃ m, m < n ∧ I m s₅) s₄ ∧
          wpAny (model prog w) A (pyIter it') (fun it'' s₅ => it'' = it' ∧ s₅ = s₄) NoE s₄) NoE s₃) NoE s₂) NoE s₁) NoE s)
    (n : Nat) (h : I n s) (hs : ∀ x, foldedSetIterable iter2 env x = pure x) : codeAny (model prog w) A (.compLoop (.ListComp elt [⟨.Name x px, iter, [], 0⟩, ⟨.Name y py, iter2, [], 0⟩] scope pos) 0 it acc env) R s := by
  refine codeAny_loop rfl I (fun n s hI => ?_) n h
  show wpAny _ A ((compTurn (.ListComp elt [⟨.Name x px, iter, [], 0⟩, ⟨.Name y py, iter2, [], 0⟩] scope pos) 0 it acc env).onRaise (fun x => do noteFrame x env; theTreesLotGoes x)) _ _ s
  refine wpAny_noted ?_
  rw [turn0]
  refine wpAny_bind (wpAny_standAt (wpAny_bind (wpAny_mono (turn n s hI) (fun r s₁ h₁ => ?_) fun _ _ q => q.elim)))
  cases r with
  | none => exact wpAny_pure h₁
  | some v =>
    refine wpAny_bind (wpAny_of_eq (a := ()) rfl (wpAny_bind (wpAny_mono h₁ (fun _ s₂ h₂ => ?_) fun _ _ q => q.elim)))
    refine wpAny_bind (wpAny_mono h₂ (fun z s₃ h₃ => wpAny_bind (wpAny_standAt (wpAny_bind (wpAny_of_eq (hs z) (wpAny_bind (wpAny_holding (wpAny_mono h₃ (fun it' s₄ ⟨h₄, h₅⟩ => ?_) fun _ _ q => q.elim))))))) fun _ _ q => q.elim)
    refine wpAny_bind (wpAny_runOwn ?_)
    refine codeAny_mono (start1 h₄ h₅) fun r s₅ ⟨⟨f, e⟩, h₆⟩ => ?_
    subst e
    exact wpAny_pure ⟨rfl, h₆⟩
end
end
end Mine
end
section
open PySem PySem.W PyProof.Rows PySem.Calls
set_option maxRecDepth 100000
set_option maxHeartbeats 400000
set_option linter.unusedVariables false
namespace Mine
section
variable {prog : Program} {w : World} {G : Glb} {A : Around} {env : Env} {ρ ρ' : Bnd}
theorem compIn {elt iter2 : PySem.Expr} {g0 : Comprehension} {y : Str} {py : Pos} {scope : Scope} {pos : Pos} {I D : Addr} {cenv : Env} {R : Result → Shared → Prop} {s : Shared} {ys zs0 : List T} {vs0 : List Value} {X X₀ O fp : List Addr} {P : Nat → Value → Prop} {Sta : Nat → Heap → Prop}
    (hX : X = I :: X₀) (hI0 : I ∉ X₀) (hO0 : ∀ a ∈ O, a ∈ X₀) (F : T → T) (W : Walks prog w A I fp [I] ys.length P Sta) (hz : ys.length + zs0.length ≤ 1000) (st : Sta 0 s.heap) (hIo : ∀ i h, Sta i h → ∃ o, h.get? I = some o)
    (f : FrR G cenv O ρ X s) (hρ : ρ y = none) (hk : cenv.kindOf y = some .local) (hO : cenv.locals ∈ O)
    (hIX : I ∈ X) (hDX : D ∈ X) (hI : Off cenv I) (hD : Off cenv D) (hDI : D ≠ I) (hDf : D ∉ fp) (hDO : D ∉ O) (hIO : I ∉ O) (hfO : ∀ a ∈ O, a ∉ fp)
    (hP : ∀ i v, i < ys.length → P i v → ∃ t, ys[i]? = some t ∧ Rep (hid s.heap X) t v) (hacc : s.heap.PlainList D vs0.toArray) (hvs : RepL (hid s.heap X) zs0 vs0)
    (helt : ∀ t ∈ ys, Ev prog w G A cenv (upd ρ y t) elt (F t))
    (hR : ∀ s' vs, FrR G cenv O ρ X₀ s' → s'.heap.PlainList D vs.toArray → RepL (hid s'.heap X) (zs0 ++ ys.map F) vs → KpX (D :: I :: O) s s' → R (.ok .next) s') :
    codeAny (model prog w) A (.compLoop (.ListComp elt [g0, ⟨.Name y py, iter2, [], 0⟩] scope pos) 1 (.ref I) (.ref D) cenv) R s := by
  have hYX : ∀ a ∈ D :: I :: O, a ∈ X := fun a ha => by
    rcases List.mem_cons.mp ha with rfl | ha
    · exact hDX
    · rcases List.mem_cons.mp ha with rfl | ha
      · exact hIX
      · exact f.own a ha
  have mI : I ∈ D :: I :: O := List.mem_cons_of_mem _ List.mem_cons_self
  have mD : D ∈ D :: I :: O := List.mem_cons_self
  have mO : ∀ a ∈ O, a ∈ D :: I :: O := fun a ha => List.mem_cons_of_mem _ (List.mem_cons_of_mem _ ha)
  refine loop1 (fun k s' => ∃ i vs, i ≤ ys.length ∧ k = ys.length + 1 - i ∧ FrR G cenv O ρ X s' ∧ Sta i s'.heap ∧ s'.heap.PlainList D vs.toArray ∧ RepL (hid s'.heap X) (zs0 ++ (ys.take i).map F) vs ∧ KpX (D :: I :: O) s s') ?_ (ys.length + 1)
    ⟨0, vs0, Nat.zero_le _, rfl, f, st, hacc, by simpa using hvs, .refl _⟩
  rintro k s' ⟨i, vs, hi, rfl, f', st', acc', hvs', k'⟩
  by_cases hlt : i < ys.length
  · refine W.item i _ _ _ hlt st' fun v h₁ tk₁ hv st₁ kk₁ => ?_
    have f₁ : FrR G cenv O ρ X { s' with heap := h₁, toks := tk₁ } := f'.other hIX hI kk₁ (hIo _ _ st₁)
    have k₁ := k'.other (tk := tk₁) mI kk₁
    have acc₁ : h₁.PlainList D vs.toArray := acc'.at fun o e => kk₁ D o (by simpa using hDI) e
    have hvs₁ : RepL (hid h₁ X) (zs0 ++ (ys.take i).map F) vs := hvs'.mono (hid_in fun b o n e => kk₁ b o (fun q => n (List.mem_singleton.mp q ▸ hIX)) e)
    obtain ⟨t, ht, hr⟩ := hP i v hlt hv
    have hmem : t ∈ ys := List.mem_of_getElem? ht
    refine wpAny_assign_Name (f₁.store (t := t) (hr.kpx k₁ hYX) (.inl ⟨hk, hO⟩) fun s₂ f₂ k₂ => ?_)
    have st₂ : Sta (i + 1) s₂.heap := W.frame _ _ _ st₁ fun b hb o e => k₂.keep b o (fun q => hfO b q hb) e
    have acc₂ : s₂.heap.PlainList D vs.toArray := acc₁.at fun o e => k₂.keep D o hDO e
    have hvs₂ := RepL.kpx (s := { s' with heap := h₁, toks := tk₁ }) hvs₁ k₂ f₁.own
    have k₂' := k₁.trans (k₂.more mO)
    refine wpAny_mono (helt t hmem X s₂ f₂.bd f₂.r) (fun u s₄ ⟨hu, k₄⟩ => ?_) fun _ _ q => q.elim
    have acc₄ : s₄.heap.PlainList D vs.toArray := acc₂.at fun o e => k₄.keep D o e
    have hl : vs.length = (zs0 ++ (ys.take i).map F).length := hvs'.length
    have hsz : vs.toArray.size ≤ sizeLine := by
      have e3 : (ys.take i).length ≤ ys.length := by rw [List.length_take]; omega
      rw [List.length_append, List.length_map] at hl
      rw [List.size_toArray, sizeLine_eq]; omega
    refine wpAny_list_append_plain (hsz := hsz) acc₄ fun h₅ hl₅ hs₅ => ?_
    have kk₅ : ∀ b o, b ∉ ([D] : List Addr) → s₄.heap.get? b = some o → h₅.get? b = some o := fun b o n e => hs₅.extBut b o (by simpa using n) e
    have f₅ := (f₂.kp k₄).other (h' := h₅) (tk := s₄.toks) hDX hD kk₅ (by obtain ⟨n, e⟩ := hl₅; exact ⟨_, e⟩)
    have up : Sub (hid s₄.heap X) (hid h₅ X) := hid_in fun b o n e => kk₅ b o (fun q => n (List.mem_singleton.mp q ▸ hDX)) e
    refine ⟨ys.length + 1 - (i + 1), by omega, i + 1, vs ++ [u], hlt, rfl, f₅.weaken ((BSub.refl ρ).skip y t hρ), ?_, by simpa using hl₅, ?_, ?_⟩
    · exact W.frame _ _ _ (W.frame _ _ _ st₂ fun b _ o e => k₄.keep b o e) fun b hb o e => hs₅.extBut b o (fun h => hDf (h ▸ hb)) e
    · rw [List.take_add_one, ht]
      simp only [Option.toList_some, List.map_append, List.map_cons, List.map_nil, ← List.append_assoc]
      exact ((hvs₂.mono (hid_keeps k₄.keep)).mono up).append (.one (hu.mono up))
    · exact (k₂'.trans k₄.x).other mD kk₅
  · obtain rfl : i = ys.length := by omega
    refine W.done _ _ _ st' fun h' tk kk => ?_
    have kx := k'.other (tk := tk) mI kk
    rw [List.take_length] at hvs'
    exact hR _ vs (FrR.drop (h' := h') (tk := tk) (hX ▸ f') hI0 hO0 hI kk) (acc'.at fun o e => kk D o (by simpa using hDI) e) (hvs'.mono (hid_in fun b o n e => kk b o (fun q => n (List.mem_singleton.mp q ▸ hIX)) e)) kx

theorem loop2 {elt iter iter2 : PySem.Expr} {x y : Str} {px py : Pos} {scope : Scope} {pos : Pos} {xs ys : List T} (F : T → T → T) (hx : scope.names.lookup x = some .local) (hy : scope.names.lookup y = some .local) (hxy : y ≠ x) (hxs : xs.length ≤ 30) (hys : ys.length ≤ 30)
    (hi2 : ∀ C, ∀ t ∈ xs, ItT prog w G A (cEnv scope (clo scope env) C env) (Mine.upd (restr scope ρ) x t) iter2 ys)
    (helt : ∀ C, ∀ t ∈ xs, ∀ u ∈ ys, Ev prog w G A (cEnv scope (clo scope env) C env) (Mine.upd (Mine.upd (restr scope ρ) x t) y u) elt (F t u))
    (hs2 : ∀ C z, foldedSetIterable iter2 (cEnv scope (clo scope env) C env) z = pure z) :
    LoopOK prog w G A env ρ (.ListComp elt [⟨.Name x px, iter, [], 0⟩, ⟨.Name y py, iter2, [], 0⟩] scope pos) scope xs.length xs (xs.flatMap fun t => ys.map (F t)) := by
  intro I D C X s fp P Sta R hn W hIo st f hIX hDX hI hD hDI hDf hDO hIO hfO hP hacc hR
  have rno : ∀ n, scope.names.lookup n = some .local → restr scope ρ n = none := fun n h => by unfold restr; rw [h]; rfl
  have hYX : ∀ a ∈ D :: I :: cOwn scope C, a ∈ X := fun a ha => by
    rcases List.mem_cons.mp ha with rfl | ha
    · exact hDX
    · rcases List.mem_cons.mp ha with rfl | ha
      · exact hIX
      · exact f.own a ha
  have mI : I ∈ D :: I :: cOwn scope C := List.mem_cons_of_mem _ List.mem_cons_self
  have mD : D ∈ D :: I :: cOwn scope C := List.mem_cons_self
  have mO : ∀ a ∈ cOwn scope C, a ∈ D :: I :: cOwn scope C := fun a ha => List.mem_cons_of_mem _ (List.mem_cons_of_mem _ ha)
  have len : ∀ (l : List T), (l.flatMap fun t => ys.map (F t)).length = l.length * ys.length := fun l => by
    induction l with
    | nil => simp
    | cons a l ih => rw [List.flatMap_cons, List.length_append, ih, List.length_map, List.length_cons, Nat.succ_mul]; omega
  refine loop0 (fun k s' => ∃ i vs, i ≤ xs.length ∧ k = xs.length + 1 - i ∧ FrR G (cEnv scope (clo scope env) C env) (cOwn scope C) (restr scope ρ) X s' ∧ Sta i s'.heap ∧ s'.heap.PlainList D vs.toArray ∧ RepL (hid s'.heap X) ((xs.take i).flatMap fun t => ys.map (F t)) vs ∧ KpX (D :: I :: cOwn scope C) s s') ?_ (xs.length + 1)
    ⟨0, [], Nat.zero_le _, rfl, f, st, hacc, by simpa using repL_nil.mpr rfl, .refl _⟩ (hs2 C)
  rintro k s' ⟨i, vs, hi, rfl, f', st', acc', hvs', k'⟩
  by_cases hlt : i < xs.length
  · refine W.item i _ _ _ hlt st' fun v h₁ tk₁ hv st₁ kk₁ => ?_
    have f₁ : FrR G (cEnv scope (clo scope env) C env) (cOwn scope C) (restr scope ρ) X { s' with heap := h₁, toks := tk₁ } := f'.other hIX hI kk₁ (hIo _ _ st₁)
    have k₁ := k'.other (tk := tk₁) mI kk₁
    have acc₁ : h₁.PlainList D vs.toArray := acc'.at fun o e => kk₁ D o (by simpa using hDI) e
    have hvs₁ : RepL (hid h₁ X) ((xs.take i).flatMap fun t => ys.map (F t)) vs := hvs'.mono (hid_in fun b o n e => kk₁ b o (fun q => n (List.mem_singleton.mp q ▸ hIX)) e)
    obtain ⟨t, ht, hr⟩ := hP i v hlt hv
    have hmem : t ∈ xs := List.mem_of_getElem? ht
    refine wpAny_assign_Name (f₁.store (t := t) (hr.kpx k₁ hYX) (.inl ⟨cEnv_kind_ne hx (by decide), List.mem_cons_self⟩) fun s₂ f₂ k₂ => ?_)
    have st₂ : Sta (i + 1) s₂.heap := W.frame _ _ _ st₁ fun b hb o e => k₂.keep b o (fun q => hfO b q hb) e
    have acc₂ : s₂.heap.PlainList D vs.toArray := acc₁.at fun o e => k₂.keep D o hDO e
    have hvs₂ := RepL.kpx (s := { s' with heap := h₁, toks := tk₁ }) hvs₁ k₂ f₁.own
    have k₂' := k₁.trans (k₂.more mO)
    refine wpAny_mono (hi2 C t hmem X s₂ f₂.bd f₂.r) (fun z s₃ h₃ => wpAny_mono h₃ (fun it s₄ h₄ => ?_) fun _ _ q => q) fun _ _ q => q
    obtain ⟨I2, fp2, P2, Sta2, rfl, W2, sta2, hI2X, hI2, hIo2, hfp2, hP2, k24⟩ := h₄
    refine ⟨?_, W2.self 0 _ _ _ sta2 ⟨rfl, rfl⟩⟩
    have hDI2 : D ≠ I2 := fun e => hI2X (e ▸ hDX)
    have hOX : ∀ a ∈ cOwn scope C, a ∈ X := f.own
    refine compIn (X := I2 :: X) (X₀ := X) (O := cOwn scope C) (ρ := Mine.upd (restr scope ρ) x t) (zs0 := (xs.take i).flatMap fun t => ys.map (F t)) (vs0 := vs) rfl hI2X hOX (F t) W2 ?_ sta2 hIo2 (f₂.hide k24 hI2 (hIo2 _ _ sta2)) ?_ (cEnv_kind_ne hy (by decide)) List.mem_cons_self
      List.mem_cons_self (List.mem_cons_of_mem _ hDX) (f₂.r.fresh hI2) hD hDI2 ?_ hDO (fun m => hI2X (hOX _ m)) ?_ hP2 (acc₂.at fun o e => k24.keep D o e) (hvs₂.mono (hid_more (Y := [I2]) (fun b o _ e => k24.keep b o e) fun b hb => .inr (List.mem_singleton.mp hb ▸ hI2))) (helt C t hmem) ?_
    · rw [len, List.length_take, Nat.min_eq_left (Nat.le_of_lt hlt)]
      have : i * ys.length ≤ 30 * 30 := Nat.mul_le_mul (by omega) hys
      omega
    · unfold Mine.upd; rw [if_neg hxy]; exact rno y hy
    · exact fun m => (hfp2 D m).elim hDI2 fun q => q.1 hDX
    · exact fun a ha m => (hfp2 a m).elim (fun e => hI2X (e ▸ hOX a ha)) fun q => q.1 (hOX a ha)
    · intro s₅ vs₅ f₅ acc₅ hvs₅ k₅
      have kb : KpX (D :: cOwn scope C) s₂ s₅ := KpX.back k24 k₅ fun a ha => by
        rcases List.mem_cons.mp ha with rfl | ha
        · exact .inl List.mem_cons_self
        · rcases List.mem_cons.mp ha with rfl | ha
          · exact .inr hI2
          · exact .inl (List.mem_cons_of_mem _ ha)
      refine ⟨⟨_, rfl⟩, xs.length + 1 - (i + 1), by omega, i + 1, vs₅, hlt, rfl, f₅.weaken ((BSub.refl _).skip x t (rno x hx)), ?_, acc₅, ?_, ?_⟩
      · exact W.frame _ _ _ st₂ fun b hb o e => kb.keep b o (fun m => (List.mem_cons.mp m).elim (fun q => hDf (q ▸ hb)) fun q => hfO b q hb) e
      · rw [List.take_add_one, ht]
        simp only [Option.toList_some, List.flatMap_append, List.flatMap_cons, List.flatMap_nil, List.append_nil]
        exact hvs₅.mono (hid_less fun a ha => List.mem_cons_of_mem _ ha)
      · exact k₂'.trans (kb.more fun a ha => by
          rcases List.mem_cons.mp ha with rfl | ha
          · exact mD
          · exact mO a ha)
  · obtain rfl : i = xs.length := by omega
    refine W.done _ _ _ st' fun h' tk kk => ?_
    refine hR _ vs ?_ (acc'.at fun o e => kk D o (by simpa using hDI) e) ?_ (k'.other mI kk)
    · obtain ⟨m, ⟨o, es, ep, e, q⟩, _⟩ := f'.r.loc
      exact ⟨m, o, es, ep, kk _ o (fun m => hI.loc (List.mem_singleton.mp m)) e, q⟩
    · rw [List.take_length] at hvs'
      exact hvs'.mono (hid_in fun b o n e => kk b o (fun q => n (List.mem_singleton.mp q ▸ hIX)) e)

theorem Ev.comp2 {elt iter iter2 : PySem.Expr} {x y : Str} {px py : Pos} {scope : Scope} {pos : Pos} {xs ys : List T} (F : T → T → T) (hi : ItT prog w G A env ρ iter xs) (k : CompOK scope env) (hx : scope.names.lookup x = some .local) (hy : scope.names.lookup y = some .local) (hxy : y ≠ x) (hxs : xs.length ≤ 30) (hys : ys.length ≤ 30)
    (hi2 : ∀ C, ∀ t ∈ xs, ItT prog w G A (cEnv scope (clo scope env) C env) (Mine.upd (restr scope ρ) x t) iter2 ys)
    (helt : ∀ C, ∀ t ∈ xs, ∀ u ∈ ys, Ev prog w G A (cEnv scope (clo scope env) C env) (Mine.upd (Mine.upd (restr scope ρ) x t) y u) elt (F t u))
    (hs : ∀ x, foldedSetIterable iter env x = pure x := by intro _; rfl) (hs2 : ∀ C z, foldedSetIterable iter2 (cEnv scope (clo scope env) C env) z = pure z := by intro _ _; rfl) :
    Ev prog w G A env ρ (.ListComp elt [⟨.Name x px, iter, [], 0⟩, ⟨.Name y py, iter2, [], 0⟩] scope pos) (.lst (xs.flatMap fun t => ys.map (F t))) :=
  Ev.compG hi k (loop2 F hx hy hxy hxs hys hi2 helt hs2) hs

/-! tests, at one state -/
noncomputable def EvAt (prog : Program) (w : World) (G : Glb) (A : Around) (env : Env) (ρ : Bnd) (X : List Addr) (s : Shared) (e : PySem.Expr) (x : T) : Prop := wpAny (model prog w) A (eval e env) (fun v s' => Rep (hid s'.heap X) x v ∧ Kp s s') NoE s
noncomputable def TsAt (prog : Program) (w : World) (A : Around) (env : Env) (s : Shared) (e : PySem.Expr) (c : Bool) : Prop := wpAny (model prog w) A (isTrue e env (eval e env)) (fun b s' => b = c ∧ Kp s s') NoE s
theorem nesAt {X : List Addr} {s : Shared} {l r : PySem.Expr} {x : T} {pos : Pos} (b : Bd X s.heap) (e : EnvR G env ρ X s.heap) (hl : EvAt prog w G A env ρ X s l x) (hr : Ev prog w G A env ρ r x) (hf : x.flat = true) (hs : SeqAt.shaped x.py = true) (hu : A.units + 64 < cLine)
    (hm : behindInMarks .NotEq r = false := by with_unfolding_all rfl) : TsAt prog w A env s (.Compare l [.NotEq] [r] pos) false :=
  wpAny_isTrue_Compare1 (wpAny_mono hl (fun v s₁ ⟨h1, k1⟩ => hr.use (b.keeps k1.keep) (e.keeps k1.keep) fun u s₂ h2 k2 b2 _ => ne_same (h1.mono (hid_keeps k2.keep)) h2 hf hs hu (wpAny_truthy_bool ⟨rfl, k1.trans k2⟩)) fun _ _ q => q) hm
theorem or2At {X : List Addr} {s : Shared} {x y : PySem.Expr} {pos : Pos} (b : Bd X s.heap) (e : EnvR G env ρ X s.heap) (h : TsAt prog w A env s x false) (h' : Tst prog w G A env ρ y false) : TsAt prog w A env s (.BoolOp .Or [x, y] pos) false :=
  isTrue_or (wpAny_mono h (fun c s₁ ⟨e1, k1⟩ => by subst e1; exact isTrue_or (h'.use (b.keeps k1.keep) (e.keeps k1.keep) fun s₂ k2 _ _ => isTrue_or_nil ⟨rfl, k1.trans k2⟩)) fun _ _ q => q)
theorem ifStepAt {test : PySem.Expr} {body rest : List Stmt} {pos : Pos} {O X : List Addr} {s : Shared} {Q : Flow → Shared → Prop} (h : TsAt prog w A env s test false) (f : FrR G env O ρ X s) (hQ : ∀ s', FrR G env O ρ X s' → Kp s s' → wpAny (model prog w) A (execs rest env) Q NoE s') :
    wpAny (model prog w) A (execs (.If test body [] pos :: rest) env) Q NoE s :=
  wpAny_execs_cons (wpAny_If (wpAny_mono h (fun c s₁ ⟨e1, k1⟩ => by
    subst e1
    simp only [Bool.false_eq_true, if_false]
    exact wpAny_execs_nil (hQ s₁ (f.kp k1) k1)) fun _ _ q => q.elim))
end
end Mine
end
section
open PySem PySem.W PyProof.Rows PySem.Calls
set_option maxRecDepth 100000
set_option maxHeartbeats 4000000
set_option linter.unusedVariables false
namespace Mine
noncomputable def qK (n : Nat) (one other r c : Int) : List Int := [(r + c + one) % n, (r + 2 * c + other) % n]
noncomputable def keysOf (n : Nat) (one other : Int) : List (List Int) := (rngI n).flatMap fun r => (rngI n).map fun c => qK n one other r c
noncomputable def allK (n : Nat) : List (List Int) := (rngI n).flatMap fun a => (rngI n).map fun b => [a, b]
noncomputable def keysOK (n : Nat) (one other : Int) : Bool := sortK (keysOf n one other) == some (allK n) && decide ((keysOf n one other).Nodup)
end Mine
end
section
open PySem PySem.W PyProof.Rows PySem.Calls
set_option maxRecDepth 100000
set_option maxHeartbeats 400000
set_option linter.unusedVariables false
namespace Mine
section
variable {prog : Program} {w : World} {G : Glb} {A : Around} {env : Env} {ρ ρ' : Bnd}
end
section
variable {prog : Program} {w : World} {G : Glb} {A : Around} {env : Env} {ρ ρ' : Bnd}
noncomputable def GX (G : Glb) (a : Addr) (o : Obj) : Glb := { G with K := (a, o) :: G.K }
theorem GX.at {G : Glb} {a : Addr} {o : Obj} {h : Heap} (t : TopOK (GX G a o) h) : h.get? a = some o := t.k a o (by simp [GX, List.lookup])
theorem ev_sum {a : Addr} {o : Obj} {vs : Array Value} {n : Nat} {ns : List Int} {x f : Str} {xp fp pos : Pos} (hh : A.handled = none) (hc : o.cls = .type "list") (hd : o.data = .seq vs n) (hi : IntsAre vs.toList ns) (hρ : ρ x = some (.ptr a))
    (hf : EvV prog w (GX G a o) A env ρ (.Name f fp) (.builtin "sum"))
    (he : starEach [.Name x xp] env = (false, eval (.Name x xp) env) :: starEach [] env := by rfl)
    (hp : (backTo pos (starEach [] env)).any (·.1) = false := by rfl)
    (hcl : eval (.Call (.Name f fp) [.Name x xp] [] pos) env = (do callWith pos (← eval (.Name f fp) env) [] (backTo pos (starEach [.Name x xp] env)) (backToKw pos (keywordEach [] env))) := by rfl)
    (h1 : (x == ("__debug__" : Str)) = false := by decide) (h2 : (x == ("__classdict__" : Str)) = false := by decide) : Ev prog w (GX G a o) A env ρ (.Call (.Name f fp) [.Name x xp] [] pos) (.int ns.sum) := fun X s b r =>
  Call_ (hf.use b r fun s₁ k1 b1 r1 => PyProof.Rows.callWith_builtin1 (spliced_more ((Ev.name (ρ := ρ) (x := x) hρ h1 h2).use b1 r1 fun v s₂ g1 k2 b2 r2 => spliced_none (by
    rw [rep_ptr.mp g1]
    obtain ⟨xs, hxs⟩ := hi.allInts.items
    have e : vs = intItems xs := by rw [← hxs]
    have hl : s₂.heap.IsList a (intItems xs) := ⟨o, GX.at r2.top.ok, hc, n, by rw [hd, e]⟩
    refine sum_intListG hh hl fun h' tk t' hk => ?_
    have e2 : preSum (numAt xs) xs.size = ns.sum := by
      have := hi.numsOf
      rw [e, nums_intItems] at this
      rw [preSum_eq, List.take_of_length_le (by simp)]; rw [← this]
    rw [e2]
    exact ⟨rep_int.mpr ⟨t', rfl⟩, (k1.trans k2).trans ⟨⟨_, _, rfl⟩, hk⟩⟩))) he hp) hcl
theorem repInts {g : View} : ∀ {vs : List Value} {ns : List Int}, IntsAre vs ns → RepL g (ns.map .int) vs
  | _, _, .nil => repL_nil.mpr rfl
  | _, _, .cons n t r => repL_cons.mpr ⟨_, _, rfl, rep_int.mpr ⟨t, rfl⟩, repInts r⟩
theorem ev_catX {a : Addr} {o : Obj} {vs : Array Value} {n : Nat} {ns ms : List Int} {x : Str} {xp pos : Pos} {e : PySem.Expr} (hc : o.cls = .type "list") (hd : o.data = .seq vs n) (hi : IntsAre vs.toList ns) (hρ : ρ x = some (.ptr a)) (hz : ns.length + ms.length ≤ 1000)
    (hr : Ev prog w (GX G a o) A env ρ e (.lst (ms.map .int)))
    (h1 : (x == ("__debug__" : Str)) = false := by decide) (h2 : (x == ("__classdict__" : Str)) = false := by decide) : Ev prog w (GX G a o) A env ρ (.BinOp (.Name x xp) .Add e pos) (.lst ((ns ++ ms).map .int)) := fun X s b r =>
  wpAny_BinOp ((Ev.name (ρ := ρ) (x := x) hρ h1 h2).use b r fun v s₁ g1 k1 b1 r1 => hr.use b1 r1 fun u s₂ g2 k2 b2 r2 => by
    rw [rep_ptr.mp g1]
    obtain ⟨c, m, us, rfl, hcc, hus⟩ := rep_lst.mp g2
    have ho := GX.at r2.top.ok
    obtain ⟨cls, dd, data, sl⟩ := o
    simp only at hc hd
    subst hc hd
    have hvl : vs.size = ns.length := by rw [← hi.length, Array.length_toList]
    have hul : us.length = ms.length := by rw [hus.length, List.length_map]
    refine concat_meets ⟨_, ho, rfl⟩ ⟨_, (hid_some hcc).2, rfl⟩ noFill_list_add seq_list_add PySem.F.slot_list_add PySem.F.entry_list_add (PySem.F.args_list_add_2 _ _) (list_addW a c vs us.toArray n m dd none sl #[] (by rw [hvl, List.size_toArray, hul, sizeLine_eq]; omega)) ⟨ho, (hid_some hcc).2, ?_⟩
    have e : vs ++ us.toArray = (vs.toList ++ us).toArray := by simp
    rw [e]
    refine ⟨rep_lst.mpr ⟨_, 0, vs.toList ++ us, rfl, rep_new b2 _ rfl, ?_⟩, (k1.trans k2).trans (keeps_push s₂ _ _)⟩
    rw [List.map_append]
    exact (repInts hi).append (hus.mono (hid_keeps fun _ _ e => Heap.get?_push_of_some _ e)))
end
end Mine
end
section
open PySem PySem.W PyProof.Rows PySem.Calls
set_option maxRecDepth 100000
set_option maxHeartbeats 400000
set_option linter.unusedVariables false
namespace Mine
section
variable {w : World} {G : Glb} {A : Around}
theorem intsRep {g : View} : ∀ {vs : List Value} {ns : List Int}, RepL g (ns.map .int) vs → IntsAre vs ns
  | vs, [], h => by rw [repL_nil.mp h]; exact .nil
  | vs, n :: ns, h => by
    obtain ⟨v, r, rfl, h1, h2⟩ := repL_cons.mp h
    obtain ⟨t, rfl⟩ := rep_int.mp h1
    exact .cons n t (intsRep h2)
noncomputable def toB (l : List Int) : List UInt8 := l.map fun n => n.toNat.toUInt8
theorem c_bytes (hh : A.handled = none) (l : List Int) (hb : ∀ n ∈ l, 0 ≤ n ∧ n < 256) (hz : l.length ≤ 1000) : CallT PG w G A (.type "bytes") [iL l] (.byt (toB l)) := fun X s vs b tp hv => by
  obtain ⟨v, r, rfl, h1, h2⟩ := repL_cons.mp hv
  obtain rfl := repL_nil.mp h2
  obtain ⟨a, n, us, rfl, ha, hus⟩ := rep_lst.mp h1
  have hul : us.length = l.length := by rw [hus.length, List.length_map]
  exact call_bytes_ints ⟨_, (hid_some ha).2, rfl, n, rfl⟩ (intsRep hus) hb (by rw [hul, sizeLine_eq]; omega) hh fun h' t k hk => ⟨rep_byt.mpr ⟨t, rfl⟩, ⟨⟨_, _, rfl⟩, hk⟩⟩
theorem byteInt {n : Int} (h0 : 0 ≤ n) (h1 : n < 256) : ((n.toNat.toUInt8).toNat : Int) = n := by
  have : n.toNat % 256 = n.toNat := Nat.mod_eq_of_lt (by omega)
  simp [this]; omega
theorem repItems {g : View} {bs : List UInt8} {acc : Array Value} (h : ItemsOf (ByteAt bs.toArray) acc bs.length) : RepL g ((bs.map fun b => (b.toNat : Int)).map .int) acc.toList := by
  have key : ∀ (l : List UInt8) (vs : List Value), vs.length = l.length → (∀ (j : Nat) (v : Value), vs[j]? = some v → ∃ (b : UInt8) (t : Tok), l[j]? = some b ∧ v = Value.int (b.toNat : Int) t) → RepL g ((l.map fun b => (b.toNat : Int)).map .int) vs := by
    intro l
    induction l with
    | nil => intro vs hl _; rw [List.length_eq_zero_iff.mp hl]; exact repL_nil.mpr rfl
    | cons b l ih =>
      intro vs hl hv
      cases vs with
      | nil => simp at hl
      | cons v vs =>
        obtain ⟨b', t, e1, rfl⟩ := hv 0 v rfl
        cases e1
        exact repL_cons.mpr ⟨_, _, rfl, rep_int.mpr ⟨t, rfl⟩, ih vs (by simpa using hl) fun j v hj => by simpa using hv (j + 1) v (by simpa using hj)⟩
  refine key bs acc.toList (by rw [Array.length_toList]; exact h.1) fun j v hj => ?_
  obtain ⟨c, u, e, r⟩ := h.2 j v (by rw [← Array.getElem?_toList]; exact hj)
  exact ⟨c, u, by simpa using e, r⟩
theorem evR_swap (g : GF w G) (r : Rm 3 A) {env : Env} {ρ : Bnd} {x y : Str} {p1 p2 p3 p4 p5 q1 q2 q3 : Pos} (l : List Int) (n : Nat) (hl : l.length = n) (h0 : 0 < n) (hz : n ≤ 100) (hb : ∀ x ∈ l, 0 ≤ x ∧ x < 256) (hx : ρ x = some (iL l)) (hy : ρ y = some (.int n))
    (k1 : env.kindOf (Str.ofString "list") = some .globalImplicit := by rfl) (k2 : env.kindOf (Str.ofString "_byteswap") = some .globalImplicit := by rfl) (k3 : env.kindOf (Str.ofString "bytes") = some .globalImplicit := by rfl)
    (e1 : (x == ("__debug__" : Str)) = false := by decide) (e2 : (x == ("__classdict__" : Str)) = false := by decide) (e3 : (y == ("__debug__" : Str)) = false := by decide) (e4 : (y == ("__classdict__" : Str)) = false := by decide)
    (hl1 : eval (.Call (.Name (Str.ofString "bytes") p3) [.Name x p4] [] q3) env = (do callWith q3 (← eval (.Name (Str.ofString "bytes") p3) env) [] (backTo q3 (starEach [.Name x p4] env)) (backToKw q3 (keywordEach [] env))) := by rfl)
    (hl2 : eval (.Call (.Name (Str.ofString "_byteswap") p2) [.Call (.Name (Str.ofString "bytes") p3) [.Name x p4] [] q3, .Name y p5] [] q2) env = (do callWith q2 (← eval (.Name (Str.ofString "_byteswap") p2) env) [] (backTo q2 (starEach [.Call (.Name (Str.ofString "bytes") p3) [.Name x p4] [] q3, .Name y p5] env)) (backToKw q2 (keywordEach [] env))) := by rfl)
    (hl3 : eval (.Call (.Name (Str.ofString "list") p1) [.Call (.Name (Str.ofString "_byteswap") p2) [.Call (.Name (Str.ofString "bytes") p3) [.Name x p4] [] q3, .Name y p5] [] q2] [] q1) env = (do callWith q1 (← eval (.Name (Str.ofString "list") p1) env) [] (backTo q1 (starEach [.Call (.Name (Str.ofString "_byteswap") p2) [.Call (.Name (Str.ofString "bytes") p3) [.Name x p4] [] q3, .Name y p5] [] q2] env)) (backToKw q1 (keywordEach [] env))) := by rfl)
    (s1 : starEach [.Name x p4] env = (false, eval (.Name x p4) env) :: starEach [] env := by rfl)
    (s2 : starEach [.Call (.Name (Str.ofString "bytes") p3) [.Name x p4] [] q3, .Name y p5] env = (false, eval (.Call (.Name (Str.ofString "bytes") p3) [.Name x p4] [] q3) env) :: starEach [.Name y p5] env := by rfl)
    (s3 : starEach [.Name y p5] env = (false, eval (.Name y p5) env) :: starEach [] env := by rfl)
    (s4 : starEach [.Call (.Name (Str.ofString "_byteswap") p2) [.Call (.Name (Str.ofString "bytes") p3) [.Name x p4] [] q3, .Name y p5] [] q2] env = [(false, eval (.Call (.Name (Str.ofString "_byteswap") p2) [.Call (.Name (Str.ofString "bytes") p3) [.Name x p4] [] q3, .Name y p5] [] q2) env)] := by rfl)
    (b1 : (backTo q3 (starEach [] env)).any (·.1) = false := by rfl) (b2 : (backTo q2 (starEach [.Name y p5] env)).any (·.1) = false := by rfl) :
    EvR PG w G A env ρ (.Call (.Name (Str.ofString "list") p1) [.Call (.Name (Str.ofString "_byteswap") p2) [.Call (.Name (Str.ofString "bytes") p3) [.Name x p4] [] q3, .Name y p5] [] q2] [] q1) (iL l.reverse) := fun X s bd rr =>
  wpR_Call ((EvV.built (ρ := ρ) g.list.1 g.list.2 k1).use bd rr fun s₁ k₁ b₁ r₁ => wpR_callType1 (wpR_Call ((EvV.glob (ρ := ρ) g.swap k2).use b₁ r₁ fun s₂ k₂ b₂ r₂ =>
    wpR_callDef rfl ((EvL.cons (Ev.callY (EvV.built g.bytes.1 g.bytes.2 k3) (EvL.cons (Ev.name hx e1 e2) EvL.nil s1) (c_bytes r.hh l hb (by omega)) s1 b1 hl1) (EvL.cons (Ev.name hy e3 e4) EvL.nil s3) s2).use b₂ r₂ fun vs s₃ h₃ k₃ b₃ r₃ =>
      ⟨r₃.top.ok.k 21 _ (by rw [g.k]; rfl), wpR_mono (c_swap g (r.less (by omega)) (toB l) n (by unfold toB; rw [List.length_map, hl]) h0 hz X s₃ vs b₃ r₃.top h₃) (fun v s₄ ⟨hv, k₄⟩ => .of (by
        obtain ⟨t, rfl⟩ := rep_byt.mp hv
        have hbl : (toB l).reverse.length = n := by unfold toB; rw [List.length_reverse, List.length_map, hl]
        refine call_list_bytes r.hh _ t (fun h' tk acc' c' hk hS hacc => ?_) (by rw [List.size_toArray, hbl, sizeLine_eq]; omega)
        rw [List.size_toArray] at hacc
        have hX : s₄.heap.objs.size ∉ X := (b₃.keeps k₄.keep).new
        refine ⟨rep_lst.mpr ⟨_, c', acc'.toList, rfl, hid_of hX (by rw [hS]), ?_⟩, (((k₁.trans k₂).trans k₃).trans k₄).trans ⟨⟨_, _, rfl⟩, hk⟩⟩
        have e : (toB l).reverse.map (fun b => (b.toNat : Int)) = l.reverse := by
          unfold toB
          rw [List.map_reverse, List.map_map]
          congr 1
          conv => rhs; rw [← List.map_id l]
          exact List.map_congr_left fun n hn => byteInt (hb n hn).1 (hb n hn).2
        rw [← e]
        exact repItems hacc)) fun _ _ q => q⟩) s2 b2) hl2) s4) hl3
end
end Mine
end
section
open PySem PySem.W PyProof.Rows PySem.Calls
set_option maxRecDepth 100000
set_option maxHeartbeats 400000
set_option linter.unusedVariables false
namespace Mine
noncomputable def bitsN (n : Nat) : Nat := if n = 3 then 2 else 3
noncomputable def turnL (m : List (List Int)) : List (List Int) := m.map List.reverse
noncomputable def fairL (n : Nat) : List (List Int) := sq n (((n : Int) + 1) / 2) 1
noncomputable def slopesL (n : Nat) : List (List Int) := [(rngI n).map fun k => ((fairL n).getD k.toNat []).getD k.toNat 0, (rngI n).map fun k => ((fairL n).getD k.toNat []).getD ((n : Int) - 1 - k).toNat 0]
structure PF (n : Nat) (one other : Int) : Prop where
  sz : n = 3 ∨ n = 5 ∨ n = 7
  dm : ∀ r ∈ rngI n, ∀ c ∈ rngI n, DM (cel n one other r c - 1) n (bitsN n) ∧ dval (bitsN n) (dmRun n (bitsN n) (digs (bitsN n) (cel n one other r c - 1)).reverse).2.reverse = (r + c + one) % n ∧ (dmRun n (bitsN n) (digs (bitsN n) (cel n one other r c - 1)).reverse).1 = (r + 2 * c + other) % n
  nodup : (keysOf n one other).Nodup
  sort : sortK (keysOf n one other) = some (allK n)
  byt : ∀ l ∈ sq n one other, ∀ x ∈ l, 0 ≤ x ∧ x < 256
  a1 : Alike n (sq n one other)
  a2 : Alike n (turnL (sq n one other))
  a3 : Alike n (sq n one other).reverse
  a4 : Alike n (colsOf n (sq n one other))
  a5 : Alike n (fairL n)
  bytF : ∀ l ∈ fairL n, ∀ x ∈ l, 0 ≤ x ∧ x < 256
  slope : ∀ l ∈ slopesL n, accL 0 l = due n
  half : turnL (fairL n).reverse = (fairL n).map fun l => l.map fun x => (n : Int) * n + 1 - x
section
variable {prog : Program} {w : World} {G : Glb} {A : Around} {env : Env} {ρ ρ' : Bnd}
theorem FrR.glb {G' : Glb} {O X : List Addr} {s : Shared} (f : FrR G env O ρ X s) (t : TopX G' X s.heap) : FrR G' env O ρ X s :=
  ⟨⟨f.r.kind, f.r.glob, f.r.bins, f.r.dec, f.r.loc, f.r.cel, t, f.r.cells, f.r.apart⟩, f.bd, f.own⟩
theorem stR {st : Stmt} {rest : List Stmt} {X : List Addr} {s : Shared} {Q : Flow → Shared → Prop} (h : St prog w G A env ρ st ρ') (f : FrR G env (ownOf env) ρ X s) (hQ : ∀ s', FrR G env (ownOf env) ρ' X s' → KpX (ownOf env) s s' → wpR (model prog w) A (execs rest env) Q NoE s') :
    wpR (model prog w) A (execs (st :: rest) env) Q NoE s :=
  wpR_execs_cons (.of (wpAny_mono (h X s f) (fun fl s' ⟨e, f', k'⟩ => by subst e; exact hQ s' f' k') fun _ _ q => q))
theorem stRR {st : Stmt} {rest : List Stmt} {X : List Addr} {s : Shared} {Q : Flow → Shared → Prop} (h : StR prog w G A env ρ st ρ') (f : FrR G env (ownOf env) ρ X s) (hQ : ∀ s', FrR G env (ownOf env) ρ' X s' → KpX (ownOf env) s s' → wpR (model prog w) A (execs rest env) Q NoE s') :
    wpR (model prog w) A (execs (st :: rest) env) Q NoE s :=
  wpR_execs_cons (wpR_mono (h X s f) (fun fl s' ⟨e, f', k'⟩ => by subst e; exact hQ s' f' k') fun _ _ q => q)
theorem rawR {st : Stmt} {rest : List Stmt} {s : Shared} {Q : Flow → Shared → Prop} (h : wpAny (model prog w) A (exec st env) (fun fl s' => match fl with | .next => wpR (model prog w) A (execs rest env) Q NoE s' | fl => Q fl s') NoE s) :
    wpR (model prog w) A (execs (st :: rest) env) Q NoE s := wpR_execs_cons (.of h)
theorem ifR {test : PySem.Expr} {body rest : List Stmt} {pos : Pos} {O X : List Addr} {s : Shared} {Q : Flow → Shared → Prop} (h : TsAt prog w A env s test false) (f : FrR G env O ρ X s) (hQ : ∀ s', FrR G env O ρ X s' → Kp s s' → wpR (model prog w) A (execs rest env) Q NoE s') :
    wpR (model prog w) A (execs (.If test body [] pos :: rest) env) Q NoE s :=
  rawR (wpAny_If (wpAny_mono h (fun c s₁ ⟨e1, k1⟩ => by
    subst e1
    simp only [Bool.false_eq_true, if_false]
    exact wpAny_execs_nil (hQ s₁ (f.kp k1) k1)) fun _ _ q => q.elim))
theorem retR {sts : List Stmt} {y : T} {X : List Addr} {s : Shared} {Q : Flow → Shared → Prop} (h : Bdy prog w G A env ρ sts y) (f : FrR G env (ownOf env) ρ X s) (hQ : ∀ v s', Rep (hid s'.heap X) y v → KpX (ownOf env) s s' → Q (.ret v) s') : wpR (model prog w) A (execs sts env) Q NoE s :=
  .of (wpAny_mono (h X s f) (fun fl s' ⟨v, e, hv, k⟩ => by subst e; exact hQ v s' hv k) fun _ _ q => q)
end
section
variable {w : World} {G : Glb} {A : Around}
noncomputable def ent (n : Nat) (one other r c : Int) : List Int × List Int := (qK n one other r c, [r, c])
noncomputable def rowE (n : Nat) (one other r : Int) (j : Nat) : List (List Int × List Int) := ((rngI n).take j).map (ent n one other r)
noncomputable def entN (n : Nat) (one other : Int) (i : Nat) : List (List Int × List Int) := ((rngI n).take i).flatMap fun r => (rngI n).map (ent n one other r)
theorem rngI_len (n : Nat) : (rngI n).length = n := by unfold rngI; rw [List.length_map, List.length_range]
theorem take_full (n : Nat) : (rngI n).take n = rngI n := List.take_of_length_le (by rw [rngI_len]; exact Nat.le_refl _)
theorem entN_keys (n : Nat) (one other : Int) : (entN n one other n).map (·.1) = keysOf n one other := by
  unfold entN keysOf
  rw [take_full, List.map_flatMap]
  congr 1
  funext r
  rw [List.map_map]; rfl
theorem split_at {α : Type} {l : List α} {i : Nat} {x : α} (h : l[i]? = some x) : l = l.take i ++ x :: l.drop (i + 1) := by
  obtain ⟨hi, e⟩ := List.getElem?_eq_some_iff.mp h
  conv => lhs; rw [← List.take_append_drop i l]
  rw [List.drop_eq_getElem_cons hi, e]
theorem ent_new {n : Nat} {one other r c : Int} {i j : Nat} (hN : (keysOf n one other).Nodup) (hi : (rngI n)[i]? = some r) (hj : (rngI n)[j]? = some c) : qK n one other r c ∉ (entN n one other i ++ rowE n one other r j).map (·.1) := by
  have e : keysOf n one other = (entN n one other i ++ rowE n one other r j).map (·.1) ++ (qK n one other r c :: (((rngI n).drop (j + 1)).map (qK n one other r) ++ ((rngI n).drop (i + 1)).flatMap fun r => (rngI n).map (qK n one other r))) := by
    have e1 : keysOf n one other = ((rngI n).take i).flatMap (fun r => (rngI n).map (qK n one other r)) ++ ((rngI n).map (qK n one other r) ++ ((rngI n).drop (i + 1)).flatMap fun r => (rngI n).map (qK n one other r)) := by
      have key : ∀ f : Int → List (List Int), (rngI n).flatMap f = ((rngI n).take i).flatMap f ++ (f r ++ ((rngI n).drop (i + 1)).flatMap f) := fun f => by
        conv => lhs; rw [split_at hi]
        rw [List.flatMap_append, List.flatMap_cons]
      exact key _
    have e2 : (rngI n).map (qK n one other r) = ((rngI n).take j).map (qK n one other r) ++ qK n one other r c :: ((rngI n).drop (j + 1)).map (qK n one other r) := by
      conv => lhs; rw [split_at hj]
      rw [List.map_append, List.map_cons]
    rw [e1, List.map_append]
    have e3 : (entN n one other i).map (·.1) = ((rngI n).take i).flatMap (fun r => (rngI n).map (qK n one other r)) := by
      unfold entN
      rw [List.map_flatMap]
      congr 1; funext r; rw [List.map_map]; rfl
    have e4 : (rowE n one other r j).map (·.1) = ((rngI n).take j).map (qK n one other r) := by
      unfold rowE; rw [List.map_map]; rfl
    rw [e3, e4, List.append_assoc]
    congr 1
    conv => lhs; arg 1; rw [e2]
    rw [List.append_assoc, List.cons_append]
  rw [e] at hN
  intro hm
  exact (List.nodup_append.mp hN).2.2 _ hm _ List.mem_cons_self rfl
theorem entN_succ {n : Nat} {one other r : Int} {i : Nat} (hi : (rngI n)[i]? = some r) : entN n one other (i + 1) = entN n one other i ++ rowE n one other r n := by
  unfold entN rowE
  rw [List.take_add_one, hi, List.flatMap_append, take_full]
  simp
theorem rowE_succ {n : Nat} {one other r c : Int} {j : Nat} (hj : (rngI n)[j]? = some c) : rowE n one other r (j + 1) = rowE n one other r j ++ [ent n one other r c] := by
  unfold rowE
  rw [List.take_add_one, hj, List.map_append]; rfl
theorem entN_len (n : Nat) (one other : Int) (i : Nat) : (entN n one other i).length ≤ n * n := by
  unfold entN
  have key : ∀ l : List Int, (l.flatMap fun r => (rngI n).map (ent n one other r)).length = l.length * n := fun l => by
    induction l with
    | nil => simp
    | cons a l ih => rw [List.flatMap_cons, List.length_append, ih, List.length_map, rngI_len, List.length_cons, Nat.succ_mul]; omega
  rw [key]
  refine Nat.mul_le_mul_right n ?_
  rw [List.length_take, rngI_len]; omega
theorem rowE_len (n : Nat) (one other r : Int) (j : Nat) : (rowE n one other r j).length ≤ n := by
  unfold rowE; rw [List.length_map, List.length_take, rngI_len]; omega
theorem Stab.mono {S S' : List Addr} {I : List Addr → Heap → Prop} (h : ∀ a ∈ S, a ∈ S') (st : Stab S I) : Stab S' I where
  st := fun X h₁ h' x k => st.st X h₁ h' x fun b o q e => k b o (q.imp id (h b)) e
  more := st.more
  less := st.less
theorem rngI_at {n i : Nat} {r : Int} (h : (rngI n)[i]? = some r) : r = i ∧ i < n := by
  unfold rngI at h
  rw [List.getElem?_map] at h
  cases q : (List.range n)[i]? with
  | none => rw [q] at h; cases h
  | some x =>
    rw [q] at h; cases h
    obtain ⟨hi, e⟩ := List.getElem?_eq_some_iff.mp q
    rw [List.getElem_range] at e
    rw [List.length_range] at hi
    exact ⟨by rw [e], hi⟩
theorem sq_at {n i : Nat} {one other r : Int} (h : (rngI n)[i]? = some r) : ((sq n one other).map iL)[r.toNat]? = some (iL (rowOf n one other r)) := by
  obtain ⟨e, _⟩ := rngI_at h
  have : r.toNat = i := by omega
  rw [this]; unfold sq
  rw [List.getElem?_map, List.getElem?_map, h]; rfl
theorem row_at {n j : Nat} {one other r c : Int} (h : (rngI n)[j]? = some c) : ((rowOf n one other r).map T.int)[c.toNat]? = some (.int (cel n one other r c)) := by
  obtain ⟨e, _⟩ := rngI_at h
  have : c.toNat = j := by omega
  rw [this]; unfold rowOf
  rw [List.getElem?_map, List.getElem?_map, h]; rfl
theorem entN_full (n : Nat) (one other : Int) : (entN n one other n).length = n * n := by
  unfold entN
  have key : ∀ l : List Int, (l.flatMap fun r => (rngI n).map (ent n one other r)).length = l.length * n := fun l => by
    induction l with
    | nil => simp
    | cons a l ih => rw [List.flatMap_cons, List.length_append, ih, List.length_map, rngI_len, List.length_cons, Nat.succ_mul]; omega
  rw [key, take_full, rngI_len]
theorem ent_mem {n : Nat} {one other : Int} {p : List Int × List Int} (h : p ∈ entN n one other n) : ∃ r c, r ∈ rngI n ∧ c ∈ rngI n ∧ p = ent n one other r c := by
  unfold entN at h
  rw [take_full] at h
  obtain ⟨r, hr, h⟩ := List.mem_flatMap.mp h
  obtain ⟨c, hc, e⟩ := List.mem_map.mp h
  exact ⟨r, c, hr, hc, e.symm⟩
theorem allK_t (n : Nat) : ((rngI n).map T.int).flatMap (fun t => ((rngI n).map T.int).map fun u => T.tup [t, u]) = (allK n).map tupI := by
  unfold allK
  rw [List.map_flatMap, List.flatMap_map]
  congr 1; funext a
  rw [List.map_map, List.map_map]; rfl
theorem TopX.unGX {G : Glb} {a : Addr} {o : Obj} {X Y : List Addr} {h h' : Heap} (tp : TopX G X h) (tpx : TopX (GX G a o) X h) (t : TopX (GX G a o) Y h') : TopX G Y h' := by
  obtain ⟨h₀, q1, q2, q3⟩ := t
  refine ⟨h₀, ⟨fun b o' e => ?_, q1.nolim, q1.g, q1.b, q1.bm⟩, q2, q3⟩
  by_cases hb : b = a
  · subst hb
    have e1 := tp.ok.k b o' e
    have e2 := GX.at tpx.ok
    rw [e2] at e1; cases e1
    exact GX.at q1
  · refine q1.k b o' ?_
    show List.lookup b ((a, o) :: G.K) = some o'
    rw [List.lookup_cons]
    rw [show (b == a) = false from by simpa using hb]; exact e
end
end Mine
end
section
open PySem PySem.W PyProof.Rows PySem.Calls
set_option maxRecDepth 100000
set_option maxHeartbeats 400000
set_option linter.unusedVariables false
namespace Mine
section
variable {w : World} {G : Glb} {A : Around}
theorem own_off {env : Env} {ρ : Bnd} {X : List Addr} {s : Shared} (f : FrR G env (ownOf env) ρ X s) (t : Tb X s.heap) : ∀ a ∈ ownOf env, a ∉ TY := fun a ha m => (Tb.ok.off t f.r a m).own ha
theorem own_offD {env : Env} {ρ : Bnd} {X : List Addr} {s : Shared} {D : Addr} (f : FrR G env (ownOf env) ρ X s) (t : Tb X s.heap) (hD : D ∉ X) : ∀ a ∈ ownOf env, a ∉ D :: TY := fun a ha m => by
  rcases List.mem_cons.mp m with rfl | m
  · exact hD (f.own _ ha)
  · exact own_off f t a ha m
theorem neg1 {prog : Program} {env : Env} {k : Nat} {p' p'' : Pos} : ∀ s : Shared, wpAny (model prog w) A (eval (.UnaryOp .USub (.Constant (.int 1) k p') p'') env) (fun v s' => (∃ t, v = .int (-1) t) ∧ Kp s s') NoE s := fun s =>
  UnaryOp_ (wpAny_Constant_int (P.neg_int ⟨⟨_, rfl⟩, keeps_tok s _⟩))
theorem ifRT {env : Env} {ρ : Bnd} {test : PySem.Expr} {body rest : List Stmt} {pos : Pos} {O X : List Addr} {s : Shared} {Q : Flow → Shared → Prop} (f : FrR G env O ρ X s) (h : Tst PG w G A env ρ test false) (hQ : ∀ s', FrR G env O ρ X s' → Kp s s' → wpR (model PG w) A (execs rest env) Q NoE s') :
    wpR (model PG w) A (execs (.If test body [] pos :: rest) env) Q NoE s := ifR (h X s f.bd f.r) f hQ
theorem law_end {D : Addr} {O X X' : List Addr} {y : View} {v : Value} {s s₁ s₂ s₃ s₄ s₅ s₆ s₇ s₈ s₉ s₁₀ s₁₁ s₁₂ s₁₃ s₁₄ s₁₅ s₁₆ s' : Shared} (hv : Rep y (.bool true) v) (bd : Bd X s.heap) (k : Kp s s₁) (k₂ : KpX O s₁ s₂) (k₃ : KpX O s₂ s₃) (k₄ : KpX O s₃ s₄) (k₅ : KpX O s₄ s₅) (k₆ : KpX ((D :: TY) ++ O) s₅ s₆)
    (k₇ : Kp s₆ s₇) (k₈ : Kp s₇ s₈) (k₉ : KpX O s₈ s₉) (k₁₀ : Kp s₉ s₁₀) (k₁₁ : KpX O s₁₀ s₁₁) (k₁₂ : Kp s₁₁ s₁₂) (k₁₃ : KpX O s₁₂ s₁₃) (k₁₄ : KpX O s₁₃ s₁₄) (k₁₅ : KpX O s₁₄ s₁₅) (k₁₆ : Kp s₁₅ s₁₆) (kz : KpX O s₁₆ s')
    (own : ∀ a ∈ O, a ∈ X') (hO : ∀ a ∈ O, s.heap.get? a = none) (hX : ∀ a ∈ X, a ∈ X') (hDX : D ∉ X') (hDn : s₄.heap.get? D = none) (oT : ∀ a ∈ O, a ∉ TY) (t : Tb (D :: X') s₆.heap) : v = .bool true ∧ KpX TY s s' ∧ Tb X s'.heap := by
  have ka : KpX O s₁ s₄ := (k₂.trans k₃).trans k₄
  have kb : KpX O s₆ s' := ((((((((((k₇.trans k₈).x).trans k₉).trans k₁₀.x).trans k₁₁).trans k₁₂.x).trans k₁₃).trans k₁₄).trans k₁₅).trans k₁₆.x).trans kz
  have mO : ∀ a ∈ O, a ∈ (D :: TY) ++ O := fun a ha => List.mem_append_right _ ha
  have kc : KpX ((D :: TY) ++ O) s₁ s' := (((ka.trans k₅).more mO).trans k₆).trans (kb.more mO)
  refine ⟨rep_bool.mp hv, KpX.back k kc fun a ha => ?_, Tb.stab.less _ _ _ (fun a ha => List.mem_cons_of_mem _ (hX a ha)) (Tb.stab.kpx t kb (fun a ha => List.mem_cons_of_mem _ (own a ha)) oT)⟩
  rcases List.mem_append.mp ha with ha | ha
  · rcases List.mem_cons.mp ha with rfl | ha
    · refine .inr ?_
      cases q : s.heap.get? a with
      | none => rfl
      | some o =>
        have := ka.keep a o (fun m => hDX (own a m)) (k.keep _ _ q)
        rw [hDn] at this; cases this
    · exact .inl ha
  · exact .inr (hO a ha)
theorem c_law (g : GF w G) (r : Rm 7 A) {a : Addr} {o : Obj} {vs : Array Value} {m : Nat} {ns : List Int} (hc : o.cls = .type "list") (hd : o.data = .seq vs m) (hi : IntsAre vs.toList ns) (hlen : ns.length ≤ 63)
    (n : Nat) (hn : [3, 5, 7][(ns.sum % 3).toNat]? = some n) (one other : Int) (h1 : (ns ++ [0, 0])[0]? = some one) (h2 : (ns ++ [0, 0])[1]? = some other) (P : PF n (one % n) (other % n))
    (X : List Addr) (s : Shared) (bd : Bd X s.heap) (tp : TopX G X s.heap) (tpx : TopX (GX G a o) X s.heap) (hTY : ∀ a ∈ TY, a ∈ X) (t : Tb X s.heap) :
    wpR (model PG w) A (call (.ref 99) [.ref a]) (fun v s' => v = .bool true ∧ KpX TY s s' ∧ Tb X s'.heap) NoE s := by
  refine callTopR (G := G) (c := 98) _ [Str.ofString "script"] (xs := [.ptr a]) (by rw [g.k]; rfl) rfl rfl (by rw [g.k]; rfl) rfl rfl rfl r.room rfl (one1 fun a => rfl) rfl rfl rfl rfl rfl rfl rfl bd tp (repL_cons.mpr ⟨_, _, rfl, rep_ptr.mpr rfl, repL_nil.mpr rfl⟩) fun L s₁ X' f k hO hX hX' => ?_
  have t₁ : Tb X' s₁.heap := Tb.stab.kp ⟨t.1.more hX', t.2.more hX'⟩ k
  have tx : TopX (GX G a o) X' s₁.heap := by
    obtain ⟨h₀, q1, q2, q3⟩ := tpx
    refine ⟨h₀, q1, fun b o e => k.keep _ _ (q2 b o e), fun b hb => (hX' b hb).elim (q3 b) fun e => ?_⟩
    cases q : h₀.get? b with
    | none => rfl
    | some o' => rw [q2 _ _ q] at e; cases e
  have nok : GX G a o = GX G a o := rfl
  have hn7 : n ≤ 7 := by have := P.sz; omega
  have hn0 : 0 < n := by have := P.sz; omega
  have hni : (0 : Int) < n := by omega
  generalize hone : one % (n : Int) = one' at P
  generalize hother : other % (n : Int) = other' at P
  refine stR (G := GX G a o) (St.assign (Ev.item (Ev.lst (xs := [.int 3, .int 5, .int 7]) (EvL.cons Ev.int (EvL.cons Ev.int (EvL.cons Ev.int EvL.nil))) (Nat.le_of_ble_eq_true rfl)) (Ev.mod (ev_sum (ns := ns) r.hh hc hd hi rfl (EvV.built g.sumb.1 g.sumb.2 rfl)) Ev.int (by decide)) (by omega) (by omega) (x := .int n) ?_) (.inr ⟨rfl, rfl⟩)) (f.glb tx) fun s₂ f₂ k₂ => ?_
  · have e : ([3, 5, 7].map (fun k : Nat => T.int (k : Int)))[(ns.sum % 3).toNat]? = some (.int n) := by rw [List.getElem?_map, hn]; rfl
    exact e
  refine stR (St.unpack (names := [Str.ofString "one", Str.ofString "other"]) (xs := [.int one', .int other']) (Ev.tup (EvL.cons (Ev.eq (Ev.mod (a := one) (b := n) (Ev.item (k := 0) (ev_catX (ns := ns) (ms := [0, 0]) hc hd hi rfl (by simp; omega) (Ev.lst (EvL.cons Ev.int (EvL.cons Ev.int EvL.nil)) (Nat.le_of_ble_eq_true rfl))) Ev.int (by decide) (by decide) (by show ((ns ++ [0, 0]).map T.int)[0]? = _; rw [List.getElem?_map, h1]; rfl)) (Ev.name rfl) hni) (by rw [hone]))
    (EvL.cons (Ev.eq (Ev.mod (a := other) (b := n) (Ev.item (k := 1) (ev_catX (ns := ns) (ms := [0, 0]) hc hd hi rfl (by simp; omega) (Ev.lst (EvL.cons Ev.int (EvL.cons Ev.int EvL.nil)) (Nat.le_of_ble_eq_true rfl))) Ev.int (by decide) (by decide) (by show ((ns ++ [0, 0]).map T.int)[1]? = _; rw [List.getElem?_map, h2]; rfl)) (Ev.name rfl) hni) (by rw [hother])) EvL.nil)) (Nat.le_of_ble_eq_true rfl)) r.hh (kindAll rfl L) rfl ⟨[_, _], rfl, rfl⟩) f₂ fun s₃ f₃' k₃ => ?_
  have f₃ := f₃'.glb (G' := G) (TopX.unGX tp tpx f₃'.r.top)
  refine stR (St.assign (t := mtx (sq n one' other')) (Ev.call (EvV.glob g.square rfl) (EvL.cons (Ev.name rfl) (EvL.cons (Ev.name rfl) (EvL.cons (Ev.name rfl) EvL.nil))) (by rw [g.k]; rfl) rfl (c_square g (r.deeper.less (by omega)) n one' other' hn0 (by omega))) (.inr ⟨rfl, rfl⟩)) f₃ fun s₄ f₄ k₄ => ?_
  refine rawR (assignDict g.big (.inl rfl) f₄ fun D s₅ hDX hDn offD f₅ k₅ hF => ?_)
  dsimp only
  have hTX : ∀ a ∈ TY, a ∈ X' := fun a ha => hX a (hTY a ha)
  have hDT : D ∉ TY := fun m => hDX (hTX D m)
  have oT := own_off f t₁
  have t₄ : Tb X' s₄.heap := Tb.stab.kpx (Tb.stab.kpx (Tb.stab.kpx t₁ k₂ f.own oT) k₃ f.own oT) k₄ f.own oT
  have t₅ : Tb (D :: X') s₅.heap := Tb.stab.kpx (Tb.stab.more _ D _ t₄ hDn) k₅ f₅.own oT
  have hS : ∀ a ∈ D :: TY, a ∈ D :: X' := fun a ha => by
    rcases List.mem_cons.mp ha with rfl | ha
    · exact List.mem_cons_self
    · exact List.mem_cons_of_mem _ (hTX a ha)
  have oS := own_offD f t₁ hDX
  have stI : ∀ xs, Stab (D :: TY) fun X h => Tb X h ∧ FD PG w D xs X h := fun xs => (Tb.stab.mono fun a ha => List.mem_cons_of_mem _ ha).and (FD.stab List.mem_cons_self)
  refine rawR (forZ (xs := (rngI n).map .int) (fun _ => _) (D :: TY) (D :: TY) (fun i X h => Tb X h ∧ FD PG w D (entN n one' other' i) X h) f₅ (rng_name (n := n) g (by exact r.hh) (by rfl) (by omega)) (.inl rfl) (fun i => stI _) hS oS hS ⟨t₅, hF⟩ (fun i tt X₁ s₆ hi hsub f₆ inv => ?_) fun s₆ f₆ k₆ inv => ?_)
  · obtain ⟨rr, hr, rfl⟩ := lst_int hi
    refine wpAny_execs_cons (forZ (xs := (rngI n).map .int) (fun _ => _) (D :: TY) (D :: TY) (fun j X h => Tb X h ∧ FD PG w D (entN n one' other' i ++ rowE n one' other' rr j) X h) f₆ (rng_name (n := n) g (by exact r.hh) (by rfl) (by omega)) (.inl rfl) (fun i => stI _) (fun a ha => hsub a (hS a ha)) oS (fun a ha => hsub a (hS a ha)) ⟨inv.1, by
      have e : rowE n one' other' rr 0 = [] := rfl
      rw [e, List.append_nil]; exact inv.2⟩ (fun j tt X₂ s₇ hj hsub₂ f₇ inv₇ => ?_) fun s₇ f₇ k₇ inv₇ => ?_)
    · obtain ⟨cc, hcj, rfl⟩ := lst_int hj
      have hD2 : D ∈ X₂ := hsub₂ _ (hsub _ List.mem_cons_self)
      have mr : rr ∈ rngI n := List.mem_of_getElem? hr
      have mc : cc ∈ rngI n := List.mem_of_getElem? hcj
      have br := mem_rngI mr
      have bc := mem_rngI mc
      obtain ⟨hdm, e1, e2⟩ := P.dm rr mr cc mc
      have hcall : ∀ B, Rm 5 B → CallZ PG w G B Tb (.ref 63) [.int (cel n one' other' rr cc - 1), .int n] (tupI (qK n one' other' rr cc)) := fun B rB => by
        have h := c_idm g rB _ _ _ hdm
        rw [e1, e2] at h
        exact h
      refine wpAny_execs_cons (storeD Tb.ok Tb.stab (k := qK n one' other' rr cc) (v := [rr, cc]) (xs := entN n one' other' i ++ rowE n one' other' rr j) f₇ (fun a ha => hsub₂ _ (hsub _ (List.mem_cons_of_mem _ (hTX a ha)))) inv₇.1 hD2 hDT ?_ inv₇.2
        (Ev.tup (EvL.cons (Ev.name rfl) (EvL.cons (Ev.name rfl) EvL.nil)) (Nat.le_of_ble_eq_true rfl)) (Ev.name rfl) (EvV.glob g.idm rfl)
        (EvL.cons (Ev.sub (Ev.item (Ev.item (Ev.name rfl) (Ev.name rfl) br.1 (by omega) (sq_at hr)) (Ev.name rfl) bc.1 (by omega) (row_at hcj)) Ev.int) (EvL.cons (Ev.name rfl) EvL.nil)) (by rw [g.k]; rfl) rfl (hcall _ (r.deeper.less (by omega))) (ent_new P.nodup hr hcj) ?_ ?_ fun s₈ f₈ k₈ t₈ F₈ => wpAny_execs_nil ⟨rfl, ?_, ?_, t₈, ?_⟩)
      · exact offD
      · have := r.un; show A.units + 3 + 1 < _; omega
      · rw [List.length_append]
        have q1 := entN_len n one' other' i
        have q2 := rowE_len n one' other' rr j
        have q3 : n * n ≤ 7 * 7 := Nat.mul_le_mul hn7 hn7
        omega
      · exact f₈.weaken ((BSub.refl _).skip _ _ rfl)
      · exact k₈.more fun a ha => List.mem_append_left _ ha
      · rw [rowE_succ hcj, ← List.append_assoc]; exact F₈
    · refine wpAny_execs_nil ⟨rfl, f₇.weaken ((BSub.refl _).skip _ _ rfl), k₇, inv₇.1, ?_⟩
      have h7 := inv₇.2
      rw [List.length_map, rngI_len] at h7
      rw [entN_succ hr]; exact h7
  · dsimp only
    have hF6 := inv.2
    rw [List.length_map, rngI_len] at hF6
    have t₆ := inv.1
    have hu : A.units + 3 + 64 < cLine := by have := r.un; omega
    have hsq : (sq n one' other').length = n := by unfold sq; rw [List.length_map, rngI_len]
    have hk2 : ∀ k ∈ (entN n one' other' n).map (·.1), ∃ a b, k = [a, b] := fun k hk => by
      obtain ⟨p, hp, rfl⟩ := List.mem_map.mp hk
      obtain ⟨r, c, _, _, rfl⟩ := ent_mem hp
      exact ⟨_, _, rfl⟩
    have hfull := entN_full n one' other'
    have hnn : n * n ≤ 7 * 7 := Nat.mul_le_mul hn7 hn7
    have hn3 : 3 * 3 ≤ n * n := Nat.mul_le_mul (by have := P.sz; omega) (by have := P.sz; omega)
    refine ifR (or2At f₆.bd f₆.r (nesAt (x := .lst ((allK n).map tupI)) f₆.bd f₆.r (evSorted f₆.bd f₆.r r.hh hF6 rfl (EvV.built g.sorted.1 g.sorted.2 rfl) hk2 (by omega) (by omega) (by rw [entN_keys]; exact P.sort))
      (Ev.eq (Ev.comp2 (xs := (rngI n).map .int) (ys := (rngI n).map .int) (fun t u => .tup [t, u]) (rng_name (n := n) g (by exact r.hh) (by rfl) (by omega)) ⟨rfl, rfl, rfl, rfl⟩ rfl rfl (by decide) (by rw [List.length_map, rngI_len]; omega) (by rw [List.length_map, rngI_len]; omega)
        (fun C t ht => rng_name (n := n) g (by exact r.hh) (by rfl) (by omega)) (fun C t ht u hu => Ev.tup (EvL.cons (Ev.name rfl) (EvL.cons (Ev.name rfl) EvL.nil)) (Nat.le_of_ble_eq_true rfl))) (by rw [allK_t])) ?_ ?_ hu)
      (Tst.not (c := true) (Tst.call (Ev.call (EvV.glob g.alike rfl) (EvL.cons (Ev.name rfl) EvL.nil) (by rw [g.k]; rfl) rfl (c_alike g (r.deeper.less (by omega)) n P.sz _ P.a1))))) f₆ fun s₇ f₇ k₇ => ?_
    · rcases P.sz with rfl | rfl | rfl <;> rfl
    · rcases P.sz with rfl | rfl | rfl <;> rfl
    have hF7 : FD PG w D (entN n one' other' n) (D :: X') s₇.heap := (FD.stab (S := [D]) List.mem_cons_self).kp hF6 k₇
    refine ifR (nesAt (x := .lst []) f₇.bd f₇.r (compItems0 f₇.bd f₇.r r.hh List.mem_cons_self hF7 (by omega) rfl ⟨rfl, rfl, rfl, rfl⟩ rfl rfl rfl rfl (fun p hp => ?_)) (Ev.lst EvL.nil (Nat.le_of_ble_eq_true rfl)) rfl rfl hu) f₇ fun s₈ f₈ k₈ => ?_
    · obtain ⟨rr, cc, _, _, rfl⟩ := ent_mem hp
      refine ⟨_, _, _, _, rfl, fun C => ?_⟩
      exact Tst.nes (x := .tup [.int ((rr + cc + one') % n), .int ((rr + 2 * cc + other') % n)]) (Ev.tup (EvL.cons (Ev.mod (Ev.add (Ev.add (Ev.name rfl) (Ev.name rfl)) (Ev.name rfl)) (Ev.name rfl) hni) (EvL.cons (Ev.mod (Ev.add (Ev.add (Ev.name rfl) (Ev.mul Ev.int (Ev.name rfl) (by decide) (by decide))) (Ev.name rfl)) (Ev.name rfl) hni) EvL.nil)) (Nat.le_of_ble_eq_true rfl)) (Ev.tup (EvL.cons (Ev.name rfl) (EvL.cons (Ev.name rfl) EvL.nil)) (Nat.le_of_ble_eq_true rfl)) rfl rfl hu
    have wid : ∀ l ∈ sq n one' other', l.length = n := P.a1.wide
    have et : T.lst (((sq n one' other').map iL).map fun t => iL (unL t).reverse) = mtx (turnL (sq n one' other')) := by
      unfold mtx turnL
      rw [List.map_map, List.map_map]
      congr 1
      exact List.map_congr_left fun l _ => by show iL (unL (iL l)).reverse = iL l.reverse; rw [unL_iL]
    refine stRR (St_compR (xs := (sq n one' other').map iL) (fun t => iL (unL t).reverse) (ItT.list (Ev.name rfl) r.hh) ⟨rfl, rfl, rfl, rfl⟩ (.inl rfl) (by rw [List.length_map, hsq]; omega) (fun C t ht => ?_) (.inl rfl)) f₈ fun s₉ f₉ k₉ => ?_
    · obtain ⟨l, hl, rfl⟩ := List.mem_map.mp ht
      rw [unL_iL]
      exact evR_swap g (r.deeper.less (by omega)) l n (wid l hl) hn0 (by omega) (P.byt l hl) rfl rfl
    rw [et] at f₉
    have alike : ∀ m, Alike n m → ∀ B, Rm 6 B → CallT PG w G B (.ref 94) [mtx m] (.bool true) := fun m h B rB => c_alike g (rB.less (by omega)) n P.sz m h
    have sh1 : (mtx (turnL (sq n one' other'))).flat = true ∧ SeqAt.shaped (mtx (turnL (sq n one' other'))).py = true := by rcases P.sz with rfl | rfl | rfl <;> exact ⟨rfl, rfl⟩
    refine ifRT f₉ (Tst.or3 (Tst.nes (x := mtx (turnL (sq n one' other'))) (Ev.name rfl) (Ev.eq (Ev.comp1 (xs := (sq n one' other').map iL) (fun t => iL (unL t).reverse) (ItT.list (Ev.name rfl) r.hh) ⟨rfl, rfl, rfl, rfl⟩ (.inl rfl) (by rw [List.length_map, hsq]; omega) fun C t ht => ?_) et) sh1.1 sh1.2 hu)
      (Tst.not (c := true) (Tst.call (Ev.call (EvV.glob g.alike rfl) (EvL.cons (Ev.name rfl) EvL.nil) (by rw [g.k]; rfl) rfl (alike _ P.a2 _ r.deeper))))
      (Tst.not (c := true) (Tst.call (Ev.call (EvV.glob g.alike rfl) (EvL.cons (x := mtx (sq n one' other').reverse) (Ev.eq (Ev.rev (xs := (sq n one' other').map iL) (Ev.name rfl) (by rw [List.length_map, hsq]; omega) (he := neg1)) (by unfold mtx; rw [List.map_reverse])) EvL.nil) (by rw [g.k]; rfl) rfl (alike _ P.a3 _ r.deeper))))) fun s₁₀ f₁₀ k₁₀ => ?_
    · obtain ⟨l, hl, rfl⟩ := List.mem_map.mp ht
      rw [unL_iL]
      exact Ev.eq (Ev.rev (xs := l.map .int) (Ev.name rfl) (by rw [List.length_map, wid l hl]; omega) (he := neg1)) (by unfold iL; rw [List.map_reverse])
    have ec : T.lst (((rngI n).map T.int).map (onI fun k => iL ((sq n one' other').map fun row => row.getD k.toNat 0))) = mtx (colsOf n (sq n one' other')) := by
      unfold mtx colsOf
      rw [List.map_map, List.map_map]; rfl
    refine stR (St.comp1 (xs := (rngI n).map .int) (onI fun k => iL ((sq n one' other').map fun row => row.getD k.toNat 0)) (rng_name (n := n) g (by exact r.hh) (by rfl) (by omega)) ⟨rfl, rfl, rfl, rfl⟩ (.inr rfl) (by rw [List.length_map, rngI_len]; omega) (fun C t ht => ?_) (.inl rfl)) f₁₀ fun s₁₁ f₁₁ k₁₁ => ?_
    · obtain ⟨k, hk, rfl⟩ := List.mem_map.mp ht
      refine Ev.eq (Ev.comp1 (xs := (sq n one' other').map iL) (fun t => .int ((unL t).getD k.toNat 0)) (ItT.list (Ev.name rfl) r.hh) ⟨rfl, rfl, rfl, rfl⟩ (.inl rfl) (by rw [List.length_map, hsq]; omega) fun C' t' ht' => ?_) ?_
      · obtain ⟨l, hl, rfl⟩ := List.mem_map.mp ht'
        rw [unL_iL]
        exact ev_item rfl rfl (wid l hl) (mem_rngI hk).1 (mem_rngI hk).2 (by omega)
      · show T.lst _ = iL _
        unfold iL
        rw [List.map_map, List.map_map]
        congr 1
        refine List.map_congr_left fun l hl => ?_
        show T.int ((unL (iL l)).getD k.toNat 0) = _
        rw [unL_iL]; rfl
    rw [ec] at f₁₁
    refine ifRT f₁₁ (Tst.not (c := true) (Tst.call (Ev.call (EvV.glob g.alike rfl) (EvL.cons (Ev.name rfl) EvL.nil) (by rw [g.k]; rfl) rfl (alike _ P.a4 _ r.deeper)))) fun s₁₂ f₁₂ k₁₂ => ?_
    have hf2 : ((n : Int) + 1) / 2 = ((n : Int) + 1) / 2 := rfl
    refine stR (St.assign (t := mtx (fairL n)) (Ev.call (EvV.glob g.square rfl) (EvL.cons (Ev.name rfl) (EvL.cons (Ev.fdiv (Ev.add (Ev.name rfl) Ev.int) Ev.int (by decide) (by rcases P.sz with rfl | rfl | rfl <;> rfl)) (EvL.cons Ev.int EvL.nil))) (by rw [g.k]; rfl) rfl (c_square g (r.deeper.less (by omega)) n _ 1 hn0 (by omega))) (.inr ⟨rfl, rfl⟩)) f₁₂ fun s₁₃ f₁₃ k₁₃ => ?_
    have widF : ∀ l ∈ fairL n, l.length = n := P.a5.wide
    have lenF : (fairL n).length = n := P.a5.rows
    have eh : T.lst (((fairL n).reverse.map iL).map fun t => iL (unL t).reverse) = mtx (turnL (fairL n).reverse) := by
      unfold mtx turnL
      rw [List.map_map, List.map_map]
      congr 1
      exact List.map_congr_left fun l _ => by show iL (unL (iL l)).reverse = iL l.reverse; rw [unL_iL]
    refine stRR (St_compR (xs := (fairL n).reverse.map iL) (fun t => iL (unL t).reverse) (ItT.eq (ItT.list (Ev.rev (xs := (fairL n).map iL) (Ev.name rfl) (by rw [List.length_map, lenF]; omega) (he := neg1)) r.hh) (by rw [List.map_reverse])) ⟨rfl, rfl, rfl, rfl⟩ (.inl rfl) (by rw [List.length_map, List.length_reverse, lenF]; omega) (fun C t ht => ?_) (.inl rfl)) f₁₃ fun s₁₄ f₁₄ k₁₄ => ?_
    · obtain ⟨l, hl, rfl⟩ := List.mem_map.mp ht
      rw [unL_iL]
      exact evR_swap g (r.deeper.less (by omega)) l n (widF l (List.mem_reverse.mp hl)) hn0 (by omega) (P.bytF l (List.mem_reverse.mp hl)) rfl rfl
    rw [eh] at f₁₄
    have fAt : ∀ k ∈ rngI n, ((fairL n).map iL)[k.toNat]? = some (iL ((fairL n).getD k.toNat [])) ∧ (fairL n).getD k.toNat [] ∈ fairL n := fun k hk => by
      have h := mem_rngI hk
      have hlt : k.toNat < (fairL n).length := by rw [lenF]; omega
      have e : (fairL n).getD k.toNat [] = (fairL n)[k.toNat] := by simp [List.getD, List.getElem?_eq_getElem hlt]
      rw [e]
      exact ⟨by rw [List.getElem?_map, List.getElem?_eq_getElem hlt]; rfl, List.getElem_mem hlt⟩
    have es : T.lst [T.lst (((rngI n).map T.int).map (onI fun k => .int (((fairL n).getD k.toNat []).getD k.toNat 0))), T.lst (((rngI n).map T.int).map (onI fun k => .int (((fairL n).getD k.toNat []).getD ((n : Int) - 1 - k).toNat 0)))] = mtx (slopesL n) := by
      unfold mtx slopesL iL
      rw [List.map_map, List.map_map]
      simp only [List.map_cons, List.map_nil, List.map_map]
      rfl
    refine stR (St.assign (t := T.lst [T.lst (((rngI n).map T.int).map (onI fun k => .int (((fairL n).getD k.toNat []).getD k.toNat 0))), T.lst (((rngI n).map T.int).map (onI fun k => .int (((fairL n).getD k.toNat []).getD ((n : Int) - 1 - k).toNat 0)))])
      (Ev.lst (EvL.cons (Ev.comp1 (xs := (rngI n).map .int) (onI fun k => .int (((fairL n).getD k.toNat []).getD k.toNat 0)) (rng_name (n := n) g (by exact r.hh) (by rfl) (by omega)) ⟨rfl, rfl, rfl, rfl⟩ (.inl rfl) (by rw [List.length_map, rngI_len]; omega) fun C t ht => ?_)
        (EvL.cons (Ev.comp1 (xs := (rngI n).map .int) (onI fun k => .int (((fairL n).getD k.toNat []).getD ((n : Int) - 1 - k).toNat 0)) (rng_name (n := n) g (by exact r.hh) (by rfl) (by omega)) ⟨rfl, rfl, rfl, rfl⟩ (.inl rfl) (by rw [List.length_map, rngI_len]; omega) fun C t ht => ?_) EvL.nil)) (Nat.le_of_ble_eq_true rfl)) (.inl rfl)) f₁₄ fun s₁₅ f₁₅ k₁₅ => ?_
    · obtain ⟨k, hk, rfl⟩ := List.mem_map.mp ht
      have hb := mem_rngI hk
      exact Ev.item (xs := ((fairL n).getD k.toNat []).map .int) (k := k) (Ev.item (xs := (fairL n).map iL) (k := k) (Ev.name rfl) (Ev.name rfl) hb.1 (by omega) (fAt k hk).1) (Ev.name rfl) hb.1 (by omega) (getD_int (widF _ (fAt k hk).2) hb.1 hb.2)
    · obtain ⟨k, hk, rfl⟩ := List.mem_map.mp ht
      have hb := mem_rngI hk
      exact Ev.item (xs := ((fairL n).getD k.toNat []).map .int) (k := (n : Int) - 1 - k) (Ev.item (xs := (fairL n).map iL) (k := k) (Ev.name rfl) (Ev.name rfl) hb.1 (by omega) (fAt k hk).1) (Ev.sub (Ev.sub (Ev.name rfl) Ev.int) (Ev.name rfl)) (by omega) (by omega) (getD_int (widF _ (fAt k hk).2) (by omega) (by omega))
    rw [es] at f₁₅
    have lenS : ∀ l ∈ slopesL n, l.length = n := fun l hl => by
      unfold slopesL at hl
      rcases List.mem_cons.mp hl with rfl | hl
      · rw [List.length_map, rngI_len]
      · rw [List.mem_singleton.mp hl, List.length_map, rngI_len]
    refine ifRT f₁₅ (Tst.nes (x := .lst []) (Ev.comp0 (xs := (slopesL n).map iL) (ItT.list (Ev.name rfl) r.hh) ⟨rfl, rfl, rfl, rfl⟩ (.inl rfl) (by rw [List.length_map]; exact Nat.le_of_ble_eq_true rfl) fun C t ht => ?_) (Ev.lst EvL.nil (Nat.le_of_ble_eq_true rfl)) rfl rfl hu) fun s₁₆ f₁₆ k₁₆ => ?_
    · obtain ⟨l, hl, rfl⟩ := List.mem_map.mp ht
      refine Tst.nes (x := .tup [.int (due n), .int n]) (Ev.eq (Ev.call (EvV.glob g.sum rfl) (EvL.cons (Ev.name rfl) EvL.nil) (by rw [g.k]; rfl) rfl (c_sum g (r.deeper.less (by omega)) l (by rw [lenS l hl]; omega))) ?_)
        (Ev.tup (EvL.cons (Ev.fdiv (Ev.mul (Ev.name rfl) (Ev.add (Ev.mul (Ev.name rfl) (Ev.name rfl) (by omega) (by omega)) Ev.int) (by omega) (by omega)) Ev.int (by decide) (due_pyl P.sz)) (EvL.cons (Ev.name rfl) EvL.nil)) (Nat.le_of_ble_eq_true rfl)) rfl rfl hu
      rw [P.slope l hl, lenS l hl]
    have e2 : T.lst (((fairL n).map iL).map fun t => iL ((unL t).map fun x => (n : Int) * n + 1 - x)) = mtx (turnL (fairL n).reverse) := by
      rw [P.half]
      unfold mtx
      rw [List.map_map, List.map_map]
      congr 1
      exact List.map_congr_left fun l _ => by show iL ((unL (iL l)).map _) = iL (l.map _); rw [unL_iL]
    have sh2 : (mtx (turnL (fairL n).reverse)).flat = true ∧ SeqAt.shaped (mtx (turnL (fairL n).reverse)).py = true := by rcases P.sz with rfl | rfl | rfl <;> exact ⟨rfl, rfl⟩
    refine retR (Bdy.ret (Ev.and2 (Ev.call (EvV.glob g.alike rfl) (EvL.cons (Ev.name rfl) EvL.nil) (by rw [g.k]; rfl) rfl (alike _ P.a5 _ r.deeper)) (Ev.eqs (x := mtx (turnL (fairL n).reverse)) (Ev.name rfl) (Ev.eq (Ev.comp1 (xs := (fairL n).map iL) (fun t => iL ((unL t).map fun x => (n : Int) * n + 1 - x)) (ItT.list (Ev.name rfl) r.hh) ⟨rfl, rfl, rfl, rfl⟩ (.inl rfl) (by rw [List.length_map, lenF]; omega) fun C t ht => ?_) e2) sh2.1 sh2.2 hu))) f₁₆ fun v s' hv kz => ?_
    · obtain ⟨l, hl, rfl⟩ := List.mem_map.mp ht
      rw [unL_iL]
      refine Ev.eq (Ev.comp1 (xs := l.map .int) (fun t => .int ((n : Int) * n + 1 - unI t)) (ItT.list (Ev.name rfl) r.hh) ⟨rfl, rfl, rfl, rfl⟩ (.inl rfl) (by rw [List.length_map, widF l hl]; omega) fun C' t' ht' => ?_) ?_
      · obtain ⟨x, hx, rfl⟩ := List.mem_map.mp ht'
        exact Ev.sub (Ev.add (Ev.mul (Ev.name rfl) (Ev.name rfl) (by omega) (by omega)) Ev.int) (Ev.name rfl)
      · show T.lst _ = iL _
        unfold iL
        rw [List.map_map, List.map_map]; rfl
    · exact law_end (D := D) hv bd k k₂ k₃ k₄ k₅ k₆ k₇ k₈ k₉ k₁₀ k₁₁ k₁₂ k₁₃ k₁₄ k₁₅ k₁₆ kz f.own hO hX hDX hDn oT t₆
end
end Mine
end
section
open PySem PySem.W PyProof.Rows PySem.Calls
set_option maxRecDepth 100000
set_option maxHeartbeats 400000
set_option linter.unusedVariables false
namespace Mine
theorem codeTab {w : World} {h : Heap} {c P : Addr} (hK : (hd.heap_39 w.params).In h) (e : codeHdIn (hd.heap_39 w.params) c P = true) : isCodeTable h P := by
  obtain ⟨o, vs, _, _, _, _, _, _, _, e1, e2, e3, e4, _⟩ := codeHd_of_K hK e
  exact ⟨c, o, vs, e1, e2, e3, e4⟩
theorem tb_ps {X : List Addr} {h : Heap} (t : Tb X h) : ∀ P ∈ TY, ∃ ps, h.get? P = some (tabObj ps) := fun P hP => Tb.ok.has X h t P hP
theorem oldK_of {w : World} {X : List Addr} {s s' : Shared} (hK : (hd.heap_39 w.params).In s.heap) (hT : ∀ P ∈ TY, s.heap.get? P = some (tabObj #[])) (hc : ∀ P ∈ TY, isCodeTable s.heap P) (k : KpX TY s s') (t : Tb X s'.heap) : OldK s.heap s'.heap where
  old := fun b o e => by
    by_cases hb : b ∈ TY
    · obtain ⟨ps, hp⟩ := tb_ps t b hb
      rw [hT b hb] at e; cases e
      exact .inr (.inl ⟨hc b hb, rfl, #[], ps, rfl, by rw [hp]; simp⟩)
    · exact .inl (k.keep b o hb e)
  there := fun b o e => by
    by_cases hb : b ∈ TY
    · obtain ⟨ps, hp⟩ := tb_ps t b hb; exact ⟨_, hp⟩
    · exact ⟨o, k.keep b o hb e⟩
theorem tb_of {X : List Addr} {h : Heap} (hT : ∀ P ∈ TY, h.get? P = some (tabObj #[])) : Tb X h := ⟨⟨#[], hT 37 (by decide), .inl rfl⟩, ⟨#[], hT 44 (by decide), .inl rfl⟩⟩
theorem gf_of {p : Program} {loose : List Str} {mg mb : Str → Option Value} {w : World} {h : Heap} (hK : (hd.heap_39 w.params).In h) (T : TopRead p loose mg mb h) : GF w ⟨mg, mb, hd.heap_39 w.params⟩ where
  k := rfl
  range := ⟨mg_none_of hK T.g (by with_unfolding_all rfl), (T.builtins _ (by decide)).trans (by decide +kernel)⟩
  len := ⟨mg_none_of hK T.g (by with_unfolding_all rfl), (T.builtins _ (by decide)).trans (by decide +kernel)⟩
  callers := mg_of hK T.g (by with_unfolding_all rfl)
  stats := mg_of hK T.g (by with_unfolding_all rfl)
  square := mg_of hK T.g (by with_unfolding_all rfl)
  sum := mg_of hK T.g (by with_unfolding_all rfl)
  alike := mg_of hK T.g (by with_unfolding_all rfl)
  divmod := ⟨mg_none_of hK T.g (by with_unfolding_all rfl), (T.builtins _ (by decide)).trans (by decide +kernel)⟩
  reversed := ⟨mg_none_of hK T.g (by with_unfolding_all rfl), (T.builtins _ (by decide)).trans (by decide +kernel)⟩
  limit := mg_of hK T.g (by with_unfolding_all rfl)
  div2 := mg_of hK T.g (by with_unfolding_all rfl)
  i2d := mg_of hK T.g (by with_unfolding_all rfl)
  d2i := mg_of hK T.g (by with_unfolding_all rfl)
  dmp := mg_of hK T.g (by with_unfolding_all rfl)
  idm := mg_of hK T.g (by with_unfolding_all rfl)
  swap := mg_of hK T.g (by with_unfolding_all rfl)
  bytearray := ⟨mg_none_of hK T.g (by with_unfolding_all rfl), (T.builtins _ (by decide)).trans (by decide +kernel)⟩
  bytes := ⟨mg_none_of hK T.g (by with_unfolding_all rfl), (T.builtins _ (by decide)).trans (by decide +kernel)⟩
  list := ⟨mg_none_of hK T.g (by with_unfolding_all rfl), (T.builtins _ (by decide)).trans (by decide +kernel)⟩
  sorted := ⟨mg_none_of hK T.g (by with_unfolding_all rfl), (T.builtins _ (by decide)).trans (by decide +kernel)⟩
  sumb := ⟨mg_none_of hK T.g (by with_unfolding_all rfl), (T.builtins _ (by decide)).trans (by decide +kernel)⟩
theorem topOK_of {p : Program} {loose : List Str} {mean : ExcName → Option Value} {mg mb : Str → Option Value} {K : Frag} {h : Heap} (hK : K.In h) (T : Top p loose mean mg mb h) : TopOK ⟨mg, mb, K⟩ h where
  k := hK
  nolim := T.nolimit
  g := T.g
  b := T.b
  bm := by
    obtain ⟨bm, ob, h1, h2, h3, h4, h5, h6⟩ := T.bmain
    refine ⟨bm, ob, h1, h2, fun e => ?_, h3, h4, h5, h6⟩
    obtain ⟨o, es, ep, e1, e2, _⟩ := T.g
    rw [← e, h3] at e1; cases e1
    rw [h6] at e2; cases e2
end Mine
end
section
open PySem PySem.W PyProof.Rows PySem.Calls
set_option maxRecDepth 100000
set_option maxHeartbeats 400000
set_option linter.unusedVariables false
namespace Mine
theorem intsOf {R : WRecords} {cl : Str → Option Addr} {h : Heap} : ∀ {vs : List Value} {xs : List WData} {as : List Addr}, ReadsAllW R cl h vs xs as → (∀ d ∈ xs, ∃ i, d = .int i) → ∃ ns, IntsAre vs ns ∧ ns.length = xs.length
  | _, _, _, .nil, _ => ⟨[], .nil, rfl⟩
  | _, _, _, .cons r1 r2, hx => by
    obtain ⟨i, rfl⟩ := hx _ List.mem_cons_self
    obtain ⟨ns, k1, k2⟩ := intsOf r2 fun d hd => hx d (List.mem_cons_of_mem _ hd)
    cases r1
    exact ⟨i :: ns, .cons _ _ k1, by simp [k2]⟩
theorem argOf {args : List WData} (h : RW.claim.pre args = true) : ∃ xs, args = [.list xs] ∧ (∀ d ∈ xs, ∃ i, d = .int i) ∧ xs.length ≤ 63 := by
  obtain ⟨h1, h2⟩ := pre_splitW h
  obtain ⟨d, r, rfl, h3, h4⟩ := hasAllW_cons h1
  obtain rfl := hasAllW_nil h4
  obtain ⟨xs, rfl, h5⟩ := hasW_list h3
  refine ⟨xs, rfl, fun d hd => hasW_int (hasItemsW_at h5 d hd), ?_⟩
  have e : RW.pre = .and (.not (.lt (.lit (.int 63)) (.len (.arg 0)))) (.lit (.bool true)) := rfl
  rw [e] at h2
  refine Nat.le_of_not_lt fun hl => ?_
  have q : less? (WData.int 63) (WData.int (xs.length : Int)) = some (decide ((63 : Int) < xs.length)) := rfl
  rw [decide_eq_true (by omega)] at q
  simp [WTm.holds, WTm.value, q] at h2
end Mine
end
section
open PySem PySem.W PyProof.Rows PySem.Calls
set_option maxRecDepth 100000
set_option maxHeartbeats 400000
set_option linter.unusedVariables false
namespace Mine
theorem postOK (xs : List WData) : RW.claim.post [WData.list xs] (WData.bool true) [WData.list xs] = true := by
  have e : RW.post = .eq .res (.lit (.bool true)) := rfl
  have e1 : WShape.has RW.records (WData.bool true) RW.returns = true := by rfl
  have e2 : RW.claim.post [WData.list xs] (WData.bool true) [WData.list xs] = (WShape.has RW.records (WData.bool true) RW.returns && RW.post.holds RW.records { args := [WData.list xs], res := some (WData.bool true), after := [WData.list xs] }) := rfl
  rw [e2, e1, e]
  simp [WTm.holds, WTm.value]
  have q : same (WData.bool true) (WData.bool true) = true := by first | rfl | decide | simp [same]
  rw [q]
theorem law_call (hPF : ∀ n : Nat, n = 3 ∨ n = 5 ∨ n = 7 → ∀ i j : Int, 0 ≤ i → i < n → 0 ≤ j → j < n → PF n i j) : LawR HK := by
  intro w s₀ s₁ mg mb G hs f hf hg args vals as hpre hlay hrd hwell hlow
  have hK : (hd.heap_39 w.params).In s₁.heap := km_in_of hs
  have hT := km_tabs_of hs
  have hTY : ∀ P ∈ TY, s₁.heap.get? P = some (tabObj #[]) := fun P hP => hT P (by
    rcases List.mem_cons.mp hP with rfl | hP
    · decide
    · rw [List.mem_singleton.mp hP]; decide)
  have e99 : mg RW.name = some (.ref 99) := mg_of hK G.T.g (by with_unfolding_all rfl)
  rw [hf] at e99
  obtain rfl := Option.some.inj e99
  obtain ⟨xs, rfl, hints, hlen⟩ := argOf hpre
  cases hrd with
  | cons r1 r2 =>
  cases r2
  obtain ⟨a, vs, as', rfl, ⟨o, ho, hc, m, hd'⟩, ri, rfl⟩ := readsW_list_inv r1
  obtain ⟨ns, hns, hnl⟩ := intsOf ri hints
  have hcode : TabsAt [(48, 44), (41, 37)] s₁.heap := fun q hq => by
    rcases List.mem_cons.mp hq with rfl | hq
    · exact ⟨codeHd_of_K hK (by with_unfolding_all rfl), hT 44 (by decide)⟩
    · rw [List.mem_singleton.mp hq]
      exact ⟨codeHd_of_K hK (by with_unfolding_all rfl), hT 37 (by decide)⟩
  have gK : (hd.heap_39 w.params).In (ghostOf s₁.heap [(48, 44), (41, 37)]) := ghost_K hcode hK (by with_unfolding_all rfl)
  have gT := ghost_top hcode G.T
  have old : ∀ b o, (ghostOf s₁.heap [(48, 44), (41, 37)]).get? b = some o → s₁.heap.get? b = some o := fun b o e => of_hideAll _ e
  have hid0 : ∀ b ∈ TY, (ghostOf s₁.heap [(48, 44), (41, 37)]).get? b = none := fun b hb => hideAll_none _ (by
    rcases List.mem_cons.mp hb with rfl | hb
    · decide
    · rw [List.mem_singleton.mp hb]; decide)
  have ga : (ghostOf s₁.heap [(48, 44), (41, 37)]).get? a = some o := ghost_get hcode ho fun e => by rw [e] at hc; cases hc
  have tp : TopX ⟨mg, mb, hd.heap_39 w.params⟩ TY s₁.heap := ⟨_, topOK_of gK gT, old, hid0⟩
  have tpx : TopX (GX ⟨mg, mb, hd.heap_39 w.params⟩ a o) TY s₁.heap := ⟨_, topOK_of (K := (a, o) :: hd.heap_39 w.params) (fun b o' e => by
    rw [List.lookup_cons] at e
    cases q : b == a with
    | true => rw [q] at e; cases e; rw [eq_of_beq q]; exact ga
    | false => rw [q] at e; exact gK b o' e) gT, old, hid0⟩
  have h357 : ∃ n : Nat, [3, 5, 7][(ns.sum % 3).toNat]? = some n ∧ (n = 3 ∨ n = 5 ∨ n = 7) := by
    have h0 : (ns.sum % 3).toNat = 0 ∨ (ns.sum % 3).toNat = 1 ∨ (ns.sum % 3).toNat = 2 := by omega
    rcases h0 with e | e | e <;> rw [e]
    · exact ⟨3, rfl, .inl rfl⟩
    · exact ⟨5, rfl, .inr (.inl rfl)⟩
    · exact ⟨7, rfl, .inr (.inr rfl)⟩
  obtain ⟨n, hn, hn3⟩ := h357
  obtain ⟨one, h1⟩ : ∃ x, (ns ++ [0, 0])[0]? = some x := ⟨_, List.getElem?_eq_getElem (by simp)⟩
  obtain ⟨other, h2⟩ : ∃ x, (ns ++ [0, 0])[1]? = some x := ⟨_, List.getElem?_eq_getElem (by simp)⟩
  have hni : (0 : Int) < n := by omega
  have r : Rm 7 callerA := ⟨rfl, rfl, by decide, by decide⟩
  refine wpR_mono (c_law (gf_of hK (topRead_of G.T)) r hc hd' hns (by omega) n hn one other h1 h2 (hPF n hn3 _ _ (Int.emod_nonneg _ (by omega)) (Int.emod_lt_of_pos _ hni) (Int.emod_nonneg _ (by omega)) (Int.emod_lt_of_pos _ hni)) TY s₁ (fun b hb => ⟨_, hTY b hb⟩) tp tpx (fun _ h => h) (tb_of hTY)) (fun v s' ⟨e, k, t⟩ => ?_) fun _ _ q => q
  subst e
  have hcT : ∀ P ∈ TY, isCodeTable s₁.heap P := fun P hP => by
    rcases List.mem_cons.mp hP with rfl | hP
    · exact codeTab (c := 41) hK (by with_unfolding_all rfl)
    · rw [List.mem_singleton.mp hP]; exact codeTab (c := 48) hK (by with_unfolding_all rfl)
  have hO := oldK_of hK hTY hcT k t
  obtain ⟨⟨h', tk, rfl⟩, _⟩ := k
  exact ⟨.inl ⟨.bool true, .bool true, [], rfl, fun _ => rfl, .bool true, postOK xs, fun _ => ⟨List.nodup_nil, fun _ h => nomatch h⟩⟩, hO, rfl, .of_eq hg⟩
end Mine
end
section
open PySem PySem.W PyProof.Rows PySem.Calls
set_option maxRecDepth 100000
set_option maxHeartbeats 400000
set_option linter.unusedVariables false
namespace Mine
/-! the sort of distinct codes, in general -/
noncomputable def RT {α : Type} (n : Nat) (lt : Nat → Nat → Bool) (t : KasT α) (Q : α → Prop) : Prop := ∃ a, runT n lt t = some a ∧ Q a
section
variable {α β : Type} {n : Nat} {lt : Nat → Nat → Bool}
theorem RT.ret {a : α} {Q : α → Prop} (h : Q a) : RT n lt (.ret a) Q := ⟨a, rfl, h⟩
theorem RT.ask {i j : Nat} {k : Bool → KasT α} {Q : α → Prop} (hi : i < n) (hj : j < n) (h : RT n lt (k (lt i j)) Q) : RT n lt (.ask i j k) Q := by
  obtain ⟨a, e, q⟩ := h
  refine ⟨a, ?_, q⟩
  show (if i < n ∧ j < n then runT n lt (k (lt i j)) else none) = some a
  rw [if_pos ⟨hi, hj⟩]; exact e
theorem runT_bind {f : α → KasT β} : ∀ (t : KasT α), runT n lt (t.bind f) = (runT n lt t).bind fun a => runT n lt (f a)
  | .ret a => rfl
  | .ask i j k => by
    show (if i < n ∧ j < n then runT n lt ((k (lt i j)).bind f) else none) = Option.bind (if i < n ∧ j < n then runT n lt (k (lt i j)) else none) _
    split
    · exact runT_bind (k (lt i j))
    · rfl
theorem RT.bind {t : KasT α} {f : α → KasT β} {P : α → Prop} {Q : β → Prop} (h : RT n lt t P) (k : ∀ a, P a → RT n lt (f a) Q) : RT n lt (t.bind f) Q := by
  obtain ⟨a, e, p⟩ := h
  obtain ⟨b, e2, q⟩ := k a p
  exact ⟨b, by rw [runT_bind, e]; exact e2, q⟩
end
section
variable {n : Nat} {c : Nat → Nat}
/-- what the array of places is, all along -/
structure PA (n : Nat) (p : Array Nat) : Prop where
  size : p.size = n
  perm : p.Perm (List.toArray (List.range n))
theorem PA.lt {p : Array Nat} (h : PA n p) {k : Nat} (hk : k < n) : p.getD k 0 < n := by
  have hs : k < p.size := by rw [h.size]; exact hk
  have e : p.getD k 0 = p[k] := by simp [Array.getD, hs]
  rw [e]
  have hm : p[k] ∈ p := Array.getElem_mem hs
  have := (h.perm.mem_iff).mp hm
  simpa using this
noncomputable def vv (c : Nat → Nat) (p : Array Nat) (k : Nat) : Nat := c (p.getD k 0)
noncomputable def ltc (c : Nat → Nat) (i j : Nat) : Bool := decide (c i < c j)
theorem rt_asc {p : Array Nat} (h : PA n p) : ∀ f m, 1 ≤ m → m + f ≤ n → RT n (ltc c) (kas_asc p f m) (fun r => m ≤ r ∧ r ≤ m + f ∧ (∀ k, m ≤ k → k < r → vv c p (k - 1) ≤ vv c p k) ∧ (r = m + f ∨ vv c p r < vv c p (r - 1)))
  | 0, m, _, _ => RT.ret ⟨Nat.le_refl _, Nat.le_refl _, fun k h1 h2 => by omega, .inl rfl⟩
  | f + 1, m, h1, h2 => by
    refine RT.ask (h.lt (by omega)) (h.lt (by omega)) ?_
    by_cases hc : c (p.getD m 0) < c (p.getD (m - 1) 0)
    · rw [show ltc c (p.getD m 0) (p.getD (m - 1) 0) = true from decide_eq_true hc]
      exact RT.ret ⟨Nat.le_refl _, by omega, fun k h1 h2 => by omega, .inr hc⟩
    · rw [show ltc c (p.getD m 0) (p.getD (m - 1) 0) = false from decide_eq_false hc]
      obtain ⟨r, e, q1, q2, q3, q4⟩ := rt_asc h f (m + 1) (by omega) (by omega)
      refine ⟨r, e, by omega, by omega, fun k k1 k2 => ?_, q4.imp (fun e => by omega) id⟩
      by_cases hk : k = m
      · subst hk; exact Nat.le_of_not_lt hc
      · exact q3 k (by omega) k2
theorem PA.inj {p : Array Nat} (h : PA n p) (hc : ∀ i j, i < n → j < n → c i = c j → i = j) {k k' : Nat} (hk : k < n) (hk' : k' < n) (e : vv c p k = vv c p k') : k = k' := by
  have e1 := hc _ _ (h.lt hk) (h.lt hk') e
  have hs : k < p.size := by rw [h.size]; exact hk
  have hs' : k' < p.size := by rw [h.size]; exact hk'
  have f1 : p.getD k 0 = p[k] := by simp [Array.getD, hs]
  have f2 : p.getD k' 0 = p[k'] := by simp [Array.getD, hs']
  rw [f1, f2] at e1
  have nd : p.toList.Nodup := by
    have := (Array.perm_iff_toList_perm.mp h.perm)
    exact this.nodup_iff.mpr (by simpa using List.nodup_range)
  exact (List.getElem_inj (h₀ := by simpa using hs) (h₁ := by simpa using hs') nd).mp (by simpa using e1)
theorem rt_desc {p : Array Nat} (h : PA n p) (hc : ∀ i j, i < n → j < n → c i = c j → i = j) : ∀ f m, 1 ≤ m → m + f ≤ n → RT n (ltc c) (kas_desc f p m 0) (fun r => r.1 = p ∧ r.2.2 = 0 ∧ m ≤ r.2.1 ∧ r.2.1 ≤ m + f ∧ ∀ k, m ≤ k → k < r.2.1 → vv c p k < vv c p (k - 1))
  | 0, m, _, _ => RT.ret ⟨rfl, rfl, Nat.le_refl _, Nat.le_refl _, fun k h1 h2 => by dsimp only at h2; omega⟩
  | f + 1, m, h1, h2 => by
    refine RT.ask (h.lt (by omega)) (h.lt (by omega)) ?_
    by_cases hl : c (p.getD m 0) < c (p.getD (m - 1) 0)
    · rw [show ltc c (p.getD m 0) (p.getD (m - 1) 0) = true from decide_eq_true hl]
      obtain ⟨r, e, q1, q2, q3, q4, q5⟩ := rt_desc h hc f (m + 1) (by omega) (by omega)
      refine ⟨r, e, q1, q2, by omega, by omega, fun k k1 k2 => ?_⟩
      by_cases hk : k = m
      · subst hk; exact hl
      · exact q5 k (by omega) k2
    · rw [show ltc c (p.getD m 0) (p.getD (m - 1) 0) = false from decide_eq_false hl]
      refine RT.ask (h.lt (by omega)) (h.lt (by omega)) ?_
      have hne : c (p.getD (m - 1) 0) ≠ c (p.getD m 0) := fun e => by have := h.inj hc (k := m - 1) (k' := m) (by omega) (by omega) e; omega
      rw [show ltc c (p.getD (m - 1) 0) (p.getD m 0) = true from decide_eq_true (by omega)]
      exact RT.ret ⟨rfl, rfl, Nat.le_refl _, by dsimp only; omega, fun k h1 h2 => by dsimp only at h2; omega⟩
theorem getD_of {p q : Array Nat} {k k' : Nat} (e : p[k]? = q[k']?) : p.getD k 0 = q.getD k' 0 := by
  simp only [Array.getD_eq_getD_getElem?, e]
theorem PA.rev {p : Array Nat} (h : PA n p) (i j : Nat) : PA n (kas_rev p i j) := ⟨by unfold kas_rev; rw [mirror_size]; exact h.size, (mirror_perm _ _ _ _).trans h.perm⟩
theorem vv_rev {p : Array Nat} {j k : Nat} (h : PA n p) (hj : j ≤ n) : vv c (kas_rev p 0 j) k = if k < j then vv c p (j - 1 - k) else vv c p k := by
  have e := getElem?_mirror_all (xs := p) (i := 0) (j := j) (by rw [h.size]; exact hj) k
  unfold vv kas_rev
  by_cases hk : k < j
  · rw [if_pos ⟨Nat.zero_le _, hk⟩] at e
    rw [if_pos hk, getD_of e]; congr 2; omega
  · rw [if_neg (by omega)] at e
    rw [if_neg hk, getD_of e]
noncomputable def Srt (c : Nat → Nat) (p : Array Nat) (m : Nat) : Prop := ∀ k, 1 ≤ k → k < m → vv c p (k - 1) ≤ vv c p k
theorem rt_tail {p : Array Nat} (h : PA n p) {m : Nat} (h1 : 1 ≤ m) (h2 : m ≤ n) (hd : ∀ k, 1 ≤ k → k < m → vv c p k < vv c p (k - 1)) : RT n (ltc c) (kas_tail3 m n p) (fun r => PA n r.2 ∧ 1 ≤ r.1 ∧ r.1 ≤ n ∧ Srt c r.2 r.1) := by
  refine RT.bind (rt_asc (h.rev 0 m) (n - m) m h1 (by omega)) fun r ⟨q1, q2, q3, _⟩ => RT.ret ⟨h.rev 0 m, by dsimp only; omega, by dsimp only; omega, fun k k1 k2 => ?_⟩
  dsimp only at k2 ⊢
  by_cases hk : k < m
  · rw [vv_rev h h2, vv_rev h h2, if_pos (by omega), if_pos hk]
    have := hd (m - k) (by omega) (by omega)
    have e1 : m - 1 - (k - 1) = m - k := by omega
    have e2 : m - 1 - k = m - k - 1 := by omega
    rw [e1, e2]; omega
  · exact q3 k (by omega) k2
theorem rt_count {p : Array Nat} (h : PA n p) (hc : ∀ i j, i < n → j < n → c i = c j → i = j) (hn : 2 ≤ n) : RT n (ltc c) (kas_count n p) (fun r => PA n r.2 ∧ 1 ≤ r.1 ∧ r.1 ≤ n ∧ Srt c r.2 r.1) := by
  refine RT.bind (rt_asc h (n - 1) 1 (by omega) (by omega)) fun m ⟨q1, q2, q3, q4⟩ => ?_
  by_cases hm : (m == n) = true
  · rw [if_pos hm]
    exact RT.ret ⟨h, q1, by dsimp only; omega, fun k k1 k2 => q3 k k1 k2⟩
  · rw [if_neg hm]
    have hmn : m ≠ n := fun e => hm (by simp [e])
    by_cases h1 : m > 1
    · rw [if_pos h1]
      have mono : ∀ k, k < m → vv c p 0 ≤ vv c p k := fun k => by
        induction k with
        | zero => intro _; exact Nat.le_refl _
        | succ k ih => intro hk; exact Nat.le_trans (ih (by omega)) (q3 (k + 1) (by omega) hk)
      refine RT.ask (h.lt (by omega)) (h.lt (by omega)) ?_
      have hle := mono (m - 1) (by omega)
      have hne : vv c p 0 ≠ vv c p (m - 1) := fun e => by have := h.inj hc (by omega) (by omega) e; omega
      rw [show ltc c (p.getD 0 0) (p.getD (m - 1) 0) = true from decide_eq_true (by unfold vv at hle hne; omega)]
      exact RT.ret ⟨h, q1, by dsimp only; omega, fun k k1 k2 => q3 k k1 k2⟩
    · rw [if_neg h1]
      obtain rfl : m = 1 := by omega
      have hd : vv c p 1 < vv c p 0 := q4.elim (fun e => absurd e (by omega)) id
      refine RT.bind (rt_desc h hc (n - 2) 2 (by omega) (by omega)) fun r ⟨e1, e2, r1, r2, r3⟩ => ?_
      rw [if_neg (by omega), e1]
      exact rt_tail h (by omega) (by omega) fun k k1 k2 => by
        by_cases hk : k = 1
        · subst hk; exact hd
        · exact r3 k (by omega) k2
theorem rt_place {p : Array Nat} (h : PA n p) {k : Nat} (hk : k < n) (hs : Srt c p k) : ∀ f l r, r - l ≤ f → l ≤ r → r ≤ k → (∀ i, i < l → vv c p i ≤ vv c p k) → (∀ i, r ≤ i → i < k → vv c p k ≤ vv c p i) →
    RT n (ltc c) (kas_place p k f l r) (fun x => x ≤ k ∧ (∀ i, i < x → vv c p i ≤ vv c p k) ∧ ∀ i, x ≤ i → i < k → vv c p k ≤ vv c p i)
  | 0, l, r, hf, h1, h2, ha, hb => RT.ret ⟨by omega, ha, fun i i1 i2 => hb i (by omega) i2⟩
  | f + 1, l, r, hf, h1, h2, ha, hb => by
    have mono : ∀ i j, i ≤ j → j < k → vv c p i ≤ vv c p j := fun i j => by
      induction j with
      | zero => intro h1 _; rw [Nat.le_zero.mp h1]; exact Nat.le_refl _
      | succ j ih =>
        intro h1 h2
        by_cases e : i = j + 1
        · rw [e]; exact Nat.le_refl _
        · exact Nat.le_trans (ih (by omega) (by omega)) (hs (j + 1) (by omega) h2)
    unfold kas_place
    by_cases hl : l ≥ r
    · rw [if_pos hl]
      exact RT.ret ⟨by omega, ha, fun i i1 i2 => hb i (by omega) i2⟩
    · rw [if_neg hl]
      refine RT.ask (h.lt hk) (h.lt (by omega)) ?_
      by_cases hc : c (p.getD k 0) < c (p.getD ((l + r) / 2) 0)
      · rw [show ltc c (p.getD k 0) (p.getD ((l + r) / 2) 0) = true from decide_eq_true hc, if_pos rfl]
        exact rt_place h hk hs f l _ (by omega) (by omega) (by omega) ha fun i i1 i2 => Nat.le_trans (Nat.le_of_lt hc) (mono _ i i1 i2)
      · rw [show ltc c (p.getD k 0) (p.getD ((l + r) / 2) 0) = false from decide_eq_false hc, if_neg (by simp)]
        exact rt_place h hk hs f _ r (by omega) (by omega) h2 (fun i i1 => Nat.le_trans (mono i ((l + r) / 2) (by omega) (by omega)) (Nat.le_of_not_lt hc)) hb
theorem PA.bub {p : Array Nat} (h : PA n p) (i j : Nat) : PA n (bubble p i j) := ⟨by rw [bubble_size]; exact h.size, (bubble_perm _ _ _).trans h.perm⟩
theorem vv_bub {p : Array Nat} {k d i : Nat} (h : PA n p) (hk : k < n) (hd : d ≤ k) : vv c (bubble p k d) i = if i = k - d then vv c p k else if k - d < i ∧ i ≤ k then vv c p (i - 1) else vv c p i := by
  have e := getElem?_bubble (xs := p) (src := k) (by rw [h.size]; exact hk) d hd i
  unfold vv
  repeat' split
  all_goals (first | (rw [if_pos (by assumption)] at e; rw [getD_of e]) | (rw [if_neg (by assumption), if_pos (by assumption)] at e; rw [getD_of e]) | (rw [if_neg (by assumption), if_neg (by assumption)] at e; rw [getD_of e]))
theorem vv_bub' {p : Array Nat} {k l : Nat} (h : PA n p) (hk : k < n) (hl : l ≤ k) : (∀ i, i < l → vv c (bubble p k (k - l)) i = vv c p i) ∧ vv c (bubble p k (k - l)) l = vv c p k ∧ ∀ i, l ≤ i → i < k → vv c (bubble p k (k - l)) (i + 1) = vv c p i := by
  have e1 : k - (k - l) = l := Nat.sub_sub_self hl
  refine ⟨fun i hi => ?_, ?_, fun i h1 h2 => ?_⟩
  · rw [vv_bub h hk (Nat.sub_le _ _), e1, if_neg (Nat.ne_of_lt hi), if_neg (fun q => absurd q.1 (Nat.lt_asymm hi))]
  · rw [vv_bub h hk (Nat.sub_le _ _), e1, if_pos rfl]
  · rw [vv_bub h hk (Nat.sub_le _ _), e1, if_neg (Nat.ne_of_gt (Nat.lt_succ_of_le h1)), if_pos ⟨Nat.lt_succ_of_le h1, h2⟩, Nat.add_sub_cancel]
theorem srt_bub {p : Array Nat} {k l : Nat} (h : PA n p) (hk : k < n) (hl : l ≤ k) (hs : Srt c p k) (l2 : ∀ i, i < l → vv c p i ≤ vv c p k) (l3 : ∀ i, l ≤ i → i < k → vv c p k ≤ vv c p i) : Srt c (bubble p k (k - l)) (k + 1) := by
  obtain ⟨b1, b2, b3⟩ := vv_bub' (c := c) h hk hl
  intro i i1 i2
  obtain ⟨j, rfl⟩ : ∃ j, i = j + 1 := ⟨i - 1, (Nat.sub_add_cancel i1).symm⟩
  have hj : j < k := Nat.lt_of_succ_lt_succ i2
  rw [Nat.add_sub_cancel]
  rcases Nat.lt_trichotomy j l with q | q | q
  · rw [b1 j q]
    rcases Nat.lt_or_eq_of_le (Nat.succ_le_of_lt q) with q2 | q2
    · rw [b1 _ q2]
      exact hs (j + 1) i1 (Nat.lt_of_lt_of_le q2 hl)
    · rw [show j + 1 = l from q2, b2]
      exact l2 j q
  · subst q
    rw [b2, b3 j (Nat.le_refl _) hj]
    exact l3 j (Nat.le_refl _) hj
  · obtain ⟨m, rfl⟩ : ∃ m, j = m + 1 := ⟨j - 1, (Nat.sub_add_cancel (Nat.lt_of_le_of_lt (Nat.zero_le _) q)).symm⟩
    rw [b3 m (Nat.le_of_lt_succ q) (Nat.lt_of_succ_lt hj), b3 (m + 1) (Nat.le_of_lt q) hj]
    exact hs (m + 1) (Nat.succ_le_succ (Nat.zero_le _)) hj
theorem rt_bin : ∀ f {p : Array Nat} (h : PA n p) k, k + f = n → Srt c p k → RT n (ltc c) (kas_bin f p k) (fun q => PA n q ∧ Srt c q n)
  | 0, p, h, k, e, hs => RT.ret ⟨h, by rw [show n = k by omega]; exact hs⟩
  | f + 1, p, h, k, e, hs => by
    have hk : k < n := by omega
    refine RT.bind (rt_place h hk hs k 0 k (Nat.le_refl _) (Nat.zero_le _) (Nat.le_refl _) (fun i hi => absurd hi (Nat.not_lt_zero _)) fun i i1 i2 => absurd i2 (Nat.not_lt.mpr i1)) fun l ⟨l1, l2, l3⟩ => ?_
    refine rt_bin f (h.bub k (k - l)) (k + 1) (by omega) ?_
    clear rt_bin e
    exact srt_bub h hk l1 hs l2 l3
theorem rt_sort (hc : ∀ i j, i < n → j < n → c i = c j → i = j) (hn : 2 ≤ n) : RT n (ltc c) (kas_sort n) (fun q => PA n q ∧ Srt c q n) := by
  refine RT.bind (rt_count ⟨by simp, Array.Perm.refl _⟩ hc hn) fun r ⟨h, r1, r2, hs⟩ => ?_
  by_cases hr : r.1 < n
  · rw [if_pos hr]
    have e : max r.1 1 = r.1 := by omega
    rw [e]
    exact rt_bin (n - r.1) h r.1 (by omega) hs
  · rw [if_neg hr]
    have e : r.1 = n := by omega
    exact RT.ret ⟨h, e ▸ hs⟩
end
end Mine
end
section
open PySem PySem.W PyProof.Rows PySem.Calls
set_option maxRecDepth 100000
set_option maxHeartbeats 400000
set_option linter.unusedVariables false
namespace Mine
theorem runT_congr {α : Type} {n : Nat} {lt lt' : Nat → Nat → Bool} (h : ∀ i j, i < n → j < n → lt i j = lt' i j) : ∀ t : KasT α, runT n lt t = runT n lt' t
  | .ret a => rfl
  | .ask i j k => by
    show (if i < n ∧ j < n then runT n lt (k (lt i j)) else none) = (if i < n ∧ j < n then runT n lt' (k (lt' i j)) else none)
    split
    · rename_i q
      rw [h i j q.1 q.2]; exact runT_congr h _
    · rfl
end Mine
end
section
open PySem PySem.W PyProof.Rows PySem.Calls
set_option maxRecDepth 100000
set_option maxHeartbeats 400000
set_option linter.unusedVariables false
namespace Mine
/-! the sort of the keys, by their codes -/
noncomputable def code (n : Nat) : List Int → Nat
  | [a, b] => a.toNat * n + b.toNat
  | _ => 0
theorem code_div {n : Nat} {a b : Int} (hn : 0 < n) (hb : 0 ≤ b ∧ b < n) : code n [a, b] / n = a.toNat ∧ code n [a, b] % n = b.toNat := by
  have h : b.toNat < n := by omega
  show (a.toNat * n + b.toNat) / n = a.toNat ∧ (a.toNat * n + b.toNat) % n = b.toNat
  refine ⟨?_, ?_⟩
  · rw [Nat.add_comm, Nat.add_mul_div_right _ _ hn, Nat.div_eq_of_lt h, Nat.zero_add]
  · rw [Nat.add_comm, Nat.add_mul_mod_self_right, Nat.mod_eq_of_lt h]
theorem code_inj {n : Nat} {a b c d : Int} (hn : 0 < n) (ha : 0 ≤ a) (hb : 0 ≤ b ∧ b < n) (hc : 0 ≤ c) (hd : 0 ≤ d ∧ d < n) (e : code n [a, b] = code n [c, d]) : a = c ∧ b = d := by
  obtain ⟨p1, p2⟩ := code_div (a := a) hn hb
  obtain ⟨q1, q2⟩ := code_div (a := c) hn hd
  rw [e] at p1 p2
  exact ⟨by rw [← Int.toNat_of_nonneg ha, ← Int.toNat_of_nonneg hc, ← p1, ← q1], by rw [← Int.toNat_of_nonneg hb.1, ← Int.toNat_of_nonneg hd.1, ← p2, ← q2]⟩
theorem ltK_code {n : Nat} {a b c d : Int} (hn : 0 < n) (ha : 0 ≤ a) (hb : 0 ≤ b ∧ b < n) (hc : 0 ≤ c) (hd : 0 ≤ d ∧ d < n) : ltK [a, b] [c, d] = decide (code n [a, b] < code n [c, d]) := by
  show (if (a == c) = true then (if (b == d) = true then false else decide (b < d)) else decide (a < c)) = decide (a.toNat * n + b.toNat < c.toNat * n + d.toNat)
  by_cases e : a = c
  · subst e
    rw [if_pos (by simp)]
    by_cases e2 : b = d
    · subst e2; rw [if_pos (by simp)]; simp
    · rw [if_neg (by simpa using e2)]
      exact decide_eq_decide.mpr ⟨fun h => by omega, fun h => by omega⟩
  · rw [if_neg (by simpa using e)]
    refine decide_eq_decide.mpr ⟨fun h => ?_, fun h => ?_⟩
    · have h1 : (a.toNat + 1) * n ≤ c.toNat * n := Nat.mul_le_mul_right n (by omega)
      rw [Nat.add_mul] at h1
      omega
    · refine Int.lt_of_not_ge fun h2 => ?_
      have h1 : (c.toNat + 1) * n ≤ a.toNat * n := Nat.mul_le_mul_right n (by omega)
      rw [Nat.add_mul] at h1
      omega
theorem mono_id {f : Nat → Nat} {N : Nat} (hlt : ∀ k, k < N → f k < N) (hs : ∀ k, 1 ≤ k → k < N → f (k - 1) < f k) : ∀ k, k < N → f k = k := by
  have lo : ∀ k, k < N → k ≤ f k := fun k => by
    induction k with
    | zero => intro _; exact Nat.zero_le _
    | succ k ih => intro h; have := ih (by omega); have := hs (k + 1) (by omega) h; rw [Nat.add_sub_cancel] at this; omega
  have up : ∀ d k, k + d + 1 = N → f k ≤ k := fun d => by
    induction d with
    | zero => intro k h; have := hlt k (by omega); omega
    | succ d ih => intro k h; have := ih (k + 1) (by omega); have := hs (k + 1) (by omega) (by omega); rw [Nat.add_sub_cancel] at this; omega
  intro k h
  have := lo k h
  have := up (N - 1 - k) k (by omega)
  omega
theorem code_lt {n : Nat} {a b : Int} (hn : 0 < n) (ha : 0 ≤ a ∧ a < n) (hb : 0 ≤ b ∧ b < n) : code n [a, b] < n * n := by
  show a.toNat * n + b.toNat < n * n
  have h1 : (a.toNat + 1) * n ≤ n * n := Nat.mul_le_mul_right n (by omega)
  rw [Nat.add_mul] at h1
  omega
theorem sort_keys {n : Nat} {ks : List (List Int)} (hn : 2 ≤ n) (hl : ks.length = n * n) (hk : ∀ i, i < n * n → ∃ a b : Int, ks.getD i [] = [a, b] ∧ (0 ≤ a ∧ a < n) ∧ (0 ≤ b ∧ b < n))
    (inj : ∀ i j, i < n * n → j < n * n → ks.getD i [] = ks.getD j [] → i = j) (hA : allK n = (List.range (n * n)).map fun k => [((k / n : Nat) : Int), ((k % n : Nat) : Int)]) : sortK ks = some (allK n) := by
  have hN : 2 ≤ n * n := Nat.le_trans hn (Nat.le_mul_of_pos_left n (by omega))
  have hc : ∀ i j, i < n * n → j < n * n → code n (ks.getD i []) = code n (ks.getD j []) → i = j := fun i j hi hj e => by
    obtain ⟨a, b, e1, ha, hb⟩ := hk i hi
    obtain ⟨c, d, e2, hc, hd⟩ := hk j hj
    refine inj i j hi hj ?_
    rw [e1, e2] at e ⊢
    obtain ⟨rfl, rfl⟩ := code_inj (by omega) ha.1 hb hc.1 hd e
    rfl
  obtain ⟨p, e, hp, hs⟩ := rt_sort hc hN
  have e' : runT ks.length (fun i j => ltK (ks.getD i []) (ks.getD j [])) (kas_sort ks.length) = some p := by
    rw [hl, ← e]
    refine runT_congr (fun i j hi hj => ?_) _
    obtain ⟨a, b, e1, ha, hb⟩ := hk i hi
    obtain ⟨c, d, e2, hc, hd⟩ := hk j hj
    show ltK (ks.getD i []) (ks.getD j []) = decide (code n (ks.getD i []) < code n (ks.getD j []))
    rw [e1, e2]
    exact ltK_code (by omega) ha.1 hb hc.1 hd
  have hid := mono_id (f := fun k => code n (ks.getD (p.getD k 0) [])) (N := n * n) (fun k h => by
    obtain ⟨a, b, e1, ha, hb⟩ := hk _ (hp.lt h)
    show code n (ks.getD (p.getD k 0) []) < n * n
    rw [e1]; exact code_lt (by omega) ha hb) fun k h1 h2 => by
    have q := hs k h1 h2
    refine Nat.lt_of_le_of_ne q fun e => ?_
    have := hp.inj hc (k := k - 1) (k' := k) (by omega) h2 e
    omega
  unfold sortK
  rw [e']
  dsimp only
  have hall : p.toList.all (fun i => decide (i < ks.length)) = true := by
    rw [List.all_eq_true]
    intro i hi
    refine decide_eq_true ?_
    rw [hl]
    obtain ⟨k, hk', rfl⟩ := List.getElem_of_mem hi
    have : k < n * n := by rw [← hp.size]; simpa using hk'
    have q := hp.lt this
    rw [show p.getD k 0 = p.toList[k] by simp [Array.getD, show k < p.size by simpa using hk']] at q
    exact q
  rw [if_pos hall, hA]
  congr 1
  refine List.ext_getElem (by simp [hp.size]) fun k h1 h2 => ?_
  have hkn : k < n * n := by simpa using h2
  have hkp : k < p.size := by rw [hp.size]; exact hkn
  rw [List.getElem_map, List.getElem_map, List.getElem_range]
  have eg : p.getD k 0 = p.toList[k]'(by simpa using hkp) := by simp [Array.getD, hkp]
  rw [← eg]
  obtain ⟨a, b, e1, ha, hb⟩ := hk _ (hp.lt hkn)
  have q : code n (ks.getD (p.getD k 0) []) = k := hid k hkn
  rw [e1] at q ⊢
  obtain ⟨d1, d2⟩ := code_div (a := a) (by omega) hb
  rw [q] at d1 d2
  rw [d1, d2]
  congr 1
  · omega
  · congr 1; omega
end Mine
end
section
open PySem PySem.W PyProof.Rows PySem.Calls
set_option maxRecDepth 100000
set_option maxHeartbeats 400000
set_option linter.unusedVariables false
namespace Mine
/-! the plain facts, by the numbers themselves -/
noncomputable def dmB (a b : Int) (n : Nat) : Bool :=
  decide (0 < b) && (decide (b < 1000) && (decide (0 < n) && (decide (n ≤ 10) && ((((Builtin.Int.intBits b : Nat) : Int) == (n : Int)) && (decide (0 ≤ a) && (decide (a < 4294967296) &&
  ((((Builtin.Int.intBits a : Nat) : Int) + n - 1) / n == ((digs n a).length : Int)) && ((digs n a).all (fun d => decide (0 ≤ d) && decide (d < 4294967296)) && (dmRun b n (digs n a).reverse).2.all (fun d => decide (0 ≤ d) && decide (d < 4294967296)))))))))
theorem DM.of {a b : Int} {n : Nat} (h : dmB a b n = true) : DM a b n := by
  unfold dmB at h
  simp only [Bool.and_eq_true, decide_eq_true_eq, beq_iff_eq, List.all_eq_true] at h
  obtain ⟨b0, b1, n0, n1, bi, a0, ⟨a1, hk⟩, ds, qs⟩ := h
  exact ⟨⟨b0, b1⟩, ⟨n0, n1⟩, bi, ⟨a0, a1⟩, hk, ds, qs⟩
noncomputable def alikeB (n : Nat) (m : List (List Int)) : Bool := (m.length == n) && (m.all (fun r => r.length == n) && (m ++ colsOf n m).all (fun r => accL 0 r == due n))
theorem Alike.of {n : Nat} {m : List (List Int)} (h : alikeB n m = true) : Alike n m := by
  unfold alikeB at h
  simp only [Bool.and_eq_true, beq_iff_eq, List.all_eq_true] at h
  exact ⟨h.1, h.2.1, h.2.2⟩
/-- what is asked of one number a = n * q + s below n * n -/
noncomputable def numB (n : Nat) (q s : Int) : Bool :=
  dmB (1 + n * q + s - 1) n (bitsN n) && (dval (bitsN n) (dmRun n (bitsN n) (digs (bitsN n) (1 + n * q + s - 1)).reverse).2.reverse == q && (dmRun n (bitsN n) (digs (bitsN n) (1 + n * q + s - 1)).reverse).1 == s)
noncomputable def numAll (n : Nat) : Bool := (rngI n).all fun q => (rngI n).all fun s => numB n q s
noncomputable def sqB (n : Nat) (one other : Int) : Bool :=
  alikeB n (sq n one other) && (alikeB n (turnL (sq n one other)) && (alikeB n (sq n one other).reverse && alikeB n (colsOf n (sq n one other))))
noncomputable def fairB (n : Nat) : Bool :=
  alikeB n (fairL n) && ((slopesL n).all (fun l => accL 0 l == due n) && (turnL (fairL n).reverse == (fairL n).map fun l => l.map fun x => (n : Int) * n + 1 - x))
theorem num3 : numAll 3 = true := by decide +kernel
theorem num5 : numAll 5 = true := by decide +kernel
theorem num7 : numAll 7 = true := by decide +kernel
theorem fair3 : fairB 3 = true := by decide +kernel
theorem fair5 : fairB 5 = true := by decide +kernel
theorem fair7 : fairB 7 = true := by decide +kernel
noncomputable def sqRow (n : Nat) (one : Int) : Bool := (rngI n).all fun other => sqB n one other
theorem sq3 : ((rngI 3).all fun one => sqRow 3 one) = true := by decide +kernel
theorem sq5_0 : sqRow 5 0 = true := by decide +kernel
theorem sq5_1 : sqRow 5 1 = true := by decide +kernel
theorem sq5_2 : sqRow 5 2 = true := by decide +kernel
theorem sq5_3 : sqRow 5 3 = true := by decide +kernel
theorem sq5_4 : sqRow 5 4 = true := by decide +kernel
theorem sq7_0 : sqRow 7 0 = true := by decide +kernel
theorem sq7_1 : sqRow 7 1 = true := by decide +kernel
theorem sq7_2 : sqRow 7 2 = true := by decide +kernel
theorem sq7_3 : sqRow 7 3 = true := by decide +kernel
theorem sq7_4 : sqRow 7 4 = true := by decide +kernel
theorem sq7_5 : sqRow 7 5 = true := by decide +kernel
theorem sq7_6 : sqRow 7 6 = true := by decide +kernel
end Mine
end
section
open PySem PySem.W PyProof.Rows PySem.Calls
set_option maxRecDepth 100000
set_option maxHeartbeats 4000000
set_option linter.unusedVariables false
namespace Mine
theorem to_rngI {n : Nat} {x : Int} (h0 : 0 ≤ x) (h1 : x < n) : x ∈ rngI n := by
  unfold rngI
  exact List.mem_map.mpr ⟨x.toNat, List.mem_range.mpr (by omega), by omega⟩
theorem keys_ix {n : Nat} (hn : n = 3 ∨ n = 5 ∨ n = 7) (one other : Int) : keysOf n one other = (List.range (n * n)).map fun k => qK n one other ((k / n : Nat) : Int) ((k % n : Nat) : Int) := by
  rcases hn with rfl | rfl | rfl <;> rfl
theorem all_ix {n : Nat} (hn : n = 3 ∨ n = 5 ∨ n = 7) : allK n = (List.range (n * n)).map fun k => [((k / n : Nat) : Int), ((k % n : Nat) : Int)] := by
  rcases hn with rfl | rfl | rfl <;> rfl
theorem keys_at {n : Nat} (hn : n = 3 ∨ n = 5 ∨ n = 7) (one other : Int) {k : Nat} (hk : k < n * n) : (keysOf n one other).getD k [] = qK n one other ((k / n : Nat) : Int) ((k % n : Nat) : Int) := by
  rw [keys_ix hn]
  simp [List.getD, hk]
theorem eq_of_dvd {n : Nat} {x y : Int} (hx : 0 ≤ x ∧ x < n) (hy : 0 ≤ y ∧ y < n) (h : (n : Int) ∣ x - y) : x = y := by
  have e := Int.emod_eq_emod_iff_emod_sub_eq_zero.mpr (Int.emod_eq_zero_of_dvd h)
  rwa [Int.emod_eq_of_lt hx.1 hx.2, Int.emod_eq_of_lt hy.1 hy.2] at e
theorem qK_inj {n : Nat} (hn : n = 3 ∨ n = 5 ∨ n = 7) {one other r c r' c' : Int} (hr : 0 ≤ r ∧ r < n) (hc : 0 ≤ c ∧ c < n) (hr' : 0 ≤ r' ∧ r' < n) (hc' : 0 ≤ c' ∧ c' < n) (e : qK n one other r c = qK n one other r' c') : r = r' ∧ c = c' := by
  unfold qK at e
  simp only [List.cons.injEq, and_true] at e
  obtain ⟨e1, e2⟩ := e
  have a1 : (n : Int) ∣ (r + c + one) - (r' + c' + one) := Int.dvd_of_emod_eq_zero (Int.emod_eq_emod_iff_emod_sub_eq_zero.mp e1)
  have a2 : (n : Int) ∣ (r + 2 * c + other) - (r' + 2 * c' + other) := Int.dvd_of_emod_eq_zero (Int.emod_eq_emod_iff_emod_sub_eq_zero.mp e2)
  clear e1 e2
  have a3 : (n : Int) ∣ c - c' := by
    have h := Int.dvd_sub a2 a1
    clear hr hc hr' hc' a1 a2 hn
    rwa [show (r + 2 * c + other) - (r' + 2 * c' + other) - ((r + c + one) - (r' + c' + one)) = c - c' by omega] at h
  have a4 : (n : Int) ∣ r - r' := by
    have h := Int.dvd_sub a1 a3
    clear hr hc hr' hc' a1 a2 a3 hn
    rwa [show (r + c + one) - (r' + c' + one) - (c - c') = r - r' by omega] at h
  exact ⟨eq_of_dvd hr hr' a4, eq_of_dvd hc hc' a3⟩
theorem keys_inj {n : Nat} (hn : n = 3 ∨ n = 5 ∨ n = 7) (one other : Int) : ∀ i j, i < n * n → j < n * n → (keysOf n one other).getD i [] = (keysOf n one other).getD j [] → i = j := by
  intro i j hi hj e
  rw [keys_at hn one other hi, keys_at hn one other hj] at e
  have h0 : 0 < n := by omega
  have b1 := Nat.mod_lt i h0
  have b2 := Nat.mod_lt j h0
  have b3 : i / n < n := Nat.div_lt_of_lt_mul hi
  have b4 : j / n < n := Nat.div_lt_of_lt_mul hj
  have z : ∀ k : Nat, k < n → (0 : Int) ≤ (k : Int) ∧ (k : Int) < n := fun k h => by omega
  obtain ⟨e1, e2⟩ := qK_inj hn (z _ b3) (z _ b1) (z _ b4) (z _ b2) e
  replace e1 := Int.ofNat_inj.mp e1
  replace e2 := Int.ofNat_inj.mp e2
  have q1 := Nat.div_add_mod i n
  have q2 := Nat.div_add_mod j n
  rw [e1, e2] at q1
  omega
theorem keys_len {n : Nat} (hn : n = 3 ∨ n = 5 ∨ n = 7) (one other : Int) : (keysOf n one other).length = n * n := by
  rw [keys_ix hn, List.length_map, List.length_range]
theorem keys_nodup {n : Nat} (hn : n = 3 ∨ n = 5 ∨ n = 7) (one other : Int) : (keysOf n one other).Nodup := by
  refine List.pairwise_iff_getElem.mpr fun i j hi hj hij e => ?_
  have h1 := hi
  have h2 := hj
  rw [keys_len hn] at h1 h2
  have := keys_inj hn one other i j h1 h2 (by simp [List.getD, hi, hj, e])
  omega
theorem keys_sort {n : Nat} (hn : n = 3 ∨ n = 5 ∨ n = 7) (one other : Int) : sortK (keysOf n one other) = some (allK n) := by
  have h0 : (0 : Int) < n := by omega
  refine sort_keys (by omega) (keys_len hn one other) (fun i hi => ?_) (keys_inj hn one other) (all_ix hn)
  exact ⟨_, _, keys_at hn one other hi, ⟨Int.emod_nonneg _ (by omega), Int.emod_lt_of_pos _ h0⟩, Int.emod_nonneg _ (by omega), Int.emod_lt_of_pos _ h0⟩
theorem numAll_at {n : Nat} (hn : n = 3 ∨ n = 5 ∨ n = 7) {q s : Int} (hq : q ∈ rngI n) (hs : s ∈ rngI n) : numB n q s = true := by
  have h : numAll n = true := by
    rcases hn with rfl | rfl | rfl
    · exact num3
    · exact num5
    · exact num7
  exact List.all_eq_true.mp (List.all_eq_true.mp h q hq) s hs
theorem fair_at {n : Nat} (hn : n = 3 ∨ n = 5 ∨ n = 7) : fairB n = true := by
  rcases hn with rfl | rfl | rfl
  · exact fair3
  · exact fair5
  · exact fair7
theorem sq5 : ((rngI 5).all fun one => sqRow 5 one) = true := by
  show (sqRow 5 0 && (sqRow 5 1 && (sqRow 5 2 && (sqRow 5 3 && (sqRow 5 4 && true))))) = true
  rw [sq5_0, sq5_1, sq5_2, sq5_3, sq5_4]; rfl
theorem sq7 : ((rngI 7).all fun one => sqRow 7 one) = true := by
  show (sqRow 7 0 && (sqRow 7 1 && (sqRow 7 2 && (sqRow 7 3 && (sqRow 7 4 && (sqRow 7 5 && (sqRow 7 6 && true))))))) = true
  rw [sq7_0, sq7_1, sq7_2, sq7_3, sq7_4, sq7_5, sq7_6]; rfl
theorem sq_ok {n : Nat} (hn : n = 3 ∨ n = 5 ∨ n = 7) {i j : Int} (hi0 : 0 ≤ i) (hi : i < n) (hj0 : 0 ≤ j) (hj : j < n) : sqB n i j = true := by
  have h : sqRow n i = true := by
    rcases hn with rfl | rfl | rfl
    · exact List.all_eq_true.mp sq3 i (to_rngI hi0 hi)
    · exact List.all_eq_true.mp sq5 i (to_rngI hi0 hi)
    · exact List.all_eq_true.mp sq7 i (to_rngI hi0 hi)
  exact List.all_eq_true.mp h j (to_rngI hj0 hj)
theorem cel_byt {n : Nat} (hn : n = 3 ∨ n = 5 ∨ n = 7) (one other r c : Int) : 0 ≤ cel n one other r c ∧ cel n one other r c < 256 := by
  unfold cel
  have h0 : (0 : Int) < n := by omega
  have a1 := Int.emod_nonneg (r + c + one) (b := (n : Int)) (by omega)
  have a2 := Int.emod_lt_of_pos (r + c + one) h0
  have a3 := Int.emod_nonneg (r + 2 * c + other) (b := (n : Int)) (by omega)
  have a4 := Int.emod_lt_of_pos (r + 2 * c + other) h0
  generalize (r + c + one) % (n : Int) = x at *
  generalize (r + 2 * c + other) % (n : Int) = y at *
  rcases hn with rfl | rfl | rfl <;> omega
theorem sq_byt {n : Nat} (hn : n = 3 ∨ n = 5 ∨ n = 7) (one other : Int) : ∀ l ∈ sq n one other, ∀ x ∈ l, 0 ≤ x ∧ x < 256 := by
  intro l hl x hx
  obtain ⟨r, _, rfl⟩ := List.mem_map.mp hl
  obtain ⟨c, _, rfl⟩ := List.mem_map.mp hx
  exact cel_byt hn one other r c
theorem PFall (n : Nat) (hn : n = 3 ∨ n = 5 ∨ n = 7) (i j : Int) (hi0 : 0 ≤ i) (hi : i < n) (hj0 : 0 ≤ j) (hj : j < n) : PF n i j := by
  have h0 : (0 : Int) < n := by omega
  have hs := sq_ok hn hi0 hi hj0 hj
  unfold sqB at hs
  simp only [Bool.and_eq_true] at hs
  have hf := fair_at hn
  unfold fairB at hf
  simp only [Bool.and_eq_true, List.all_eq_true, beq_iff_eq] at hf
  refine ⟨hn, fun r hr c hc => ?_, keys_nodup hn i j, keys_sort hn i j, sq_byt hn i j, Alike.of hs.1, Alike.of hs.2.1, Alike.of hs.2.2.1, Alike.of hs.2.2.2, Alike.of hf.1, sq_byt hn _ _, hf.2.1, hf.2.2⟩
  have q := numAll_at hn (q := (r + c + i) % n) (s := (r + 2 * c + j) % n) (to_rngI (Int.emod_nonneg _ (by omega)) (Int.emod_lt_of_pos _ h0)) (to_rngI (Int.emod_nonneg _ (by omega)) (Int.emod_lt_of_pos _ h0))
  unfold numB at q
  simp only [Bool.and_eq_true, beq_iff_eq] at q
  exact ⟨DM.of q.1, q.2.1, q.2.2⟩
end Mine
end
theorem PySem.Challenge.cw_zx0002_01_holds : PySem.Challenge.rw_zx0002_01.Holds :=
  Mine.top (Mine.law_call Mine.PFall)
