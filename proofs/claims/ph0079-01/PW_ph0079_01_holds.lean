import PyProof.Rows.All
import Wide.All
import OpenK.AllK
import Wide.FinOn
import PySem.Challenge.RW_ph0079_01
set_option Elab.async false
set_option maxRecDepth 100000
section
open PySem PyProof.Rows
namespace Mine

/-! the program's parts -/
def stmtAt (i : Nat) : Stmt := (PySem.Challenge.pw_ph0079_01.main.body[i]?).getD (.Pass ⟨0, 0, 0, 0⟩)
def bodyOf : Stmt → List Stmt
  | .FunctionDef (body := b) .. => b
  | _ => []
def scopeOf : Stmt → Scope
  | .FunctionDef (scope := b) .. => b
  | _ => default
def nameOf : Stmt → Str
  | .FunctionDef (name := b) .. => b
  | _ => default
def paramsOf : Stmt → Arguments
  | .FunctionDef (args := b) .. => b
  | _ => default
/-- the env of a call of the top's def number i -/
def envF (i : Nat) (cells : List (Str × Addr)) (L a : Addr) (cd : Value) : Env :=
  { scope := scopeOf (stmtAt i), locals := L, globals := mainGlobals, cells := cells, qual := nameOf (stmtAt i) ++ ".<locals>.", func := some a, code := cd, frame := some L, builtins := builtinsNs }
def fnF (i : Nat) (doc pm : Value) (an : Option Addr) (cd ct : Value) : FuncData :=
  { name := nameOf (stmtAt i), qualname := nameOf (stmtAt i), params := paramsOf (stmtAt i), body := .stmts (bodyOf (stmtAt i)), scope := scopeOf (stmtAt i), globals := mainGlobals, closure := [], defaults := .none, kwdefaults := .none, doc, pyModule := pm, annotations := an, code := cd, closureTuple := ct, builtins := builtinsNs }
theorem callEnv_fnF (i : Nat) (doc pm : Value) (an : Option Addr) (cd ct : Value) (L a : Addr) : callEnv (fnF i doc pm an cd ct) L a = envF i [] L a cd := rfl

def FnAt (h : Heap) (a : Addr) (i : Nat) (c : Addr) : Prop :=
  ∃ oc od osl doc pm an ct, h.get? a = some ⟨oc, od, .func (fnF i doc pm an (.ref c) ct), osl⟩ ∧ h.CodeRec (.ref c) (nameOf (stmtAt i))
abbrev upd (m : Str → Option Value) (x : Str) (v : Value) : Str → Option Value := fun y => if y = x then some v else m y

end Mine
end
section
open PySem PyProof.Rows
namespace Mine

/-- a state as the walk tells it: the call's first one with a heap and a count of its own -/
def mk (s : Shared) (h : Heap) (tk : Nat) : Shared := { s with heap := h, toks := tk }
theorem mk_self (s : Shared) : s = mk s s.heap s.toks := rfl
theorem mk_mk (s : Shared) (h h' : Heap) (tk tk' : Nat) : mk (mk s h tk) h' tk' = mk s h' tk' := rfl
def Kept (b h : Heap) : Prop := ∀ a o, b.get? a = some o → h.get? a = some o
theorem Kept.refl (h : Heap) : Kept h h := fun _ _ e => e
theorem Kept.trans {a b c : Heap} (x : Kept a b) (y : Kept b c) : Kept a c := fun _ _ e => y _ _ (x _ _ e)
theorem Kept.push (h : Heap) (o : Obj) : Kept h (h.push o) := fun _ _ e => Heap.get?_push_of_some _ e

def mineOf (env : Env) (ow : List (Addr × Obj)) : List Addr := env.locals :: (env.cells.map (·.2) ++ ow.map (·.1))

/-- the def nested in the top's def number i -/
def innerOf (i : Nat) : Stmt := ((bodyOf (stmtAt i)).find? fun | .FunctionDef .. => true | _ => false).getD (.Pass ⟨0, 0, 0, 0⟩)
def posOf : Stmt → Pos
  | .FunctionDef (pos := p) .. => p
  | _ => ⟨0, 0, 0, 0⟩
def qualI (i : Nat) : Str := nameOf (stmtAt i) ++ ".<locals>." ++ nameOf (innerOf i)
/-- the table of a def's nested code: empty, or the nested def's code stands in it -/
def TabSt (h : Heap) (P : Addr) (i : Nat) : Prop :=
  ∃ ps, h.get? P = some (PySem.W.tabObj ps) ∧ TriplesOk ps.toList ∧ (codeAmong (posOf (innerOf i)) ps.toList = none ∨ ∃ c', codeAmong (posOf (innerOf i)) ps.toList = some (.ref c') ∧ h.CodeRec (.ref c') (qualI i))
def Tb (h : Heap) : Prop := TabSt h 37 6 ∧ TabSt h 44 7
/-- an object that is no code -/
def NotCode (o : Obj) : Prop := ∀ vs, o.data ≠ .fields vs
section
variable {h h' : Heap} {a P : Addr} {i : Nat}
theorem codeRec_but {c : Addr} {q : Str} {o : Obj} (x : h.CodeRec (.ref c) q) (ha : h.get? a = some o) (ho : NotCode o) (k : Heap.ExtBut a h h') : h'.CodeRec (.ref c) q := by
  obtain ⟨c', oc, vs, t, e, hoc, hd, r⟩ := x
  cases e
  refine ⟨c, oc, vs, t, rfl, k _ _ (fun q => ?_) hoc, hd, r⟩
  rw [q, ha] at hoc
  cases hoc
  exact ho vs hd
theorem TabSt.keeps (x : TabSt h P i) (k : Kept h h') : TabSt h' P i := by
  obtain ⟨ps, e, ht, hc⟩ := x
  refine ⟨ps, k _ _ e, ht, hc.imp id fun ⟨c', e1, e3⟩ => ⟨c', e1, e3.keeps k⟩⟩
theorem TabSt.but {o : Obj} (x : TabSt h P i) (ha : h.get? a = some o) (ho : NotCode o) (k : Heap.ExtBut a h h') : TabSt h' P i := by
  obtain ⟨ps, e, ht, hc⟩ := x
  refine ⟨ps, k _ _ (fun q => ?_) e, ht, hc.imp id fun ⟨c', e1, e3⟩ => ⟨c', e1, codeRec_but e3 ha ho k⟩⟩
  rw [← q, e] at ha
  cases ha
  exact ho ps rfl
theorem Tb.keeps (x : Tb h) (k : Kept h h') : Tb h' := ⟨x.1.keeps k, x.2.keeps k⟩
theorem Tb.but {o : Obj} (x : Tb h) (ha : h.get? a = some o) (ho : NotCode o) (k : Heap.ExtBut a h h') : Tb h' := ⟨x.1.but ha ho k, x.2.but ha ho k⟩
theorem Tb.ne (x : Tb h) {a : Addr} (ha : h.get? a = none) : a ≠ 37 ∧ a ≠ 44 := by
  obtain ⟨⟨ps, e, _⟩, ps', e', _⟩ := x
  refine ⟨fun q => ?_, fun q => ?_⟩
  · rw [q, e] at ha; cases ha
  · rw [q, e'] at ha; cases ha
end
/-- all stands but the two tables, and these as they may -/
structure KeptT (h h' : Heap) : Prop where
  keep : ∀ a o, a ≠ 37 → a ≠ 44 → h.get? a = some o → h'.get? a = some o
  tabs : Tb h → Tb h'
theorem KeptT.refl (h : Heap) : KeptT h h := ⟨fun _ _ _ _ e => e, fun x => x⟩
theorem Kept.t {h h' : Heap} (k : Kept h h') : KeptT h h' := ⟨fun a o _ _ e => k a o e, fun x => x.keeps k⟩
theorem KeptT.trans {a b c : Heap} (x : KeptT a b) (y : KeptT b c) : KeptT a c := ⟨fun p o h1 h2 e => y.keep p o h1 h2 (x.keep p o h1 h2 e), fun t => y.tabs (x.tabs t)⟩

/-- what is known of a frame at work: its names, its cells, the objects that it has made; the base beneath stands -/
structure Frm (b : Heap) (env : Env) (m cm : Str → Option Value) (ow : List (Addr × Obj)) (h : Heap) : Prop where
  ns : h.Ns env.locals m
  cell : ∀ p ∈ env.cells, h.IsCell p.2 (cm p.1)
  own : ∀ p ∈ ow, h.get? p.1 = some p.2
  keep : Kept b h
  off : ∀ a ∈ mineOf env ow, b.get? a = none ∧ a ≠ 37 ∧ a ≠ 44
  nodup : (mineOf env ow).Nodup
  names : (env.cells.map (·.1)).Nodup
  tabs : Tb h
  nc : ∀ p ∈ ow, NotCode p.2

section
variable {b h h' : Heap} {env : Env} {m m' cm : Str → Option Value} {ow : List (Addr × Obj)}

theorem Frm.grow (F : Frm b env m cm ow h) (k : Kept h h') : Frm b env m cm ow h' :=
  ⟨F.ns.keeps k, fun p hp => (F.cell p hp).keeps k, fun p hp => k _ _ (F.own p hp), F.keep.trans k, F.off, F.nodup, F.names, F.tabs.keeps k, F.nc⟩

theorem Frm.there (F : Frm b env m cm ow h) : ∀ a ∈ mineOf env ow, ∃ o, h.get? a = some o := by
  intro a ha
  rcases List.mem_cons.mp ha with rfl | ha
  · obtain ⟨o, _, _, e, _⟩ := F.ns
    exact ⟨o, e⟩
  · rcases List.mem_append.mp ha with ha | ha
    · obtain ⟨p, hp, rfl⟩ := List.mem_map.mp ha
      obtain ⟨o, e, _⟩ := F.cell p hp
      exact ⟨o, e⟩
    · obtain ⟨p, hp, rfl⟩ := List.mem_map.mp ha
      exact ⟨_, F.own p hp⟩

theorem Frm.neL_cell (F : Frm b env m cm ow h) {p} (hp : p ∈ env.cells) : p.2 ≠ env.locals := by
  have := (List.nodup_cons.mp F.nodup).1
  intro e
  exact this (List.mem_append_left _ (List.mem_map.mpr ⟨p, hp, e⟩))
theorem Frm.neL_own (F : Frm b env m cm ow h) {p} (hp : p ∈ ow) : p.1 ≠ env.locals := by
  have := (List.nodup_cons.mp F.nodup).1
  intro e
  exact this (List.mem_append_right _ (List.mem_map.mpr ⟨p, hp, e⟩))
theorem Frm.ne_cell_own (F : Frm b env m cm ow h) {p q} (hp : p ∈ env.cells) (hq : q ∈ ow) : p.2 ≠ q.1 := by
  have := (List.nodup_append.mp (List.nodup_cons.mp F.nodup).2).2.2
  exact this _ (List.mem_map_of_mem hp) _ (List.mem_map_of_mem hq)

theorem Frm.setL (F : Frm b env m cm ow h) (hn : h'.Ns env.locals m') (hs : Heap.ExtBut env.locals h h') : Frm b env m' cm ow h' where
  ns := hn
  cell := fun p hp => by
    obtain ⟨o, e, d⟩ := F.cell p hp
    exact ⟨o, hs _ _ (F.neL_cell hp) e, d⟩
  own := fun p hp => hs _ _ (F.neL_own hp) (F.own p hp)
  keep := fun a o e => hs _ _ (fun q => by rw [q, (F.off _ (List.mem_cons_self)).1] at e; cases e) (F.keep a o e)
  off := F.off
  nodup := F.nodup
  names := F.names
  tabs := by
    obtain ⟨o, es, ep, e, d, _⟩ := F.ns
    exact F.tabs.but e (fun vs q => by rw [d] at q; cases q) hs
  nc := F.nc

theorem nodup_inj {α β : Type} {l : List α} {f : α → β} (h : (l.map f).Nodup) : ∀ {x y}, x ∈ l → y ∈ l → f x = f y → x = y := by
  induction l with
  | nil => intro x y hx; cases hx
  | cons a r ih =>
    intro x y hx hy e
    rw [List.map_cons, List.nodup_cons] at h
    rcases List.mem_cons.mp hx with hx1 | hx1
    · rcases List.mem_cons.mp hy with hy1 | hy1
      · rw [hx1, hy1]
      · exact absurd (List.mem_map.mpr ⟨y, hy1, by rw [← e, hx1]⟩) h.1
    · rcases List.mem_cons.mp hy with hy1 | hy1
      · exact absurd (List.mem_map.mpr ⟨x, hx1, by rw [e, hy1]⟩) h.1
      · exact ih h.2 hx1 hy1 e

theorem Frm.setC (F : Frm b env m cm ow h) {n : Str} {c : Addr} {v : Value} (hc : env.cells.lookup n = some c) (hc' : h'.IsCell c (some v)) (hs : Heap.SameBut c h h') :
    Frm b env m (upd cm n v) ow h' := by
  have hm := mem_of_lookup hc
  have hx := hs.extBut
  have tb : Tb h' := by
    obtain ⟨o, e, d⟩ := F.cell _ hm
    exact F.tabs.but e (fun vs q => by rw [d] at q; cases q) hx
  have cn : (env.cells.map (·.2)).Nodup := (List.nodup_append.mp (List.nodup_cons.mp F.nodup).2).1
  refine ⟨F.ns.extBut hx (Ne.symm (F.neL_cell hm)), fun p hp => ?_, fun p hp => hx _ _ (Ne.symm (F.ne_cell_own hm hp)) (F.own p hp),
    fun a o e => hx _ _ (fun q => ?_) (F.keep a o e), F.off, F.nodup, F.names, tb, F.nc⟩
  · by_cases e : p.1 = n
    · have : p = (n, c) := nodup_inj F.names hp hm e
      subst this
      show h'.IsCell c (if n = n then some v else cm n)
      rw [if_pos rfl]; exact hc'
    · obtain ⟨o, ho, d⟩ := F.cell p hp
      have ne : p.2 ≠ c := fun q => e (by rw [nodup_inj cn hp hm q])
      show h'.IsCell p.2 (if p.1 = n then some v else cm p.1)
      rw [if_neg e]; exact ⟨o, hx _ _ ne ho, d⟩
  · rw [q, (F.off c (List.mem_cons_of_mem _ (List.mem_append_left _ (List.mem_map.mpr ⟨_, hm, rfl⟩)))).1] at e; cases e

theorem Kept.none (k : Kept b h) {a : Addr} (ha : h.get? a = none) : b.get? a = none := by
  cases e : b.get? a with
  | none => rfl
  | some o => rw [k _ _ e] at ha; cases ha
theorem get?_top (h : Heap) {a : Addr} (ha : h.objs.size ≤ a) : h.get? a = none := by
  cases e : h.get? a with
  | none => rfl
  | some o => exact absurd (Heap.lt_size e) (Nat.not_lt.mpr ha)
theorem Frm.own_new (F : Frm b env m cm ow h) (k : Kept h h') {a : Addr} {o : Obj} (ha : h.get? a = none) (ho : h'.get? a = some o) (nc : NotCode o) : Frm b env m cm ((a, o) :: ow) h' := by
  have G := F.grow k
  refine ⟨G.ns, G.cell, fun p hp => ?_, G.keep, fun x hx => ?_, ?_, G.names, G.tabs, fun p hp => (List.mem_cons.mp hp).elim (fun q => by rw [q]; exact nc) fun q => F.nc p q⟩
  · rcases List.mem_cons.mp hp with rfl | hp
    · exact ho
    · exact G.own p hp
  · unfold mineOf at hx
    rw [List.map_cons, List.mem_cons, List.mem_append, List.mem_cons] at hx
    rcases hx with rfl | hx | rfl | hx
    · exact F.off _ List.mem_cons_self
    · exact F.off _ (List.mem_cons_of_mem _ (List.mem_append_left _ hx))
    · exact ⟨F.keep.none ha, F.tabs.ne ha⟩
    · exact F.off _ (List.mem_cons_of_mem _ (List.mem_append_right _ hx))
  · have no : a ∉ mineOf env ow := fun q => by obtain ⟨o', e⟩ := F.there a q; rw [ha] at e; cases e
    have e : (mineOf env ((a, o) :: ow)).Perm (a :: mineOf env ow) := by
      unfold mineOf
      rw [List.map_cons]
      exact (List.Perm.cons _ List.perm_middle).trans (List.Perm.swap _ _ _)
    exact (e.nodup_iff).mpr (List.nodup_cons.mpr ⟨no, F.nodup⟩)

theorem Frm.own_add {m₁ cm₁ : Str → Option Value} {h₁ : Heap} (F : Frm b env m cm ow h) (F₁ : Frm b env m₁ cm₁ ow h₁) {a : Addr} {o : Obj} (ha : h₁.get? a = none) (ho : h.get? a = some o) (nc : NotCode o) : Frm b env m cm ((a, o) :: ow) h := by
  refine ⟨F.ns, F.cell, fun p hp => ?_, F.keep, fun x hx => ?_, ?_, F.names, F.tabs, fun p hp => (List.mem_cons.mp hp).elim (fun q => by rw [q]; exact nc) fun q => F.nc p q⟩
  · rcases List.mem_cons.mp hp with rfl | hp
    · exact ho
    · exact F.own p hp
  · unfold mineOf at hx
    rw [List.map_cons, List.mem_cons, List.mem_append, List.mem_cons] at hx
    rcases hx with rfl | hx | rfl | hx
    · exact F.off _ List.mem_cons_self
    · exact F.off _ (List.mem_cons_of_mem _ (List.mem_append_left _ hx))
    · exact ⟨F₁.keep.none ha, F₁.tabs.ne ha⟩
    · exact F.off _ (List.mem_cons_of_mem _ (List.mem_append_right _ hx))
  · have no : a ∉ mineOf env ow := fun q => by obtain ⟨o', e⟩ := F₁.there a q; rw [ha] at e; cases e
    have e : (mineOf env ((a, o) :: ow)).Perm (a :: mineOf env ow) := by
      unfold mineOf
      rw [List.map_cons]
      exact (List.Perm.cons _ List.perm_middle).trans (List.Perm.swap _ _ _)
    exact (e.nodup_iff).mpr (List.nodup_cons.mpr ⟨no, F.nodup⟩)

theorem Frm.push (F : Frm b env m cm ow h) {o : Obj} (hf : o.isFreed = false) (nc : NotCode o) : Frm b env m cm ((h.objs.size, o) :: ow) (h.push o) :=
  F.own_new (Kept.push h o) (get?_top h (Nat.le_refl _)) (Heap.get?_push_size _ hf) nc

theorem Frm.setO {a : Addr} {o o' : Obj} (F : Frm b env m cm ((a, o) :: ow) h) (hs : Heap.ExtBut a h h') (ho : h'.get? a = some o') (nc : NotCode o') : Frm b env m cm ((a, o') :: ow) h' := by
  have nL : env.locals ≠ a := Ne.symm (F.neL_own List.mem_cons_self)
  refine ⟨F.ns.extBut hs nL, fun p hp => ?_, fun p hp => ?_, fun x y e => hs _ _ (fun q => ?_) (F.keep x y e), F.off, F.nodup, F.names, F.tabs.but (F.own _ List.mem_cons_self) (F.nc _ List.mem_cons_self) hs, fun p hp => (List.mem_cons.mp hp).elim (fun q => by rw [q]; exact nc) fun q => F.nc p (List.mem_cons_of_mem _ q)⟩
  · obtain ⟨y, hy, d⟩ := F.cell p hp
    exact ⟨y, hs _ _ (F.ne_cell_own hp List.mem_cons_self) hy, d⟩
  · rcases List.mem_cons.mp hp with rfl | hp
    · exact ho
    · have nd := (List.nodup_append.mp (List.nodup_cons.mp F.nodup).2).2.1
      rw [List.map_cons, List.nodup_cons] at nd
      exact hs _ _ (fun q => nd.1 (List.mem_map.mpr ⟨p, hp, q⟩)) (F.own p (List.mem_cons_of_mem _ hp))
  · have := (F.off a (List.mem_cons_of_mem _ (List.mem_append_right _ (List.mem_map.mpr ⟨_, List.mem_cons_self, rfl⟩)))).1
    rw [q, this] at e; cases e

theorem Frm.perm {ow' : List (Addr × Obj)} (F : Frm b env m cm ow h) (p : ow'.Perm ow) : Frm b env m cm ow' h := by
  have e : (mineOf env ow').Perm (mineOf env ow) := List.Perm.cons _ (List.Perm.append_left _ (p.map _))
  exact ⟨F.ns, F.cell, fun x hx => F.own x (p.mem_iff.mp hx), F.keep, fun a ha => F.off a (e.mem_iff.mp ha), e.nodup_iff.mpr F.nodup, F.names, F.tabs, fun x hx => F.nc x (p.mem_iff.mp hx)⟩
theorem Frm.swap {p q : Addr × Obj} (F : Frm b env m cm (p :: q :: ow) h) : Frm b env m cm (q :: p :: ow) h := F.perm (List.Perm.swap _ _ _)
theorem Frm.drop {p : Addr × Obj} (F : Frm b env m cm (p :: ow) h) : Frm b env m cm ow h := by
  have sub : ∀ a ∈ mineOf env ow, a ∈ mineOf env (p :: ow) := fun a ha => by
    rcases List.mem_cons.mp ha with rfl | ha
    · exact List.mem_cons_self
    · rcases List.mem_append.mp ha with ha | ha
      · exact List.mem_cons_of_mem _ (List.mem_append_left _ ha)
      · exact List.mem_cons_of_mem _ (List.mem_append_right _ (List.mem_cons_of_mem _ ha))
  refine ⟨F.ns, F.cell, fun x hx => F.own x (List.mem_cons_of_mem _ hx), F.keep, fun a ha => F.off a (sub a ha), ?_, F.names, F.tabs, fun x hx => F.nc x (List.mem_cons_of_mem _ hx)⟩
  · refine F.nodup.sublist ?_
    exact List.Sublist.cons_cons _ (List.Sublist.append (List.Sublist.refl _) (List.sublist_cons_self _ _))
theorem Frm.dropAll (F : Frm b env m cm ow h) : Frm b env m cm [] h := by
  induction ow with
  | nil => exact F
  | cons p r ih => exact ih F.drop

/-- a call that may have turned the tables -/
theorem Frm.growT (F : Frm b env m cm ow h) (h1 : b.get? 37 = none) (h2 : b.get? 44 = none) (k : KeptT h h') : Frm b env m cm ow h' := by
  have kk : ∀ a ∈ mineOf env ow, ∀ o, h.get? a = some o → h'.get? a = some o := fun a ha o e => k.keep a o (F.off a ha).2.1 (F.off a ha).2.2 e
  refine ⟨?_, fun p hp => ?_, fun p hp => ?_, fun a o e => ?_, F.off, F.nodup, F.names, k.tabs F.tabs, F.nc⟩
  · obtain ⟨o, es, ep, e, r⟩ := F.ns
    exact ⟨o, es, ep, kk _ List.mem_cons_self _ e, r⟩
  · obtain ⟨o, e, d⟩ := F.cell p hp
    exact ⟨o, kk _ (List.mem_cons_of_mem _ (List.mem_append_left _ (List.mem_map_of_mem hp))) _ e, d⟩
  · exact kk _ (List.mem_cons_of_mem _ (List.mem_append_right _ (List.mem_map_of_mem hp))) _ (F.own p hp)
  · refine k.keep a o (fun q => ?_) (fun q => ?_) (F.keep a o e)
    · rw [q, h1] at e; cases e
    · rw [q, h2] at e; cases e
theorem Frm.weaken {b' : Heap} (F : Frm b' env m cm ow h) (k : Kept b b') : Frm b env m cm ow h :=
  ⟨F.ns, F.cell, F.own, k.trans F.keep, fun a ha => ⟨k.none (F.off a ha).1, (F.off a ha).2⟩, F.nodup, F.names, F.tabs, F.nc⟩
/-- all that is not the frame's own goes into the base -/
theorem Frm.rebase (F : Frm b env m cm ow h) (h1 : b.get? 37 = none) (h2 : b.get? 44 = none) :
    ∃ b', Kept b b' ∧ Frm b' env m cm ow h ∧ b'.get? 37 = none ∧ b'.get? 44 = none ∧ ∀ a o, a ≠ 37 → a ≠ 44 → a ∉ mineOf env ow → h.get? a = some o → b'.get? a = some o := by
  refine ⟨PySem.W.hideAll h (37 :: 44 :: mineOf env ow), fun a o e => ?_, ⟨F.ns, F.cell, F.own, fun a o e => PySem.W.of_hideAll _ e, fun a ha => ⟨PySem.W.hideAll_none _ ?_, (F.off a ha).2⟩, F.nodup, F.names, F.tabs, F.nc⟩, PySem.W.hideAll_none _ ?_, PySem.W.hideAll_none _ ?_, fun a o n1 n2 n3 e => PySem.W.hideAll_get _ e ?_⟩
  · refine PySem.W.hideAll_get _ (F.keep a o e) fun q => ?_
    rcases List.mem_cons.mp q with rfl | q
    · rw [h1] at e; cases e
    · rcases List.mem_cons.mp q with rfl | q
      · rw [h2] at e; cases e
      · rw [(F.off a q).1] at e; cases e
  · exact List.mem_cons_of_mem _ (List.mem_cons_of_mem _ ha)
  · exact List.mem_cons_self
  · exact List.mem_cons_of_mem _ List.mem_cons_self
  · intro q
    rcases List.mem_cons.mp q with q | q
    · exact n1 q
    · rcases List.mem_cons.mp q with q | q
      · exact n2 q
      · exact n3 q
theorem Frm.get (F : Frm b env m cm ow h) {a : Addr} {o : Obj} (hm : (a, o) ∈ ow) : h.get? a = some o := F.own _ hm
end

section
variable {b : Heap} {env : Env} {m cm : Str → Option Value} {ow : List (Addr × Obj)} {M : Model} {A : Around} {E : Value → Shared → Prop} {s : Shared}

theorem Frm.ld {x : Str} {pos : Pos} {v : Value} {Q : Value → Shared → Prop} (F : Frm b env m cm ow s.heap) (hk : env.scope.kind = .function) (hl : env.kindOf x = some .local)
    (hv : m x = some v) (h : Q v s) (hd : (x == ("__debug__" : Str)) = false) : wpAny M A (eval (.Name x pos) env) Q E s :=
  wpAny_Name (wpAny_loadName_local hk hl F.ns hv h) hd
theorem Frm.ldc {x : Str} {pos : Pos} {c : Addr} {v : Value} {Q : Value → Shared → Prop} (F : Frm b env m cm ow s.heap) (hk : env.scope.kind = .function) (hl : env.kindOf x = some .cell)
    (hc : env.cells.lookup x = some c) (hv : cm x = some v) (h : Q v s) (hd : (x == ("__debug__" : Str)) = false) : wpAny M A (eval (.Name x pos) env) Q E s :=
  wpAny_Name (wpAny_loadName_cell hk hl hc (hv ▸ F.cell _ (mem_of_lookup hc)) h) hd
theorem Frm.ldf {x : Str} {pos : Pos} {c : Addr} {v : Value} {Q : Value → Shared → Prop} (F : Frm b env m cm ow s.heap) (hk : env.scope.kind = .function) (hl : env.kindOf x = some .free)
    (hc : env.cells.lookup x = some c) (hv : cm x = some v) (h : Q v s) (hd : (x == ("__debug__" : Str)) = false) (hn : (x == ("__classdict__" : Str)) = false) : wpAny M A (eval (.Name x pos) env) Q E s :=
  wpAny_Name (wpAny_loadName_free hk hl hc (hv ▸ F.cell _ (mem_of_lookup hc)) h hn) hd
theorem Frm.st {x : Str} {v : Value} {Q : Unit → Shared → Prop} (F : Frm b env m cm ow s.heap) (hk : env.scope.kind = .function) (hl : env.kindOf x = some .local)
    (h : ∀ h', Frm b env (upd m x v) cm ow h' → Q () { s with heap := h', toks := s.toks + 1 }) : wpAny M A (storeName env x v) Q E s :=
  wpAny_storeName_local hl F.ns (fun h' hn hs => h h' (F.setL hn hs.extBut)) (by rw [hk]; rfl)
theorem Frm.stc {x : Str} {c : Addr} {v : Value} {Q : Unit → Shared → Prop} (F : Frm b env m cm ow s.heap) (hk : env.scope.kind = .function) (hl : env.kindOf x = some .cell)
    (hc : env.cells.lookup x = some c)
    (h : ∀ h', Frm b env m (upd cm x v) ow h' → Q () { s with heap := h' }) : wpAny M A (storeName env x v) Q E s :=
  wpAny_storeName_cell hk hl hc (F.cell _ (mem_of_lookup hc)) (fun h' hc' hs => h h' (F.setC hc hc' hs))
end

/-! the base: what stands at the top -/
def globNames : List (Str × Value) := [("replace", .ref 21), ("_div2n1n", .ref 28), ("_div3n2n", .ref 35), ("_int2digits", .ref 42), ("_digits2int", .ref 49), ("_divmod_pos", .ref 56), ("int_divmod", .ref 63),
  ("_law_worth", .ref 70), ("_law_stop", .ref 75), ("_law_stops", .ref 82)]
def bltNames : List (Str × Value) := [("len", .builtin "len"), ("range", .type "range"), ("divmod", .builtin "divmod"), ("reversed", .type "reversed"), ("max", .builtin "max"), ("min", .builtin "min"),
  ("type", .type "type"), ("tuple", .type "tuple"), ("int", .type "int")]
structure Base (b : Heap) : Prop where
  f21 : FnAt b 21 1 20
  f28 : FnAt b 28 4 27
  f42 : FnAt b 42 6 41
  f49 : FnAt b 49 7 48
  f56 : FnAt b 56 8 55
  f63 : FnAt b 63 9 62
  f70 : FnAt b 70 11 69
  f75 : FnAt b 75 12 74
  f82 : FnAt b 82 13 81
  nolimit : b.NoLimit
  c37 : PySem.W.CodeHd b 41 37
  c44 : PySem.W.CodeHd b 48 44
  top : ∃ mg mb, b.Ns mainGlobals mg ∧ b.Ns builtinsNs mb ∧ (∀ p ∈ globNames, mg p.1 = some p.2) ∧ (∀ p ∈ bltNames, mg p.1 = none ∧ mb p.1 = some p.2) ∧ (∃ t, mg "_DIV_LIMIT" = some (.int 4000 t)) ∧ b.BuiltinsAt mg 37 ∧ b.BuiltinsAt mg 44

theorem FnAt.keeps {h h' : Heap} {a : Addr} {i : Nat} {c : Addr} (x : FnAt h a i c) (k : Kept h h') : FnAt h' a i c := by
  obtain ⟨oc, od, osl, doc, pm, an, ct, e, cc⟩ := x
  exact ⟨oc, od, osl, doc, pm, an, ct, k _ _ e, cc.keeps k⟩
theorem Kept.size {h h' : Heap} (k : Kept h h') {n : Nat} (e : ∃ o, h.get? n = some o) : n < h'.objs.size := Heap.lt_size (k _ _ e.choose_spec)
theorem Base.keeps {h h' : Heap} (B : Base h) (k : Kept h h') : Base h' where
  f21 := B.f21.keeps k
  f28 := B.f28.keeps k
  f42 := B.f42.keeps k
  f49 := B.f49.keeps k
  f56 := B.f56.keeps k
  f63 := B.f63.keeps k
  f70 := B.f70.keeps k
  f75 := B.f75.keeps k
  f82 := B.f82.keeps k
  nolimit := B.nolimit.keeps k
  c37 := B.c37.keeps k
  c44 := B.c44.keeps k
  top := let ⟨mg, mb, a, c, r1, r2, r3, r4, r5⟩ := B.top; ⟨mg, mb, a.keeps k, c.keeps k, r1, r2, r3, r4.keeps k, r5.keeps k⟩

section
variable {b : Heap} {env : Env} {M : Model} {A : Around} {E : Value → Shared → Prop} {s : Shared}
theorem Base.glob {x : Str} {pos : Pos} {v : Value} {Q : Value → Shared → Prop} (B : Base b) (k : Kept b s.heap) (hg : env.globals = mainGlobals) (hk : env.scope.kind = .function) (hx : env.kindOf x = some .globalImplicit)
    (hm : (x, v) ∈ globNames) (h : Q v s) (hd : (x == ("__debug__" : Str)) = false) : wpAny M A (eval (.Name x pos) env) Q E s := by
  obtain ⟨mg, mb, g, _, e, _⟩ := B.top
  exact Calls.Name_function_global hk hx (Calls.loadGlobal_global (by rw [hg]; exact g.keeps k) (e _ hm) h) hd
theorem Base.blt {x : Str} {pos : Pos} {v : Value} {Q : Value → Shared → Prop} (B : Base b) (k : Kept b s.heap) (hg : env.globals = mainGlobals) (hb : env.builtins = builtinsNs) (hk : env.scope.kind = .function) (hx : env.kindOf x = some .globalImplicit)
    (hm : (x, v) ∈ bltNames) (h : Q v s) (hd : (x == ("__debug__" : Str)) = false) : wpAny M A (eval (.Name x pos) env) Q E s := by
  obtain ⟨mg, mb, g, c, _, e, _⟩ := B.top
  exact Calls.Name_function_global hk hx (Calls.loadGlobal_builtin (by rw [hg]; exact g.keeps k) (e _ hm).1 (by rw [hb]; exact c.keeps k) (e _ hm).2 h) hd
theorem Base.divLimit {pos : Pos} {Q : Value → Shared → Prop} (B : Base b) (k : Kept b s.heap) (hg : env.globals = mainGlobals) (hk : env.scope.kind = .function) (hx : env.kindOf "_DIV_LIMIT" = some .globalImplicit)
    (h : ∀ t, Q (.int 4000 t) s) : wpAny M A (eval (.Name "_DIV_LIMIT" pos) env) Q E s := by
  obtain ⟨mg, mb, g, _, _, _, ⟨t, e⟩, _⟩ := B.top
  exact Calls.Name_function_global hk hx (Calls.loadGlobal_global (by rw [hg]; exact g.keeps k) e (h t)) (by decide)
end

/-- a call of the top's def number i that has no cells -/
theorem call_def {prog : Program} {w : World} {A : Around} {E : Value → Shared → Prop} {s : Shared} {h : Heap} {tk : Nat} {Q : Value → Shared → Prop} {a : Addr} {i : Nat} {c : Addr} {vals : List Value} {binds : List (Str × Value)}
    (hf : FnAt h a i c) (hlim : h.NoLimit) (hT : Tb h) (hroom : A.depth < recursionLimit)
    (hbind : ∀ doc pm an cd ct, bindArgs (fnF i doc pm an cd ct) ⟨vals, []⟩ = pure binds)
    (hcell : ∀ x ∈ (scopeOf (stmtAt i)).names, x.2 ≠ .cell) (hloc : ∀ x ∈ binds, (scopeOf (stmtAt i)).names.lookup x.1 = some .local)
    (hco : (scopeOf (stmtAt i)).isCoroutine = false) (hgen : (scopeOf (stmtAt i)).isGenerator = false) (hk : (scopeOf (stmtAt i)).kind = .function)
    (q : ∀ L cd h₁ tk, cd = .ref c → Frm h (envF i [] L a cd) (fun x => binds.reverse.lookup x) (fun _ => none) [] h₁ →
      wpAny (model prog w) (A.deeper (envF i [] L a cd)) (execs (bodyOf (stmtAt i)) (envF i [] L a cd)) (fun f s' => Q (match f with | .ret v => v | _ => .none) s') (fun _ _ => False)
        (mk s h₁ tk)) :
    wpAny (model prog w) A (call (.ref a) vals) Q E (mk s h tk) := by
  obtain ⟨oc, od, osl, doc, pm, an, ct, e, hcd⟩ := hf
  obtain ⟨cd, hcde⟩ : ∃ cd, cd = Value.ref c := ⟨_, rfl⟩
  rw [← hcde] at e hcd
  refine wpAny_call (codeAny_call_def (s := mk s h tk) (fd := fnF i doc pm an cd ct) (body := bodyOf (stmtAt i)) (binds := binds) hroom e rfl hlim hcd rfl (BindsTo.of_eq (hbind ..)) hcell hloc (fun h₁ hn k => ?_) hco hgen hk)
  rw [callEnv_fnF]
  refine wpAny_mono (q h.objs.size cd h₁ _ hcde ⟨hn, fun p hp => (nomatch hp), fun p hp => (nomatch hp), k, fun x hx => ?_, ?_, List.nodup_nil, hT.keeps k, fun p hp => (nomatch hp)⟩) (fun f s' z => z) fun _ _ z => z.elim
  · have : x = h.objs.size := by simpa [mineOf, envF] using hx
    subst this
    exact ⟨get?_top _ (Nat.le_refl _), hT.ne (get?_top _ (Nat.le_refl _))⟩
  · simp [mineOf, envF]
/-- a call of the top's def number i that has cells -/
theorem call_defC {prog : Program} {w : World} {A : Around} {E : Value → Shared → Prop} {s : Shared} {h : Heap} {tk : Nat} {Q : Value → Shared → Prop} {a : Addr} {i : Nat} {c : Addr} {vals : List Value} {binds : List (Str × Value)}
    (nms : List Str) (hnm : ∀ n, (cellsFrom n (scopeOf (stmtAt i)).names []).map (·.1) = nms) (hnd : nms.Nodup)
    (hf : FnAt h a i c) (hlim : h.NoLimit) (hT : Tb h) (hroom : A.depth < recursionLimit)
    (hbind : ∀ doc pm an cd ct, bindArgs (fnF i doc pm an cd ct) ⟨vals, []⟩ = pure binds)
    (hkind : ∀ n, ∀ x ∈ binds, (scopeOf (stmtAt i)).names.lookup x.1 = some .local ∨ ((scopeOf (stmtAt i)).names.lookup x.1 = some .cell ∧ ((cellsFrom n (scopeOf (stmtAt i)).names []).lookup x.1).isSome = true))
    (hco : (scopeOf (stmtAt i)).isCoroutine = false) (hgen : (scopeOf (stmtAt i)).isGenerator = false) (hk : (scopeOf (stmtAt i)).kind = .function)
    (q : ∀ L cd h₁ tk, cd = .ref c → Frm h (envF i (cellsFrom (L + 1) (scopeOf (stmtAt i)).names []) L a cd)
        (bindL (envF i (cellsFrom (L + 1) (scopeOf (stmtAt i)).names []) L a cd).kindOf binds fun _ => none) (bindC (envF i (cellsFrom (L + 1) (scopeOf (stmtAt i)).names []) L a cd).kindOf binds fun _ => none) [] h₁ →
      wpAny (model prog w) (A.deeper (envF i (cellsFrom (L + 1) (scopeOf (stmtAt i)).names []) L a cd)) (execs (bodyOf (stmtAt i)) (envF i (cellsFrom (L + 1) (scopeOf (stmtAt i)).names []) L a cd))
        (fun f s' => Q (match f with | .ret v => v | _ => .none) s') (fun _ _ => False) (mk s h₁ tk)) :
    wpAny (model prog w) A (call (.ref a) vals) Q E (mk s h tk) := by
  obtain ⟨oc, od, osl, doc, pm, an, ct, e, hcd⟩ := hf
  obtain ⟨cd, hcde⟩ : ∃ cd, cd = Value.ref c := ⟨_, rfl⟩
  rw [← hcde] at e hcd
  refine wpAny_call (codeAny_call_cells (s := mk s h tk) (fd := fnF i doc pm an cd ct) (body := bodyOf (stmtAt i)) (binds := binds) hroom e rfl hlim hcd rfl (hbind ..) rfl (hkind _) (fun s₁ x => ?_) hco hgen hk)
  obtain ⟨h₁, tk₁, rfl⟩ := x.toInCall.same
  have hz : (mk s h tk).heap.objs.size = h.objs.size := rfl
  rw [hz] at x ⊢
  have hE : callEnvC (fnF i doc pm an cd ct) h.objs.size a = envF i (cellsFrom (h.objs.size + 1) (scopeOf (stmtAt i)).names []) h.objs.size a cd := rfl
  rw [hE] at x ⊢
  refine wpAny_mono (q h.objs.size cd h₁ tk₁ hcde ?_) (fun f s' z => z) fun _ _ z => z.elim
  have nd : ((cellsFrom (h.objs.size + 1) (scopeOf (stmtAt i)).names []).map (·.1)).Nodup := by rw [hnm]; exact hnd
  have look : ∀ p ∈ cellsFrom (h.objs.size + 1) (scopeOf (stmtAt i)).names [], (cellsFrom (h.objs.size + 1) (scopeOf (stmtAt i)).names []).lookup p.1 = some p.2 := by
    generalize cellsFrom (h.objs.size + 1) (scopeOf (stmtAt i)).names [] = l at nd
    intro p hp
    have : (l.lookup p.1).isSome = true := by
      clear nd
      induction l with
      | nil => cases hp
      | cons q r ih =>
        obtain ⟨n', c'⟩ := q
        rw [List.lookup_cons]
        cases hb : p.1 == n' with
        | true => rfl
        | false =>
          rcases List.mem_cons.mp hp with q | q
          · subst q
            exact absurd (beq_self_eq_true _) (by rw [hb]; exact Bool.false_ne_true)
          · exact ih q
    obtain ⟨c, hc⟩ := Option.isSome_iff_exists.mp this
    rw [hc]
    have := nodup_inj nd hp (mem_of_lookup hc) rfl
    rw [this]
  have fresh : ∀ a', h.objs.size ≤ a' → h.get? a' = none ∧ a' ≠ 37 ∧ a' ≠ 44 := fun a' ha => ⟨get?_top _ ha, hT.ne (get?_top _ ha)⟩
  have big : ∀ y ∈ mineOf (envF i (cellsFrom (h.objs.size + 1) (scopeOf (stmtAt i)).names []) h.objs.size a cd) [], h.objs.size ≤ y := fun y hy => by
    rcases List.mem_cons.mp hy with rfl | hy
    · exact Nat.le_refl _
    · rcases List.mem_append.mp hy with hy | hy
      · obtain ⟨p, hp, rfl⟩ := List.mem_map.mp hy
        exact Nat.le_of_lt (x.above p.1 p.2 hp)
      · cases hy
  refine ⟨x.toInCall.ns, fun p hp => x.cell p.1 p.2 (look p hp), fun p hp => (nomatch hp), x.toInCall.keep, fun y hy => (fresh y (big y hy)), ?_, nd, hT.keeps x.toInCall.keep, fun p hp => (nomatch hp)⟩
  · show (h.objs.size :: ((cellsFrom (h.objs.size + 1) (scopeOf (stmtAt i)).names []).map (·.2) ++ [])).Nodup
    rw [List.append_nil, List.nodup_cons]
    refine ⟨fun q => ?_, ?_⟩
    · obtain ⟨p, hp, e'⟩ := List.mem_map.mp q
      exact absurd (x.above p.1 p.2 hp) (by rw [e']; exact Nat.lt_irrefl _)
    · exact List.pairwise_map.mpr x.apart
end Mine
end
section
open PySem PyProof.Rows
namespace Mine

def notStar : Expr → Bool
  | .Starred .. => false
  | _ => true
theorem se_cons {e : Expr} {rest : List Expr} {env : Env} (he : notStar e = true) : starEach (e :: rest) env = (false, eval e env) :: starEach rest env := by
  rw [starEach]
  intro x p h
  subst h
  cases he
theorem bt1 {e : Expr} {env : Env} {pos : Pos} (he : notStar e = true) : backTo pos (starEach [e] env) = [(false, eval e env)] := by rw [se_cons he]; rfl
theorem bt2 {e f : Expr} {env : Env} {pos : Pos} (he : notStar e = true) (hf : notStar f = true) : backTo pos (starEach [e, f] env) = [(false, eval e env), (false, eval f env)] := by rw [se_cons he, se_cons hf]; rfl
theorem bt3 {e f g : Expr} {env : Env} {pos : Pos} (he : notStar e = true) (hf : notStar f = true) (hg : notStar g = true) : backTo pos (starEach [e, f, g] env) = [(false, eval e env), (false, eval f env), (false, eval g env)] := by rw [se_cons he, se_cons hf, se_cons hg]; rfl
theorem bt4 {e f g i : Expr} {env : Env} {pos : Pos} (he : notStar e = true) (hf : notStar f = true) (hg : notStar g = true) (hi : notStar i = true) : backTo pos (starEach [e, f, g, i] env) = [(false, eval e env), (false, eval f env), (false, eval g env), (false, eval i env)] := by rw [se_cons he, se_cons hf, se_cons hg, se_cons hi]; rfl

def Seq (M : Model) (A : Around) (rest : List Stmt) (env : Env) (Q : Flow → Shared → Prop) (E : Value → Shared → Prop) (f : Flow) (s' : Shared) : Prop :=
  match f with | .next => wpAny M A (execs rest env) Q E s' | f => Q f s'

section
variable {prog : Program} {w : World} {M : Model} {A : Around} {E : Value → Shared → Prop} {s : Shared} {h : Heap} {tk : Nat} {env : Env}

theorem x_cons {st : Stmt} {rest : List Stmt} {Q : Flow → Shared → Prop} (k : wpAny M A (exec st env) (Seq M A rest env Q E) E s) : wpAny M A (execs (st :: rest) env) Q E s := wpAny_execs_cons k
theorem x_next {rest : List Stmt} {Q : Flow → Shared → Prop} (k : wpAny M A (execs rest env) Q E s) : Seq M A rest env Q E .next s := k
theorem x_ret {rest : List Stmt} {v : Value} {Q : Flow → Shared → Prop} (k : Q (.ret v) s) : Seq M A rest env Q E (.ret v) s := k
theorem x_assign {x : Str} {pos' pos : Pos} {value : Expr} {Q : Flow → Shared → Prop}
    (hs : swapsWith value (some (.Name x pos')) pos.line env = pure false)
    (k : wpAny M A (eval value env) (fun v s₁ => wpAny M A (storeName env x v) (fun _ => Q .next) E s₁) E s) :
    wpAny M A (exec (.Assign [.Name x pos'] value pos) env) Q E s := wpAny_Assign_Name k hs

variable {Q : Value → Shared → Prop}
theorem x_int {i : Int} {k : Nat} {pos : Pos} (q : ∀ t tk', Q (.int i t) (mk s h tk')) : wpAny M A (eval (.Constant (.int i) k pos) env) Q E (mk s h tk) := wpAny_Constant_int (q _ _)
theorem x_str {x : Str} {k : Nat} {pos : Pos} (q : ∀ t tk', Q (.str x t) (mk s h tk')) : wpAny M A (eval (.Constant (.str x) k pos) env) Q E (mk s h tk) := wpAny_Constant_str (q _ _)

section
variable {a b : Int} {t u : Tok}
theorem i_add (q : ∀ t' tk', Q (.int (a + b) t') (mk s h tk')) : wpAny (model prog w) A (binaryOp .Add (.int a t) (.int b u)) Q E (mk s h tk) := PyProof.Rows.add_int (q _ _)
theorem i_sub (q : ∀ t' tk', Q (.int (a - b) t') (mk s h tk')) : wpAny (model prog w) A (binaryOp .Sub (.int a t) (.int b u)) Q E (mk s h tk) := PyProof.Rows.sub_int (q _ _)
theorem i_mul (hm : IntMulOk a b) (q : ∀ t' tk', Q (.int (a * b) t') (mk s h tk')) : wpAny (model prog w) A (binaryOp .Mult (.int a t) (.int b u)) Q E (mk s h tk) := PyProof.Rows.mul_int (q _ _) hm
theorem i_mod (hb : 0 < b) (q : ∀ t' tk', Q (.int (a % b) t') (mk s h tk')) : wpAny (model prog w) A (binaryOp .Mod (.int a t) (.int b u)) Q E (mk s h tk) :=
  PyProof.Rows.mod_int' (Int.ne_of_gt hb) (by rw [Int.fmod_eq_emod_of_nonneg _ (Int.le_of_lt hb)]; exact q _ _)
theorem i_div (hb : 0 < b) (hp : Builtin.divisionGoesByPylong a b = false ∨ PySem.PylongRoom (model prog w) A (mk s h tk)) (q : ∀ t' tk', Q (.int (a / b) t') (mk s h tk')) :
    wpAny (model prog w) A (binaryOp .FloorDiv (.int a t) (.int b u)) Q E (mk s h tk) :=
  PyProof.Rows.floordiv_int (Int.ne_of_gt hb) (by rw [Int.fdiv_eq_ediv_of_nonneg _ (Int.le_of_lt hb)]; exact q _ _) hp
theorem i_shl {n : Nat} (hn : n ≤ 1000000) (ha : a.natAbs < 2 ^ 64) (q : ∀ t' tk', Q (.int (a * 2 ^ n) t') (mk s h tk')) : wpAny (model prog w) A (binaryOp .LShift (.int a t) (.int n u)) Q E (mk s h tk) :=
  lshift_int_small (Int.natCast_nonneg n) (by omega) ha (by rw [Int.toNat_natCast]; exact q _ _)
theorem i_shr {n : Nat} (q : ∀ t' tk', Q (.int (a / 2 ^ n) t') (mk s h tk')) : wpAny (model prog w) A (binaryOp .RShift (.int a t) (.int n u)) Q E (mk s h tk) :=
  rshift_int (Int.natCast_nonneg n) (by rw [Int.toNat_natCast, Int.fdiv_eq_ediv_of_nonneg _ (Int.le_of_lt (Int.pow_pos (by decide)))]; exact q _ _)
theorem i_xor (q : ∀ t' tk', Q (.int (Builtin.bitXor a b) t') (mk s h tk')) : wpAny (model prog w) A (binaryOp .BitXor (.int a t) (.int b u)) Q E (mk s h tk) := PyProof.Rows.xor_int (q _ _)
theorem i_le (q : Q (.bool (decide (a ≤ b))) (mk s h tk)) : wpAny (model prog w) A (compareOp .LtE (.int a t) (.int b u)) Q E (mk s h tk) := PyProof.Rows.le_int q
theorem i_lt (q : Q (.bool (decide (a < b))) (mk s h tk)) : wpAny (model prog w) A (compareOp .Lt (.int a t) (.int b u)) Q E (mk s h tk) := PyProof.Rows.lt_int q
theorem i_eq (q : Q (.bool (a == b)) (mk s h tk)) : wpAny (model prog w) A (compareOp .Eq (.int a t) (.int b u)) Q E (mk s h tk) := PyProof.Rows.eq_int q
end

section
variable {b : Heap} {m cm : Str → Option Value} {ow : List (Addr × Obj)}
theorem x_ld {x : Str} {pos : Pos} {v : Value} (F : Frm b env m cm ow h) (hk : env.scope.kind = .function) (hl : env.kindOf x = some .local)
    (hv : m x = some v) (hd : (x == ("__debug__" : Str)) = false) (q : Q v (mk s h tk)) : wpAny M A (eval (.Name x pos) env) Q E (mk s h tk) := Frm.ld (s := mk s h tk) F hk hl hv q hd
theorem x_ldc {x : Str} {pos : Pos} {c : Addr} {v : Value} (F : Frm b env m cm ow h) (hk : env.scope.kind = .function) (hl : env.kindOf x = some .cell)
    (hc : env.cells.lookup x = some c) (hv : cm x = some v) (hd : (x == ("__debug__" : Str)) = false) (q : Q v (mk s h tk)) : wpAny M A (eval (.Name x pos) env) Q E (mk s h tk) := Frm.ldc (s := mk s h tk) F hk hl hc hv q hd
theorem x_st {x : Str} {v : Value} {Q : Unit → Shared → Prop} (F : Frm b env m cm ow h) (hk : env.scope.kind = .function) (hl : env.kindOf x = some .local)
    (q : ∀ h' tk', Frm b env (upd m x v) cm ow h' → Q () (mk s h' tk')) : wpAny M A (storeName env x v) Q E (mk s h tk) := Frm.st (s := mk s h tk) F hk hl fun h' F' => q h' _ F'
theorem x_stc {x : Str} {c : Addr} {v : Value} {Q : Unit → Shared → Prop} (F : Frm b env m cm ow h) (hk : env.scope.kind = .function) (hl : env.kindOf x = some .cell)
    (hc : env.cells.lookup x = some c)
    (q : ∀ h' tk', Frm b env m (upd cm x v) ow h' → Q () (mk s h' tk')) : wpAny M A (storeName env x v) Q E (mk s h tk) := Frm.stc (s := mk s h tk) F hk hl hc fun h' F' => q h' _ F'
/-- a name by the namespace's fact alone -/
theorem x_ldn {x : Str} {pos : Pos} {v : Value} (hn : h.Ns env.locals m) (hk : env.scope.kind = .function) (hl : env.kindOf x = some .local)
    (hv : m x = some v) (hd : (x == ("__debug__" : Str)) = false) (q : Q v (mk s h tk)) : wpAny M A (eval (.Name x pos) env) Q E (mk s h tk) :=
  wpAny_Name (wpAny_loadName_local (s := mk s h tk) hk hl hn hv q) hd
theorem x_ldk {x : Str} {pos : Pos} {c : Addr} {v : Value} (hk : env.scope.kind = .function) (hl : env.kindOf x = some .cell)
    (hc : env.cells.lookup x = some c) (hv : h.IsCell c (some v)) (hd : (x == ("__debug__" : Str)) = false) (q : Q v (mk s h tk)) : wpAny M A (eval (.Name x pos) env) Q E (mk s h tk) :=
  wpAny_Name (wpAny_loadName_cell (s := mk s h tk) hk hl hc hv q) hd
theorem x_ldf {x : Str} {pos : Pos} {c : Addr} {v : Value} (hk : env.scope.kind = .function) (hl : env.kindOf x = some .free)
    (hc : env.cells.lookup x = some c) (hv : h.IsCell c (some v)) (hd : (x == ("__debug__" : Str)) = false) (hn : (x == ("__classdict__" : Str)) = false) (q : Q v (mk s h tk)) : wpAny M A (eval (.Name x pos) env) Q E (mk s h tk) :=
  wpAny_Name (wpAny_loadName_free (s := mk s h tk) hk hl hc hv q hn) hd
theorem x_glob {x : Str} {pos : Pos} {v : Value} (B : Base b) (k : Kept b h) (hg : env.globals = mainGlobals) (hk : env.scope.kind = .function) (hx : env.kindOf x = some .globalImplicit)
    (hm : (x, v) ∈ globNames) (hd : (x == ("__debug__" : Str)) = false) (q : Q v (mk s h tk)) : wpAny M A (eval (.Name x pos) env) Q E (mk s h tk) := Base.glob (s := mk s h tk) B k hg hk hx hm q hd
theorem x_blt {x : Str} {pos : Pos} {v : Value} (B : Base b) (k : Kept b h) (hg : env.globals = mainGlobals) (hb : env.builtins = builtinsNs) (hk : env.scope.kind = .function) (hx : env.kindOf x = some .globalImplicit)
    (hm : (x, v) ∈ bltNames) (hd : (x == ("__debug__" : Str)) = false) (q : Q v (mk s h tk)) : wpAny M A (eval (.Name x pos) env) Q E (mk s h tk) := Base.blt (s := mk s h tk) B k hg hb hk hx hm q hd
end

theorem ab_const {c : Const} {k : Nat} {p : Pos} {n : Str} {whole : Sem Value} : attributeBase (.Constant c k p) n env whole = whole := rfl
theorem ab_name {x : Str} {p : Pos} {n : Str} {whole : Sem Value} : attributeBase (.Name x p) n env whole = whole := rfl
theorem ab_sub {a b : Expr} {p : Pos} {n : Str} {whole : Sem Value} : attributeBase (.Subscript a b p) n env whole = whole := rfl
/-- a method of one argument, on a value -/
theorem meth1 {o e : Expr} {name : Str} {apos pos : Pos} {T id : String} (pa : PlainAttrs T) (slot : Slot T name id) (hty : typeOf (.builtin id) = pure (.type "method_descriptor"))
    (hbase : attributeBase o name env (eval o env) = eval o env) (he : notStar e = true) (hline : (apos.endLine == pos.line) = true)
    (k : wpAny (model prog w) A (eval o env) (fun ov s₁ => s₁.TypeIs ov T ∧ (∀ a, ov = .ref a → ∃ ob, s₁.heap.get? a = some ob ∧ ob.dict = none) ∧
      wpAny (model prog w) A (eval e env) (fun v s₂ => wpAny (model prog w) A (call (.builtin id) [ov, v]) Q E s₂) E s₁) E s) :
    wpAny (model prog w) A (eval (.Call (.Attribute o name apos) [e] [] pos) env) Q E s := by
  refine wpAny_Call_method hbase (by rw [bt1 he]; rfl) hline pa slot hty (wpAny_mono k (fun ov s₁ h₁ => ⟨h₁.1, h₁.2.1, ?_⟩) fun _ _ x => x)
  rw [bt1 he]
  exact Calls.callWith_builtin rfl (Calls.evalArgs_plain (Calls.spliced_cons (wpAny_mono h₁.2.2 (fun v s₂ h₂ => Calls.spliced_nil h₂) fun _ _ x => x)))
theorem meth0 {o : Expr} {name : Str} {apos pos : Pos} {T id : String} (pa : PlainAttrs T) (slot : Slot T name id) (hty : typeOf (.builtin id) = pure (.type "method_descriptor"))
    (hbase : attributeBase o name env (eval o env) = eval o env) (hline : (apos.endLine == pos.line) = true)
    (k : wpAny (model prog w) A (eval o env) (fun ov s₁ => s₁.TypeIs ov T ∧ (∀ a, ov = .ref a → ∃ ob, s₁.heap.get? a = some ob ∧ ob.dict = none) ∧
      wpAny (model prog w) A (call (.builtin id) [ov]) Q E s₁) E s) :
    wpAny (model prog w) A (eval (.Call (.Attribute o name apos) [] [] pos) env) Q E s := by
  refine wpAny_Call_method hbase rfl hline pa slot hty (wpAny_mono k (fun ov s₁ h₁ => ⟨h₁.1, h₁.2.1, ?_⟩) fun _ _ x => x)
  exact Calls.callWith_builtin rfl (PySem.evalArgs_none h₁.2.2)
/-- a method on a text -/
theorem strOk {x : Str} {t : Tok} {P : Prop} (k : P) : s.TypeIs (.str x t) "str" ∧ (∀ a, Value.str x t = .ref a → ∃ ob, s.heap.get? a = some ob ∧ ob.dict = none) ∧ P := ⟨typeIs_str _ _ _, fun _ e => (nomatch e), k⟩
theorem intOk {x : Int} {t : Tok} {P : Prop} (k : P) : s.TypeIs (.int x t) "int" ∧ (∀ a, Value.int x t = .ref a → ∃ ob, s.heap.get? a = some ob ∧ ob.dict = none) ∧ P := ⟨typeIs_int _ _ _, fun _ e => (nomatch e), k⟩
/-- a call by name: one, two arguments -/
theorem x_call {id : Str} {p pos : Pos} {args : List Expr} (k : wpAny M A (eval (.Name id p) env) (fun f s₁ => wpAny M A (callWith pos f [] (backTo pos (starEach args env)) []) Q E s₁) E s) :
    wpAny M A (eval (.Call (.Name id p) args [] pos) env) Q E s := wpAny_Call_NameR k
theorem b_call1 {id : String} {pos : Pos} {e : Expr} (he : notStar e = true)
    (k : wpAny M A (eval e env) (fun v s₂ => wpAny M A (call (.builtin id) [v]) Q E s₂) E s) : wpAny M A (callWith pos (.builtin id) [] (backTo pos (starEach [e] env)) []) Q E s := by
  rw [bt1 he]
  exact Calls.callWith_builtin rfl (Calls.evalArgs_plain (Calls.spliced_cons (wpAny_mono k (fun v s₂ h₂ => Calls.spliced_nil h₂) fun _ _ x => x)))
theorem b_call2 {id : String} {pos : Pos} {e₁ e₂ : Expr} (he₁ : notStar e₁ = true) (he₂ : notStar e₂ = true)
    (k : wpAny M A (eval e₁ env) (fun v₁ s₁ => wpAny M A (eval e₂ env) (fun v₂ s₂ => wpAny M A (call (.builtin id) [v₁, v₂]) Q E s₂) E s₁) E s) : wpAny M A (callWith pos (.builtin id) [] (backTo pos (starEach [e₁, e₂] env)) []) Q E s := by
  rw [bt2 he₁ he₂]
  exact Calls.callWith_builtin rfl (Calls.evalArgs_plain (Calls.spliced_cons (wpAny_mono k (fun v s₂ h₂ => Calls.spliced_cons (wpAny_mono h₂ (fun v s₂ h₂ => Calls.spliced_nil h₂) fun _ _ x => x)) fun _ _ x => x)))
theorem t_call1 {T : String} {pos : Pos} {e : Expr} (he : notStar e = true)
    (k : wpAny M A (eval e env) (fun v s₂ => wpAny M A (call (.type T) [v]) Q E s₂) E s) : wpAny M A (callWith pos (.type T) [] (backTo pos (starEach [e] env)) []) Q E s := by
  rw [bt1 he]
  exact PySem.callWith_type rfl (Calls.evalArgs_plain (Calls.spliced_cons (wpAny_mono k (fun v s₂ h₂ => Calls.spliced_nil h₂) fun _ _ x => x)))
/-- a call of a def: its arguments, then the def's own contract -/
theorem d_call {b : Heap} {f c : Addr} {i : Nat} {pos : Pos} {e : Expr} {rest : List Expr} {trees : List (Bool × Sem Value)} (hf : FnAt b f i c)
    (htrees : backTo pos (starEach (e :: rest) env) = (false, eval e env) :: trees)
    (k : wpAny M A (spliced ((false, eval e env) :: trees)) (fun vs s₁ => Kept b s₁.heap ∧ wpAny M A (call (.ref f) vs) Q E s₁) E s) :
    wpAny M A (callWith pos (.ref f) [] (backTo pos (starEach (e :: rest) env)) []) Q E s := by
  obtain ⟨oc, od, osl, doc, pm, an, ct, eo, _⟩ := hf
  rw [htrees]
  exact Calls.callWith_function (o := ⟨oc, od, .func (fnF i doc pm an (.ref c) ct), osl⟩) (fd := fnF i doc pm an (.ref c) ct)
    (Calls.evalArgs_plain (wpAny_mono k (fun vs s₁ h₁ => ⟨⟨h₁.1 _ _ eo, rfl⟩, h₁.2⟩) fun _ _ x => x))
theorem s_cons {x : Sem Value} {rest : List (Bool × Sem Value)} {Q : List Value → Shared → Prop} (k : wpAny M A x (fun v s₁ => wpAny M A (spliced rest) (fun vs s₂ => Q (v :: vs) s₂) E s₁) E s) :
    wpAny M A (spliced ((false, x) :: rest)) Q E s := Calls.spliced_cons k
theorem s_nil {Q : List Value → Shared → Prop} (k : Q [] s) : wpAny M A (spliced []) Q E s := Calls.spliced_nil k
end
end Mine
end
section
open PySem PyProof.Rows
namespace Mine

abbrev listO (vs : Array Value) (n : Nat) : Obj := { cls := .type "list", data := .seq vs n }
abbrev tupO (vs : Array Value) (n : Nat) : Obj := { cls := .type "tuple", data := .seq vs n }

theorem nc_seq (c : Value) (vs : Array Value) (n : Nat) : NotCode { cls := c, data := .seq vs n } := fun _ e => (nomatch e)
theorem isList_of {h : Heap} {a : Addr} {vs : Array Value} {n : Nat} (e : h.get? a = some (listO vs n)) : h.IsList a vs := ⟨_, e, rfl, n, rfl⟩
theorem isTup_of {h : Heap} {a : Addr} {vs : Array Value} {n : Nat} (e : h.get? a = some (tupO vs n)) : IsTup h a vs := ⟨_, e, rfl, n, rfl⟩

section
variable {prog : Program} {w : World} {M : Model} {A : Around} {E : Value → Shared → Prop} {s : Shared} {h : Heap} {tk : Nat} {env : Env} {Q : Value → Shared → Prop}

theorem n_tuple {vs : List Value} (hsz : vs.length ≤ sizeLine) (q : ∀ D h' tk', Kept h h' → h.get? D = none → h'.get? D = some (tupO vs.toArray 0) → Q (.ref D) (mk s h' tk')) : wpAny M A (newTuple vs) Q E (mk s h tk) :=
  wpAny_newTuple (s := mk s h tk) (q _ _ _ (Kept.push _ _) (get?_top _ (Nat.le_refl _)) (Heap.get?_push_size _ rfl)) hsz
theorem n_list {vs : List Value} (hsz : vs.length ≤ sizeLine) (q : ∀ D h' tk', Kept h h' → h.get? D = none → h'.get? D = some (listO vs.toArray 0) → Q (.ref D) (mk s h' tk')) : wpAny M A (newList vs) Q E (mk s h tk) :=
  wpAny_newList (s := mk s h tk) (q _ _ _ (Kept.push _ _) (get?_top _ (Nat.le_refl _)) (Heap.get?_push_size _ rfl)) hsz
/-- a tuple's, a list's display -/
theorem x_tuple2 {e₁ e₂ : Expr} {k : Nat} {pos : Pos} (h1 : notStar e₁ = true) (h2 : notStar e₂ = true)
    (q : wpAny M A (eval e₁ env) (fun v₁ s₁ => wpAny M A (eval e₂ env) (fun v₂ s₂ => wpAny M A (newTuple [v₁, v₂]) Q E s₂) E s₁) E s) : wpAny M A (eval (.Tuple [e₁, e₂] k pos) env) Q E s := by
  refine Tuple_ ?_
  rw [bt2 h1 h2]
  exact s_cons (wpAny_mono q (fun v₁ s₁ q₁ => s_cons (wpAny_mono q₁ (fun v₂ s₂ q₂ => s_nil q₂) fun _ _ x => x)) fun _ _ x => x)
theorem x_list0 {pos : Pos} (q : wpAny M A (newList []) Q E s) : wpAny M A (eval (.List [] pos) env) Q E s := List_ (s_nil q)
theorem x_list1 {e₁ : Expr} {pos : Pos} (h1 : notStar e₁ = true) (q : wpAny M A (eval e₁ env) (fun v₁ s₁ => wpAny M A (newList [v₁]) Q E s₁) E s) : wpAny M A (eval (.List [e₁] pos) env) Q E s := by
  refine List_ ?_
  rw [bt1 h1]
  exact s_cons (wpAny_mono q (fun v₁ s₁ q₁ => s_nil q₁) fun _ _ x => x)
theorem x_list2 {e₁ e₂ : Expr} {pos : Pos} (h1 : notStar e₁ = true) (h2 : notStar e₂ = true)
    (q : wpAny M A (eval e₁ env) (fun v₁ s₁ => wpAny M A (eval e₂ env) (fun v₂ s₂ => wpAny M A (newList [v₁, v₂]) Q E s₂) E s₁) E s) : wpAny M A (eval (.List [e₁, e₂] pos) env) Q E s := by
  refine List_ ?_
  rw [bt2 h1 h2]
  exact s_cons (wpAny_mono q (fun v₁ s₁ q₁ => s_cons (wpAny_mono q₁ (fun v₂ s₂ q₂ => s_nil q₂) fun _ _ x => x)) fun _ _ x => x)

theorem l_add {l₁ l₂ : Addr} {vs ws : List Value} (h1 : h.IsList l₁ vs.toArray) (h2 : h.IsList l₂ ws.toArray) (hsz : vs.length + ws.length ≤ sizeLine)
    (q : ∀ D h' tk', Kept h h' → h.get? D = none → h'.get? D = some (listO (vs ++ ws).toArray 0) → Q (.ref D) (mk s h' tk')) : wpAny (model prog w) A (binaryOp .Add (.ref l₁) (.ref l₂)) Q E (mk s h tk) := by
  obtain ⟨⟨cls, dd, data, sl⟩, ho, hc, n, hd⟩ := id h1
  obtain ⟨⟨cls2, dd2, data2, sl2⟩, ho2, hc2, n2, hd2⟩ := id h2
  simp only at hc hd hc2 hd2
  subst hc hd hc2 hd2
  have e : vs.toArray ++ ws.toArray = (vs ++ ws).toArray := by simp
  refine concat_meets (s := mk s h tk) ⟨_, ho, rfl⟩ ⟨_, ho2, rfl⟩ noFill_list_add seq_list_add PySem.F.slot_list_add PySem.F.entry_list_add (PySem.F.args_list_add_2 _ _) (list_addW l₁ l₂ vs.toArray ws.toArray n n2 dd dd2 sl sl2 (by simpa using hsz)) ⟨ho, ho2, ?_⟩
  rw [e]
  exact q _ _ _ (Kept.push _ _) (get?_top _ (Nat.le_refl _)) (Heap.get?_push_size _ rfl)

/-! slices -/
def SliceK (Q : Value → Shared → Prop) (l u st : Value) (s₃ : Shared) : Prop := Q (.ref s₃.heap.objs.size) { s₃ with heap := s₃.heap.push { cls := .type "slice", data := .fields #[l, u, st] } }
theorem x_slice {lower upper step : Option Expr} {p : Pos}
    (q : wpAny M A (evalPart lower env) (fun l s₁ => wpAny M A (evalPart upper env) (fun u s₂ => wpAny M A (evalPart step env) (fun st s₃ => SliceK Q l u st s₃) E s₂) E s₁) E s) : wpAny M A (eval (.Slice lower upper step p) env) Q E s := wpAny_Slice q
theorem x_sliceEnd {l u st : Value} (q : ∀ D h' tk', Kept h h' → h'.IsSliceOf D l u st → Q (.ref D) (mk s h' tk')) : SliceK Q l u st (mk s h tk) :=
  q _ _ _ (Kept.push _ _) (Heap.IsSliceOf.new ..)
theorem p_none {Q : Value → Shared → Prop} (q : Q .none s) : wpAny M A (evalPart none env) Q E s := wpAny_evalPart_none q
theorem p_some {e : Expr} {Q : Value → Shared → Prop} (q : wpAny M A (eval e env) Q E s) : wpAny M A (evalPart (some e) env) Q E s := q

theorem l_slice {value slice : Expr} {l sl : Addr} {items : Array Value} {vl vu vs : Value} {lo hi st : Option Int} {ops : List Value} (hl : h.IsList l items) (hs : h.IsSliceOf sl vl vu vs)
    (pl : IsPart vl lo) (pu : IsPart vu hi) (ps : IsPart vs st) (h0 : st ≠ some 0) (hsz : items.size ≤ sizeLine)
    (he : subscripted slice false (.ref l) (.ref sl) = operate ops (getItem (.ref l) (.ref sl)))
    (q : ∀ D h' tk', Kept h h' → h.get? D = none → h'.get? D = some (listO (slicePick items lo hi st) 0) → Q (.ref D) (mk s h' tk')) : wpAny (model prog w) A (subscriptTail value slice (.ref l) (.ref sl)) Q E (mk s h tk) :=
  tail_any (s := mk s h tk) (Heap.IsList.typeIs (s := mk s h tk) hl) list_getitem_lookup
    (wpAny_getItem_list_slice (s := mk s h tk) hl hs pl pu ps h0 (q _ _ _ (Kept.push _ _) (get?_top _ (Nat.le_refl _)) (Heap.get?_push_size _ rfl)) hsz) he
theorem u_slice {value slice : Expr} {l sl : Addr} {items : Array Value} {a : Nat} {u : Tok} {ops : List Value} (hl : IsTup h l items) (hs : h.IsSliceOf sl (.int a u) .none .none)
    (h1 : 1 ≤ a) (ha : a ≤ items.size) (hsz : items.size ≤ sizeLine)
    (he : subscripted slice false (.ref l) (.ref sl) = operate ops (getItem (.ref l) (.ref sl)))
    (q : ∀ D h' tk', Kept h h' → h.get? D = none → h'.get? D = some (tupO (items.toList.drop a).toArray 0) → Q (.ref D) (mk s h' tk')) : wpAny (model prog w) A (subscriptTail value slice (.ref l) (.ref sl)) Q E (mk s h tk) :=
  tail_any (s := mk s h tk) (IsTup.typeIs (s := mk s h tk) hl) slot_tuple_getitem.lookup
    (getItem_tuple_from (s := mk s h tk) hl hs h1 ha (q _ _ _ (Kept.push _ _) (get?_top _ (Nat.le_refl _)) (Heap.get?_push_size _ rfl)) hsz) he
theorem s_slice {value slice : Expr} {sl : Addr} {x : Str} {t : Tok} {l u st : Option (Int × Tok)} {ops : List Value} (hs : h.IsSlice sl l u st) (h0 : ((st.map (·.1)).getD 1 == 0) = false) (hx : x.length ≤ sizeLine)
    (he : subscripted slice false (.str x t) (.ref sl) = operate ops (getItem (.str x t) (.ref sl)))
    (hz : Str.length ⟨((slicePicked x l u st).filterMap (x.cps[·]?)).toArray⟩ ≤ sizeLine)
    (q : ∀ t' tk', Q (.str (if ((st.map (·.1)).getD 1 == 1 && (slicePicked x l u st).length == x.length) = true then x else ⟨((slicePicked x l u st).filterMap (x.cps[·]?)).toArray⟩) t') (mk s h tk')) :
    wpAny (model prog w) A (subscriptTail value slice (.str x t) (.ref sl)) Q E (mk s h tk) := by
  refine tail_any (s := mk s h tk) (typeIs_str _ x t) F.slot_str_getitem.lookup (wpAny_getItem_str_slice (s := mk s h tk) hs h0 ?_) he
  refine post_val_or_str ⟨?_, fun t' k => q t' k⟩
  split
  · exact hx
  · exact hz

/-! items -/
theorem s_item {value slice : Expr} {x : Str} {t u : Tok} {k c : Nat} {ops : List Value} (hk : k < 2 ^ 63) (hc : x.cps[k]? = some c)
    (he : subscripted slice false (.str x t) (.int k u) = operate ops (getItem (.str x t) (.int k u)))
    (q : ∀ t' tk', Q (.str ⟨#[c]⟩ t') (mk s h tk')) : wpAny (model prog w) A (subscriptTail value slice (.str x t) (.int k u)) Q E (mk s h tk) := by
  refine tail_any (s := mk s h tk) (typeIs_str _ x t) F.slot_str_getitem.lookup (P.getItem_str ?_ ?_ (q _ _)) he
  · simp only [Bool.or_eq_false_iff, decide_eq_false_iff_not]
    omega
  · have hlt : k < x.length := (Array.getElem?_eq_some_iff.mp hc).1
    have : seqIndex? (k : Int) x.length = some k := by
      unfold seqIndex?
      have h1 : ¬ ((k : Int) < 0) := by omega
      simp [h1, hlt]
    rw [this]
    exact hc
theorem t_item {value slice : Expr} {l : Addr} {items : Array Value} {k : Nat} {u : Tok} {v : Value} {ops : List Value} (hl : IsTup h l items) (hk : k < 2 ^ 63) (hv : items[k]? = some v)
    (he : subscripted slice false (.ref l) (.int k u) = operate ops (getItem (.ref l) (.int k u)))
    (q : Q v (mk s h tk)) : wpAny (model prog w) A (subscriptTail value slice (.ref l) (.int k u)) Q E (mk s h tk) := by
  refine tail_any (s := mk s h tk) (IsTup.typeIs (s := mk s h tk) hl) slot_tuple_getitem.lookup (PyProof.Rows.getItem_tuple (s := mk s h tk) (j := k) hl (by omega) (by omega) ?_ hv q) he
  have hlt : k < items.size := (Array.getElem?_eq_some_iff.mp hv).1
  unfold seqIndex?
  have h1 : ¬ ((k : Int) < 0) := by omega
  simp [h1, hlt]
theorem l_item {value slice : Expr} {l : Addr} {items : Array Value} {k : Nat} {u : Tok} {v : Value} {ops : List Value} (hl : h.IsList l items) (hk : k < 2 ^ 63) (hv : items[k]? = some v)
    (he : subscripted slice false (.ref l) (.int k u) = operate ops (getItem (.ref l) (.int k u)))
    (q : Q v (mk s h tk)) : wpAny (model prog w) A (subscriptTail value slice (.ref l) (.int k u)) Q E (mk s h tk) :=
  tail_any (s := mk s h tk) (Heap.IsList.typeIs (s := mk s h tk) hl) slot_list_getitem.lookup (wpAny_getItem_list (s := mk s h tk) hl (by omega) (by omega) (by rw [Int.toNat_natCast]; exact hv) q) he

/-! texts -/
theorem s_add {x y : Str} {t u : Tok} (hsz : x.length + y.length ≤ sizeLine) (q : ∀ t' tk', Q (.str (x ++ y) t') (mk s h tk')) : wpAny (model prog w) A (binaryOp .Add (.str x t) (.str y u)) Q E (mk s h tk) :=
  P.add_str (SB.post_add hsz fun t' k => q t' k)
theorem s_ne {x y : Str} {t u : Tok} (q : Q (.bool (x.cps.toList != y.cps.toList)) (mk s h tk)) : wpAny (model prog w) A (compareOp .NotEq (.str x t) (.str y u)) Q E (mk s h tk) := P.ne_str q
theorem s_join {x : Str} {t : Tok} {D : Addr} {vs : List Value} {ys : List Str} (hl : h.IsList D vs.toArray) (hi : StrsAre vs ys) (hok : (ys.map (·.length)).sum + ys.length * x.length ≤ 16777216)
    (q : ∀ t' tk', Q (.str (Txt.join x ys) t') (mk s h tk')) : wpAny (model prog w) A (call (.builtin "str.join") [.str x t, .ref D]) Q E (mk s h tk) :=
  join_list (s := mk s h tk) hl (by simpa using hi) hok fun t' k => q t' k
theorem s_split {x y : Str} {t u : Tok} (hy : (y.length == 0) = false) (hx : x.length + 2 ≤ sizeLine)
    (q : ∀ D l h' tk', l.map (·.1) = Txt.split x y → Kept h h' → h'.IsList D (strValues l).toArray → Q (.ref D) (mk s h' tk')) : wpAny (model prog w) A (call (.builtin "str.split") [.str x t, .str y u]) Q E (mk s h tk) := by
  refine SCG.split1 (Fm := fun s' => ∃ h' k, s' = mk s h' k ∧ Kept h h') (fun s' ob k ⟨h', k', e, p⟩ => ⟨h'.push ob, k, by rw [e]; rfl, p.trans (Kept.push _ _)⟩) ⟨h, tk, rfl, Kept.refl _⟩ hy
    (fun D l s' ht ⟨h', k, e, p⟩ hl => by subst e; exact q D l h' k ht p hl) (Nat.le_trans (Nat.le_add_right _ _) hx) ?_
  have e1 := StrLaws.occ_length_le x y 0 x.length (x.length + 1)
  rw [length_partsBetween]; omega
/-! lengths -/
theorem len_s {x : Str} {t : Tok} (hx : x.length < 2 ^ 63) (q : ∀ t' tk', Q (.int x.length t') (mk s h tk')) : wpAny (model prog w) A (call (.builtin "len") [.str x t]) Q E (mk s h tk) := P.len_str (by omega) (q _ _)
theorem len_l {l : Addr} {items : Array Value} (hl : h.IsList l items) (hx : items.size < 2 ^ 63) (q : ∀ t' tk', Q (.int items.size t') (mk s h tk')) : wpAny (model prog w) A (call (.builtin "len") [.ref l]) Q E (mk s h tk) :=
  len_list (s := mk s h tk) hl (by omega) (q _ _)
end
end Mine
end
section
open PySem PyProof.Rows
namespace Mine

theorem Walks.mono' {prog : Program} {w : World} {A : Around} {I : Addr} {fp wr : List Addr} {n : Nat} {P P' : Nat → Value → Prop} {St : Nat → Heap → Prop} (W : Walks prog w A I fp wr n P St) (hP : ∀ i v, i < n → P i v → P' i v) : Walks prog w A I fp wr n P' St where
  sub := W.sub
  frame := W.frame
  item := fun i s Q E hi st hQ => W.item i s Q E hi st fun v h' tk p => hQ v h' tk (hP i v hi p)
  done := W.done
  self := W.self

section
variable {prog : Program} {w : World} {A : Around} {E : Value → Shared → Prop} {s : Shared} {h : Heap} {tk : Nat} {env : Env}

theorem r_iter {N : Nat} {t : Tok} {K : Value → Shared → Prop} (hN : N < 2 ^ 62) (q : ∀ I h₂ tk₂, Kept h h₂ → h.get? I = none → IsRangeIter h₂ I 0 N 1 → K (.ref I) (mk s h₂ tk₂)) :
    wpAny (model prog w) A (call (.type "range") [.int N t]) (fun xv s₁ => wpAny (model prog w) A (pyIter xv) K E s₁) E (mk s h tk) := by
  refine call_range_1 ?_
  refine wpAny_pyIter_range (IsRange.new ..) (small_one (by decide) (by decide) (by omega) (by omega)) ?_
  have hsz : Builtin.Range.rangeSize 0 (N : Int) 1 = (N : Int) := by rw [rangeSize_one]; split <;> omega
  rw [hsz]
  refine q _ _ _ ((Kept.push _ _).trans (Kept.push _ _)) (get?_top _ ?_) (Heap.get?_push_size _ rfl)
  show h.objs.size ≤ (h.push _).objs.size
  rw [Heap.size_push]; exact Nat.le_succ _

/-- what a comprehension wants of its iterator -/
def CompAt (prog : Program) (w : World) (A : Around) (s : Shared) (b : Heap) (env : Env) (m cm : Str → Option Value) (ow : List (Addr × Obj)) (scope : Scope) (cl : List (Str × Addr)) (x : Str) (elt : Expr) (N : Nat) (P : Nat → Value → Prop) (G : Nat → Value → Prop)
    (fin : Heap → Addr → Heap → Nat → Array Value → Nat → Prop) (it : Value) (s₂ : Shared) : Prop :=
  ∃ (h₁ h₂ : Heap) (tk₂ : Nat) (I : Addr) (fp wr : List Addr) (St : Nat → Heap → Prop),
    it = .ref I ∧ s₂ = mk s h₂ tk₂ ∧ Frm b env m cm ow h₁ ∧ Kept h₁ h₂ ∧ (∀ a ∈ wr, h₁.get? a = none) ∧ Walks prog w A I fp wr N P St ∧ N ≤ sizeLine ∧ St 0 h₂ ∧ (∀ a ∈ fp, a < h₂.objs.size) ∧
    (∀ C v s₃ h₃ tk₃ m₃ E' Q', (∃ i, i < N ∧ P i v) → h₃.Ns C m₃ → m₃ x = some v → Kept h₁ h₃ → (∀ y tk', (∀ i, i < N → P i v → G i y) → Q' y (mk s₃ h₃ tk')) → wpAny (model prog w) A (eval elt (compEnvC scope cl C env)) Q' E' (mk s₃ h₃ tk₃)) ∧
    (∀ D h' tk' ys n, h₁.get? D = none → h'.get? D = some (listO ys n) → ys.size = N → (∀ k v, ys[k]? = some v → G k v) → fin h₁ D h' tk' ys n)

theorem paired_get {α β : Type} {F : α → β → Prop} : ∀ {l₁ : List α} {l₂ : List β}, Paired F l₁ l₂ → ∀ (j : Nat) (b : β), l₂[j]? = some b → ∃ a, l₁[j]? = some a ∧ F a b
  | _, _, .nil, j, b, e => by simp at e
  | _, _, .cons h t, 0, b, e => by simp at e; subst e; exact ⟨_, rfl, h⟩
  | _, _, .cons h t, j + 1, b, e => by simpa using paired_get t j b (by simpa using e)
theorem paired_len {α β : Type} {F : α → β → Prop} : ∀ {l₁ : List α} {l₂ : List β}, Paired F l₁ l₂ → l₁.length = l₂.length
  | _, _, .nil => rfl
  | _, _, .cons _ t => by simp [paired_len t]

theorem comp_quiet {b : Heap} {m cm : Str → Option Value} {ow : List (Addr × Obj)} {scope : Scope} {cl : List (Str × Addr)} {x : Str} {elt : Expr} {N : Nat} {P G : Nat → Value → Prop} {fin : Heap → Addr → Heap → Nat → Array Value → Nat → Prop} {it : Value} {s₂ : Shared}
    (c : CompAt prog w A s b env m cm ow scope cl x elt N P G fin it s₂) :
    ∃ (h₁ h₂ : Heap) (tk₂ : Nat) (I : Addr) (fp wr : List Addr) (St : Nat → Heap → Prop),
      it = .ref I ∧ s₂ = mk s h₂ tk₂ ∧ Frm b env m cm ow h₁ ∧ Kept h₁ h₂ ∧ (∀ a ∈ wr, h₁.get? a = none) ∧ Walks prog w A I fp wr N (fun i v => i < N ∧ P i v) St ∧ N ≤ sizeLine ∧ St 0 h₂ ∧ (∀ a ∈ fp, a < h₂.objs.size) ∧
      QuietOnC prog w A env scope cl x [] elt wr (fun i v => i < N ∧ P i v) (fun _ => true) (fun v y => ∀ i, i < N → P i v → G i y) s₂ ∧
      (∀ D h' tk' ys n (vs : List Value), h₂.get? D = none → h'.get? D = some (listO ys n) → vs.length = N → (∀ j v, vs[j]? = some v → j < N ∧ P j v) → Paired (fun v y => ∀ i, i < N → P i v → G i y) (vs.filter fun _ => true) ys.toList → fin h₁ D h' tk' ys n ∧ h₁.get? D = none ∧ ys.size = N ∧ (∀ k v, ys[k]? = some v → G k v)) := by
  obtain ⟨h₁, h₂, tk₂, I, fp, wr, St, rfl, rfl, Fm, k12, hwr, W, hN, st, hfp, helt, hfin⟩ := c
  refine ⟨h₁, h₂, tk₂, I, fp, wr, St, rfl, rfl, Fm, k12, hwr, Walks.mono' W fun i v hi p => ⟨hi, p⟩, hN, st, hfp, ⟨?_, ?_⟩, ?_⟩
  · intro C i v s₃ m₃ E' _ _ _ _ _ _
    exact wpAny_tests_nil ⟨rfl, s₃.heap, s₃.toks, rfl, fun _ _ e => e⟩
  · intro C i v s₃ m₃ E' hC hP _ hn hm hk _
    rw [mk_self s₃]
    have k13 : Kept h₁ s₃.heap := fun a o e => hk a o (fun q => by rw [hwr a q] at e; cases e) (k12 a o e)
    exact helt C v s₃ s₃.heap s₃.toks m₃ E' _ ⟨i, hP.1, hP.2⟩ hn hm k13 fun y tk' hy => ⟨hy, s₃.heap, tk', rfl, fun _ _ e => e⟩
  · intro D h' tk' ys n vs hD hg hlen hP hF
    have e : (vs.filter fun _ => true) = vs := by simp
    rw [e] at hF
    have hsz : ys.size = N := by
      have := paired_len hF
      rw [hlen] at this
      simpa using this.symm
    have hG : ∀ k v, ys[k]? = some v → G k v := fun k v hv => by
      obtain ⟨a, ha, hb⟩ := paired_get hF k v (by simpa using hv)
      have hk : k < N := by rw [← hsz]; exact (Array.getElem?_eq_some_iff.mp hv).1
      exact hb k hk (hP k a ha).2
    exact ⟨hfin D h' tk' ys n (k12.none hD) hg hsz hG, k12.none hD, hsz, hG⟩

theorem x_comp {b : Heap} {m cm : Str → Option Value} {ow : List (Addr × Obj)} {elt iter : Expr} {x : Str} {px pos : Pos} {scope : Scope} {Q : Value → Shared → Prop} (_ : Frm b env m cm ow h) (cl : List (Str × Addr)) (N : Nat) (P G : Nat → Value → Prop)
    (hclos : closureFor scope env = pure cl) (hcell : ∀ y ∈ scope.names, y.2 ≠ .cell) (hkind : scope.kind = .function)
    (hnames : ∀ y ∈ scope.names, y.2 = .local → scope.names.lookup y.1 = some .local) (hx : scope.names.lookup x = some .local) (hs : ∀ x, foldedSetIterable iter env x = pure x)
    (k : wpAny (model prog w) A (eval iter env) (fun xv s₁ => wpAny (model prog w) A (pyIter xv) (CompAt prog w A s b env m cm ow scope cl x elt N P G
      (fun _ D h' tk' ys n => Frm b env m cm ((D, listO ys n) :: ow) h' → Q (.ref D) (mk s h' tk'))) E s₁) E (mk s h tk)) :
    wpAny (model prog w) A (eval (.ListComp elt [⟨.Name x px, iter, [], 0⟩] scope pos) env) Q E (mk s h tk) := by
  refine wpAny_ListComp_free (fun _ => true) (fun v y => ∀ i, i < N → P i v → G i y) hclos hcell hkind hnames hx
    (wpAny_mono k (fun xv s₁ h₁ => wpAny_mono h₁ (fun it s₂ h₂ => ?_) fun _ _ e => e) fun _ _ e => e) hs
  obtain ⟨h₁, h₂, tk₂, I, fp, wr, St, rfl, rfl, Fm, k12, hwr, W, hN, st, hfp, hq, hfin⟩ := comp_quiet h₂
  refine ⟨I, fp, wr, N, _, St, rfl, W, hN, st, hfp, hq, fun D h' tk' ys vs hD _ ⟨n, hg⟩ hlen hP hF hk => ?_⟩
  obtain ⟨f1, hD1, _, _⟩ := hfin D h' tk' ys n vs hD hg hlen hP hF
  have k1 : Kept h₁ h' := fun a o e => hk a o (fun q => by rw [hwr a q] at e; cases e) (k12 a o e)
  exact f1 (Fm.own_new k1 hD1 hg (nc_seq _ _ _))

theorem x_compA {b : Heap} {m cm : Str → Option Value} {ow : List (Addr × Obj)} {elt iter : Expr} {x y : Str} {px py pos spos : Pos} {scope : Scope} {Q : Flow → Shared → Prop} (_ : Frm b env m cm ow h) (cl : List (Str × Addr)) (N : Nat) (P G : Nat → Value → Prop)
    (hsw : swapsWith (.ListComp elt [⟨.Name x px, iter, [], 0⟩] scope pos) (some (.Name y py)) spos.line env = pure true)
    (hclos : closureFor scope env = pure cl) (hcell : ∀ y ∈ scope.names, y.2 ≠ .cell) (hkind : scope.kind = .function)
    (hnames : ∀ y ∈ scope.names, y.2 = .local → scope.names.lookup y.1 = some .local) (hx : scope.names.lookup x = some .local)
    (hy : env.kindOf y = some .local) (hek : env.scope.kind = .function) (hs : ∀ x, foldedSetIterable iter env x = pure x)
    (k : wpAny (model prog w) A (eval iter env) (fun xv s₁ => wpAny (model prog w) A (pyIter xv) (CompAt prog w A s b env m cm ow scope cl x elt N P G
      (fun _ D h' tk' ys n => Frm b env (upd m y (.ref D)) cm ((D, listO ys n) :: ow) h' → Q .next (mk s h' tk'))) E s₁) E (mk s h tk)) :
    wpAny (model prog w) A (exec (.Assign [.Name y py] (.ListComp elt [⟨.Name x px, iter, [], 0⟩] scope pos) spos) env) Q E (mk s h tk) := by
  refine wpAny_Assign_ListComp_free (fun _ => true) (fun v y => ∀ i, i < N → P i v → G i y) hsw hclos hcell hkind hnames hx hy (by rw [hek]; rfl)
    (wpAny_mono k (fun xv s₁ h₁ => wpAny_mono h₁ (fun it s₂ h₂ => ?_) fun _ _ e => e) fun _ _ e => e) hs
  obtain ⟨h₁, h₂, tk₂, I, fp, wr, St, rfl, rfl, Fm, k12, hwr, W, hN, st, hfp, hq, hfin⟩ := comp_quiet h₂
  have hL : env.locals ∉ wr := fun q => by
    obtain ⟨o, e⟩ := Fm.there _ List.mem_cons_self
    rw [hwr _ q] at e; cases e
  refine ⟨I, fp, wr, N, _, St, m, rfl, W, hN, st, hfp, hL, Fm.ns.keeps k12, hq, fun D h' tk' ys vs hD _ ⟨n, hg⟩ hlen hP hF hn hk => ?_⟩
  obtain ⟨f1, hD1, _, _⟩ := hfin D h' tk' ys n vs hD hg hlen hP hF
  have k1 : Heap.ExtBut env.locals h₁ h' := fun a o ne e => hk a o ne (fun q => by rw [hwr a q] at e; cases e) (k12 a o e)
  exact f1 ((Fm.setL hn k1).own_add Fm hD1 hg (nc_seq _ _ _))

/-- over a range -/
theorem compAt_range {b : Heap} {m cm : Str → Option Value} {ow : List (Addr × Obj)} {scope : Scope} {cl : List (Str × Addr)} {x : Str} {elt : Expr} {N : Nat} {G : Nat → Value → Prop} {fin : Heap → Addr → Heap → Nat → Array Value → Nat → Prop} {I : Addr} {h₂ : Heap} {tk₂ : Nat}
    (hA : A.handled = none) (F : Frm b env m cm ow h) (k : Kept h h₂) (hI : h.get? I = none) (hr : IsRangeIter h₂ I 0 N 1) (hN : N ≤ sizeLine)
    (helt : ∀ C i t s₃ h₃ tk₃ m₃ E' Q', i < N → h₃.Ns C m₃ → m₃ x = some (.int (i : Nat) t) → Kept h h₃ → (∀ y tk', G i y → Q' y (mk s₃ h₃ tk')) → wpAny (model prog w) A (eval elt (compEnvC scope cl C env)) Q' E' (mk s₃ h₃ tk₃))
    (hfin : ∀ D h' tk' ys n, h.get? D = none → h'.get? D = some (listO ys n) → ys.size = N → (∀ k v, ys[k]? = some v → G k v) → fin h D h' tk' ys n) :
    CompAt prog w A s b env m cm ow scope cl x elt N (fun i v => ∃ t, v = .int (i : Nat) t) G fin (.ref I) (mk s h₂ tk₂) := by
  refine ⟨h, h₂, tk₂, I, [I], [I], _, rfl, rfl, F, k, fun a ha => ?_, Walks.mono' (Walks.range hA I 0 1 N) fun i v _ ⟨t, e⟩ => ⟨t, by rw [e]; simp⟩, hN, ?_, fun a ha => ?_, ?_, hfin⟩
  · rw [List.mem_singleton.mp ha]; exact hI
  · simpa using hr
  · rw [List.mem_singleton.mp ha]; exact Heap.lt_size hr
  · rintro C v s₃ h₃ tk₃ m₃ E' Q' ⟨i, hi, t, rfl⟩ hn hm hk hq
    refine helt C i t s₃ h₃ tk₃ m₃ E' Q' hi hn hm hk fun y tk' hy => hq y tk' fun j hj ⟨t', e⟩ => ?_
    have : i = j := by injection e with e1 _; exact_mod_cast e1
    subst this; exact hy
end
end Mine
end
section
open PySem PyProof.Rows
namespace Mine

/-- a text by its signs -/
def tx (l : List Nat) : Str := ⟨l.toArray⟩
theorem tx_len (l : List Nat) : (tx l).length = l.length := by simp [tx, Str.length]
theorem tx_append (l l' : List Nat) : tx l ++ tx l' = tx (l ++ l') := by
  show (⟨l.toArray ++ l'.toArray⟩ : Str) = _
  simp [tx]

theorem pick_from {α : Type} (l : List α) (a : Nat) (ha : a ≤ l.length) : ((sliceRange (a : Int) (l.length : Int) 1).filterMap (l.toArray[·]?)) = l.drop a := by
  rw [sliceRange_one, pick_run]
  exact List.take_of_length_le (by simp)
theorem pick_to {α : Type} (l : List α) (a : Nat) (ha : a ≤ l.length) : ((sliceRange 0 (a : Int) 1).filterMap (l.toArray[·]?)) = l.take a := by
  have := sliceRange_one 0 a
  rw [show ((0 : Nat) : Int) = 0 from rfl] at this
  rw [this, pick_run]
  simp
theorem pick_rev {α : Type} (l : List α) : ((sliceRange ((l.length : Int) - 1) (-1) (-1)).filterMap (l.toArray[·]?)) = l.reverse := by
  have e : l.length = l.toArray.size := by simp
  rw [PySem.W.krv_sliceRange, PySem.W.krv_range, List.filterMap_reverse]
  conv => lhs; rw [e]
  rw [PySem.W.krv_all]

section
variable {prog : Program} {w : World} {A : Around} {E : Value → Shared → Prop} {s : Shared} {h : Heap} {tk : Nat} {env : Env} {Q : Value → Shared → Prop}

/-- text[a:] -/
theorem s_from {value slice : Expr} {sl : Addr} {l : List Nat} {t u : Tok} {a : Nat} {ops : List Value} (hs : h.IsSliceOf sl (.int a u) .none .none) (ha : a ≤ l.length) (hl : l.length ≤ sizeLine)
    (he : subscripted slice false (.str (tx l) t) (.ref sl) = operate ops (getItem (.str (tx l) t) (.ref sl)))
    (q : ∀ t' tk', Q (.str (tx (l.drop a)) t') (mk s h tk')) : wpAny (model prog w) A (subscriptTail value slice (.str (tx l) t) (.ref sl)) Q E (mk s h tk) := by
  have e1 : slicePicked (tx l) (some ((a : Int), u)) none none = sliceRange (a : Int) (l.length : Int) 1 := by
    unfold slicePicked Builtin.Str.strSliceIndices
    rw [tx_len]
    have h1 : ¬ ((a : Int) < 0) := by omega
    have h2 : max 0 (min (a : Int) (l.length : Int)) = a := by omega
    simp [h1, h2]
  have e2 : (⟨((slicePicked (tx l) (some ((a : Int), u)) none none).filterMap ((tx l).cps[·]?)).toArray⟩ : Str) = tx (l.drop a) := by
    rw [e1]; exact congrArg (fun z => (⟨List.toArray z⟩ : Str)) (pick_from l a ha)
  refine s_slice (l := some ((a : Int), u)) (u := none) (st := none) (by obtain ⟨o, x1, x2, x3⟩ := hs; exact ⟨o, x1, x2, x3⟩) rfl (by rw [tx_len]; exact hl) he ?_ fun t' tk' => ?_
  · rw [e2, tx_len, List.length_drop]; omega
  · rw [e2]
    split
    · rename_i hc
      rw [e1, sliceRange_one, tx_len] at hc
      have : a = 0 := by simp at hc; omega
      subst this
      exact q t' tk'
    · exact q t' tk'
/-- text[:a] -/
theorem s_to {value slice : Expr} {sl : Addr} {l : List Nat} {t u : Tok} {a : Nat} {ops : List Value} (hs : h.IsSliceOf sl .none (.int a u) .none) (ha : a ≤ l.length) (hl : l.length ≤ sizeLine)
    (he : subscripted slice false (.str (tx l) t) (.ref sl) = operate ops (getItem (.str (tx l) t) (.ref sl)))
    (q : ∀ t' tk', Q (.str (tx (l.take a)) t') (mk s h tk')) : wpAny (model prog w) A (subscriptTail value slice (.str (tx l) t) (.ref sl)) Q E (mk s h tk) := by
  have e1 : slicePicked (tx l) none (some ((a : Int), u)) none = sliceRange 0 (a : Int) 1 := by
    unfold slicePicked Builtin.Str.strSliceIndices
    rw [tx_len]
    have h1 : ¬ ((a : Int) < 0) := by omega
    have h2 : max 0 (min (a : Int) (l.length : Int)) = a := by omega
    simp [h1, h2]
  have e2 : (⟨((slicePicked (tx l) none (some ((a : Int), u)) none).filterMap ((tx l).cps[·]?)).toArray⟩ : Str) = tx (l.take a) := by
    rw [e1]; exact congrArg (fun z => (⟨List.toArray z⟩ : Str)) (pick_to l a ha)
  refine s_slice (l := none) (u := some ((a : Int), u)) (st := none) (by obtain ⟨o, x1, x2, x3⟩ := hs; exact ⟨o, x1, x2, x3⟩) rfl (by rw [tx_len]; exact hl) he ?_ fun t' tk' => ?_
  · rw [e2, tx_len, List.length_take]; omega
  · rw [e2]
    split
    · rename_i hc
      have h0 := sliceRange_one 0 a
      rw [show ((0 : Nat) : Int) = 0 from rfl] at h0
      rw [e1, h0, tx_len] at hc
      have : l.take a = l := List.take_of_length_le (by simp at hc; omega)
      have q' := q t' tk'
      rw [this] at q'
      exact q'
    · exact q t' tk'
/-- text[::-1] -/
theorem s_rev {value slice : Expr} {sl : Addr} {l : List Nat} {t u : Tok} {ops : List Value} (hs : h.IsSliceOf sl .none .none (.int (-1) u)) (hl : l.length ≤ sizeLine)
    (he : subscripted slice false (.str (tx l) t) (.ref sl) = operate ops (getItem (.str (tx l) t) (.ref sl)))
    (q : ∀ t' tk', Q (.str (tx l.reverse) t') (mk s h tk')) : wpAny (model prog w) A (subscriptTail value slice (.str (tx l) t) (.ref sl)) Q E (mk s h tk) := by
  have e1 : slicePicked (tx l) none none (some (-1, u)) = sliceRange ((l.length : Int) - 1) (-1) (-1) := by
    unfold slicePicked Builtin.Str.strSliceIndices
    rw [tx_len]
    simp
  have e2 : (⟨((slicePicked (tx l) none none (some (-1, u))).filterMap ((tx l).cps[·]?)).toArray⟩ : Str) = tx l.reverse := by
    rw [e1]; exact congrArg (fun z => (⟨List.toArray z⟩ : Str)) (pick_rev l)
  refine s_slice (l := none) (u := none) (st := some (-1, u)) (by obtain ⟨o, x1, x2, x3⟩ := hs; exact ⟨o, x1, x2, x3⟩) rfl (by rw [tx_len]; exact hl) he ?_ fun t' tk' => ?_
  · rw [e2, tx_len, List.length_reverse]; exact hl
  · rw [e2, if_neg (by simp)]
    exact q t' tk'

theorem i_neg {a : Int} {t : Tok} (q : ∀ t' tk', Q (.int (-a) t') (mk s h tk')) : wpAny (model prog w) A (unaryOp .USub (.int a t)) Q E (mk s h tk) := PyProof.Rows.neg_int (q _ _)
theorem i_shr' {a n : Int} {t u : Tok} {k : Nat} (e : n = k) (q : ∀ t' tk', Q (.int (a / 2 ^ k) t') (mk s h tk')) : wpAny (model prog w) A (binaryOp .RShift (.int a t) (.int n u)) Q E (mk s h tk) := by subst e; exact i_shr q
theorem s_item' {value slice : Expr} {x : Str} {t u : Tok} {i : Int} {k c : Nat} {ops : List Value} (e : i = k) (hk : k < 2 ^ 63) (hc : x.cps[k]? = some c)
    (he : subscripted slice false (.str x t) (.int i u) = operate ops (getItem (.str x t) (.int i u)))
    (q : ∀ t' tk', Q (.str ⟨#[c]⟩ t') (mk s h tk')) : wpAny (model prog w) A (subscriptTail value slice (.str x t) (.int i u)) Q E (mk s h tk) := by subst e; exact s_item hk hc he q
theorem t_item' {value slice : Expr} {l : Addr} {items : Array Value} {i : Int} {k : Nat} {u : Tok} {v : Value} {ops : List Value} (e : i = k) (hl : IsTup h l items) (hk : k < 2 ^ 63) (hv : items[k]? = some v)
    (he : subscripted slice false (.ref l) (.int i u) = operate ops (getItem (.ref l) (.int i u)))
    (q : Q v (mk s h tk)) : wpAny (model prog w) A (subscriptTail value slice (.ref l) (.int i u)) Q E (mk s h tk) := by subst e; exact t_item hl hk hv he q
theorem t_fst {value slice : Expr} {l : Addr} {x y : Value} {u : Tok} {ops : List Value} (hl : IsTup h l #[x, y])
    (he : subscripted slice false (.ref l) (.int 0 u) = operate ops (getItem (.ref l) (.int 0 u)))
    (q : Q x (mk s h tk)) : wpAny (model prog w) A (subscriptTail value slice (.ref l) (.int 0 u)) Q E (mk s h tk) := t_item' (k := 0) rfl hl (by decide) rfl he q
theorem t_snd {value slice : Expr} {l : Addr} {x y : Value} {u : Tok} {ops : List Value} (hl : IsTup h l #[x, y])
    (he : subscripted slice false (.ref l) (.int 1 u) = operate ops (getItem (.ref l) (.int 1 u)))
    (q : Q y (mk s h tk)) : wpAny (model prog w) A (subscriptTail value slice (.ref l) (.int 1 u)) Q E (mk s h tk) := t_item' (k := 1) rfl hl (by decide) rfl he q
theorem l_item' {value slice : Expr} {l : Addr} {items : Array Value} {i : Int} {k : Nat} {u : Tok} {v : Value} {ops : List Value} (e : i = k) (hl : h.IsList l items) (hk : k < 2 ^ 63) (hv : items[k]? = some v)
    (he : subscripted slice false (.ref l) (.int i u) = operate ops (getItem (.ref l) (.int i u)))
    (q : Q v (mk s h tk)) : wpAny (model prog w) A (subscriptTail value slice (.ref l) (.int i u)) Q E (mk s h tk) := by subst e; exact l_item hl hk hv he q
end
end Mine
end
section
open PySem PyProof.Rows
set_option maxHeartbeats 2000000
namespace Mine
local macro_rules | `(tactic| walk_at "look") => `(tactic| first | rfl | assumption | exact ((if_neg (by decide)).trans (by assumption)) | exact ((if_neg (by decide)).trans ((if_neg (by decide)).trans (by assumption))) | exact ((if_neg (by decide)).trans ((if_neg (by decide)).trans ((if_neg (by decide)).trans (by assumption)))) | exact ((if_neg (by decide)).trans ((if_neg (by decide)).trans ((if_neg (by decide)).trans ((if_neg (by decide)).trans (by assumption))))) | exact ((if_neg (by decide)).trans ((if_neg (by decide)).trans ((if_neg (by decide)).trans ((if_neg (by decide)).trans ((if_neg (by decide)).trans (by assumption)))))) | exact ((if_neg (by decide)).trans ((if_neg (by decide)).trans ((if_neg (by decide)).trans ((if_neg (by decide)).trans ((if_neg (by decide)).trans ((if_neg (by decide)).trans (by assumption))))))) | exact ((if_neg (by decide)).trans ((if_neg (by decide)).trans ((if_neg (by decide)).trans ((if_neg (by decide)).trans ((if_neg (by decide)).trans ((if_neg (by decide)).trans ((if_neg (by decide)).trans (by assumption)))))))) | exact ((if_neg (by decide)).trans ((if_neg (by decide)).trans ((if_neg (by decide)).trans ((if_neg (by decide)).trans ((if_neg (by decide)).trans ((if_neg (by decide)).trans ((if_neg (by decide)).trans ((if_neg (by decide)).trans (by assumption))))))))) | exact ((if_neg (by decide)).trans ((if_neg (by decide)).trans ((if_neg (by decide)).trans ((if_neg (by decide)).trans ((if_neg (by decide)).trans ((if_neg (by decide)).trans ((if_neg (by decide)).trans ((if_neg (by decide)).trans ((if_neg (by decide)).trans (by assumption)))))))))))
local macro_rules | `(tactic| walk_at "ld") => `(tactic| ((with_reducible refine' x_ld ?F ?k ?l ?v ?d ?_); (case F => assumption); (case k => rfl); (case l => rfl); (case v => walk_at "look"); (case d => rfl)))
local macro_rules | `(tactic| walk_at "ldn") => `(tactic| ((with_reducible refine' x_ldn ?F ?k ?l ?v ?d ?_); (case F => assumption); (case k => rfl); (case l => rfl); (case v => first | assumption | rfl); (case d => rfl)))
local macro_rules | `(tactic| walk_at "ldc") => `(tactic| ((with_reducible refine' x_ldc ?F ?k ?l ?c ?v ?d ?_); (case F => assumption); (case k => rfl); (case l => rfl); (case c => rfl); (case v => first | assumption | rfl); (case d => rfl)))
local macro_rules | `(tactic| walk_at "ldf") => `(tactic| ((with_reducible refine' x_ldf ?k ?l ?c ?v ?d ?e ?_); (case k => rfl); (case l => rfl); (case c => rfl); (case v => assumption); (case d => rfl); (case e => rfl)))
local macro_rules | `(tactic| walk_at "ldk") => `(tactic| ((with_reducible refine' x_ldk ?k ?l ?c ?v ?d ?_); (case k => rfl); (case l => rfl); (case c => rfl); (case v => assumption); (case d => rfl)))
local macro_rules | `(tactic| walk_at "blt") => `(tactic| ((with_reducible refine' x_blt ?B ?K ?g ?b ?k ?x ?m ?d ?_); (case B => assumption); (case K => first | assumption | exact Frm.keep (by assumption)); (case g => rfl); (case b => rfl); (case k => rfl); (case x => rfl); (case m => simp only [bltNames, List.mem_cons]; first | exact .inl rfl | exact .inr (.inl rfl) | exact .inr (.inr (.inl rfl)) | exact .inr (.inr (.inr (.inl rfl))) | exact .inr (.inr (.inr (.inr (.inl rfl)))) | exact .inr (.inr (.inr (.inr (.inr (.inl rfl))))) | exact .inr (.inr (.inr (.inr (.inr (.inr (.inl rfl)))))) | exact .inr (.inr (.inr (.inr (.inr (.inr (.inr (.inl rfl))))))) | exact .inr (.inr (.inr (.inr (.inr (.inr (.inr (.inr (.inl rfl))))))))); (case d => rfl)))
local macro_rules | `(tactic| walk_at "glob") => `(tactic| ((with_reducible refine' x_glob ?B ?K ?g ?k ?x ?m ?d ?_); (case B => assumption); (case K => first | assumption | exact Frm.keep (by assumption)); (case g => rfl); (case k => rfl); (case x => rfl); (case m => simp only [globNames, List.mem_cons]; first | exact .inl rfl | exact .inr (.inl rfl) | exact .inr (.inr (.inl rfl)) | exact .inr (.inr (.inr (.inl rfl))) | exact .inr (.inr (.inr (.inr (.inl rfl)))) | exact .inr (.inr (.inr (.inr (.inr (.inl rfl))))) | exact .inr (.inr (.inr (.inr (.inr (.inr (.inl rfl)))))) | exact .inr (.inr (.inr (.inr (.inr (.inr (.inr (.inl rfl))))))) | exact .inr (.inr (.inr (.inr (.inr (.inr (.inr (.inr (.inl rfl)))))))) | exact .inr (.inr (.inr (.inr (.inr (.inr (.inr (.inr (.inr (.inl rfl)))))))))); (case d => rfl)))
local macro_rules | `(tactic| walk_at "ap") => `(tactic| ((with_reducible refine' meth1 F.plainAttrs_list F.slot_list_append F.type_list_append ?ha ?hb ?hc ?_); (case ha => first | exact ab_const | exact ab_name | exact ab_sub); (case hb => exact rfl); (case hc => exact rfl)))
local macro_rules | `(tactic| walk_at "rv") => `(tactic| ((with_reducible refine' meth0 F.plainAttrs_list F.slot_list_reverse F.type_list_reverse ?ha ?hc ?_); (case ha => first | exact ab_const | exact ab_name | exact ab_sub); (case hc => exact rfl)))
local macro_rules | `(tactic| walk_at "lidx") => `(tactic| ((with_reducible refine' meth1 F.plainAttrs_list F.slot_list_index F.type_list_index ?ha ?hb ?hc ?_); (case ha => first | exact ab_const | exact ab_name | exact ab_sub); (case hb => exact rfl); (case hc => exact rfl)))
local macro_rules | `(tactic| walk_at "args2") => `(tactic| ((with_reducible refine s_cons ?_); walk_at "go"; (with_reducible refine s_cons ?_); walk_at "go"; with_reducible refine s_nil ?_))
local macro_rules | `(tactic| walk_at "exp") => `(tactic| ((with_reducible refine' x_expr ?hi ?hs ?_); (case hi => rfl); (case hs => rfl)))
local macro_rules | `(tactic| walk_at "index") => `(tactic| ((with_reducible refine' meth1 F.plainAttrs_str F.slot_str_index F.type_str_index ?ha ?hb ?hc ?_); (case ha => first | exact ab_const | exact ab_name); (case hb => exact rfl); (case hc => exact rfl)))
local macro_rules | `(tactic| walk_at "join") => `(tactic| ((with_reducible refine' meth1 F.plainAttrs_str F.slot_str_join F.type_str_join ?ha ?hb ?hc ?_); (case ha => first | exact ab_const | exact ab_name | exact ab_sub); (case hb => exact rfl); (case hc => exact rfl)))
local macro_rules | `(tactic| walk_at "split") => `(tactic| ((with_reducible refine' meth1 F.plainAttrs_str F.slot_str_split F.type_str_split ?ha ?hb ?hc ?_); (case ha => first | exact ab_const | exact ab_name | exact ab_sub); (case hb => exact rfl); (case hc => exact rfl)))
local macro_rules | `(tactic| walk_at "bits") => `(tactic| ((with_reducible refine' meth0 F.plainAttrs_int F.slot_int_bit_length F.type_int_bit_length ?ha ?hc ?_); (case ha => first | exact ab_const | exact ab_name | exact ab_sub); (case hc => exact rfl)))
local macro_rules | `(tactic| walk_at "cmp") => `(tactic| ((with_reducible refine' wpAny_isTrue_Compare1 ?_ ?hm); (case hm => rfl)))
local macro_rules | `(tactic| walk_at "t0") => `(tactic| ((with_reducible refine' t_fst ?hl ?he ?_); (case hl => assumption); (case he => rfl)))
local macro_rules | `(tactic| walk_at "t1") => `(tactic| ((with_reducible refine' t_snd ?hl ?he ?_); (case hl => assumption); (case he => rfl)))
local macro_rules | `(tactic| walk_at "sl") => `(tactic| ((with_reducible refine x_sliceEnd fun D' h' tk' k' hs' => ?_); have F' := Frm.grow (by assumption) k'))
local macro_rules | `(tactic| walk_at "st") => `(tactic| ((with_reducible refine' x_st ?F ?k ?l fun h' tk' F' => ?_); (case F => assumption); (case k => rfl); (case l => rfl)))
local macro_rules | `(tactic| walk_at "stc") => `(tactic| ((with_reducible refine' x_stc ?F ?k ?l ?c fun h' tk' F' => ?_); (case F => assumption); (case k => rfl); (case l => rfl); (case c => rfl)))
local macro_rules | `(tactic| walk_at "go") => `(tactic| first
  | with_reducible refine x_cons ?_
  | ((with_reducible refine' x_assign ?hs ?_); (case hs => rfl))
  | with_reducible refine wpAny_BinOp ?_
  | with_reducible refine Subscript_ ?_
  | with_reducible refine x_int fun _ _ => ?_
  | with_reducible refine x_str fun _ _ => ?_
  | walk_at "ld"
  | walk_at "ldc"
  | walk_at "ldn"
  | walk_at "ldk"
  | walk_at "ldf"
  | with_reducible refine x_call ?_
  | with_reducible refine x_slice ?_
  | with_reducible refine p_none ?_
  | walk_at "sl"
  | with_reducible refine p_some ?_
  | with_reducible refine wpAny_UnaryOp ?_
  | with_reducible refine i_neg fun _ _ => ?_
  | with_reducible refine i_add fun _ _ => ?_
  | with_reducible refine i_sub fun _ _ => ?_
  | with_reducible refine i_le ?_
  | with_reducible refine i_lt ?_
  | with_reducible refine i_eq ?_
  | with_reducible refine wpAny_Return_some ?_
  | with_reducible refine x_next ?_
  | with_reducible refine x_ret ?_
  | with_reducible refine strOk ?_
  | with_reducible refine intOk ?_
  | with_reducible refine wpAny_If ?_
  | with_reducible refine wpAny_truthy_bool ?_)

/-- a numeral: its figures -/
abbrev fig (ds : List Nat) : Str := tx (ds.map (· + 48))
/-- what figures are worth -/
def worthN (B : Nat) (ds : List Nat) : Nat := ds.foldl (fun a d => a * B + d) 0
theorem worthN_snoc (B : Nat) (ds : List Nat) (d : Nat) : worthN B (ds ++ [d]) = worthN B ds * B + d := by simp [worthN]
theorem snoc_ind {α : Type} {motive : List α → Prop} (l : List α) (nil : motive []) (snoc : ∀ l a, motive l → motive (l ++ [a])) : motive l := by
  have : ∀ r : List α, motive r.reverse := by
    intro r
    induction r with
    | nil => exact nil
    | cons a r ih => rw [List.reverse_cons]; exact snoc _ _ ih
  have := this l.reverse
  rwa [List.reverse_reverse] at this
theorem find_fig : ∀ d, d < 4 → Txt.find "0123" ⟨#[d + 48]⟩ = (d : Int)
  | 0, _ => by decide +kernel
  | 1, _ => by decide +kernel
  | 2, _ => by decide +kernel
  | 3, _ => by decide +kernel
  | n + 4, h => by omega

theorem index_fig {prog : Program} {w : World} {A : Around} {E : Value → Shared → Prop} {s : Shared} {h : Heap} {tk : Nat} {Q : Value → Shared → Prop} {d : Nat} {t u : Tok} (hA : A.handled = none) (hd : d < 4)
    (q : ∀ t' tk', Q (.int d t') (mk s h tk')) : wpAny (model prog w) A (call (.builtin "str.index") [.str "0123" t, .str ⟨#[d + 48]⟩ u]) Q E (mk s h tk) := by
  refine index_or hA (fun e => ?_) (fun _ _ => ?_)
  · rw [find_fig d hd] at e; omega
  · rw [find_fig d hd]; exact q _ _

theorem worth_lt {B : Nat} (ds : List Nat) : (∀ d ∈ ds, d < B) → worthN B ds < B ^ ds.length := by
  induction ds using snoc_ind with
  | nil => intro _; simp [worthN]
  | snoc ds d ih =>
    intro h
    rw [worthN_snoc, List.length_append, List.length_singleton, Nat.pow_succ]
    have h1 := ih (fun x hx => h x (List.mem_append_left _ hx))
    have h2 := h d (by simp)
    calc worthN B ds * B + d < worthN B ds * B + B := by omega
      _ = (worthN B ds + 1) * B := by rw [Nat.add_mul, Nat.one_mul]
      _ ≤ B ^ ds.length * B := Nat.mul_le_mul_right _ h1
theorem worth_lt16 {wd : Nat} {ds : List Nat} (hw : wd = 1 ∨ wd = 2) (hds : ∀ d ∈ ds, d < 2 ^ wd) (hlen : ds.length ≤ 8) : worthN (2 ^ wd) ds < 2 ^ 16 := by
  refine Nat.lt_of_lt_of_le (worth_lt _ hds) ?_
  calc (2 ^ wd) ^ ds.length ≤ (2 ^ 2) ^ 8 := by
        refine Nat.le_trans (Nat.pow_le_pow_left (?_ : 2 ^ wd ≤ 2 ^ 2) _) (Nat.pow_le_pow_right (by decide) hlen)
        rcases hw with rfl | rfl <;> decide
    _ = 2 ^ 16 := by decide
theorem fig_get {ds : List Nat} {i c : Nat} (hc : (fig ds).cps[i]? = some c) : ∃ hi : i < ds.length, c = ds[i] + 48 := by
  have hi : i < ds.length := by
    have := (Array.getElem?_eq_some_iff.mp hc).1
    simpa [tx] using this
  refine ⟨hi, ?_⟩
  have e : (fig ds).cps[i]? = some (ds[i] + 48) := by simp [tx, hi]
  rw [e] at hc; exact (Option.some.inj hc).symm

theorem worth_call {prog : Program} {w : World} {A : Around} {E : Value → Shared → Prop} {s : Shared} {h : Heap} {tk : Nat} {Q : Value → Shared → Prop} {ds : List Nat} {t u : Tok} {wd : Nat}
    (hB : Base h) (hT : Tb h) (hA : A.handled = none) (hroom : A.depth < recursionLimit) (hw : wd = 1 ∨ wd = 2) (hds : ∀ d ∈ ds, d < 2 ^ wd) (hlen : ds.length ≤ 8)
    (q : ∀ h' tk' t', Kept h h' → Q (.int (worthN (2 ^ wd) ds) t') (mk s h' tk')) :
    wpAny (model prog w) A (call (.ref 70) [.str (fig ds) t, .int wd u]) Q E (mk s h tk) := by
  refine call_def hB.f70 hB.nolimit hT hroom (binds := [("text", .str (fig ds) t), ("width", .int wd u)]) (fun _ _ _ _ _ => rfl) (by decide +kernel) (locs (by rfl)) rfl rfl rfl (fun L cd h₁ tk _ G => ?_)
  refine x_cons (x_assign rfl (x_int fun t0 tk => x_st G rfl rfl fun h₂ tk G₂ => x_next ?_))
  refine x_cons (wpAny_For_str_locals (s := mk s h₂ tk) (x := fig ds) (t := t) (by exact hA) rfl rfl G₂.ns (fun Q' hq => x_ld G₂ rfl rfl rfl rfl hq)
    (fun i m => ∃ t', m "worth" = some (.int (worthN (2 ^ wd) (ds.take i)) t') ∧ m "width" = some (.int wd u)) ⟨t0, rfl, rfl⟩ ?_ ?_)
  · rintro i c tk' m₁ s₁ hc ⟨t', e1, e2⟩ hn
    obtain ⟨hi, rfl⟩ := fig_get hc
    have hd4 : ds[i] < 4 := by
      have := hds _ (List.getElem_mem hi)
      rcases hw with rfl | rfl <;> omega
    have hlt : worthN (2 ^ wd) (ds.take i) < 2 ^ 16 := worth_lt16 hw (fun d hd => hds d (List.mem_of_mem_take hd)) (by rw [List.length_take]; omega)
    have e1' : (if Str.ofString "worth" = Str.ofString "sign" then some (Value.str ⟨#[ds[i] + 48]⟩ tk') else m₁ "worth") = some (.int (worthN (2 ^ wd) (ds.take i)) t') := by rw [if_neg (by decide)]; exact e1
    have e2' : (if Str.ofString "width" = Str.ofString "sign" then some (Value.str ⟨#[ds[i] + 48]⟩ tk') else m₁ "width") = some (.int wd u) := by rw [if_neg (by decide)]; exact e2
    rw [mk_self s₁]
    iterate 6 walk_at "go"
    with_reducible refine' i_shl ?h1 ?h2 fun t1 tk1 => ?_
    case h1 => rcases hw with rfl | rfl <;> decide
    case h2 => rw [Int.natAbs_natCast]; exact Nat.lt_trans hlt (by decide)
    walk_at "index"
    iterate 3 walk_at "go"
    with_reducible refine index_fig ?_ hd4 fun t3 tk3 => ?_
    · exact hA
    with_reducible refine i_add fun t4 tk4 => ?_
    refine wpAny_storeName_local (s := mk s₁ s₁.heap tk4) rfl hn (fun h' hn' hs' => x_next (wpAny_execs_nil ⟨rfl, ⟨h', _, rfl, hs'⟩, _, hn', t4, ?_, ?_⟩)) rfl
    · show (if Str.ofString "worth" = Str.ofString "worth" then some _ else _) = _
      rw [if_pos rfl]
      congr 2
      have e3 : ds.take (i + 1) = ds.take i ++ [ds[i]] := by rw [List.take_append_getElem hi]
      rw [e3, worthN_snoc]
      push_cast
      rfl
    · show (if Str.ofString "width" = Str.ofString "worth" then _ else if Str.ofString "width" = Str.ofString "sign" then _ else m₁ "width") = _
      rw [if_neg (by decide), if_neg (by decide)]; exact e2
  · rintro h' tk' m' hn ⟨t', e1, _⟩ hk
    have hsz : (fig ds).cps.size = ds.length := by simp [tx]
    rw [hsz, List.take_length] at e1
    refine x_next (x_cons (wpAny_Return_some (x_ldn (s := s) (h := h') (tk := tk') hn rfl rfl e1 rfl (x_ret ?_))))
    refine q h' _ _ fun a o e => hk a o (fun q => ?_) (G₂.keep a o e)
    have := (G₂.off L (List.mem_cons_self)).1
    rw [show a = L from q] at e
    have e' : h.get? L = some o := e
    rw [show h.get? L = none from this] at e'; cases e'
end Mine
end
section
open PySem PyProof.Rows
set_option maxHeartbeats 2000000
namespace Mine
local macro_rules | `(tactic| walk_at "look") => `(tactic| first | rfl | assumption | exact ((if_neg (by decide)).trans (by assumption)) | exact ((if_neg (by decide)).trans ((if_neg (by decide)).trans (by assumption))) | exact ((if_neg (by decide)).trans ((if_neg (by decide)).trans ((if_neg (by decide)).trans (by assumption)))) | exact ((if_neg (by decide)).trans ((if_neg (by decide)).trans ((if_neg (by decide)).trans ((if_neg (by decide)).trans (by assumption))))) | exact ((if_neg (by decide)).trans ((if_neg (by decide)).trans ((if_neg (by decide)).trans ((if_neg (by decide)).trans ((if_neg (by decide)).trans (by assumption)))))) | exact ((if_neg (by decide)).trans ((if_neg (by decide)).trans ((if_neg (by decide)).trans ((if_neg (by decide)).trans ((if_neg (by decide)).trans ((if_neg (by decide)).trans (by assumption))))))) | exact ((if_neg (by decide)).trans ((if_neg (by decide)).trans ((if_neg (by decide)).trans ((if_neg (by decide)).trans ((if_neg (by decide)).trans ((if_neg (by decide)).trans ((if_neg (by decide)).trans (by assumption)))))))) | exact ((if_neg (by decide)).trans ((if_neg (by decide)).trans ((if_neg (by decide)).trans ((if_neg (by decide)).trans ((if_neg (by decide)).trans ((if_neg (by decide)).trans ((if_neg (by decide)).trans ((if_neg (by decide)).trans (by assumption))))))))) | exact ((if_neg (by decide)).trans ((if_neg (by decide)).trans ((if_neg (by decide)).trans ((if_neg (by decide)).trans ((if_neg (by decide)).trans ((if_neg (by decide)).trans ((if_neg (by decide)).trans ((if_neg (by decide)).trans ((if_neg (by decide)).trans (by assumption)))))))))))
local macro_rules | `(tactic| walk_at "ld") => `(tactic| ((with_reducible refine' x_ld ?F ?k ?l ?v ?d ?_); (case F => assumption); (case k => rfl); (case l => rfl); (case v => walk_at "look"); (case d => rfl)))
local macro_rules | `(tactic| walk_at "ldn") => `(tactic| ((with_reducible refine' x_ldn ?F ?k ?l ?v ?d ?_); (case F => assumption); (case k => rfl); (case l => rfl); (case v => first | assumption | rfl); (case d => rfl)))
local macro_rules | `(tactic| walk_at "ldc") => `(tactic| ((with_reducible refine' x_ldc ?F ?k ?l ?c ?v ?d ?_); (case F => assumption); (case k => rfl); (case l => rfl); (case c => rfl); (case v => first | assumption | rfl); (case d => rfl)))
local macro_rules | `(tactic| walk_at "ldf") => `(tactic| ((with_reducible refine' x_ldf ?k ?l ?c ?v ?d ?e ?_); (case k => rfl); (case l => rfl); (case c => rfl); (case v => assumption); (case d => rfl); (case e => rfl)))
local macro_rules | `(tactic| walk_at "ldk") => `(tactic| ((with_reducible refine' x_ldk ?k ?l ?c ?v ?d ?_); (case k => rfl); (case l => rfl); (case c => rfl); (case v => assumption); (case d => rfl)))
local macro_rules | `(tactic| walk_at "blt") => `(tactic| ((with_reducible refine' x_blt ?B ?K ?g ?b ?k ?x ?m ?d ?_); (case B => assumption); (case K => first | assumption | exact Frm.keep (by assumption)); (case g => rfl); (case b => rfl); (case k => rfl); (case x => rfl); (case m => simp only [bltNames, List.mem_cons]; first | exact .inl rfl | exact .inr (.inl rfl) | exact .inr (.inr (.inl rfl)) | exact .inr (.inr (.inr (.inl rfl))) | exact .inr (.inr (.inr (.inr (.inl rfl)))) | exact .inr (.inr (.inr (.inr (.inr (.inl rfl))))) | exact .inr (.inr (.inr (.inr (.inr (.inr (.inl rfl)))))) | exact .inr (.inr (.inr (.inr (.inr (.inr (.inr (.inl rfl))))))) | exact .inr (.inr (.inr (.inr (.inr (.inr (.inr (.inr (.inl rfl))))))))); (case d => rfl)))
local macro_rules | `(tactic| walk_at "glob") => `(tactic| ((with_reducible refine' x_glob ?B ?K ?g ?k ?x ?m ?d ?_); (case B => assumption); (case K => first | assumption | exact Frm.keep (by assumption)); (case g => rfl); (case k => rfl); (case x => rfl); (case m => simp only [globNames, List.mem_cons]; first | exact .inl rfl | exact .inr (.inl rfl) | exact .inr (.inr (.inl rfl)) | exact .inr (.inr (.inr (.inl rfl))) | exact .inr (.inr (.inr (.inr (.inl rfl)))) | exact .inr (.inr (.inr (.inr (.inr (.inl rfl))))) | exact .inr (.inr (.inr (.inr (.inr (.inr (.inl rfl)))))) | exact .inr (.inr (.inr (.inr (.inr (.inr (.inr (.inl rfl))))))) | exact .inr (.inr (.inr (.inr (.inr (.inr (.inr (.inr (.inl rfl)))))))) | exact .inr (.inr (.inr (.inr (.inr (.inr (.inr (.inr (.inr (.inl rfl)))))))))); (case d => rfl)))
local macro_rules | `(tactic| walk_at "ap") => `(tactic| ((with_reducible refine' meth1 F.plainAttrs_list F.slot_list_append F.type_list_append ?ha ?hb ?hc ?_); (case ha => first | exact ab_const | exact ab_name | exact ab_sub); (case hb => exact rfl); (case hc => exact rfl)))
local macro_rules | `(tactic| walk_at "rv") => `(tactic| ((with_reducible refine' meth0 F.plainAttrs_list F.slot_list_reverse F.type_list_reverse ?ha ?hc ?_); (case ha => first | exact ab_const | exact ab_name | exact ab_sub); (case hc => exact rfl)))
local macro_rules | `(tactic| walk_at "lidx") => `(tactic| ((with_reducible refine' meth1 F.plainAttrs_list F.slot_list_index F.type_list_index ?ha ?hb ?hc ?_); (case ha => first | exact ab_const | exact ab_name | exact ab_sub); (case hb => exact rfl); (case hc => exact rfl)))
local macro_rules | `(tactic| walk_at "args2") => `(tactic| ((with_reducible refine s_cons ?_); walk_at "go"; (with_reducible refine s_cons ?_); walk_at "go"; with_reducible refine s_nil ?_))
local macro_rules | `(tactic| walk_at "exp") => `(tactic| ((with_reducible refine' x_expr ?hi ?hs ?_); (case hi => rfl); (case hs => rfl)))
local macro_rules | `(tactic| walk_at "index") => `(tactic| ((with_reducible refine' meth1 F.plainAttrs_str F.slot_str_index F.type_str_index ?ha ?hb ?hc ?_); (case ha => first | exact ab_const | exact ab_name); (case hb => exact rfl); (case hc => exact rfl)))
local macro_rules | `(tactic| walk_at "join") => `(tactic| ((with_reducible refine' meth1 F.plainAttrs_str F.slot_str_join F.type_str_join ?ha ?hb ?hc ?_); (case ha => first | exact ab_const | exact ab_name | exact ab_sub); (case hb => exact rfl); (case hc => exact rfl)))
local macro_rules | `(tactic| walk_at "split") => `(tactic| ((with_reducible refine' meth1 F.plainAttrs_str F.slot_str_split F.type_str_split ?ha ?hb ?hc ?_); (case ha => first | exact ab_const | exact ab_name | exact ab_sub); (case hb => exact rfl); (case hc => exact rfl)))
local macro_rules | `(tactic| walk_at "bits") => `(tactic| ((with_reducible refine' meth0 F.plainAttrs_int F.slot_int_bit_length F.type_int_bit_length ?ha ?hc ?_); (case ha => first | exact ab_const | exact ab_name | exact ab_sub); (case hc => exact rfl)))
local macro_rules | `(tactic| walk_at "cmp") => `(tactic| ((with_reducible refine' wpAny_isTrue_Compare1 ?_ ?hm); (case hm => rfl)))
local macro_rules | `(tactic| walk_at "t0") => `(tactic| ((with_reducible refine' t_fst ?hl ?he ?_); (case hl => assumption); (case he => rfl)))
local macro_rules | `(tactic| walk_at "t1") => `(tactic| ((with_reducible refine' t_snd ?hl ?he ?_); (case hl => assumption); (case he => rfl)))
local macro_rules | `(tactic| walk_at "sl") => `(tactic| ((with_reducible refine x_sliceEnd fun D' h' tk' k' hs' => ?_); have F' := Frm.grow (by assumption) k'))
local macro_rules | `(tactic| walk_at "st") => `(tactic| ((with_reducible refine' x_st ?F ?k ?l fun h' tk' F' => ?_); (case F => assumption); (case k => rfl); (case l => rfl)))
local macro_rules | `(tactic| walk_at "stc") => `(tactic| ((with_reducible refine' x_stc ?F ?k ?l ?c fun h' tk' F' => ?_); (case F => assumption); (case k => rfl); (case l => rfl); (case c => rfl)))
local macro_rules | `(tactic| walk_at "go") => `(tactic| first
  | with_reducible refine x_cons ?_
  | ((with_reducible refine' x_assign ?hs ?_); (case hs => rfl))
  | with_reducible refine wpAny_BinOp ?_
  | with_reducible refine Subscript_ ?_
  | with_reducible refine x_int fun _ _ => ?_
  | with_reducible refine x_str fun _ _ => ?_
  | walk_at "ld"
  | walk_at "ldc"
  | walk_at "ldn"
  | walk_at "ldk"
  | walk_at "ldf"
  | with_reducible refine x_call ?_
  | with_reducible refine x_slice ?_
  | with_reducible refine p_none ?_
  | walk_at "sl"
  | with_reducible refine p_some ?_
  | with_reducible refine wpAny_UnaryOp ?_
  | with_reducible refine i_neg fun _ _ => ?_
  | with_reducible refine i_add fun _ _ => ?_
  | with_reducible refine i_sub fun _ _ => ?_
  | with_reducible refine i_le ?_
  | with_reducible refine i_lt ?_
  | with_reducible refine i_eq ?_
  | with_reducible refine wpAny_Return_some ?_
  | with_reducible refine x_next ?_
  | with_reducible refine x_ret ?_
  | with_reducible refine strOk ?_
  | with_reducible refine intOk ?_
  | with_reducible refine wpAny_If ?_
  | with_reducible refine wpAny_truthy_bool ?_)

/-- the last p figures of v, to the base B -/
def digitsN (B p v : Nat) : List Nat := (List.range p).reverse.map fun k => v / B ^ k % B
/-- a stop: the quotient's figures, the mark, the figures behind -/
def stopL (B : Nat) (ds : List Nat) (p q r : Nat) : List Nat := (digitsN B p q).map (· + 48) ++ [r + 97] ++ (ds.drop p).map (· + 48)

theorem fig_at : ∀ d, d < 4 → (Str.ofString "0123").cps[d]? = some (d + 48)
  | 0, _ => by decide +kernel
  | 1, _ => by decide +kernel
  | 2, _ => by decide +kernel
  | 3, _ => by decide +kernel
  | n + 4, h => by omega
theorem mark_at : ∀ d, d < 5 → (Str.ofString "abcde").cps[d]? = some (d + 97)
  | 0, _ => by decide +kernel
  | 1, _ => by decide +kernel
  | 2, _ => by decide +kernel
  | 3, _ => by decide +kernel
  | 4, _ => by decide +kernel
  | n + 5, h => by omega

theorem mulOk_small {a b : Int} (h1 : -(2 ^ 64) < a) (h2 : a < 2 ^ 64) : IntMulOk a b := IntMulOk.of_left (intBits_le_64 h1 h2)
theorem digitsN_len (B p v : Nat) : (digitsN B p v).length = p := by simp [digitsN]
theorem glued_go (glue : List Nat) (ps : List (List Nat)) : ∀ acc : List Nat, (ps.map tx).foldl (fun (a : Array Nat) p => a ++ (tx glue).cps ++ p.cps) acc.toArray = (acc ++ (ps.map fun p => glue ++ p).flatten).toArray := by
  induction ps with
  | nil => intro acc; simp
  | cons p r ih =>
    intro acc
    rw [List.map_cons, List.foldl_cons]
    have e : acc.toArray ++ (tx glue).cps ++ (tx p).cps = (acc ++ (glue ++ p)).toArray := by simp [tx]
    rw [e, ih]
    simp
/-- texts, glued -/
theorem join_tx (glue : List Nat) (p : List Nat) (ps : List (List Nat)) : Txt.join (tx glue) ((p :: ps).map tx) = tx (p ++ (ps.map fun p => glue ++ p).flatten) := by
  show (⟨((ps.map tx).foldl (fun (a : Array Nat) p => a ++ (tx glue).cps ++ p.cps) p.toArray)⟩ : Str) = _
  rw [glued_go]; rfl
theorem join_nil (x : Str) : Txt.join x [] = tx [] := rfl
theorem empty_tx : Str.ofString "" = tx [] := by decide +kernel
theorem glued_empty (ls : List (List Nat)) : Txt.join (Str.ofString "") (ls.map tx) = tx ls.flatten := by
  cases ls with
  | nil => exact join_nil _
  | cons p ps => rw [empty_tx, join_tx]; simp
theorem sum_one {α : Type} (l : List α) : (l.map fun _ => 1).sum = l.length := by
  induction l with
  | nil => rfl
  | cons a r ih => simp [ih]; omega
theorem strs_of {ys : List Value} {f : Nat → List Nat} (h : ∀ (k : Nat) (v : Value), ys[k]? = some v → ∃ t, v = Value.str (tx (f k)) t) : StrsAre ys ((List.range ys.length).map fun k => tx (f k)) := by
  induction ys using snoc_ind with
  | nil => exact .nil
  | snoc ys v ih =>
    have h1 := ih fun k w hk => h k w (by rw [List.getElem?_append_left (List.getElem?_eq_some_iff.mp hk).1]; exact hk)
    obtain ⟨t, rfl⟩ := h ys.length v (by simp)
    rw [List.length_append, List.length_singleton, List.range_succ, List.map_append]
    exact h1.append' (.cons _ _ .nil)
theorem strs_rev {ys : List Value} {ts : List Str} (h : StrsAre ys ts) : StrsAre ys.reverse ts.reverse := by
  induction h with
  | nil => exact .nil
  | cons y t _ ih => rw [List.reverse_cons, List.reverse_cons]; exact ih.append' (.cons _ _ .nil)

set_option trace.profiler false
theorem stop_call {prog : Program} {w : World} {A : Around} {E : Value → Shared → Prop} {s : Shared} {h : Heap} {tk : Nat} {Q : Value → Shared → Prop} {ds : List Nat} {t u tp t1 t2 : Tok} {wd p qv rv : Nat} {td : Addr}
    (hB : Base h) (hT : Tb h) (hA : A.handled = none) (hroom : A.depth < recursionLimit) (hw : wd = 1 ∨ wd = 2) (hp : p ≤ ds.length) (hlen : ds.length ≤ 8) (hr : rv < 5) (htd : IsTup h td #[.int qv t1, .int rv t2])
    (q : ∀ h' tk' t', Kept h h' → Q (.str (tx (stopL (2 ^ wd) ds p qv rv)) t') (mk s h' tk')) :
    wpAny (model prog w) A (call (.ref 75) [.str (fig ds) t, .int p tp, .ref td, .int wd u]) Q E (mk s h tk) := by
  refine call_defC ["width", "told"] (fun _ => rfl) (by decide) hB.f75 hB.nolimit hT hroom (binds := [("numeral", .str (fig ds) t), ("place", .int p tp), ("told", .ref td), ("width", .int wd u)]) (fun _ _ _ _ _ => rfl)
    (PySem.W.kindsX rfl) rfl rfl rfl (fun L cd h₁ tk _ G => ?_)
  have hA' : (A.deeper (envF 12 (cellsFrom (L + 1) (scopeOf (stmtAt 12)).names []) L 75 cd)).handled = none := hA
  have eC : cellsFrom (L + 1) (scopeOf (stmtAt 12)).names [] = [(Str.ofString "width", L + 1 + 1), (Str.ofString "told", L + 1)] := rfl
  rw [eC] at G hA' ⊢
  replace G : Frm h (envF 12 [(Str.ofString "width", L + 1 + 1), (Str.ofString "told", L + 1)] L 75 cd) (upd (upd (fun _ => none) "numeral" (.str (fig ds) t)) "place" (.int p tp)) (upd (upd (fun _ => none) "told" (.ref td)) "width" (.int wd u)) [] h₁ := G
  refine x_cons ?_
  refine' x_compA G [(Str.ofString "width", L + 1 + 1), (Str.ofString "told", L + 1)] p (fun i v => ∃ t, v = .int (i : Nat) t) (fun k y => ∃ t, y = .str (tx [qv / 2 ^ (wd * k) % 2 ^ wd + 48]) t) ?_ ?_ ?_ ?_ ?_ ?_ ?_ ?_ ?_ ?_
  · rfl
  · rfl
  · decide +kernel
  · rfl
  · decide +kernel
  · rfl
  · rfl
  · rfl
  · intro _; rfl
  refine x_call ?_
  walk_at "blt"
  with_reducible refine' t_call1 ?_ ?_
  · rfl
  walk_at "go"
  refine r_iter (by omega) fun I h₂ tk₂ k₂ hI hr₂ => ?_
  refine compAt_range hA' G k₂ hI hr₂ (by rw [sizeLine_eq]; omega) ?_ ?_
  · intro C i ti s₃ h₃ tk₃ m₃ E' Q' hi hn hm hk hq
    have c1 : h₃.IsCell (L + 1) (some (.ref td)) := (G.cell (Str.ofString "told", L + 1) (by simp [envF])).keeps hk
    have c2 : h₃.IsCell (L + 1 + 1) (some (.int wd u)) := (G.cell (Str.ofString "width", L + 1 + 1) (by simp [envF])).keeps hk
    have htd3 : IsTup h₃ td #[.int qv t1, .int rv t2] := htd.keeps fun a o e => hk _ _ (G.keep a o e)
    iterate 7 walk_at "go"
    walk_at "t0"
    iterate 3 walk_at "go"
    with_reducible refine' i_mul ?_ fun _ _ => ?_
    · exact mulOk_small (by rcases hw with rfl | rfl <;> decide) (by rcases hw with rfl | rfl <;> decide)
    with_reducible refine' i_shr' (k := wd * i) ?_ fun _ _ => ?_
    · push_cast; rfl
    iterate 3 walk_at "go"
    with_reducible refine' i_shl ?_ ?_ fun _ _ => ?_
    · rcases hw with rfl | rfl <;> decide
    · decide
    with_reducible refine' i_mod ?_ fun _ _ => ?_
    · rcases hw with rfl | rfl <;> decide
    have hd4 : qv / 2 ^ (wd * i) % 2 ^ wd < 4 := by
      have : qv / 2 ^ (wd * i) % 2 ^ wd < 2 ^ wd := Nat.mod_lt _ (by rcases hw with rfl | rfl <;> decide)
      rcases hw with rfl | rfl <;> omega
    with_reducible refine' s_item' (k := qv / 2 ^ (wd * i) % 2 ^ wd) ?e ?hk (fig_at _ hd4) ?he fun t' tk' => ?_
    case e => push_cast; simp
    case hk => omega
    case he => rfl
    exact hq _ _ ⟨_, rfl⟩
  · intro D h' tk' ys n hD hg hsz hG F
    have htd' : IsTup h' td #[.int qv t1, .int rv t2] := htd.keeps F.keep
    iterate 5 walk_at "go"
    walk_at "join"
    iterate 12 walk_at "go"
    rename_i D3 h3 tk3 k3 hs3 F3
    with_reducible refine' l_slice (isList_of (F3.get (List.Mem.head _))) hs3 IsPart.none IsPart.none (IsPart.int _ _) ?h0 ?hz ?he fun D4 h4 tk4 k4 _ g4 => ?_
    case h0 => decide
    case hz => rw [hsz, sizeLine_eq]; omega
    case he => rfl
    have F4 := F3.grow k4
    have g4' := isList_of g4
    rw [PySem.W.krv_pick] at g4'
    have hS : StrsAre ys.toList.reverse (((List.range p).map fun k => tx [qv / 2 ^ (wd * k) % 2 ^ wd + 48]).reverse) := by
      have := strs_rev (strs_of (ys := ys.toList) (f := fun k => [qv / 2 ^ (wd * k) % 2 ^ wd + 48]) fun k v hv => hG k v (by simpa using hv))
      rw [Array.length_toList, hsz] at this
      exact this
    have hE : (((List.range p).map fun k => tx [qv / 2 ^ (wd * k) % 2 ^ wd + 48]).reverse) = ((digitsN (2 ^ wd) p qv).map fun d => [d + 48]).map tx := by
      unfold digitsN
      rw [List.map_map, List.map_map, ← List.map_reverse]
      apply List.map_congr_left
      intro k _
      show tx _ = tx _
      rw [Nat.pow_mul]
    rw [hE] at hS
    with_reducible refine' s_join g4' hS ?hok fun t5 tk5 => ?_
    case hok =>
      rw [List.map_map, List.map_map]
      have : ((digitsN (2 ^ wd) p qv).map (((fun x : Str => x.length) ∘ tx) ∘ fun d => [d + 48])) = (digitsN (2 ^ wd) p qv).map fun _ => 1 := by
        apply List.map_congr_left
        intro d _
        simp [tx_len]
      rw [this, sum_one, List.length_map, List.length_map, digitsN_len, empty_tx, tx_len]
      simp
      omega
    rw [glued_empty]
    iterate 5 walk_at "go"
    have htd4 : IsTup h4 td #[.int qv t1, .int rv t2] := htd.keeps F4.keep
    walk_at "t1"
    with_reducible refine' s_item' (k := rv) ?e ?hk (mark_at _ hr) ?he fun t6 tk6 => ?_
    case e => rfl
    case hk => omega
    case he => rfl
    have e1 : (⟨#[rv + 97]⟩ : Str) = tx [rv + 97] := rfl
    rw [e1]
    have hfl : ((digitsN (2 ^ wd) p qv).map fun d => [d + 48]).flatten = (digitsN (2 ^ wd) p qv).map (· + 48) := by
      generalize digitsN (2 ^ wd) p qv = l
      induction l with
      | nil => rfl
      | cons a r ih => simp [ih]
    rw [hfl]
    with_reducible refine' s_add ?hz fun t7 tk7 => ?_
    case hz => rw [tx_len, tx_len, List.length_map, digitsN_len, sizeLine_eq]; simp; omega
    rw [tx_append]
    iterate 8 walk_at "go"
    rename_i hs8 F8
    with_reducible refine' s_from hs8 ?ha ?hl ?he fun t9 tk9 => ?_
    case ha => rw [List.length_map]; exact hp
    case hl => rw [List.length_map, sizeLine_eq]; omega
    case he => rfl
    with_reducible refine' s_add ?hz fun t10 tk10 => ?_
    case hz => rw [tx_len, tx_len, List.length_append, List.length_drop, List.length_map, List.length_map, digitsN_len, sizeLine_eq]; simp; omega
    rw [tx_append]
    walk_at "go"
    show Q (.str (tx _) t10) _
    rw [← List.map_drop]
    exact q _ _ _ F8.keep
end Mine
end
section
open PySem PyProof.Rows Builtin Builtin.Str StrLaws
namespace Mine

/-- each «xy» gives way to «uv» -/
def rep2 (x y u v : Nat) : List Nat → List Nat
  | c :: d :: r => if c = x ∧ d = y then u :: v :: rep2 x y u v r else c :: rep2 x y u v (d :: r)
  | [c] => [c]
  | [] => []
/-- where «xy» stands -/
def occF (x y : Nat) : List Nat → Nat → List Nat
  | c :: d :: r, a => if c = x ∧ d = y then a :: occF x y r (a + 2) else occF x y (d :: r) (a + 1)
  | [_], _ => []
  | [], _ => []
theorem occF_yes {x y c d : Nat} {r : List Nat} {a : Nat} (h : c = x ∧ d = y) : occF x y (c :: d :: r) a = a :: occF x y r (a + 2) := by rw [occF]; exact if_pos h
theorem occF_no {x y c d : Nat} {r : List Nat} {a : Nat} (h : ¬ (c = x ∧ d = y)) : occF x y (c :: d :: r) a = occF x y (d :: r) (a + 1) := by rw [occF]; exact if_neg h
theorem rep2_yes {x y u v c d : Nat} {r : List Nat} (h : c = x ∧ d = y) : rep2 x y u v (c :: d :: r) = u :: v :: rep2 x y u v r := by rw [rep2]; exact if_pos h
theorem rep2_no {x y u v c d : Nat} {r : List Nat} (h : ¬ (c = x ∧ d = y)) : rep2 x y u v (c :: d :: r) = c :: rep2 x y u v (d :: r) := by rw [rep2]; exact if_neg h
theorem rep2_len (x y u v : Nat) : ∀ l : List Nat, (rep2 x y u v l).length = l.length
  | c :: d :: r => by
    unfold rep2
    split
    · simp [rep2_len x y u v r]
    · simp [rep2_len x y u v (d :: r)]
  | [c] => rfl
  | [] => rfl
theorem rep2_lt {x y u v N : Nat} (hu : u < N) (hv : v < N) : ∀ l : List Nat, (∀ c ∈ l, c < N) → ∀ c ∈ rep2 x y u v l, c < N
  | c :: d :: r, h => by
    unfold rep2
    split
    · intro e he
      rcases List.mem_cons.mp he with rfl | he
      · exact hu
      · rcases List.mem_cons.mp he with rfl | he
        · exact hv
        · exact rep2_lt hu hv r (fun z hz => h z (List.mem_cons_of_mem _ (List.mem_cons_of_mem _ hz))) e he
    · intro e he
      rcases List.mem_cons.mp he with rfl | he
      · exact h _ List.mem_cons_self
      · exact rep2_lt hu hv (d :: r) (fun z hz => h z (List.mem_cons_of_mem _ hz)) e he
  | [c], h => h
  | [], h => h

theorem drop_two {l : List Nat} {b c d : Nat} {r : List Nat} (h : l.drop b = c :: d :: r) : l.drop (b + 1) = d :: r ∧ l.drop (b + 2) = r ∧ b + 2 ≤ l.length := by
  have h1 : l.drop (b + 1) = d :: r := by rw [← List.drop_drop, h]; rfl
  have h2 : l.drop (b + 2) = r := by rw [← List.drop_drop, h]; rfl
  refine ⟨h1, h2, ?_⟩
  have := congrArg List.length h
  rw [List.length_drop, List.length_cons, List.length_cons] at this
  omega

theorem occ_run {x y : Nat} (l : List Nat) : ∀ (k b : Nat) (st : Array Nat × Nat), b + k = l.length + 1 → st.2 ≤ b → st.1.size ≤ b →
    (forIn (List.range' b k) st (occBody (tx l) (tx [x, y]) l.length (l.length + 1))).run.fst.toList = st.1.toList ++ occF x y (l.drop b) b := by
  intro k
  induction k using Nat.strongRecOn with
  | ind k ih =>
    intro b st hk hf hs
    cases k with
    | zero =>
      have : l.drop b = [] := List.drop_eq_nil_of_le (by omega)
      rw [this]
      simp [occF]
    | succ k =>
      have hat : subAt (tx l) (tx [x, y]) b = ((l.drop b).take 2 == [x, y]) := subAt_eq ..
      rw [List.range'_succ, List.forIn_cons]
      rcases hd : l.drop b with _ | ⟨c, _ | ⟨d, r⟩⟩
      · have hno : ¬ (((st.1.size < l.length + 1 ∧ st.2 ≤ b) ∧ b + (tx [x, y]).length ≤ l.length) ∧ subAt (tx l) (tx [x, y]) b = true) := by
          rw [hat, hd]; simp
        unfold occBody
        rw [if_neg hno]
        have := ih k (Nat.lt_succ_self _) (b + 1) st (by omega) (by omega) (by omega)
        have e : l.drop (b + 1) = [] := by rw [← List.drop_drop, hd]; rfl
        rw [e] at this
        exact this
      · have hno : ¬ (((st.1.size < l.length + 1 ∧ st.2 ≤ b) ∧ b + (tx [x, y]).length ≤ l.length) ∧ subAt (tx l) (tx [x, y]) b = true) := by
          rw [hat, hd]; simp
        unfold occBody
        rw [if_neg hno]
        have := ih k (Nat.lt_succ_self _) (b + 1) st (by omega) (by omega) (by omega)
        have e : l.drop (b + 1) = [] := by rw [← List.drop_drop, hd]; rfl
        rw [e] at this
        exact this
      · obtain ⟨h1, h2, h3⟩ := drop_two hd
        by_cases hm : c = x ∧ d = y
        · have hyes : ((st.1.size < l.length + 1 ∧ st.2 ≤ b) ∧ b + (tx [x, y]).length ≤ l.length) ∧ subAt (tx l) (tx [x, y]) b = true := by
            refine ⟨⟨⟨by omega, hf⟩, by rw [tx_len]; simpa using h3⟩, ?_⟩
            rw [hat, hd, hm.1, hm.2]; simp
          have e0 : occF x y (c :: d :: r) b = b :: occF x y r (b + 2) := occF_yes hm
          rw [e0]
          have hs1 : occBody (tx l) (tx [x, y]) l.length (l.length + 1) b st = pure (ForInStep.yield (st.1.push b, b + 2)) := by unfold occBody; rw [if_pos hyes]; rfl
          rw [hs1]
          -- the place behind is taken
          cases k with
          | zero => omega
          | succ k =>
            show (forIn (List.range' (b + 1) (k + 1)) (st.1.push b, b + 2) (occBody (tx l) (tx [x, y]) l.length (l.length + 1))).run.fst.toList = _
            rw [List.range'_succ, List.forIn_cons]
            have hs2 : occBody (tx l) (tx [x, y]) l.length (l.length + 1) (b + 1) (st.1.push b, b + 2) = pure (ForInStep.yield (st.1.push b, b + 2)) := by
              unfold occBody; rw [if_neg (by rintro ⟨⟨⟨_, q⟩, _⟩, _⟩; simp at q)]
            rw [hs2]
            have := ih k (by omega) (b + 2) (st.1.push b, b + 2) (by omega) (Nat.le_refl _) (by simp; omega)
            rw [h2] at this
            refine Eq.trans this ?_
            simp
        · have hno : ¬ (((st.1.size < l.length + 1 ∧ st.2 ≤ b) ∧ b + (tx [x, y]).length ≤ l.length) ∧ subAt (tx l) (tx [x, y]) b = true) := by
            rw [hat, hd]
            rintro ⟨_, q⟩
            simp at q
            exact hm q
          have e0 : occF x y (c :: d :: r) b = occF x y (d :: r) (b + 1) := occF_no hm
          rw [e0]
          unfold occBody
          rw [if_neg hno]
          have := ih k (Nat.lt_succ_self _) (b + 1) st (by omega) (by omega) (by omega)
          rw [h1] at this
          exact this
theorem occ_is {x y : Nat} (l : List Nat) : occurrences (tx l) (tx [x, y]) 0 (tx l).length ((tx l).length + 1) = occF x y l 0 := by
  rw [occ_eq, tx_len]
  have := occ_run (x := x) (y := y) l (l.length + 1) 0 (#[], 0) (by omega) (Nat.le_refl _) (by simp)
  simpa using this

theorem strSub_tx (l : List Nat) (i j : Nat) : strSub (tx l) i j = tx ((l.drop i).take (j - i)) := by
  apply Str.ext'
  apply Array.ext'
  rw [strSub_toList]
  simp [tx]
theorem join_cons' (z a : Str) {b : Str} {r : List Str} {L : List Str} (h : L = b :: r) : Str.join z (a :: L) = a ++ z ++ Str.join z L := by subst h; rfl

theorem join_parts {x y u v : Nat} (l : List Nat) : ∀ (n a b : Nat), (l.drop b).length = n → a ≤ b → b ≤ l.length →
    Str.join (tx [u, v]) (partsFrom (tx l) 2 a (occF x y (l.drop b) b)) = tx ((l.drop a).take (b - a) ++ rep2 x y u v (l.drop b)) := by
  intro n
  induction n using Nat.strongRecOn with
  | ind n ih =>
    intro a b hn hab hb
    have last : ∀ m : List Nat, l.drop b = m → tx ((l.drop a).take ((tx l).length - a)) = tx ((l.drop a).take (b - a) ++ m) := by
      intro m hm
      subst hm
      rw [tx_len, List.take_of_length_le (by simp)]
      have e : l.drop b = (l.drop a).drop (b - a) := by rw [List.drop_drop]; congr 1; omega
      rw [e, List.take_append_drop]
    rcases hd : l.drop b with _ | ⟨c, _ | ⟨d, r⟩⟩
    · show strSub (tx l) a (tx l).length = _
      rw [strSub_tx]; exact last _ hd
    · show strSub (tx l) a (tx l).length = _
      rw [strSub_tx]; exact last _ hd
    · obtain ⟨h1, h2, h3⟩ := drop_two hd
      rw [hd] at hn
      by_cases hm : c = x ∧ d = y
      · have e0 : occF x y (c :: d :: r) b = b :: occF x y r (b + 2) := occF_yes hm
        have e1 : rep2 x y u v (c :: d :: r) = u :: v :: rep2 x y u v r := rep2_yes hm
        rw [e0, e1]
        show Str.join (tx [u, v]) (strSub (tx l) a b :: partsFrom (tx l) 2 (b + 2) (occF x y r (b + 2))) = _
        obtain ⟨p, q, hpq⟩ := partsFrom_ne (tx l) 2 (b + 2) (occF x y r (b + 2))
        rw [join_cons' _ _ hpq, strSub_tx]
        have := ih r.length (by simp at hn; omega) (b + 2) (b + 2) (by rw [h2]) (Nat.le_refl _) h3
        rw [h2] at this
        rw [this, tx_append, tx_append]
        simp
      · have e0 : occF x y (c :: d :: r) b = occF x y (d :: r) (b + 1) := occF_no hm
        have e1 : rep2 x y u v (c :: d :: r) = c :: rep2 x y u v (d :: r) := rep2_no hm
        rw [e0, e1]
        have := ih (d :: r).length (by simp at hn ⊢; omega) a (b + 1) (by rw [h1]) (by omega) (by omega)
        rw [h1] at this
        rw [this]
        congr 1
        have e2 : (l.drop a).take (b + 1 - a) = (l.drop a).take (b - a) ++ [c] := by
          have e3 : b + 1 - a = (b - a) + 1 := by omega
          have e4 : (l.drop a)[b - a]? = some c := by
            rw [List.getElem?_drop, show a + (b - a) = b by omega]
            have e5 : (l.drop b)[0]? = some c := by rw [hd]; rfl
            rw [List.getElem?_drop] at e5
            exact e5
          rw [e3, List.take_add_one, e4]
          rfl
        rw [e2]
        simp
theorem occ_none {x y u v : Nat} : ∀ (l : List Nat) (a : Nat), occF x y l a = [] → rep2 x y u v l = l
  | c :: d :: r, a, h => by
    unfold occF at h
    unfold rep2
    split at h
    · cases h
    · rename_i hm
      rw [if_neg hm, occ_none (d :: r) _ h]
  | [c], _, _ => rfl
  | [], _, _ => rfl

theorem strKind_tx {l : List Nat} (h : ∀ c ∈ l, c < 256) : Builtin.Str.strKind (tx l) = 1 := by
  unfold Builtin.Str.strKind
  rw [if_pos]
  simp only [tx, Array.all_eq_true', List.mem_toArray]
  intro c hc
  simpa using h c hc

/-- split at «xy» and glued with «uv» -/
theorem split_join {x y u v : Nat} {l : List Nat} (hl : ∀ c ∈ l, c < 256) (hx : x < 256) (hy : y < 256) : Txt.join (tx [u, v]) (Txt.split (tx l) (tx [x, y])) = tx (rep2 x y u v l) := by
  unfold Txt.join
  rw [glued_eq_join]
  unfold Txt.split
  rw [occ_is, strKind_tx hl, strKind_tx (l := [x, y]) (by intro c hc; simp at hc; rcases hc with rfl | rfl <;> assumption), tx_len, tx_len]
  by_cases h2 : l.length < 2
  · rw [if_pos (by simp; exact h2)]
    show tx l = _
    rcases l with _ | ⟨c, _ | ⟨d, r⟩⟩
    · rfl
    · rfl
    · simp at h2; omega
  · rw [if_neg (by simp; omega)]
    split
    · rename_i he
      show tx l = _
      rw [occ_none l 0 (by simpa using he)]
    · rw [partsBetween_eq]
      have := join_parts (x := x) (y := y) (u := u) (v := v) l l.length 0 0 (by simp) (Nat.le_refl _) (Nat.zero_le _)
      simpa using this
end Mine
end
section
open PySem PyProof.Rows
set_option maxHeartbeats 2000000
namespace Mine
local macro_rules | `(tactic| walk_at "look") => `(tactic| first | rfl | assumption | exact ((if_neg (by decide)).trans (by assumption)) | exact ((if_neg (by decide)).trans ((if_neg (by decide)).trans (by assumption))) | exact ((if_neg (by decide)).trans ((if_neg (by decide)).trans ((if_neg (by decide)).trans (by assumption)))) | exact ((if_neg (by decide)).trans ((if_neg (by decide)).trans ((if_neg (by decide)).trans ((if_neg (by decide)).trans (by assumption))))) | exact ((if_neg (by decide)).trans ((if_neg (by decide)).trans ((if_neg (by decide)).trans ((if_neg (by decide)).trans ((if_neg (by decide)).trans (by assumption)))))) | exact ((if_neg (by decide)).trans ((if_neg (by decide)).trans ((if_neg (by decide)).trans ((if_neg (by decide)).trans ((if_neg (by decide)).trans ((if_neg (by decide)).trans (by assumption))))))) | exact ((if_neg (by decide)).trans ((if_neg (by decide)).trans ((if_neg (by decide)).trans ((if_neg (by decide)).trans ((if_neg (by decide)).trans ((if_neg (by decide)).trans ((if_neg (by decide)).trans (by assumption)))))))) | exact ((if_neg (by decide)).trans ((if_neg (by decide)).trans ((if_neg (by decide)).trans ((if_neg (by decide)).trans ((if_neg (by decide)).trans ((if_neg (by decide)).trans ((if_neg (by decide)).trans ((if_neg (by decide)).trans (by assumption))))))))) | exact ((if_neg (by decide)).trans ((if_neg (by decide)).trans ((if_neg (by decide)).trans ((if_neg (by decide)).trans ((if_neg (by decide)).trans ((if_neg (by decide)).trans ((if_neg (by decide)).trans ((if_neg (by decide)).trans ((if_neg (by decide)).trans (by assumption)))))))))))
local macro_rules | `(tactic| walk_at "ld") => `(tactic| ((with_reducible refine' x_ld ?F ?k ?l ?v ?d ?_); (case F => assumption); (case k => rfl); (case l => rfl); (case v => walk_at "look"); (case d => rfl)))
local macro_rules | `(tactic| walk_at "ldn") => `(tactic| ((with_reducible refine' x_ldn ?F ?k ?l ?v ?d ?_); (case F => assumption); (case k => rfl); (case l => rfl); (case v => first | assumption | rfl); (case d => rfl)))
local macro_rules | `(tactic| walk_at "ldc") => `(tactic| ((with_reducible refine' x_ldc ?F ?k ?l ?c ?v ?d ?_); (case F => assumption); (case k => rfl); (case l => rfl); (case c => rfl); (case v => first | assumption | rfl); (case d => rfl)))
local macro_rules | `(tactic| walk_at "ldf") => `(tactic| ((with_reducible refine' x_ldf ?k ?l ?c ?v ?d ?e ?_); (case k => rfl); (case l => rfl); (case c => rfl); (case v => assumption); (case d => rfl); (case e => rfl)))
local macro_rules | `(tactic| walk_at "ldk") => `(tactic| ((with_reducible refine' x_ldk ?k ?l ?c ?v ?d ?_); (case k => rfl); (case l => rfl); (case c => rfl); (case v => assumption); (case d => rfl)))
local macro_rules | `(tactic| walk_at "blt") => `(tactic| ((with_reducible refine' x_blt ?B ?K ?g ?b ?k ?x ?m ?d ?_); (case B => assumption); (case K => first | assumption | exact Frm.keep (by assumption)); (case g => rfl); (case b => rfl); (case k => rfl); (case x => rfl); (case m => simp only [bltNames, List.mem_cons]; first | exact .inl rfl | exact .inr (.inl rfl) | exact .inr (.inr (.inl rfl)) | exact .inr (.inr (.inr (.inl rfl))) | exact .inr (.inr (.inr (.inr (.inl rfl)))) | exact .inr (.inr (.inr (.inr (.inr (.inl rfl))))) | exact .inr (.inr (.inr (.inr (.inr (.inr (.inl rfl)))))) | exact .inr (.inr (.inr (.inr (.inr (.inr (.inr (.inl rfl))))))) | exact .inr (.inr (.inr (.inr (.inr (.inr (.inr (.inr (.inl rfl))))))))); (case d => rfl)))
local macro_rules | `(tactic| walk_at "glob") => `(tactic| ((with_reducible refine' x_glob ?B ?K ?g ?k ?x ?m ?d ?_); (case B => assumption); (case K => first | assumption | exact Frm.keep (by assumption)); (case g => rfl); (case k => rfl); (case x => rfl); (case m => simp only [globNames, List.mem_cons]; first | exact .inl rfl | exact .inr (.inl rfl) | exact .inr (.inr (.inl rfl)) | exact .inr (.inr (.inr (.inl rfl))) | exact .inr (.inr (.inr (.inr (.inl rfl)))) | exact .inr (.inr (.inr (.inr (.inr (.inl rfl))))) | exact .inr (.inr (.inr (.inr (.inr (.inr (.inl rfl)))))) | exact .inr (.inr (.inr (.inr (.inr (.inr (.inr (.inl rfl))))))) | exact .inr (.inr (.inr (.inr (.inr (.inr (.inr (.inr (.inl rfl)))))))) | exact .inr (.inr (.inr (.inr (.inr (.inr (.inr (.inr (.inr (.inl rfl)))))))))); (case d => rfl)))
local macro_rules | `(tactic| walk_at "ap") => `(tactic| ((with_reducible refine' meth1 F.plainAttrs_list F.slot_list_append F.type_list_append ?ha ?hb ?hc ?_); (case ha => first | exact ab_const | exact ab_name | exact ab_sub); (case hb => exact rfl); (case hc => exact rfl)))
local macro_rules | `(tactic| walk_at "rv") => `(tactic| ((with_reducible refine' meth0 F.plainAttrs_list F.slot_list_reverse F.type_list_reverse ?ha ?hc ?_); (case ha => first | exact ab_const | exact ab_name | exact ab_sub); (case hc => exact rfl)))
local macro_rules | `(tactic| walk_at "lidx") => `(tactic| ((with_reducible refine' meth1 F.plainAttrs_list F.slot_list_index F.type_list_index ?ha ?hb ?hc ?_); (case ha => first | exact ab_const | exact ab_name | exact ab_sub); (case hb => exact rfl); (case hc => exact rfl)))
local macro_rules | `(tactic| walk_at "args2") => `(tactic| ((with_reducible refine s_cons ?_); walk_at "go"; (with_reducible refine s_cons ?_); walk_at "go"; with_reducible refine s_nil ?_))
local macro_rules | `(tactic| walk_at "exp") => `(tactic| ((with_reducible refine' x_expr ?hi ?hs ?_); (case hi => rfl); (case hs => rfl)))
local macro_rules | `(tactic| walk_at "index") => `(tactic| ((with_reducible refine' meth1 F.plainAttrs_str F.slot_str_index F.type_str_index ?ha ?hb ?hc ?_); (case ha => first | exact ab_const | exact ab_name); (case hb => exact rfl); (case hc => exact rfl)))
local macro_rules | `(tactic| walk_at "join") => `(tactic| ((with_reducible refine' meth1 F.plainAttrs_str F.slot_str_join F.type_str_join ?ha ?hb ?hc ?_); (case ha => first | exact ab_const | exact ab_name | exact ab_sub); (case hb => exact rfl); (case hc => exact rfl)))
local macro_rules | `(tactic| walk_at "split") => `(tactic| ((with_reducible refine' meth1 F.plainAttrs_str F.slot_str_split F.type_str_split ?ha ?hb ?hc ?_); (case ha => first | exact ab_const | exact ab_name | exact ab_sub); (case hb => exact rfl); (case hc => exact rfl)))
local macro_rules | `(tactic| walk_at "bits") => `(tactic| ((with_reducible refine' meth0 F.plainAttrs_int F.slot_int_bit_length F.type_int_bit_length ?ha ?hc ?_); (case ha => first | exact ab_const | exact ab_name | exact ab_sub); (case hc => exact rfl)))
local macro_rules | `(tactic| walk_at "cmp") => `(tactic| ((with_reducible refine' wpAny_isTrue_Compare1 ?_ ?hm); (case hm => rfl)))
local macro_rules | `(tactic| walk_at "t0") => `(tactic| ((with_reducible refine' t_fst ?hl ?he ?_); (case hl => assumption); (case he => rfl)))
local macro_rules | `(tactic| walk_at "t1") => `(tactic| ((with_reducible refine' t_snd ?hl ?he ?_); (case hl => assumption); (case he => rfl)))
local macro_rules | `(tactic| walk_at "sl") => `(tactic| ((with_reducible refine x_sliceEnd fun D' h' tk' k' hs' => ?_); have F' := Frm.grow (by assumption) k'))
local macro_rules | `(tactic| walk_at "st") => `(tactic| ((with_reducible refine' x_st ?F ?k ?l fun h' tk' F' => ?_); (case F => assumption); (case k => rfl); (case l => rfl)))
local macro_rules | `(tactic| walk_at "stc") => `(tactic| ((with_reducible refine' x_stc ?F ?k ?l ?c fun h' tk' F' => ?_); (case F => assumption); (case k => rfl); (case l => rfl); (case c => rfl)))
local macro_rules | `(tactic| walk_at "go") => `(tactic| first
  | with_reducible refine x_cons ?_
  | ((with_reducible refine' x_assign ?hs ?_); (case hs => rfl))
  | with_reducible refine wpAny_BinOp ?_
  | with_reducible refine Subscript_ ?_
  | with_reducible refine x_int fun _ _ => ?_
  | with_reducible refine x_str fun _ _ => ?_
  | walk_at "ld"
  | walk_at "ldc"
  | walk_at "ldn"
  | walk_at "ldk"
  | walk_at "ldf"
  | with_reducible refine x_call ?_
  | with_reducible refine x_slice ?_
  | with_reducible refine p_none ?_
  | walk_at "sl"
  | with_reducible refine p_some ?_
  | with_reducible refine wpAny_UnaryOp ?_
  | with_reducible refine i_neg fun _ _ => ?_
  | with_reducible refine i_add fun _ _ => ?_
  | with_reducible refine i_sub fun _ _ => ?_
  | with_reducible refine i_le ?_
  | with_reducible refine i_lt ?_
  | with_reducible refine i_eq ?_
  | with_reducible refine wpAny_Return_some ?_
  | with_reducible refine x_next ?_
  | with_reducible refine x_ret ?_
  | with_reducible refine strOk ?_
  | with_reducible refine intOk ?_
  | with_reducible refine wpAny_If ?_
  | with_reducible refine wpAny_truthy_bool ?_)

section
variable {prog : Program} {w : World} {A : Around} {E : Value → Shared → Prop} {s : Shared} {h : Heap} {tk : Nat} {env : Env}
theorem w_while {test : Expr} {body : List Stmt} {pos : Pos} {Q : Flow → Shared → Prop} (I : Nat → Shared → Prop)
    (turn : ∀ n s, I n s → wpAny (model prog w) A (isTrue test env (eval test env)) (fun b s₂ => if b then wpAny (model prog w) A (execs body env) (fun f s₃ => f = .next ∧ ∃ m, m < n ∧ I m s₃) (fun _ _ => False) s₂ else Q .next s₂) (fun _ _ => False) s)
    (n : Nat) (hI : I n s) : wpAny (model prog w) A (exec (.While test body [] pos) env) Q E s := by
  refine wpAny_While (codeAny_whileLoop I (fun n s hI => wpAny_mono (turn n s hI) (fun b s₂ h₂ => ?_) fun _ _ x => x.elim) n hI)
  cases b with
  | true =>
    simp only [if_true] at h₂ ⊢
    refine wpAny_mono h₂ (fun f s₃ h₃ => ?_) fun _ _ x => x.elim
    obtain ⟨rfl, h₄⟩ := h₃
    exact h₄
  | false => exact wpAny_execs_nil h₂
theorem b_false {P R : Prop} (h : R) : (if false = true then P else R) := h
theorem b_true {P R : Prop} (h : P) : (if true = true then P else R) := h
theorem truthy_tup {a : Addr} {vs : Array Value} {Q : Bool → Shared → Prop} (ht : IsTup h a vs) (hz : vs.size < 2 ^ 63) (q : ∀ tk', Q (!vs.isEmpty) (mk s h tk')) : wpAny (model prog w) A (truthy (.ref a)) Q E (mk s h tk) :=
  truthy_tuple (s := mk s h tk) ht (by omega) (q _)
end

theorem bind_replace {doc pm : Value} {an : Option Addr} {cd ct : Value} {x : Value} {rest : List Value} :
    bindArgs (fnF 1 doc pm an cd ct) ⟨x :: rest, []⟩ = (newTuple rest >>= fun t => pure [(Str.ofString "text", x), (Str.ofString "pairs", t)]) := by
  cases rest with
  | nil => rfl
  | cons y r => rfl

theorem call_star {prog : Program} {w : World} {A : Around} {E : Value → Shared → Prop} {s : Shared} {h : Heap} {tk : Nat} {Q : Value → Shared → Prop} {x : Value} {rest : List Value}
    (hB : Base h) (hT : Tb h) (hroom : A.depth < recursionLimit) (hsz : rest.length ≤ sizeLine)
    (q : ∀ L D cd h₁ tk', Frm h (envF 1 [] L 21 cd) (fun y => [(Str.ofString "text", x), (Str.ofString "pairs", Value.ref D)].reverse.lookup y) (fun _ => none) [(D, tupO rest.toArray 0)] h₁ →
      wpAny (model prog w) (A.deeper (envF 1 [] L 21 cd)) (execs (bodyOf (stmtAt 1)) (envF 1 [] L 21 cd)) (fun f s' => Q (match f with | .ret v => v | _ => .none) s') (fun _ _ => False) (mk s h₁ tk')) :
    wpAny (model prog w) A (call (.ref 21) (x :: rest)) Q E (mk s h tk) := by
  obtain ⟨oc, od, osl, doc, pm, an, ct, e, hcd⟩ := hB.f21
  obtain ⟨cd, hcde⟩ : ∃ cd, cd = Value.ref 20 := ⟨_, rfl⟩
  rw [← hcde] at e hcd
  refine wpAny_call (codeAny_call_function (s := mk s h tk) hroom e (fd := fnF 1 doc pm an cd ct) (body := bodyOf (stmtAt 1)) rfl rfl rfl rfl hcd ?_)
  rw [bind_replace]
  refine wpAny_bind (wpAny_newTuple (wpAny_pure ?_) hsz)
  have k1 : Kept h (h.push { cls := .type "tuple", data := .seq rest.toArray }) := Kept.push _ _
  refine wpAny_newFunctionEnv (show ∀ x ∈ (scopeOf (stmtAt 1)).names, x.2 ≠ NameKind.cell by decide +kernel) (by intro y hy; simp at hy; rcases hy with rfl | rfl <;> rfl) (fun h₀ hns hsb => ⟨?_, codeAny_func ?_⟩) rfl
  · exact (hB.nolimit.keeps k1).fresh _ hsb
  · have hD : h.get? h.objs.size = none := get?_top _ (Nat.le_refl _)
    have hsz1 : (h.push { cls := .type "tuple", data := .seq rest.toArray }).objs.size = h.objs.size + 1 := Heap.size_push ..
    have hL : h.get? (h.push { cls := .type "tuple", data := .seq rest.toArray }).objs.size = none := get?_top _ (by rw [hsz1]; exact Nat.le_succ _)
    have k2 : Kept (h.push { cls := .type "tuple", data := .seq rest.toArray }) h₀ := fun b o eb => hsb.extBut b o (Nat.ne_of_lt (Heap.lt_size eb)) (Heap.get?_push_of_some _ eb)
    have hne : ¬ (h.push { cls := .type "tuple", data := .seq rest.toArray }).objs.size = h.objs.size := by rw [hsz1]; omega
    refine wpAny_mono (q (h.push { cls := .type "tuple", data := .seq rest.toArray }).objs.size h.objs.size cd h₀ _ ⟨hns, fun p hp => (nomatch hp), fun p hp => ?_, k1.trans k2, fun y hy => ?_, ?_, List.nodup_nil, hT.keeps (k1.trans k2), fun p hp => by rw [List.mem_singleton.mp hp]; exact nc_seq _ _ _⟩) (fun f s' z => z) fun _ _ (z : False) => z.elim
    · rw [List.mem_singleton.mp hp]
      exact k2 _ _ (Heap.get?_push_size _ rfl)
    · have : y = (h.push { cls := .type "tuple", data := .seq rest.toArray }).objs.size ∨ y = h.objs.size := by simpa [mineOf, envF] using hy
      rcases this with rfl | rfl
      · exact ⟨hL, hT.ne hL⟩
      · exact ⟨hD, hT.ne hD⟩
    · simp [mineOf, envF]

/-- a pair of replace: «xy» gives way to «uv» -/
structure Pr where
  x : Nat
  y : Nat
  u : Nat
  v : Nat
def Pr.ok (p : Pr) : Prop := p.x < 256 ∧ p.y < 256 ∧ p.u < 256 ∧ p.v < 256
def Pr.texts (p : Pr) : List Str := [tx [p.x, p.y], tx [p.u, p.v]]
def replL (ps : List Pr) (l : List Nat) : List Nat := ps.foldl (fun l p => rep2 p.x p.y p.u p.v l) l
theorem flat_len (ps : List Pr) : (ps.flatMap Pr.texts).length = 2 * ps.length := by
  induction ps with
  | nil => rfl
  | cons a r ih => rw [List.flatMap_cons, List.length_append, ih]; simp [Pr.texts]; omega
theorem sum_le_mul {α : Type} (l : List α) (f : α → Nat) (N : Nat) (h : ∀ a ∈ l, f a ≤ N) : (l.map f).sum ≤ l.length * N := by
  induction l with
  | nil => simp
  | cons a r ih =>
    have h1 := ih fun b hb => h b (List.mem_cons_of_mem _ hb)
    have h2 := h a List.mem_cons_self
    simp only [List.map_cons, List.sum_cons, List.length_cons, Nat.add_mul, Nat.one_mul]
    omega

theorem replace_call {prog : Program} {w : World} {A : Around} {E : Value → Shared → Prop} {s : Shared} {h : Heap} {tk : Nat} {Q : Value → Shared → Prop} {t : Tok} {l : List Nat} {ps : List Pr} {rest : List Value}
    (hB : Base h) (hT : Tb h) (hroom : A.depth < recursionLimit) (hl : ∀ c ∈ l, c < 256) (hn : l.length ≤ 100) (hp : ∀ p ∈ ps, p.ok) (hr : StrsAre rest (ps.flatMap Pr.texts)) (hpn : ps.length ≤ 100)
    (q : ∀ h' tk' t', Kept h h' → Q (.str (tx (replL ps l)) t') (mk s h' tk')) :
    wpAny (model prog w) A (call (.ref 21) (.str (tx l) t :: rest)) Q E (mk s h tk) := by
  have hrl : rest.length = 2 * ps.length := by
    rw [hr.length, flat_len]
  refine call_star hB hT hroom (by rw [hrl, sizeLine_eq]; omega) fun L D cd h₁ tk₁ G => ?_
  refine x_cons ?_
  refine w_while (fun n s' => ∃ h' tk' m l' t' D' vs n0 ps', s' = mk s h' tk' ∧ Frm h (envF 1 [] L 21 cd) m (fun _ => none) [(D', tupO (List.toArray vs) n0)] h' ∧ m "text" = some (.str (tx l') t') ∧ m "pairs" = some (.ref D') ∧
    StrsAre vs (List.flatMap Pr.texts ps') ∧ n = ps'.length ∧ (∀ p ∈ ps', Pr.ok p) ∧ ps'.length ≤ 100 ∧ (∀ c ∈ l', c < 256) ∧ l'.length ≤ 100 ∧ replL ps' l' = replL ps l) ?_ ps.length
    ⟨h₁, tk₁, _, l, t, D, rest, 0, ps, rfl, G, rfl, rfl, hr, rfl, hp, hpn, hl, hn, rfl⟩
  rintro n s' ⟨h', tk', m, l', t', D', vs, n0, ps', rfl, F, e1, e2, hS, rfl, hp', hpn', hl', hn', hE⟩
  refine wpAny_isTrue_value ?_ rfl
  with_reducible refine' x_ld F ?k ?l e2 ?d ?_
  case k => rfl
  case l => rfl
  case d => rfl
  have hT' := isTup_of (F.get (List.Mem.head _))
  have hvl : vs.length = 2 * ps'.length := by rw [hS.length, flat_len]
  refine truthy_tup hT' (by simp; omega) fun tk2 => ?_
  cases ps' with
  | nil =>
    have hv : vs = [] := by cases vs with | nil => rfl | cons a r => simp at hvl
    subst hv
    rw [show (!(([] : List Value).toArray).isEmpty) = false from rfl]
    refine b_false ?_
    iterate 5 walk_at "go"
    have := q h' tk2 t' F.keep
    rw [← hE] at this
    exact this
  | cons p ps' =>
    obtain ⟨t1, vs1, rfl, hS1⟩ := StrsAre.cons_inv hS
    obtain ⟨t2, vs2, rfl, hS2⟩ := StrsAre.cons_inv hS1
    have hv0 : (Value.str (tx [p.x, p.y]) t1 :: Value.str (tx [p.u, p.v]) t2 :: vs2).toArray[0]? = some (Value.str (tx [p.x, p.y]) t1) := rfl
    have hv1 : (Value.str (tx [p.x, p.y]) t1 :: Value.str (tx [p.u, p.v]) t2 :: vs2).toArray[1]? = some (Value.str (tx [p.u, p.v]) t2) := rfl
    obtain ⟨hx, hy, hu, hv⟩ := hp' p List.mem_cons_self
    have hpe : (!(Value.str (tx [p.x, p.y]) t1 :: Value.str (tx [p.u, p.v]) t2 :: vs2).toArray.isEmpty) = true := by simp
    rw [hpe]
    refine b_true ?_
    iterate 2 walk_at "go"
    walk_at "join"
    iterate 3 walk_at "go"
    with_reducible refine' t_item' (k := 1) ?e hT' ?hk hv1 ?he ?_
    case e => rfl
    case hk => decide
    case he => rfl
    walk_at "go"
    walk_at "split"
    iterate 5 walk_at "go"
    with_reducible refine' t_item' (k := 0) ?e hT' ?hk hv0 ?he ?_
    case e => rfl
    case hk => decide
    case he => rfl
    with_reducible refine' s_split ?h1 ?h2 fun D3 l3 h3 tk3 e3 k3 hl3 => ?_
    case h1 => rfl
    case h2 => rw [tx_len, sizeLine_eq]; omega
    have F3 := F.grow k3
    have hS3 := strsAre_of_values l3
    with_reducible refine' s_join hl3 hS3 ?hok fun t4 tk4 => ?_
    case hok =>
      rw [e3]
      have b1 := sum_le_mul (Txt.split (tx l') (tx [p.x, p.y])) (fun x => x.length) 100 fun a ha => Nat.le_trans (part_short ha) (by rw [tx_len]; exact hn')
      have b2 := split_le (tx l') (tx [p.x, p.y])
      rw [tx_len] at b2
      rw [tx_len]
      simp only [List.length_cons, List.length_nil]
      omega
    rw [e3, split_join hl' hx hy]
    walk_at "st"
    rename_i h5 tk5 F5
    iterate 3 walk_at "go"
    iterate 8 walk_at "go"
    rename_i hs6 F6
    with_reducible refine' u_slice (a := 2) (isTup_of (F6.get (List.Mem.head _))) hs6 ?h1 ?h2 ?h3 ?he fun D7 h7 tk7 k7 n7 g7 => ?_
    case h1 => decide
    case h2 => simp
    case h3 => rw [sizeLine_eq]; simp at hvl hpn' ⊢; omega
    case he => rfl
    have F7 := F6.own_new k7 n7 g7 (nc_seq _ _ _)
    walk_at "st"
    rename_i h8 tk8 F8
    refine x_next (wpAny_execs_nil ⟨rfl, ps'.length, by simp, h8, tk8, _, rep2 p.x p.y p.u p.v l', t4, D7, vs2, 0, ps', rfl, F8.swap.drop, ?_, rfl, hS2, rfl, fun z hz => hp' z (List.mem_cons_of_mem _ hz), by simp at hpn'; omega, rep2_lt hu hv _ hl', by rw [rep2_len]; exact hn', ?_⟩)
    · walk_at "look"
    · rw [← hE]; rfl
end Mine
end
section
open PySem PyProof.Rows
set_option maxHeartbeats 2000000
namespace Mine
local macro_rules | `(tactic| walk_at "look") => `(tactic| first | rfl | assumption | exact ((if_neg (by decide)).trans (by assumption)) | exact ((if_neg (by decide)).trans ((if_neg (by decide)).trans (by assumption))) | exact ((if_neg (by decide)).trans ((if_neg (by decide)).trans ((if_neg (by decide)).trans (by assumption)))) | exact ((if_neg (by decide)).trans ((if_neg (by decide)).trans ((if_neg (by decide)).trans ((if_neg (by decide)).trans (by assumption))))) | exact ((if_neg (by decide)).trans ((if_neg (by decide)).trans ((if_neg (by decide)).trans ((if_neg (by decide)).trans ((if_neg (by decide)).trans (by assumption)))))) | exact ((if_neg (by decide)).trans ((if_neg (by decide)).trans ((if_neg (by decide)).trans ((if_neg (by decide)).trans ((if_neg (by decide)).trans ((if_neg (by decide)).trans (by assumption))))))) | exact ((if_neg (by decide)).trans ((if_neg (by decide)).trans ((if_neg (by decide)).trans ((if_neg (by decide)).trans ((if_neg (by decide)).trans ((if_neg (by decide)).trans ((if_neg (by decide)).trans (by assumption)))))))) | exact ((if_neg (by decide)).trans ((if_neg (by decide)).trans ((if_neg (by decide)).trans ((if_neg (by decide)).trans ((if_neg (by decide)).trans ((if_neg (by decide)).trans ((if_neg (by decide)).trans ((if_neg (by decide)).trans (by assumption))))))))) | exact ((if_neg (by decide)).trans ((if_neg (by decide)).trans ((if_neg (by decide)).trans ((if_neg (by decide)).trans ((if_neg (by decide)).trans ((if_neg (by decide)).trans ((if_neg (by decide)).trans ((if_neg (by decide)).trans ((if_neg (by decide)).trans (by assumption)))))))))))
local macro_rules | `(tactic| walk_at "ld") => `(tactic| ((with_reducible refine' x_ld ?F ?k ?l ?v ?d ?_); (case F => assumption); (case k => rfl); (case l => rfl); (case v => walk_at "look"); (case d => rfl)))
local macro_rules | `(tactic| walk_at "ldn") => `(tactic| ((with_reducible refine' x_ldn ?F ?k ?l ?v ?d ?_); (case F => assumption); (case k => rfl); (case l => rfl); (case v => first | assumption | rfl); (case d => rfl)))
local macro_rules | `(tactic| walk_at "ldc") => `(tactic| ((with_reducible refine' x_ldc ?F ?k ?l ?c ?v ?d ?_); (case F => assumption); (case k => rfl); (case l => rfl); (case c => rfl); (case v => first | assumption | rfl); (case d => rfl)))
local macro_rules | `(tactic| walk_at "ldf") => `(tactic| ((with_reducible refine' x_ldf ?k ?l ?c ?v ?d ?e ?_); (case k => rfl); (case l => rfl); (case c => rfl); (case v => assumption); (case d => rfl); (case e => rfl)))
local macro_rules | `(tactic| walk_at "ldk") => `(tactic| ((with_reducible refine' x_ldk ?k ?l ?c ?v ?d ?_); (case k => rfl); (case l => rfl); (case c => rfl); (case v => assumption); (case d => rfl)))
local macro_rules | `(tactic| walk_at "blt") => `(tactic| ((with_reducible refine' x_blt ?B ?K ?g ?b ?k ?x ?m ?d ?_); (case B => assumption); (case K => first | assumption | exact Frm.keep (by assumption)); (case g => rfl); (case b => rfl); (case k => rfl); (case x => rfl); (case m => simp only [bltNames, List.mem_cons]; first | exact .inl rfl | exact .inr (.inl rfl) | exact .inr (.inr (.inl rfl)) | exact .inr (.inr (.inr (.inl rfl))) | exact .inr (.inr (.inr (.inr (.inl rfl)))) | exact .inr (.inr (.inr (.inr (.inr (.inl rfl))))) | exact .inr (.inr (.inr (.inr (.inr (.inr (.inl rfl)))))) | exact .inr (.inr (.inr (.inr (.inr (.inr (.inr (.inl rfl))))))) | exact .inr (.inr (.inr (.inr (.inr (.inr (.inr (.inr (.inl rfl))))))))); (case d => rfl)))
local macro_rules | `(tactic| walk_at "glob") => `(tactic| ((with_reducible refine' x_glob ?B ?K ?g ?k ?x ?m ?d ?_); (case B => assumption); (case K => first | assumption | exact Frm.keep (by assumption)); (case g => rfl); (case k => rfl); (case x => rfl); (case m => simp only [globNames, List.mem_cons]; first | exact .inl rfl | exact .inr (.inl rfl) | exact .inr (.inr (.inl rfl)) | exact .inr (.inr (.inr (.inl rfl))) | exact .inr (.inr (.inr (.inr (.inl rfl)))) | exact .inr (.inr (.inr (.inr (.inr (.inl rfl))))) | exact .inr (.inr (.inr (.inr (.inr (.inr (.inl rfl)))))) | exact .inr (.inr (.inr (.inr (.inr (.inr (.inr (.inl rfl))))))) | exact .inr (.inr (.inr (.inr (.inr (.inr (.inr (.inr (.inl rfl)))))))) | exact .inr (.inr (.inr (.inr (.inr (.inr (.inr (.inr (.inr (.inl rfl)))))))))); (case d => rfl)))
local macro_rules | `(tactic| walk_at "ap") => `(tactic| ((with_reducible refine' meth1 F.plainAttrs_list F.slot_list_append F.type_list_append ?ha ?hb ?hc ?_); (case ha => first | exact ab_const | exact ab_name | exact ab_sub); (case hb => exact rfl); (case hc => exact rfl)))
local macro_rules | `(tactic| walk_at "rv") => `(tactic| ((with_reducible refine' meth0 F.plainAttrs_list F.slot_list_reverse F.type_list_reverse ?ha ?hc ?_); (case ha => first | exact ab_const | exact ab_name | exact ab_sub); (case hc => exact rfl)))
local macro_rules | `(tactic| walk_at "lidx") => `(tactic| ((with_reducible refine' meth1 F.plainAttrs_list F.slot_list_index F.type_list_index ?ha ?hb ?hc ?_); (case ha => first | exact ab_const | exact ab_name | exact ab_sub); (case hb => exact rfl); (case hc => exact rfl)))
local macro_rules | `(tactic| walk_at "args2") => `(tactic| ((with_reducible refine s_cons ?_); walk_at "go"; (with_reducible refine s_cons ?_); walk_at "go"; with_reducible refine s_nil ?_))
local macro_rules | `(tactic| walk_at "exp") => `(tactic| ((with_reducible refine' x_expr ?hi ?hs ?_); (case hi => rfl); (case hs => rfl)))
local macro_rules | `(tactic| walk_at "index") => `(tactic| ((with_reducible refine' meth1 F.plainAttrs_str F.slot_str_index F.type_str_index ?ha ?hb ?hc ?_); (case ha => first | exact ab_const | exact ab_name); (case hb => exact rfl); (case hc => exact rfl)))
local macro_rules | `(tactic| walk_at "join") => `(tactic| ((with_reducible refine' meth1 F.plainAttrs_str F.slot_str_join F.type_str_join ?ha ?hb ?hc ?_); (case ha => first | exact ab_const | exact ab_name | exact ab_sub); (case hb => exact rfl); (case hc => exact rfl)))
local macro_rules | `(tactic| walk_at "split") => `(tactic| ((with_reducible refine' meth1 F.plainAttrs_str F.slot_str_split F.type_str_split ?ha ?hb ?hc ?_); (case ha => first | exact ab_const | exact ab_name | exact ab_sub); (case hb => exact rfl); (case hc => exact rfl)))
local macro_rules | `(tactic| walk_at "bits") => `(tactic| ((with_reducible refine' meth0 F.plainAttrs_int F.slot_int_bit_length F.type_int_bit_length ?ha ?hc ?_); (case ha => first | exact ab_const | exact ab_name | exact ab_sub); (case hc => exact rfl)))
local macro_rules | `(tactic| walk_at "cmp") => `(tactic| ((with_reducible refine' wpAny_isTrue_Compare1 ?_ ?hm); (case hm => rfl)))
local macro_rules | `(tactic| walk_at "t0") => `(tactic| ((with_reducible refine' t_fst ?hl ?he ?_); (case hl => assumption); (case he => rfl)))
local macro_rules | `(tactic| walk_at "t1") => `(tactic| ((with_reducible refine' t_snd ?hl ?he ?_); (case hl => assumption); (case he => rfl)))
local macro_rules | `(tactic| walk_at "sl") => `(tactic| ((with_reducible refine x_sliceEnd fun D' h' tk' k' hs' => ?_); have F' := Frm.grow (by assumption) k'))
local macro_rules | `(tactic| walk_at "st") => `(tactic| ((with_reducible refine' x_st ?F ?k ?l fun h' tk' F' => ?_); (case F => assumption); (case k => rfl); (case l => rfl)))
local macro_rules | `(tactic| walk_at "stc") => `(tactic| ((with_reducible refine' x_stc ?F ?k ?l ?c fun h' tk' F' => ?_); (case F => assumption); (case k => rfl); (case l => rfl); (case c => rfl)))
local macro_rules | `(tactic| walk_at "go") => `(tactic| first
  | with_reducible refine x_cons ?_
  | ((with_reducible refine' x_assign ?hs ?_); (case hs => rfl))
  | with_reducible refine wpAny_BinOp ?_
  | with_reducible refine Subscript_ ?_
  | with_reducible refine x_int fun _ _ => ?_
  | with_reducible refine x_str fun _ _ => ?_
  | walk_at "ld"
  | walk_at "ldc"
  | walk_at "ldn"
  | walk_at "ldk"
  | walk_at "ldf"
  | with_reducible refine x_call ?_
  | with_reducible refine x_slice ?_
  | with_reducible refine p_none ?_
  | walk_at "sl"
  | with_reducible refine p_some ?_
  | with_reducible refine wpAny_UnaryOp ?_
  | with_reducible refine i_neg fun _ _ => ?_
  | with_reducible refine i_add fun _ _ => ?_
  | with_reducible refine i_sub fun _ _ => ?_
  | with_reducible refine i_le ?_
  | with_reducible refine i_lt ?_
  | with_reducible refine i_eq ?_
  | with_reducible refine wpAny_Return_some ?_
  | with_reducible refine x_next ?_
  | with_reducible refine x_ret ?_
  | with_reducible refine strOk ?_
  | with_reducible refine intOk ?_
  | with_reducible refine wpAny_If ?_
  | with_reducible refine wpAny_truthy_bool ?_)
section
variable {prog : Program} {w : World} {A : Around} {E : Value → Shared → Prop} {s : Shared} {h : Heap} {tk : Nat} {env : Env} {Q : Value → Shared → Prop}
theorem i_bits {a : Int} {t : Tok} (q : ∀ t' tk', Q (.int (Builtin.Int.intBits a) t') (mk s h tk')) : wpAny (model prog w) A (call (.builtin "int.bit_length") [.int a t]) Q E (mk s h tk) :=
  call_gives F.slot_int_bit_length (typeIs_int _ _ _) F.entry_int_bit_length (F.args_int_bit_length_1 _) (AutoIntG2.int_bit_length_int_0 a t) (q _ _)
theorem i_divmod {a b : Nat} {t u : Tok} (hb : 0 < b) (hb2 : b < 1073741824)
    (q : ∀ D h' tk' t1 t2, Kept h h' → h.get? D = none → h'.get? D = some (tupO #[.int (a / b : Nat) t1, .int (a % b : Nat) t2] 0) → Q (.ref D) (mk s h' tk')) :
    wpAny (model prog w) A (call (.builtin "divmod") [.int a t, .int b u]) Q E (mk s h tk) := by
  refine divmod_int (s := mk s h tk) (by omega) ?_ (Or.inl (PyProof.noPylong_small (by omega)))
  have e1 : (a : Int).fdiv b = ((a / b : Nat) : Int) := by rw [Int.fdiv_eq_ediv_of_nonneg _ (by omega)]; rfl
  have e2 : (a : Int).fmod b = ((a % b : Nat) : Int) := by rw [Int.fmod_eq_emod_of_nonneg _ (by omega)]; rfl
  rw [e1, e2]
  exact q _ _ _ _ _ (Kept.push _ _) (get?_top _ (Nat.le_refl _)) (Heap.get?_push_size _ rfl)
end
theorem bits_le {a : Nat} (h : a < 2 ^ 64) : Builtin.Int.intBits (a : Int) ≤ 64 := intBits_le_64 (by omega) (by omega)

theorem div2_call {prog : Program} {w : World} {A : Around} {E : Value → Shared → Prop} {s : Shared} {h : Heap} {tk : Nat} {Q : Value → Shared → Prop} {a b n : Nat} {t u v : Tok}
    (hB : Base h) (hT : Tb h) (hroom : A.depth < recursionLimit) (ha : a < 2 ^ 64) (hb : 0 < b) (hb2 : b < 1073741824)
    (q : ∀ D h' tk' t1 t2, Kept h h' → h.get? D = none → h'.get? D = some (tupO #[.int (a / b : Nat) t1, .int (a % b : Nat) t2] 0) → Q (.ref D) (mk s h' tk')) :
    wpAny (model prog w) A (call (.ref 28) [.int a t, .int b u, .int n v]) Q E (mk s h tk) := by
  refine call_def hB.f28 hB.nolimit hT hroom (binds := [("a", .int a t), ("b", .int b u), ("n", .int n v)]) (fun _ _ _ _ _ => rfl) (by decide +kernel) (locs (by rfl)) rfl rfl rfl (fun L cd h₁ tk _ G => ?_)
  replace G : Frm h (envF 4 [] L 28 cd) (fun x => [(Str.ofString "a", Value.int a t), (Str.ofString "b", Value.int b u), (Str.ofString "n", Value.int n v)].reverse.lookup x) (fun _ => none) [] h₁ := G
  refine x_cons ?_
  walk_at "go"
  walk_at "cmp"
  walk_at "go"
  walk_at "bits"
  iterate 2 walk_at "go"
  with_reducible refine i_bits fun _ _ => ?_
  iterate 2 walk_at "go"
  refine Base.divLimit (s := mk s h₁ _) hB G.keep rfl rfl rfl fun tl => ?_
  walk_at "go"
  walk_at "go"
  rw [decide_eq_true (by have := bits_le ha; omega)]
  refine b_true ?_
  iterate 3 walk_at "go"
  walk_at "blt"
  with_reducible refine' b_call2 ?_ ?_ ?_
  · rfl
  · rfl
  iterate 2 walk_at "go"
  with_reducible refine i_divmod hb hb2 fun D h' tk' t1 t2 k n0 g => ?_
  walk_at "go"
  refine q D h' _ t1 t2 (G.keep.trans k) (G.keep.none n0) g
end Mine
end
section
open PySem PyProof.Rows
set_option maxHeartbeats 2000000
namespace Mine
local macro_rules | `(tactic| walk_at "look") => `(tactic| first | rfl | assumption | exact ((if_neg (by decide)).trans (by assumption)) | exact ((if_neg (by decide)).trans ((if_neg (by decide)).trans (by assumption))) | exact ((if_neg (by decide)).trans ((if_neg (by decide)).trans ((if_neg (by decide)).trans (by assumption)))) | exact ((if_neg (by decide)).trans ((if_neg (by decide)).trans ((if_neg (by decide)).trans ((if_neg (by decide)).trans (by assumption))))) | exact ((if_neg (by decide)).trans ((if_neg (by decide)).trans ((if_neg (by decide)).trans ((if_neg (by decide)).trans ((if_neg (by decide)).trans (by assumption)))))) | exact ((if_neg (by decide)).trans ((if_neg (by decide)).trans ((if_neg (by decide)).trans ((if_neg (by decide)).trans ((if_neg (by decide)).trans ((if_neg (by decide)).trans (by assumption))))))) | exact ((if_neg (by decide)).trans ((if_neg (by decide)).trans ((if_neg (by decide)).trans ((if_neg (by decide)).trans ((if_neg (by decide)).trans ((if_neg (by decide)).trans ((if_neg (by decide)).trans (by assumption)))))))) | exact ((if_neg (by decide)).trans ((if_neg (by decide)).trans ((if_neg (by decide)).trans ((if_neg (by decide)).trans ((if_neg (by decide)).trans ((if_neg (by decide)).trans ((if_neg (by decide)).trans ((if_neg (by decide)).trans (by assumption))))))))) | exact ((if_neg (by decide)).trans ((if_neg (by decide)).trans ((if_neg (by decide)).trans ((if_neg (by decide)).trans ((if_neg (by decide)).trans ((if_neg (by decide)).trans ((if_neg (by decide)).trans ((if_neg (by decide)).trans ((if_neg (by decide)).trans (by assumption)))))))))))
local macro_rules | `(tactic| walk_at "ld") => `(tactic| ((with_reducible refine' x_ld ?F ?k ?l ?v ?d ?_); (case F => assumption); (case k => rfl); (case l => rfl); (case v => walk_at "look"); (case d => rfl)))
local macro_rules | `(tactic| walk_at "ldn") => `(tactic| ((with_reducible refine' x_ldn ?F ?k ?l ?v ?d ?_); (case F => assumption); (case k => rfl); (case l => rfl); (case v => first | assumption | rfl); (case d => rfl)))
local macro_rules | `(tactic| walk_at "ldc") => `(tactic| ((with_reducible refine' x_ldc ?F ?k ?l ?c ?v ?d ?_); (case F => assumption); (case k => rfl); (case l => rfl); (case c => rfl); (case v => first | assumption | rfl); (case d => rfl)))
local macro_rules | `(tactic| walk_at "ldf") => `(tactic| ((with_reducible refine' x_ldf ?k ?l ?c ?v ?d ?e ?_); (case k => rfl); (case l => rfl); (case c => rfl); (case v => assumption); (case d => rfl); (case e => rfl)))
local macro_rules | `(tactic| walk_at "ldk") => `(tactic| ((with_reducible refine' x_ldk ?k ?l ?c ?v ?d ?_); (case k => rfl); (case l => rfl); (case c => rfl); (case v => assumption); (case d => rfl)))
local macro_rules | `(tactic| walk_at "blt") => `(tactic| ((with_reducible refine' x_blt ?B ?K ?g ?b ?k ?x ?m ?d ?_); (case B => assumption); (case K => first | assumption | exact Frm.keep (by assumption)); (case g => rfl); (case b => rfl); (case k => rfl); (case x => rfl); (case m => simp only [bltNames, List.mem_cons]; first | exact .inl rfl | exact .inr (.inl rfl) | exact .inr (.inr (.inl rfl)) | exact .inr (.inr (.inr (.inl rfl))) | exact .inr (.inr (.inr (.inr (.inl rfl)))) | exact .inr (.inr (.inr (.inr (.inr (.inl rfl))))) | exact .inr (.inr (.inr (.inr (.inr (.inr (.inl rfl)))))) | exact .inr (.inr (.inr (.inr (.inr (.inr (.inr (.inl rfl))))))) | exact .inr (.inr (.inr (.inr (.inr (.inr (.inr (.inr (.inl rfl))))))))); (case d => rfl)))
local macro_rules | `(tactic| walk_at "glob") => `(tactic| ((with_reducible refine' x_glob ?B ?K ?g ?k ?x ?m ?d ?_); (case B => assumption); (case K => first | assumption | exact Frm.keep (by assumption)); (case g => rfl); (case k => rfl); (case x => rfl); (case m => simp only [globNames, List.mem_cons]; first | exact .inl rfl | exact .inr (.inl rfl) | exact .inr (.inr (.inl rfl)) | exact .inr (.inr (.inr (.inl rfl))) | exact .inr (.inr (.inr (.inr (.inl rfl)))) | exact .inr (.inr (.inr (.inr (.inr (.inl rfl))))) | exact .inr (.inr (.inr (.inr (.inr (.inr (.inl rfl)))))) | exact .inr (.inr (.inr (.inr (.inr (.inr (.inr (.inl rfl))))))) | exact .inr (.inr (.inr (.inr (.inr (.inr (.inr (.inr (.inl rfl)))))))) | exact .inr (.inr (.inr (.inr (.inr (.inr (.inr (.inr (.inr (.inl rfl)))))))))); (case d => rfl)))
local macro_rules | `(tactic| walk_at "ap") => `(tactic| ((with_reducible refine' meth1 F.plainAttrs_list F.slot_list_append F.type_list_append ?ha ?hb ?hc ?_); (case ha => first | exact ab_const | exact ab_name | exact ab_sub); (case hb => exact rfl); (case hc => exact rfl)))
local macro_rules | `(tactic| walk_at "rv") => `(tactic| ((with_reducible refine' meth0 F.plainAttrs_list F.slot_list_reverse F.type_list_reverse ?ha ?hc ?_); (case ha => first | exact ab_const | exact ab_name | exact ab_sub); (case hc => exact rfl)))
local macro_rules | `(tactic| walk_at "lidx") => `(tactic| ((with_reducible refine' meth1 F.plainAttrs_list F.slot_list_index F.type_list_index ?ha ?hb ?hc ?_); (case ha => first | exact ab_const | exact ab_name | exact ab_sub); (case hb => exact rfl); (case hc => exact rfl)))
local macro_rules | `(tactic| walk_at "args2") => `(tactic| ((with_reducible refine s_cons ?_); walk_at "go"; (with_reducible refine s_cons ?_); walk_at "go"; with_reducible refine s_nil ?_))
local macro_rules | `(tactic| walk_at "exp") => `(tactic| ((with_reducible refine' x_expr ?hi ?hs ?_); (case hi => rfl); (case hs => rfl)))
local macro_rules | `(tactic| walk_at "index") => `(tactic| ((with_reducible refine' meth1 F.plainAttrs_str F.slot_str_index F.type_str_index ?ha ?hb ?hc ?_); (case ha => first | exact ab_const | exact ab_name); (case hb => exact rfl); (case hc => exact rfl)))
local macro_rules | `(tactic| walk_at "join") => `(tactic| ((with_reducible refine' meth1 F.plainAttrs_str F.slot_str_join F.type_str_join ?ha ?hb ?hc ?_); (case ha => first | exact ab_const | exact ab_name | exact ab_sub); (case hb => exact rfl); (case hc => exact rfl)))
local macro_rules | `(tactic| walk_at "split") => `(tactic| ((with_reducible refine' meth1 F.plainAttrs_str F.slot_str_split F.type_str_split ?ha ?hb ?hc ?_); (case ha => first | exact ab_const | exact ab_name | exact ab_sub); (case hb => exact rfl); (case hc => exact rfl)))
local macro_rules | `(tactic| walk_at "bits") => `(tactic| ((with_reducible refine' meth0 F.plainAttrs_int F.slot_int_bit_length F.type_int_bit_length ?ha ?hc ?_); (case ha => first | exact ab_const | exact ab_name | exact ab_sub); (case hc => exact rfl)))
local macro_rules | `(tactic| walk_at "cmp") => `(tactic| ((with_reducible refine' wpAny_isTrue_Compare1 ?_ ?hm); (case hm => rfl)))
local macro_rules | `(tactic| walk_at "t0") => `(tactic| ((with_reducible refine' t_fst ?hl ?he ?_); (case hl => assumption); (case he => rfl)))
local macro_rules | `(tactic| walk_at "t1") => `(tactic| ((with_reducible refine' t_snd ?hl ?he ?_); (case hl => assumption); (case he => rfl)))
local macro_rules | `(tactic| walk_at "sl") => `(tactic| ((with_reducible refine x_sliceEnd fun D' h' tk' k' hs' => ?_); have F' := Frm.grow (by assumption) k'))
local macro_rules | `(tactic| walk_at "st") => `(tactic| ((with_reducible refine' x_st ?F ?k ?l fun h' tk' F' => ?_); (case F => assumption); (case k => rfl); (case l => rfl)))
local macro_rules | `(tactic| walk_at "stc") => `(tactic| ((with_reducible refine' x_stc ?F ?k ?l ?c fun h' tk' F' => ?_); (case F => assumption); (case k => rfl); (case l => rfl); (case c => rfl)))
local macro_rules | `(tactic| walk_at "go") => `(tactic| first
  | with_reducible refine x_cons ?_
  | ((with_reducible refine' x_assign ?hs ?_); (case hs => rfl))
  | with_reducible refine wpAny_BinOp ?_
  | with_reducible refine Subscript_ ?_
  | with_reducible refine x_int fun _ _ => ?_
  | with_reducible refine x_str fun _ _ => ?_
  | walk_at "ld"
  | walk_at "ldc"
  | walk_at "ldn"
  | walk_at "ldk"
  | walk_at "ldf"
  | with_reducible refine x_call ?_
  | with_reducible refine x_slice ?_
  | with_reducible refine p_none ?_
  | walk_at "sl"
  | with_reducible refine p_some ?_
  | with_reducible refine wpAny_UnaryOp ?_
  | with_reducible refine i_neg fun _ _ => ?_
  | with_reducible refine i_add fun _ _ => ?_
  | with_reducible refine i_sub fun _ _ => ?_
  | with_reducible refine i_le ?_
  | with_reducible refine i_lt ?_
  | with_reducible refine i_eq ?_
  | with_reducible refine wpAny_Return_some ?_
  | with_reducible refine x_next ?_
  | with_reducible refine x_ret ?_
  | with_reducible refine strOk ?_
  | with_reducible refine intOk ?_
  | with_reducible refine wpAny_If ?_
  | with_reducible refine wpAny_truthy_bool ?_)

/-! the two tables hidden -/
def ghost (h : Heap) : Heap := PySem.W.hideAll h [37, 44]
section
variable {h : Heap}
theorem ghost_kept (h : Heap) : Kept (ghost h) h := fun _ _ e => PySem.W.of_hideAll _ e
theorem ghost_get {a : Addr} {o : Obj} (h1 : a ≠ 37) (h2 : a ≠ 44) (e : h.get? a = some o) : (ghost h).get? a = some o :=
  PySem.W.hideAll_get _ e (by simp [h1, h2])
theorem ghost37 (h : Heap) : (ghost h).get? 37 = none := PySem.W.hideAll_none _ (by simp)
theorem ghost44 (h : Heap) : (ghost h).get? 44 = none := PySem.W.hideAll_none _ (by simp)
theorem ghost_ns {a : Addr} {m : Str → Option Value} (h1 : a ≠ 37) (h2 : a ≠ 44) (x : h.Ns a m) : (ghost h).Ns a m := let ⟨o, es, ep, e, r⟩ := x; ⟨o, es, ep, ghost_get h1 h2 e, r⟩
theorem ghost_fn {a c : Addr} {i : Nat} (h1 : a ≠ 37) (h2 : a ≠ 44) (h3 : c ≠ 37) (h4 : c ≠ 44) (x : FnAt h a i c) : FnAt (ghost h) a i c := by
  obtain ⟨oc, od, osl, doc, pm, an, ct, e, c', o', vs, t, e1, e2, r⟩ := x
  cases e1
  exact ⟨oc, od, osl, doc, pm, an, ct, ghost_get h1 h2 e, c, o', vs, t, rfl, ghost_get h3 h4 e2, r⟩
theorem ghost_hd {c P : Addr} (h1 : c ≠ 37) (h2 : c ≠ 44) (x : PySem.W.CodeHd h c P) : PySem.W.CodeHd (ghost h) c P := by
  obtain ⟨o, vs, file, tf, flags, tg, inF, text, tt, e, r⟩ := x
  exact ⟨o, vs, file, tf, flags, tg, inF, text, tt, ghost_get h1 h2 e, r⟩
theorem Base.ghost (B : Base h) : Base (ghost h) where
  f21 := ghost_fn (by decide) (by decide) (by decide) (by decide) B.f21
  f28 := ghost_fn (by decide) (by decide) (by decide) (by decide) B.f28
  f42 := ghost_fn (by decide) (by decide) (by decide) (by decide) B.f42
  f49 := ghost_fn (by decide) (by decide) (by decide) (by decide) B.f49
  f56 := ghost_fn (by decide) (by decide) (by decide) (by decide) B.f56
  f63 := ghost_fn (by decide) (by decide) (by decide) (by decide) B.f63
  f70 := ghost_fn (by decide) (by decide) (by decide) (by decide) B.f70
  f75 := ghost_fn (by decide) (by decide) (by decide) (by decide) B.f75
  f82 := ghost_fn (by decide) (by decide) (by decide) (by decide) B.f82
  nolimit := let ⟨mc, a, r⟩ := B.nolimit; ⟨mc, ghost_ns (by decide) (by decide) a, r⟩
  c37 := ghost_hd (by decide) (by decide) B.c37
  c44 := ghost_hd (by decide) (by decide) B.c44
  top := by
    obtain ⟨mg, mb, a, c, r1, r2, r3, ⟨bm, o, b1, b2, b3, b4, b5, b6⟩, ⟨bm', o', b1', b2', b3', b4', b5', b6'⟩⟩ := B.top
    have : bm' = bm := by rw [b1] at b1'; cases b1'; rfl
    subst this
    exact ⟨mg, mb, ghost_ns (by decide) (by decide) a, ghost_ns (by decide) (by decide) c, r1, r2, r3, ⟨bm', o, b1, b2, b3, b4, ghost_get b4 b4' b5, b6⟩, ⟨bm', o', b1', b2', b3', b4', ghost_get b4 b4' b5', b6'⟩⟩
end

theorem codeRec_ne_tab {h : Heap} {c P : Addr} {q : Str} {ps : Array Value} (hP : h.get? P = some (PySem.W.tabObj ps)) (ht : TriplesOk ps.toList) (x : h.CodeRec (.ref c) q) : c ≠ P := by
  obtain ⟨c', o, vs, t, e, ho, hd, hv⟩ := x
  cases e
  intro e
  rw [e, hP] at ho
  cases ho
  cases hd
  have hv' : ps.toList[1]? = some (.str q t) := by rw [Array.getElem?_toList]; exact hv
  rcases hl : ps.toList with _ | ⟨a, _ | ⟨b, r⟩⟩
  · rw [hl] at hv'; cases hv'
  · rw [hl] at hv'; cases hv'
  · rw [hl] at hv' ht
    simp at hv'
    subst hv'
    cases a <;> first | cases ht | skip
    all_goals (rcases r with _ | ⟨z, r⟩ <;> cases ht)
theorem TabSt.other {h h' : Heap} {P P' : Addr} {i i' : Nat} (x : TabSt h P' i') (y : TabSt h P i) (hne : P' ≠ P) (k : Heap.ExtBut P h h') : TabSt h' P' i' := by
  obtain ⟨ps, e, ht, hc⟩ := x
  obtain ⟨ps₂, e₂, ht₂, _⟩ := y
  refine ⟨ps, k _ _ hne e, ht, hc.imp id fun ⟨c', e1, e3⟩ => ⟨c', e1, ?_⟩⟩
  have ne := codeRec_ne_tab e₂ ht₂ e3
  obtain ⟨c₂, o, vs, t, q1, ho, r⟩ := e3
  cases q1
  exact ⟨c', o, vs, t, rfl, k _ _ ne ho, r⟩
theorem triples_snoc : ∀ (l : List Value) (a b : Int) (c : Value), TriplesOk l → TriplesOk (l ++ [rawInt a, rawInt b, c])
  | [], _, _, _, _ => trivial
  | .int _ _ :: .int _ _ :: _ :: r, a, b, c, h => triples_snoc r a b c h

/-- a nested def made: its code is new, or was there -/
theorem make_inner {M : Model} {A : Around} {E : Value → Shared → Prop} {s : Shared} {h : Heap} {tk : Nat} {Q : Value → Shared → Prop} {env : Env} {i : Nat} {c P : Addr} {mg : Str → Option Value} {name : Str} {params : Arguments} {body : List Stmt} {scope : Scope} {clos : List (Str × Addr)} {fl : Nat}
    (hC : PySem.W.CodeHd h c P) (hge0 : env.globals = mainGlobals) (hg : h.Ns mainGlobals mg) (hb : h.BuiltinsAt mg P) (hcode : env.code = .ref c) (hT : TabSt h P i) (hcl : closureFor scope env = pure clos)
    (q : ∀ f c' doc ctv pm h' tk', Heap.ExtBut P h h' → TabSt h' P i → h.get? f = none → h'.get? f = some (PySem.W.fnMade name (qualI i) params body scope clos doc pm c' ctv) → h'.CodeRec (.ref c') (qualI i) → Q (.ref f) (mk s h' tk')) :
    wpAny M A (makeFunction name (qualI i) params (.stmts body) scope env [] [] [] (posOf (innerOf i)) fl) Q E (mk s h tk) := by
  obtain ⟨ps, hP, ht, hc⟩ := hT
  have hgP : mainGlobals ≠ P := fun q => by
    obtain ⟨o, es, ep, e, hd, _⟩ := hg
    rw [q, hP] at e; cases e; cases hd
  rcases hc with hn | ⟨c', hf, hrec⟩
  · refine PySem.W.makeFunction_K (s := mk s h tk) hcl hge0 hg hcode hC hP ht hn hgP hb fun c' ctv doc h' tk' hx hge hlt hrec htb => ?_
    have k : Kept h' (h'.push (PySem.W.fnMade name (qualI i) params body scope clos doc ((mg "__name__").getD .none) c' ctv)) := Kept.push _ _
    refine q _ c' doc ctv _ _ tk' (fun a o ne e => k _ _ (hx a o ne e)) ⟨_, k _ _ htb, ?_, .inr ⟨c', ?_, hrec.keeps k⟩⟩ (get?_top _ ?_) (Heap.get?_push_size _ rfl) (hrec.keeps k)
    · rw [Array.toList_append]; exact triples_snoc _ _ _ _ ht
    · rw [Array.toList_append]; exact codeAmong_snoc _ ht hn
    · exact Nat.le_of_lt (Nat.lt_of_le_of_lt hge hlt)
  · refine PySem.W.makeFunction_hit (s := mk s h tk) hcl hge0 hg hcode hC hP ht hf hb fun ctv doc h' tk' hk hsz => ?_
    have k : Kept h (h'.push (PySem.W.fnMade name (qualI i) params body scope clos doc ((mg "__name__").getD .none) c' ctv)) := fun a o e => Heap.get?_push_of_some _ (hk a o e)
    exact q _ c' doc ctv _ _ tk' (fun a o _ e => k _ _ e) ⟨ps, k _ _ hP, ht, .inr ⟨c', hf, hrec.keeps k⟩⟩ (get?_top _ hsz) (Heap.get?_push_size _ rfl) (hrec.keeps k)
end Mine
end
section
open PySem PyProof.Rows
set_option maxHeartbeats 2000000
namespace Mine
local macro_rules | `(tactic| walk_at "look") => `(tactic| first | rfl | assumption | exact ((if_neg (by decide)).trans (by assumption)) | exact ((if_neg (by decide)).trans ((if_neg (by decide)).trans (by assumption))) | exact ((if_neg (by decide)).trans ((if_neg (by decide)).trans ((if_neg (by decide)).trans (by assumption)))) | exact ((if_neg (by decide)).trans ((if_neg (by decide)).trans ((if_neg (by decide)).trans ((if_neg (by decide)).trans (by assumption))))) | exact ((if_neg (by decide)).trans ((if_neg (by decide)).trans ((if_neg (by decide)).trans ((if_neg (by decide)).trans ((if_neg (by decide)).trans (by assumption)))))) | exact ((if_neg (by decide)).trans ((if_neg (by decide)).trans ((if_neg (by decide)).trans ((if_neg (by decide)).trans ((if_neg (by decide)).trans ((if_neg (by decide)).trans (by assumption))))))) | exact ((if_neg (by decide)).trans ((if_neg (by decide)).trans ((if_neg (by decide)).trans ((if_neg (by decide)).trans ((if_neg (by decide)).trans ((if_neg (by decide)).trans ((if_neg (by decide)).trans (by assumption)))))))) | exact ((if_neg (by decide)).trans ((if_neg (by decide)).trans ((if_neg (by decide)).trans ((if_neg (by decide)).trans ((if_neg (by decide)).trans ((if_neg (by decide)).trans ((if_neg (by decide)).trans ((if_neg (by decide)).trans (by assumption))))))))) | exact ((if_neg (by decide)).trans ((if_neg (by decide)).trans ((if_neg (by decide)).trans ((if_neg (by decide)).trans ((if_neg (by decide)).trans ((if_neg (by decide)).trans ((if_neg (by decide)).trans ((if_neg (by decide)).trans ((if_neg (by decide)).trans (by assumption)))))))))))
local macro_rules | `(tactic| walk_at "ld") => `(tactic| ((with_reducible refine' x_ld ?F ?k ?l ?v ?d ?_); (case F => assumption); (case k => rfl); (case l => rfl); (case v => walk_at "look"); (case d => rfl)))
local macro_rules | `(tactic| walk_at "ldn") => `(tactic| ((with_reducible refine' x_ldn ?F ?k ?l ?v ?d ?_); (case F => assumption); (case k => rfl); (case l => rfl); (case v => first | assumption | rfl); (case d => rfl)))
local macro_rules | `(tactic| walk_at "ldc") => `(tactic| ((with_reducible refine' x_ldc ?F ?k ?l ?c ?v ?d ?_); (case F => assumption); (case k => rfl); (case l => rfl); (case c => rfl); (case v => first | assumption | rfl); (case d => rfl)))
local macro_rules | `(tactic| walk_at "ldf") => `(tactic| ((with_reducible refine' x_ldf ?k ?l ?c ?v ?d ?e ?_); (case k => rfl); (case l => rfl); (case c => rfl); (case v => assumption); (case d => rfl); (case e => rfl)))
local macro_rules | `(tactic| walk_at "ldk") => `(tactic| ((with_reducible refine' x_ldk ?k ?l ?c ?v ?d ?_); (case k => rfl); (case l => rfl); (case c => rfl); (case v => assumption); (case d => rfl)))
local macro_rules | `(tactic| walk_at "blt") => `(tactic| ((with_reducible refine' x_blt ?B ?K ?g ?b ?k ?x ?m ?d ?_); (case B => assumption); (case K => first | assumption | exact Frm.keep (by assumption)); (case g => rfl); (case b => rfl); (case k => rfl); (case x => rfl); (case m => simp only [bltNames, List.mem_cons]; first | exact .inl rfl | exact .inr (.inl rfl) | exact .inr (.inr (.inl rfl)) | exact .inr (.inr (.inr (.inl rfl))) | exact .inr (.inr (.inr (.inr (.inl rfl)))) | exact .inr (.inr (.inr (.inr (.inr (.inl rfl))))) | exact .inr (.inr (.inr (.inr (.inr (.inr (.inl rfl)))))) | exact .inr (.inr (.inr (.inr (.inr (.inr (.inr (.inl rfl))))))) | exact .inr (.inr (.inr (.inr (.inr (.inr (.inr (.inr (.inl rfl))))))))); (case d => rfl)))
local macro_rules | `(tactic| walk_at "glob") => `(tactic| ((with_reducible refine' x_glob ?B ?K ?g ?k ?x ?m ?d ?_); (case B => assumption); (case K => first | assumption | exact Frm.keep (by assumption)); (case g => rfl); (case k => rfl); (case x => rfl); (case m => simp only [globNames, List.mem_cons]; first | exact .inl rfl | exact .inr (.inl rfl) | exact .inr (.inr (.inl rfl)) | exact .inr (.inr (.inr (.inl rfl))) | exact .inr (.inr (.inr (.inr (.inl rfl)))) | exact .inr (.inr (.inr (.inr (.inr (.inl rfl))))) | exact .inr (.inr (.inr (.inr (.inr (.inr (.inl rfl)))))) | exact .inr (.inr (.inr (.inr (.inr (.inr (.inr (.inl rfl))))))) | exact .inr (.inr (.inr (.inr (.inr (.inr (.inr (.inr (.inl rfl)))))))) | exact .inr (.inr (.inr (.inr (.inr (.inr (.inr (.inr (.inr (.inl rfl)))))))))); (case d => rfl)))
local macro_rules | `(tactic| walk_at "ap") => `(tactic| ((with_reducible refine' meth1 F.plainAttrs_list F.slot_list_append F.type_list_append ?ha ?hb ?hc ?_); (case ha => first | exact ab_const | exact ab_name | exact ab_sub); (case hb => exact rfl); (case hc => exact rfl)))
local macro_rules | `(tactic| walk_at "rv") => `(tactic| ((with_reducible refine' meth0 F.plainAttrs_list F.slot_list_reverse F.type_list_reverse ?ha ?hc ?_); (case ha => first | exact ab_const | exact ab_name | exact ab_sub); (case hc => exact rfl)))
local macro_rules | `(tactic| walk_at "lidx") => `(tactic| ((with_reducible refine' meth1 F.plainAttrs_list F.slot_list_index F.type_list_index ?ha ?hb ?hc ?_); (case ha => first | exact ab_const | exact ab_name | exact ab_sub); (case hb => exact rfl); (case hc => exact rfl)))
local macro_rules | `(tactic| walk_at "args2") => `(tactic| ((with_reducible refine s_cons ?_); walk_at "go"; (with_reducible refine s_cons ?_); walk_at "go"; with_reducible refine s_nil ?_))
local macro_rules | `(tactic| walk_at "exp") => `(tactic| ((with_reducible refine' x_expr ?hi ?hs ?_); (case hi => rfl); (case hs => rfl)))
local macro_rules | `(tactic| walk_at "index") => `(tactic| ((with_reducible refine' meth1 F.plainAttrs_str F.slot_str_index F.type_str_index ?ha ?hb ?hc ?_); (case ha => first | exact ab_const | exact ab_name); (case hb => exact rfl); (case hc => exact rfl)))
local macro_rules | `(tactic| walk_at "join") => `(tactic| ((with_reducible refine' meth1 F.plainAttrs_str F.slot_str_join F.type_str_join ?ha ?hb ?hc ?_); (case ha => first | exact ab_const | exact ab_name | exact ab_sub); (case hb => exact rfl); (case hc => exact rfl)))
local macro_rules | `(tactic| walk_at "split") => `(tactic| ((with_reducible refine' meth1 F.plainAttrs_str F.slot_str_split F.type_str_split ?ha ?hb ?hc ?_); (case ha => first | exact ab_const | exact ab_name | exact ab_sub); (case hb => exact rfl); (case hc => exact rfl)))
local macro_rules | `(tactic| walk_at "bits") => `(tactic| ((with_reducible refine' meth0 F.plainAttrs_int F.slot_int_bit_length F.type_int_bit_length ?ha ?hc ?_); (case ha => first | exact ab_const | exact ab_name | exact ab_sub); (case hc => exact rfl)))
local macro_rules | `(tactic| walk_at "cmp") => `(tactic| ((with_reducible refine' wpAny_isTrue_Compare1 ?_ ?hm); (case hm => rfl)))
local macro_rules | `(tactic| walk_at "t0") => `(tactic| ((with_reducible refine' t_fst ?hl ?he ?_); (case hl => assumption); (case he => rfl)))
local macro_rules | `(tactic| walk_at "t1") => `(tactic| ((with_reducible refine' t_snd ?hl ?he ?_); (case hl => assumption); (case he => rfl)))
local macro_rules | `(tactic| walk_at "sl") => `(tactic| ((with_reducible refine x_sliceEnd fun D' h' tk' k' hs' => ?_); have F' := Frm.grow (by assumption) k'))
local macro_rules | `(tactic| walk_at "st") => `(tactic| ((with_reducible refine' x_st ?F ?k ?l fun h' tk' F' => ?_); (case F => assumption); (case k => rfl); (case l => rfl)))
local macro_rules | `(tactic| walk_at "stc") => `(tactic| ((with_reducible refine' x_stc ?F ?k ?l ?c fun h' tk' F' => ?_); (case F => assumption); (case k => rfl); (case l => rfl); (case c => rfl)))
local macro_rules | `(tactic| walk_at "go") => `(tactic| first
  | with_reducible refine x_cons ?_
  | ((with_reducible refine' x_assign ?hs ?_); (case hs => rfl))
  | with_reducible refine wpAny_BinOp ?_
  | with_reducible refine Subscript_ ?_
  | with_reducible refine x_int fun _ _ => ?_
  | with_reducible refine x_str fun _ _ => ?_
  | walk_at "ld"
  | walk_at "ldc"
  | walk_at "ldn"
  | walk_at "ldk"
  | walk_at "ldf"
  | with_reducible refine x_call ?_
  | with_reducible refine x_slice ?_
  | with_reducible refine p_none ?_
  | walk_at "sl"
  | with_reducible refine p_some ?_
  | with_reducible refine wpAny_UnaryOp ?_
  | with_reducible refine i_neg fun _ _ => ?_
  | with_reducible refine i_add fun _ _ => ?_
  | with_reducible refine i_sub fun _ _ => ?_
  | with_reducible refine i_le ?_
  | with_reducible refine i_lt ?_
  | with_reducible refine i_eq ?_
  | with_reducible refine wpAny_Return_some ?_
  | with_reducible refine x_next ?_
  | with_reducible refine x_ret ?_
  | with_reducible refine strOk ?_
  | with_reducible refine intOk ?_
  | with_reducible refine wpAny_If ?_
  | with_reducible refine wpAny_truthy_bool ?_)

theorem and_high (x s : Nat) : x &&& (x / 2 ^ s * 2 ^ s) = x / 2 ^ s * 2 ^ s := by
  rw [← Nat.shiftRight_eq_div_pow, ← Nat.shiftLeft_eq]
  apply Nat.eq_of_testBit_eq
  intro i
  rw [Nat.testBit_and, Nat.testBit_shiftLeft, Nat.testBit_shiftRight]
  by_cases h : i ≥ s
  · have : s + (i - s) = i := by omega
    simp [h, this]
  · simp [h]
theorem xor_low (x s : Nat) : Builtin.bitXor (x : Int) ((x / 2 ^ s * 2 ^ s : Nat) : Int) = ((x % 2 ^ s : Nat) : Int) := by
  rw [bitXor_and, bitAnd_pp (by omega) (by omega), Int.toNat_natCast, Int.toNat_natCast, and_high]
  have h1 := Nat.div_add_mod x (2 ^ s)
  rw [Nat.mul_comm] at h1
  omega

/-- the env of a call of a nested def -/
def envI (i : Nat) (clos : List (Str × Addr)) (L a : Addr) (c : Addr) : Env :=
  { scope := scopeOf (innerOf i), locals := L, globals := mainGlobals, cells := clos, qual := qualI i ++ ".<locals>.", func := some a, code := .ref c, frame := some L, builtins := builtinsNs }
abbrev innerO (i : Nat) (clos : List (Str × Addr)) (doc pm : Value) (c : Addr) (ctv : Value) : Obj :=
  PySem.W.fnMade (nameOf (innerOf i)) (qualI i) (paramsOf (innerOf i)) (bodyOf (innerOf i)) (scopeOf (innerOf i)) clos doc pm c ctv

section
variable {prog : Program} {w : World} {A : Around} {E : Value → Shared → Prop} {s : Shared} {h : Heap} {tk : Nat} {env : Env}
theorem call_inner {Q : Value → Shared → Prop} {f c : Addr} {i : Nat} {clos : List (Str × Addr)} {doc pm ctv : Value} {vals : List Value} {binds : List (Str × Value)}
    (hf : h.get? f = some (innerO i clos doc pm c ctv)) (hcd : h.CodeRec (.ref c) (qualI i)) (hlim : h.NoLimit) (hroom : A.depth < recursionLimit)
    (hbind : bindArgs (PySem.W.fnX (nameOf (innerOf i)) (qualI i) (paramsOf (innerOf i)) (bodyOf (innerOf i)) (scopeOf (innerOf i)) clos .none .none doc pm none (.ref c) ctv) ⟨vals, []⟩ = pure binds)
    (hcell : ∀ x ∈ (scopeOf (innerOf i)).names, x.2 ≠ .cell) (hloc : ∀ x ∈ binds, (scopeOf (innerOf i)).names.lookup x.1 = some .local)
    (hco : (scopeOf (innerOf i)).isCoroutine = false) (hgen : (scopeOf (innerOf i)).isGenerator = false) (hk : (scopeOf (innerOf i)).kind = .function)
    (q : ∀ L h₁ tk', h₁.Ns L (fun x => binds.reverse.lookup x) → Kept h h₁ → h.get? L = none →
      wpAny (model prog w) (A.deeper (envI i clos L f c)) (execs (bodyOf (innerOf i)) (envI i clos L f c)) (fun f s' => Q (match f with | .ret v => v | _ => .none) s') (fun _ _ => False) (mk s h₁ tk')) :
    wpAny (model prog w) A (call (.ref f) vals) Q E (mk s h tk) := by
  refine wpAny_call (codeAny_call_def (s := mk s h tk) (fd := PySem.W.fnX (nameOf (innerOf i)) (qualI i) (paramsOf (innerOf i)) (bodyOf (innerOf i)) (scopeOf (innerOf i)) clos .none .none doc pm none (.ref c) ctv) (body := bodyOf (innerOf i)) (binds := binds) hroom hf rfl hlim hcd rfl (BindsTo.of_eq hbind) hcell hloc (fun h₁ hn k => ?_) hco hgen hk)
  exact wpAny_mono (q h.objs.size h₁ _ hn k (get?_top _ (Nat.le_refl _))) (fun f s' z => z) fun _ _ z => z.elim
/-- a call of a nested def by its object -/
theorem d_callN {Q : Value → Shared → Prop} {b : Heap} {f c : Addr} {i : Nat} {clos : List (Str × Addr)} {doc pm ctv : Value} {pos : Pos} {e : Expr} {rest : List Expr} {trees : List (Bool × Sem Value)} (hf : b.get? f = some (innerO i clos doc pm c ctv))
    (htrees : backTo pos (starEach (e :: rest) env) = (false, eval e env) :: trees)
    (k : wpAny (model prog w) A (spliced ((false, eval e env) :: trees)) (fun vs s₁ => Kept b s₁.heap ∧ wpAny (model prog w) A (call (.ref f) vs) Q E s₁) E s) :
    wpAny (model prog w) A (callWith pos (.ref f) [] (backTo pos (starEach (e :: rest) env)) []) Q E s := by
  rw [htrees]
  exact Calls.callWith_function (Calls.evalArgs_plain (wpAny_mono k (fun vs s₁ h₁ => ⟨⟨h₁.1 _ _ hf, rfl⟩, h₁.2⟩) fun _ _ x => x))
theorem x_stn {b : Heap} {env0 : Env} {m cm : Str → Option Value} {ow : List (Addr × Obj)} {x : Str} {v : Value} {Q : Unit → Shared → Prop} (F : Frm b env0 m cm ow h) (he : env0.locals = env.locals) (hk : env.scope.kind = .function) (hl : env.kindOf x = some .local)
    (q : ∀ h' tk', Frm b env0 (upd m x v) cm ow h' → Q () (mk s h' tk')) : wpAny (model prog w) A (storeName env x v) Q E (mk s h tk) :=
  wpAny_storeName_local (s := mk s h tk) hl (he ▸ F.ns) (fun h' hn hs => q h' _ (F.setL (he ▸ hn) (he ▸ hs.extBut))) (by rw [hk]; rfl)
theorem x_setItem {o i : Expr} {pos' pos : Pos} {value : Expr} {Q : Flow → Shared → Prop} (hs : swapsWith value (some (.Subscript o i pos')) pos.line env = pure false)
    (k : wpAny (model prog w) A (eval value env) (fun v s₁ => wpAny (model prog w) A (eval o env) (fun ov s₂ => wpAny (model prog w) A (eval i env) (fun iv s₃ => wpAny (model prog w) A (setItem ov iv v) (fun _ => Q .next) E s₃) E s₂) E s₁) E s) :
    wpAny (model prog w) A (exec (.Assign [.Subscript o i pos'] value pos) env) Q E s := wpAny_Assign_Subscript k hs
theorem l_set {l : Addr} {vs : Array Value} {k : Nat} {t : Tok} {v : Value} {Q : Unit → Shared → Prop} (hl : h.IsList l vs) (hk : k < vs.size) (hz : vs.size < 2 ^ 63)
    (q : ∀ h' tk', Heap.ExtBut l h h' → h'.IsList l (vs.setIfInBounds k v) → Q () (mk s h' tk')) : wpAny (model prog w) A (setItem (.ref l) (.int k t) v) Q E (mk s h tk) :=
  wpAny_setItem_list (s := mk s h tk) hl (by omega) (by omega) (by omega) fun h' x hs => q h' _ hs.extBut (by rw [Int.toNat_natCast] at x; exact x)
theorem x_expr {e : Expr} {pos : Pos} {Q : Flow → Shared → Prop} (hi : interactive env = false) (hs : swapsWith e none pos.line env = pure false)
    (k : wpAny (model prog w) A (eval e env) (fun v s' => v = .none ∧ Q .next s') E s) : wpAny (model prog w) A (exec (.Expr e pos) env) Q E s :=
  wpAny_Expr (wpAny_mono k (fun v s' ⟨e, q⟩ => by subst e; exact q) fun _ _ x => x) hi hs
end

/-- the figures of x to the base B, the last one first -/
def digitsLE (B k x : Nat) : List Int := (List.range k).map fun j => ((x / B ^ j % B : Nat) : Int)
theorem digitsLE_len (B k x : Nat) : (digitsLE B k x).length = k := by simp [digitsLE]
theorem digitsLE_split {B j k x : Nat} : digitsLE B (j + k) x = digitsLE B j (x % B ^ j) ++ digitsLE B k (x / B ^ j) := by
  unfold digitsLE
  rw [List.range_add, List.map_append, List.map_map]
  congr 1
  · apply List.map_congr_left
    intro i hi
    have hi : i < j := List.mem_range.mp hi
    show ((x / B ^ i % B : Nat) : Int) = ((x % B ^ j / B ^ i % B : Nat) : Int)
    congr 1
    have e : B ^ j = B ^ i * B ^ (j - i) := by rw [← Nat.pow_add]; congr 1; omega
    rw [e, Nat.mod_mul_right_div_self]
    have e2 : B ^ (j - i) = B * B ^ (j - i - 1) := by rw [← Nat.pow_succ']; congr 1; omega
    rw [e2, Nat.mod_mul_right_mod]
  · apply List.map_congr_left
    intro i _
    show ((x / B ^ (j + i) % B : Nat) : Int) = _
    rw [Nat.pow_add, Nat.div_div_eq_div_mul]
end Mine
end
section
open PySem PyProof.Rows
set_option maxHeartbeats 4000000
namespace Mine
local macro_rules | `(tactic| walk_at "look") => `(tactic| first | rfl | assumption | exact ((if_neg (by decide)).trans (by assumption)) | exact ((if_neg (by decide)).trans ((if_neg (by decide)).trans (by assumption))) | exact ((if_neg (by decide)).trans ((if_neg (by decide)).trans ((if_neg (by decide)).trans (by assumption)))) | exact ((if_neg (by decide)).trans ((if_neg (by decide)).trans ((if_neg (by decide)).trans ((if_neg (by decide)).trans (by assumption))))) | exact ((if_neg (by decide)).trans ((if_neg (by decide)).trans ((if_neg (by decide)).trans ((if_neg (by decide)).trans ((if_neg (by decide)).trans (by assumption)))))) | exact ((if_neg (by decide)).trans ((if_neg (by decide)).trans ((if_neg (by decide)).trans ((if_neg (by decide)).trans ((if_neg (by decide)).trans ((if_neg (by decide)).trans (by assumption))))))) | exact ((if_neg (by decide)).trans ((if_neg (by decide)).trans ((if_neg (by decide)).trans ((if_neg (by decide)).trans ((if_neg (by decide)).trans ((if_neg (by decide)).trans ((if_neg (by decide)).trans (by assumption)))))))) | exact ((if_neg (by decide)).trans ((if_neg (by decide)).trans ((if_neg (by decide)).trans ((if_neg (by decide)).trans ((if_neg (by decide)).trans ((if_neg (by decide)).trans ((if_neg (by decide)).trans ((if_neg (by decide)).trans (by assumption))))))))) | exact ((if_neg (by decide)).trans ((if_neg (by decide)).trans ((if_neg (by decide)).trans ((if_neg (by decide)).trans ((if_neg (by decide)).trans ((if_neg (by decide)).trans ((if_neg (by decide)).trans ((if_neg (by decide)).trans ((if_neg (by decide)).trans (by assumption)))))))))))
local macro_rules | `(tactic| walk_at "ld") => `(tactic| ((with_reducible refine' x_ld ?F ?k ?l ?v ?d ?_); (case F => assumption); (case k => rfl); (case l => rfl); (case v => walk_at "look"); (case d => rfl)))
local macro_rules | `(tactic| walk_at "ldn") => `(tactic| ((with_reducible refine' x_ldn ?F ?k ?l ?v ?d ?_); (case F => assumption); (case k => rfl); (case l => rfl); (case v => first | assumption | rfl); (case d => rfl)))
local macro_rules | `(tactic| walk_at "ldc") => `(tactic| ((with_reducible refine' x_ldc ?F ?k ?l ?c ?v ?d ?_); (case F => assumption); (case k => rfl); (case l => rfl); (case c => rfl); (case v => first | assumption | rfl); (case d => rfl)))
local macro_rules | `(tactic| walk_at "ldf") => `(tactic| ((with_reducible refine' x_ldf ?k ?l ?c ?v ?d ?e ?_); (case k => rfl); (case l => rfl); (case c => rfl); (case v => assumption); (case d => rfl); (case e => rfl)))
local macro_rules | `(tactic| walk_at "ldk") => `(tactic| ((with_reducible refine' x_ldk ?k ?l ?c ?v ?d ?_); (case k => rfl); (case l => rfl); (case c => rfl); (case v => assumption); (case d => rfl)))
local macro_rules | `(tactic| walk_at "blt") => `(tactic| ((with_reducible refine' x_blt ?B ?K ?g ?b ?k ?x ?m ?d ?_); (case B => assumption); (case K => first | assumption | exact Frm.keep (by assumption)); (case g => rfl); (case b => rfl); (case k => rfl); (case x => rfl); (case m => simp only [bltNames, List.mem_cons]; first | exact .inl rfl | exact .inr (.inl rfl) | exact .inr (.inr (.inl rfl)) | exact .inr (.inr (.inr (.inl rfl))) | exact .inr (.inr (.inr (.inr (.inl rfl)))) | exact .inr (.inr (.inr (.inr (.inr (.inl rfl))))) | exact .inr (.inr (.inr (.inr (.inr (.inr (.inl rfl)))))) | exact .inr (.inr (.inr (.inr (.inr (.inr (.inr (.inl rfl))))))) | exact .inr (.inr (.inr (.inr (.inr (.inr (.inr (.inr (.inl rfl))))))))); (case d => rfl)))
local macro_rules | `(tactic| walk_at "glob") => `(tactic| ((with_reducible refine' x_glob ?B ?K ?g ?k ?x ?m ?d ?_); (case B => assumption); (case K => first | assumption | exact Frm.keep (by assumption)); (case g => rfl); (case k => rfl); (case x => rfl); (case m => simp only [globNames, List.mem_cons]; first | exact .inl rfl | exact .inr (.inl rfl) | exact .inr (.inr (.inl rfl)) | exact .inr (.inr (.inr (.inl rfl))) | exact .inr (.inr (.inr (.inr (.inl rfl)))) | exact .inr (.inr (.inr (.inr (.inr (.inl rfl))))) | exact .inr (.inr (.inr (.inr (.inr (.inr (.inl rfl)))))) | exact .inr (.inr (.inr (.inr (.inr (.inr (.inr (.inl rfl))))))) | exact .inr (.inr (.inr (.inr (.inr (.inr (.inr (.inr (.inl rfl)))))))) | exact .inr (.inr (.inr (.inr (.inr (.inr (.inr (.inr (.inr (.inl rfl)))))))))); (case d => rfl)))
local macro_rules | `(tactic| walk_at "ap") => `(tactic| ((with_reducible refine' meth1 F.plainAttrs_list F.slot_list_append F.type_list_append ?ha ?hb ?hc ?_); (case ha => first | exact ab_const | exact ab_name | exact ab_sub); (case hb => exact rfl); (case hc => exact rfl)))
local macro_rules | `(tactic| walk_at "rv") => `(tactic| ((with_reducible refine' meth0 F.plainAttrs_list F.slot_list_reverse F.type_list_reverse ?ha ?hc ?_); (case ha => first | exact ab_const | exact ab_name | exact ab_sub); (case hc => exact rfl)))
local macro_rules | `(tactic| walk_at "lidx") => `(tactic| ((with_reducible refine' meth1 F.plainAttrs_list F.slot_list_index F.type_list_index ?ha ?hb ?hc ?_); (case ha => first | exact ab_const | exact ab_name | exact ab_sub); (case hb => exact rfl); (case hc => exact rfl)))
local macro_rules | `(tactic| walk_at "args2") => `(tactic| ((with_reducible refine s_cons ?_); walk_at "go"; (with_reducible refine s_cons ?_); walk_at "go"; with_reducible refine s_nil ?_))
local macro_rules | `(tactic| walk_at "exp") => `(tactic| ((with_reducible refine' x_expr ?hi ?hs ?_); (case hi => rfl); (case hs => rfl)))
local macro_rules | `(tactic| walk_at "index") => `(tactic| ((with_reducible refine' meth1 F.plainAttrs_str F.slot_str_index F.type_str_index ?ha ?hb ?hc ?_); (case ha => first | exact ab_const | exact ab_name); (case hb => exact rfl); (case hc => exact rfl)))
local macro_rules | `(tactic| walk_at "join") => `(tactic| ((with_reducible refine' meth1 F.plainAttrs_str F.slot_str_join F.type_str_join ?ha ?hb ?hc ?_); (case ha => first | exact ab_const | exact ab_name | exact ab_sub); (case hb => exact rfl); (case hc => exact rfl)))
local macro_rules | `(tactic| walk_at "split") => `(tactic| ((with_reducible refine' meth1 F.plainAttrs_str F.slot_str_split F.type_str_split ?ha ?hb ?hc ?_); (case ha => first | exact ab_const | exact ab_name | exact ab_sub); (case hb => exact rfl); (case hc => exact rfl)))
local macro_rules | `(tactic| walk_at "bits") => `(tactic| ((with_reducible refine' meth0 F.plainAttrs_int F.slot_int_bit_length F.type_int_bit_length ?ha ?hc ?_); (case ha => first | exact ab_const | exact ab_name | exact ab_sub); (case hc => exact rfl)))
local macro_rules | `(tactic| walk_at "cmp") => `(tactic| ((with_reducible refine' wpAny_isTrue_Compare1 ?_ ?hm); (case hm => rfl)))
local macro_rules | `(tactic| walk_at "t0") => `(tactic| ((with_reducible refine' t_fst ?hl ?he ?_); (case hl => assumption); (case he => rfl)))
local macro_rules | `(tactic| walk_at "t1") => `(tactic| ((with_reducible refine' t_snd ?hl ?he ?_); (case hl => assumption); (case he => rfl)))
local macro_rules | `(tactic| walk_at "sl") => `(tactic| ((with_reducible refine x_sliceEnd fun D' h' tk' k' hs' => ?_); have F' := Frm.grow (by assumption) k'))
local macro_rules | `(tactic| walk_at "st") => `(tactic| ((with_reducible refine' x_st ?F ?k ?l fun h' tk' F' => ?_); (case F => assumption); (case k => rfl); (case l => rfl)))
local macro_rules | `(tactic| walk_at "stc") => `(tactic| ((with_reducible refine' x_stc ?F ?k ?l ?c fun h' tk' F' => ?_); (case F => assumption); (case k => rfl); (case l => rfl); (case c => rfl)))
local macro_rules | `(tactic| walk_at "go") => `(tactic| first
  | with_reducible refine x_cons ?_
  | ((with_reducible refine' x_assign ?hs ?_); (case hs => rfl))
  | with_reducible refine wpAny_BinOp ?_
  | with_reducible refine Subscript_ ?_
  | with_reducible refine x_int fun _ _ => ?_
  | with_reducible refine x_str fun _ _ => ?_
  | walk_at "ld"
  | walk_at "ldc"
  | walk_at "ldn"
  | walk_at "ldk"
  | walk_at "ldf"
  | with_reducible refine x_call ?_
  | with_reducible refine x_slice ?_
  | with_reducible refine p_none ?_
  | walk_at "sl"
  | with_reducible refine p_some ?_
  | with_reducible refine wpAny_UnaryOp ?_
  | with_reducible refine i_neg fun _ _ => ?_
  | with_reducible refine i_add fun _ _ => ?_
  | with_reducible refine i_sub fun _ _ => ?_
  | with_reducible refine i_le ?_
  | with_reducible refine i_lt ?_
  | with_reducible refine i_eq ?_
  | with_reducible refine wpAny_Return_some ?_
  | with_reducible refine x_next ?_
  | with_reducible refine x_ret ?_
  | with_reducible refine strOk ?_
  | with_reducible refine intOk ?_
  | with_reducible refine wpAny_If ?_
  | with_reducible refine wpAny_truthy_bool ?_)
theorem isList_nc {h : Heap} {a : Addr} {vs : Array Value} (x : h.IsList a vs) : ∃ o, h.get? a = some o ∧ NotCode o ∧ o.cls = .type "list" ∧ ∃ n, o.data = .seq vs n := by
  obtain ⟨o, e, hc, n, hd⟩ := x
  refine ⟨o, e, fun _ q => ?_, hc, n, hd⟩
  rw [hd] at q; cases q
theorem tb_ne {h : Heap} {a : Addr} {o : Obj} (x : Tb h) (e : h.get? a = some o) (nc : NotCode o) : a ≠ 37 ∧ a ≠ 44 := by
  obtain ⟨⟨ps, e1, _⟩, ps', e2, _⟩ := x
  refine ⟨fun q => ?_, fun q => ?_⟩
  · rw [q, e1] at e; cases e; exact nc ps rfl
  · rw [q, e2] at e; cases e; exact nc ps' rfl
theorem ints_set {vs : List Value} {ns : List Int} (h : IntsAre vs ns) (k : Nat) (x : Int) (t : Tok) (hk : k < ns.length) : IntsAre (vs.set k (.int x t)) (ns.take k ++ [x] ++ ns.drop (k + 1)) := by
  induction h generalizing k with
  | nil => simp at hk
  | cons n u r ih =>
    cases k with
    | zero => exact .cons x t r
    | succ k => exact .cons n u (ih k (by simpa using hk))

theorem innerA_call {prog : Program} {w : World} {n : Nat} (hn : n = 2 ∨ n = 3) {b : Heap} {D f c cn cd ci : Addr} {doc pm ctv : Value} {tn : Tok}
    (bf : b.get? f = some (innerO 6 [(Str.ofString "n", cn), (Str.ofString "inner", ci), (Str.ofString "a_digits", cd)] doc pm c ctv)) (bc : b.CodeRec (.ref c) (qualI 6)) (bl : b.NoLimit)
    (b1 : b.IsCell cn (some (.int n tn))) (b2 : b.IsCell ci (some (.ref f))) (b3 : b.IsCell cd (some (.ref D))) (bD : b.get? D = none) :
    ∀ (k : Nat) {x lo : Nat} {t1 t2 t3 : Tok} {vs : List Value} {ns : List Int} {A : Around} {E : Value → Shared → Prop} {s : Shared} {h : Heap} {tk : Nat} {Q : Value → Shared → Prop}, 1 ≤ k → k ≤ 16 → lo + k ≤ ns.length → ns.length ≤ 100 → x < 2 ^ 60 → x < 2 ^ (n * k) → A.depth + k < recursionLimit →
      Kept b h → h.IsList D vs.toArray → IntsAre vs ns → Tb h →
      (∀ h' tk' vs', Heap.ExtBut D h h' → h'.IsList D (List.toArray vs') → IntsAre vs' (ns.take lo ++ digitsLE (2 ^ n) k x ++ ns.drop (lo + k)) → Tb h' → Q .none (mk s h' tk')) →
      wpAny (model prog w) A (call (.ref f) [.int x t1, .int lo t2, .int (lo + k : Nat) t3]) Q E (mk s h tk) := by
  intro k
  induction k using Nat.strongRecOn with
  | ind k ih =>
    intro x lo t1 t2 t3 vs ns A E s h tk Q hk1 hk2 hlo hns hx hxk hroom kb hl hi hT q
    refine call_inner (kb _ _ bf) (bc.keeps kb) (bl.keeps kb) (by omega) (binds := [("x", .int x t1), ("L", .int lo t2), ("R", .int (lo + k : Nat) t3)]) rfl (by decide +kernel) (locs (by rfl)) rfl rfl rfl fun L h₁ tk₁ hN kh hL => ?_
    obtain ⟨o, ho, hnc, _⟩ := isList_nc hl
    have hvl := hi.length
    have b1' := b1.keeps (kb.trans kh)
    have b2' := b2.keeps (kb.trans kh)
    have b3' := b3.keeps (kb.trans kh)
    have hlD := hl
    have G : Frm (PySem.W.hideAll h [D]) (envI 6 [] L f c) (fun x₀ => [(Str.ofString "x", Value.int x t1), (Str.ofString "L", Value.int lo t2), (Str.ofString "R", Value.int (lo + k : Nat) t3)].reverse.lookup x₀) (fun _ => none) [(D, o)] h₁ := by
      refine ⟨hN, fun p hp => (nomatch hp), fun p hp => ?_, fun a o' e => kh _ _ (PySem.W.of_hideAll _ e), fun a ha => ?_, ?_, List.nodup_nil, hT.keeps kh, fun p hp => ?_⟩
      · rw [List.mem_singleton.mp hp]; exact kh _ _ ho
      · have : a = L ∨ a = D := by simpa [mineOf, envI] using ha
        rcases this with rfl | rfl
        · refine ⟨?_, hT.ne hL⟩
          cases e : (PySem.W.hideAll h [D]).get? a with
          | none => rfl
          | some o' => rw [PySem.W.of_hideAll _ e] at hL; cases hL
        · exact ⟨PySem.W.hideAll_none _ (by simp), tb_ne hT ho hnc⟩
      · have : L ≠ D := fun e => by rw [e, ho] at hL; cases hL
        simpa [mineOf, envI] using this
      · rw [List.mem_singleton.mp hp]; exact hnc
    refine x_cons ?_
    walk_at "go"
    walk_at "cmp"
    iterate 7 walk_at "go"
    by_cases h1 : k = 1
    · subst h1
      rw [show ((lo : Int) + 1 == ((lo + 1 : Nat) : Int)) = true by simp]
      refine b_true ?_
      walk_at "go"
      with_reducible refine' x_setItem ?hs ?_
      case hs => rfl
      iterate 3 walk_at "go"
      have hl1 : h₁.IsList D vs.toArray := by obtain ⟨o', e, r⟩ := hl; exact ⟨o', kh _ _ e, r⟩
      refine l_set hl1 (by simp; omega) (by simp; omega) fun h₂ tk₂ hx₂ hl₂ => ?_
      iterate 2 walk_at "go"
      refine wpAny_Return_none ?_
      iterate 2 walk_at "go"
      show Q .none _
      refine q h₂ _ (vs.set lo (.int x t1)) (fun a o' ne e => hx₂ _ _ ne (kh _ _ e)) (by rw [List.setIfInBounds_toArray] at hl₂; exact hl₂) ?_ (G.tabs.but (kh _ _ ho) hnc hx₂)
      have e1 : digitsLE (2 ^ n) 1 x = [(x : Int)] := by
        show [((x / (2 ^ n) ^ 0 % 2 ^ n : Nat) : Int)] = _
        rw [Nat.mul_one] at hxk
        rw [Nat.pow_zero, Nat.div_one, Nat.mod_eq_of_lt hxk]
      rw [e1]
      exact ints_set hi lo x t1 (by omega)
    · rw [show ((lo : Int) + 1 == ((lo + k : Nat) : Int)) = false by simp; omega]
      refine b_false ?_
      refine wpAny_execs_nil ?_
      obtain ⟨j, hj⟩ : ∃ j, j = k / 2 := ⟨_, rfl⟩
      have hj1 : 1 ≤ j := by omega
      have hj2 : j < k := by omega
      have st : ∀ {h₀ : Heap} {m : Str → Option Value} {oo : Obj} {tk₀ : Nat} {x₀ : Str} {v₀ : Value} {Q₀ : Unit → Shared → Prop} {E₀ : Value → Shared → Prop}, Frm (PySem.W.hideAll h [D]) (envI 6 [] L f c) m (fun _ => none) [(D, oo)] h₀ →
          (envI 6 [(Str.ofString "n", cn), (Str.ofString "inner", ci), (Str.ofString "a_digits", cd)] L f c).kindOf x₀ = some .local →
          (∀ h' tk', Frm (PySem.W.hideAll h [D]) (envI 6 [] L f c) (upd m x₀ v₀) (fun _ => none) [(D, oo)] h' → h'.Ns L (upd m x₀ v₀) → h'.IsCell cn (some (.int n tn)) → h'.IsCell ci (some (.ref f)) → h'.IsCell cd (some (.ref D)) → Q₀ () (mk s h' tk')) →
          wpAny (model prog w) (A.deeper (envI 6 [(Str.ofString "n", cn), (Str.ofString "inner", ci), (Str.ofString "a_digits", cd)] L f c)) (storeName (envI 6 [(Str.ofString "n", cn), (Str.ofString "inner", ci), (Str.ofString "a_digits", cd)] L f c) x₀ v₀) Q₀ E₀ (mk s h₀ tk₀) := by
        intro h₀ m oo tk₀ x₀ v₀ Q₀ E₀ F₀ hl₀ q₀
        have kb' : Kept b (PySem.W.hideAll h [D]) := fun a o' e => PySem.W.hideAll_get _ (kb _ _ e) (by
          intro q'
          rw [List.mem_singleton.mp q', bD] at e; cases e)
        exact x_stn F₀ rfl rfl hl₀ fun h' tk' F' => q₀ h' tk' F' F'.ns (b1.keeps (kb'.trans F'.keep)) (b2.keeps (kb'.trans F'.keep)) (b3.keeps (kb'.trans F'.keep))
      repeat walk_at "go"
      with_reducible refine' i_shr' (k := 1) ?e fun _ _ => ?_
      case e => rfl
      rw [show ((lo : Int) + ((lo + k : Nat) : Int)) / 2 ^ 1 = ((lo + j : Nat) : Int) by omega]
      refine st G rfl fun h₂ tk₂ G₂ N₂ c2 c2' c2'' => ?_
      repeat walk_at "go"
      rw [show ((lo + j : Nat) : Int) - (lo : Int) = (j : Int) by omega]
      with_reducible refine' i_mul ?_ fun _ _ => ?_
      · exact mulOk_small (by omega) (by omega)
      rw [show (j : Int) * (n : Int) = ((j * n : Nat) : Int) by push_cast; rfl]
      refine st G₂ rfl fun h₃ tk₃ G₃ N₃ c3 c3' c3'' => ?_
      repeat walk_at "go"
      with_reducible refine' i_shr fun _ _ => ?_
      have eU : (x : Int) / 2 ^ (j * n) = ((x / 2 ^ (j * n) : Nat) : Int) := by push_cast; rfl
      rw [eU]
      refine st G₃ rfl fun h₄ tk₄ G₄ N₄ c4 c4' c4'' => ?_
      repeat walk_at "go"
      have hjn : j * n ≤ 48 := by
        have h1 : j ≤ 8 := by omega
        have h2 : n ≤ 3 := by omega
        calc j * n ≤ 8 * 3 := Nat.mul_le_mul h1 h2
          _ ≤ 48 := by decide
      have hup : x / 2 ^ (j * n) < 2 ^ 60 := Nat.lt_of_le_of_lt (Nat.div_le_self _ _) hx
      with_reducible refine' i_shl ?_ ?_ fun _ _ => ?_
      · omega
      · rw [Int.natAbs_natCast]; exact Nat.lt_trans hup (by decide)
      with_reducible refine' i_xor fun _ _ => ?_
      have eX : Builtin.bitXor (x : Int) (((x / 2 ^ (j * n) : Nat) : Int) * 2 ^ (j * n)) = ((x % 2 ^ (j * n) : Nat) : Int) := by
        rw [← xor_low]
        congr 1
      rw [eX]
      refine st G₄ rfl fun h₅ tk₅ G₅ N₅ c5 c5' c5'' => ?_
      have kb' : Kept b (PySem.W.hideAll h [D]) := fun a o' e => PySem.W.hideAll_get _ (kb _ _ e) (by
        intro q'
        rw [List.mem_singleton.mp q', bD] at e; cases e)
      have hlow : x % 2 ^ (j * n) < 2 ^ (n * j) := by rw [Nat.mul_comm n j]; exact Nat.mod_lt _ (Nat.pow_pos (by decide))
      have hlow2 : x % 2 ^ (j * n) < 2 ^ 60 := Nat.lt_of_le_of_lt (Nat.mod_le _ _) hx
      have hupp : x / 2 ^ (j * n) < 2 ^ (n * (k - j)) := by
        rw [Nat.div_lt_iff_lt_mul (Nat.pow_pos (by decide)), ← Nat.pow_add]
        rw [show n * (k - j) + j * n = n * k by rw [Nat.mul_comm j n, ← Nat.mul_add]; congr 1; omega]
        exact hxk
      have hdep : (A.deeper (envI 6 [(Str.ofString "n", cn), (Str.ofString "inner", ci), (Str.ofString "a_digits", cd)] L f c)).depth = A.depth + 1 := rfl
      have hl5 : h₅.IsList D vs.toArray := by
        obtain ⟨o', e, r⟩ := hl
        rw [ho] at e
        cases e
        exact ⟨o, G₅.get (List.Mem.head _), r⟩
      iterate 2 walk_at "go"
      with_reducible refine' x_expr ?hi ?hs ?_
      case hi => rfl
      case hs => rfl
      iterate 2 walk_at "go"
      with_reducible refine' d_callN bf (bt3 ?b1 ?b2 ?b3) ?_
      case b1 => rfl
      case b2 => rfl
      case b3 => rfl
      with_reducible refine s_cons ?_
      walk_at "go"
      with_reducible refine s_cons ?_
      walk_at "go"
      with_reducible refine s_cons ?_
      walk_at "go"
      with_reducible refine s_nil ?_
      refine ⟨kb'.trans G₅.keep, ?_⟩
      refine ih j hj2 hj1 (by omega) (by omega) hns hlow2 hlow (by rw [hdep]; omega) (kb'.trans G₅.keep) hl5 hi G₅.tabs fun h₆ tk₆ vs₆ x₆ l₆ i₆ T₆ => ⟨rfl, ?_⟩
      obtain ⟨o6, ho6, hnc6, _⟩ := isList_nc l₆
      have G₆ := G₅.setO x₆ ho6 hnc6
      have N₆ : h₆.Ns L _ := G₆.ns
      have c6 : h₆.IsCell cn (some (.int n tn)) := b1.keeps (kb'.trans G₆.keep)
      have c6' : h₆.IsCell ci (some (.ref f)) := b2.keeps (kb'.trans G₆.keep)
      iterate 2 walk_at "go"
      with_reducible refine' x_expr ?hi ?hs ?_
      case hi => rfl
      case hs => rfl
      iterate 2 walk_at "go"
      with_reducible refine' d_callN bf (bt3 ?b1 ?b2 ?b3) ?_
      case b1 => rfl
      case b2 => rfl
      case b3 => rfl
      with_reducible refine s_cons ?_
      walk_at "go"
      with_reducible refine s_cons ?_
      walk_at "go"
      with_reducible refine s_cons ?_
      walk_at "go"
      with_reducible refine s_nil ?_
      refine ⟨kb'.trans G₆.keep, ?_⟩
      have hlk : lo + k = (lo + j) + (k - j) := by omega
      have hns6 : (ns.take lo ++ digitsLE (2 ^ n) j (x % 2 ^ (j * n)) ++ ns.drop (lo + j)).length = ns.length := by
        rw [List.length_append, List.length_append, List.length_take, digitsLE_len, List.length_drop]; omega
      rw [hlk]
      refine ih (k - j) (by omega) (by omega) (by omega) (by rw [hns6]; omega) (by rw [hns6]; exact hns) hup hupp (by rw [hdep]; omega) (kb'.trans G₆.keep) l₆ i₆ G₆.tabs fun h₇ tk₇ vs₇ x₇ l₇ i₇ T₇ => ⟨rfl, ?_⟩
      walk_at "go"
      refine wpAny_execs_nil ?_
      refine q h₇ _ vs₇ (fun a o' ne e => x₇ _ _ ne (x₆ _ _ ne (G₅.keep _ _ (PySem.W.hideAll_get _ e (by simpa using ne))))) l₇ ?_ T₇
      have eT : (ns.take lo ++ digitsLE (2 ^ n) j (x % 2 ^ (j * n)) ++ ns.drop (lo + j)).take (lo + j) = ns.take lo ++ digitsLE (2 ^ n) j (x % 2 ^ (j * n)) := by
        rw [List.take_append_of_le_length (by rw [List.length_append, List.length_take, digitsLE_len]; omega)]
        exact List.take_of_length_le (by rw [List.length_append, List.length_take, digitsLE_len]; omega)
      have eD : (ns.take lo ++ digitsLE (2 ^ n) j (x % 2 ^ (j * n)) ++ ns.drop (lo + j)).drop (lo + j + (k - j)) = ns.drop (lo + j + (k - j)) := by
        rw [List.drop_append, List.drop_eq_nil_of_le (by rw [List.length_append, List.length_take, digitsLE_len]; omega), List.nil_append, List.drop_drop]
        congr 1
        rw [List.length_append, List.length_take, digitsLE_len]; omega
      rw [eT, eD] at i₇
      have eS : digitsLE (2 ^ n) k x = digitsLE (2 ^ n) j (x % 2 ^ (j * n)) ++ digitsLE (2 ^ n) (k - j) (x / 2 ^ (j * n)) := by
        have := digitsLE_split (B := 2 ^ n) (j := j) (k := k - j) (x := x)
        rw [show j + (k - j) = k by omega, ← Nat.pow_mul, Nat.mul_comm n j] at this
        exact this
      rw [eS, ← List.append_assoc, hlk]
      exact i₇
end Mine
end
section
open PySem PyProof.Rows
set_option maxHeartbeats 4000000
namespace Mine
local macro_rules | `(tactic| walk_at "look") => `(tactic| first | rfl | assumption | exact ((if_neg (by decide)).trans (by assumption)) | exact ((if_neg (by decide)).trans ((if_neg (by decide)).trans (by assumption))) | exact ((if_neg (by decide)).trans ((if_neg (by decide)).trans ((if_neg (by decide)).trans (by assumption)))) | exact ((if_neg (by decide)).trans ((if_neg (by decide)).trans ((if_neg (by decide)).trans ((if_neg (by decide)).trans (by assumption))))) | exact ((if_neg (by decide)).trans ((if_neg (by decide)).trans ((if_neg (by decide)).trans ((if_neg (by decide)).trans ((if_neg (by decide)).trans (by assumption)))))) | exact ((if_neg (by decide)).trans ((if_neg (by decide)).trans ((if_neg (by decide)).trans ((if_neg (by decide)).trans ((if_neg (by decide)).trans ((if_neg (by decide)).trans (by assumption))))))) | exact ((if_neg (by decide)).trans ((if_neg (by decide)).trans ((if_neg (by decide)).trans ((if_neg (by decide)).trans ((if_neg (by decide)).trans ((if_neg (by decide)).trans ((if_neg (by decide)).trans (by assumption)))))))) | exact ((if_neg (by decide)).trans ((if_neg (by decide)).trans ((if_neg (by decide)).trans ((if_neg (by decide)).trans ((if_neg (by decide)).trans ((if_neg (by decide)).trans ((if_neg (by decide)).trans ((if_neg (by decide)).trans (by assumption))))))))) | exact ((if_neg (by decide)).trans ((if_neg (by decide)).trans ((if_neg (by decide)).trans ((if_neg (by decide)).trans ((if_neg (by decide)).trans ((if_neg (by decide)).trans ((if_neg (by decide)).trans ((if_neg (by decide)).trans ((if_neg (by decide)).trans (by assumption)))))))))))
local macro_rules | `(tactic| walk_at "ld") => `(tactic| ((with_reducible refine' x_ld ?F ?k ?l ?v ?d ?_); (case F => assumption); (case k => rfl); (case l => rfl); (case v => walk_at "look"); (case d => rfl)))
local macro_rules | `(tactic| walk_at "ldn") => `(tactic| ((with_reducible refine' x_ldn ?F ?k ?l ?v ?d ?_); (case F => assumption); (case k => rfl); (case l => rfl); (case v => first | assumption | rfl); (case d => rfl)))
local macro_rules | `(tactic| walk_at "ldc") => `(tactic| ((with_reducible refine' x_ldc ?F ?k ?l ?c ?v ?d ?_); (case F => assumption); (case k => rfl); (case l => rfl); (case c => rfl); (case v => first | assumption | rfl); (case d => rfl)))
local macro_rules | `(tactic| walk_at "ldf") => `(tactic| ((with_reducible refine' x_ldf ?k ?l ?c ?v ?d ?e ?_); (case k => rfl); (case l => rfl); (case c => rfl); (case v => assumption); (case d => rfl); (case e => rfl)))
local macro_rules | `(tactic| walk_at "ldk") => `(tactic| ((with_reducible refine' x_ldk ?k ?l ?c ?v ?d ?_); (case k => rfl); (case l => rfl); (case c => rfl); (case v => assumption); (case d => rfl)))
local macro_rules | `(tactic| walk_at "blt") => `(tactic| ((with_reducible refine' x_blt ?B ?K ?g ?b ?k ?x ?m ?d ?_); (case B => assumption); (case K => first | assumption | exact Frm.keep (by assumption)); (case g => rfl); (case b => rfl); (case k => rfl); (case x => rfl); (case m => simp only [bltNames, List.mem_cons]; first | exact .inl rfl | exact .inr (.inl rfl) | exact .inr (.inr (.inl rfl)) | exact .inr (.inr (.inr (.inl rfl))) | exact .inr (.inr (.inr (.inr (.inl rfl)))) | exact .inr (.inr (.inr (.inr (.inr (.inl rfl))))) | exact .inr (.inr (.inr (.inr (.inr (.inr (.inl rfl)))))) | exact .inr (.inr (.inr (.inr (.inr (.inr (.inr (.inl rfl))))))) | exact .inr (.inr (.inr (.inr (.inr (.inr (.inr (.inr (.inl rfl))))))))); (case d => rfl)))
local macro_rules | `(tactic| walk_at "glob") => `(tactic| ((with_reducible refine' x_glob ?B ?K ?g ?k ?x ?m ?d ?_); (case B => assumption); (case K => first | assumption | exact Frm.keep (by assumption)); (case g => rfl); (case k => rfl); (case x => rfl); (case m => simp only [globNames, List.mem_cons]; first | exact .inl rfl | exact .inr (.inl rfl) | exact .inr (.inr (.inl rfl)) | exact .inr (.inr (.inr (.inl rfl))) | exact .inr (.inr (.inr (.inr (.inl rfl)))) | exact .inr (.inr (.inr (.inr (.inr (.inl rfl))))) | exact .inr (.inr (.inr (.inr (.inr (.inr (.inl rfl)))))) | exact .inr (.inr (.inr (.inr (.inr (.inr (.inr (.inl rfl))))))) | exact .inr (.inr (.inr (.inr (.inr (.inr (.inr (.inr (.inl rfl)))))))) | exact .inr (.inr (.inr (.inr (.inr (.inr (.inr (.inr (.inr (.inl rfl)))))))))); (case d => rfl)))
local macro_rules | `(tactic| walk_at "ap") => `(tactic| ((with_reducible refine' meth1 F.plainAttrs_list F.slot_list_append F.type_list_append ?ha ?hb ?hc ?_); (case ha => first | exact ab_const | exact ab_name | exact ab_sub); (case hb => exact rfl); (case hc => exact rfl)))
local macro_rules | `(tactic| walk_at "rv") => `(tactic| ((with_reducible refine' meth0 F.plainAttrs_list F.slot_list_reverse F.type_list_reverse ?ha ?hc ?_); (case ha => first | exact ab_const | exact ab_name | exact ab_sub); (case hc => exact rfl)))
local macro_rules | `(tactic| walk_at "lidx") => `(tactic| ((with_reducible refine' meth1 F.plainAttrs_list F.slot_list_index F.type_list_index ?ha ?hb ?hc ?_); (case ha => first | exact ab_const | exact ab_name | exact ab_sub); (case hb => exact rfl); (case hc => exact rfl)))
local macro_rules | `(tactic| walk_at "args2") => `(tactic| ((with_reducible refine s_cons ?_); walk_at "go"; (with_reducible refine s_cons ?_); walk_at "go"; with_reducible refine s_nil ?_))
local macro_rules | `(tactic| walk_at "exp") => `(tactic| ((with_reducible refine' x_expr ?hi ?hs ?_); (case hi => rfl); (case hs => rfl)))
local macro_rules | `(tactic| walk_at "index") => `(tactic| ((with_reducible refine' meth1 F.plainAttrs_str F.slot_str_index F.type_str_index ?ha ?hb ?hc ?_); (case ha => first | exact ab_const | exact ab_name); (case hb => exact rfl); (case hc => exact rfl)))
local macro_rules | `(tactic| walk_at "join") => `(tactic| ((with_reducible refine' meth1 F.plainAttrs_str F.slot_str_join F.type_str_join ?ha ?hb ?hc ?_); (case ha => first | exact ab_const | exact ab_name | exact ab_sub); (case hb => exact rfl); (case hc => exact rfl)))
local macro_rules | `(tactic| walk_at "split") => `(tactic| ((with_reducible refine' meth1 F.plainAttrs_str F.slot_str_split F.type_str_split ?ha ?hb ?hc ?_); (case ha => first | exact ab_const | exact ab_name | exact ab_sub); (case hb => exact rfl); (case hc => exact rfl)))
local macro_rules | `(tactic| walk_at "bits") => `(tactic| ((with_reducible refine' meth0 F.plainAttrs_int F.slot_int_bit_length F.type_int_bit_length ?ha ?hc ?_); (case ha => first | exact ab_const | exact ab_name | exact ab_sub); (case hc => exact rfl)))
local macro_rules | `(tactic| walk_at "cmp") => `(tactic| ((with_reducible refine' wpAny_isTrue_Compare1 ?_ ?hm); (case hm => rfl)))
local macro_rules | `(tactic| walk_at "t0") => `(tactic| ((with_reducible refine' t_fst ?hl ?he ?_); (case hl => assumption); (case he => rfl)))
local macro_rules | `(tactic| walk_at "t1") => `(tactic| ((with_reducible refine' t_snd ?hl ?he ?_); (case hl => assumption); (case he => rfl)))
local macro_rules | `(tactic| walk_at "sl") => `(tactic| ((with_reducible refine x_sliceEnd fun D' h' tk' k' hs' => ?_); have F' := Frm.grow (by assumption) k'))
local macro_rules | `(tactic| walk_at "st") => `(tactic| ((with_reducible refine' x_st ?F ?k ?l fun h' tk' F' => ?_); (case F => assumption); (case k => rfl); (case l => rfl)))
local macro_rules | `(tactic| walk_at "stc") => `(tactic| ((with_reducible refine' x_stc ?F ?k ?l ?c fun h' tk' F' => ?_); (case F => assumption); (case k => rfl); (case l => rfl); (case c => rfl)))
local macro_rules | `(tactic| walk_at "go") => `(tactic| first
  | with_reducible refine x_cons ?_
  | ((with_reducible refine' x_assign ?hs ?_); (case hs => rfl))
  | with_reducible refine wpAny_BinOp ?_
  | with_reducible refine Subscript_ ?_
  | with_reducible refine x_int fun _ _ => ?_
  | with_reducible refine x_str fun _ _ => ?_
  | walk_at "ld"
  | walk_at "ldc"
  | walk_at "ldn"
  | walk_at "ldk"
  | walk_at "ldf"
  | with_reducible refine x_call ?_
  | with_reducible refine x_slice ?_
  | with_reducible refine p_none ?_
  | walk_at "sl"
  | with_reducible refine p_some ?_
  | with_reducible refine wpAny_UnaryOp ?_
  | with_reducible refine i_neg fun _ _ => ?_
  | with_reducible refine i_add fun _ _ => ?_
  | with_reducible refine i_sub fun _ _ => ?_
  | with_reducible refine i_le ?_
  | with_reducible refine i_lt ?_
  | with_reducible refine i_eq ?_
  | with_reducible refine wpAny_Return_some ?_
  | with_reducible refine x_next ?_
  | with_reducible refine x_ret ?_
  | with_reducible refine strOk ?_
  | with_reducible refine intOk ?_
  | with_reducible refine wpAny_If ?_
  | with_reducible refine wpAny_truthy_bool ?_)
theorem rep_one (v : Value) : ∀ (k : Nat) (acc : Array Value), (List.replicate k #[v]).foldl (fun x y => x ++ y) acc = acc ++ (List.replicate k v).toArray
  | 0, acc => by simp
  | k + 1, acc => by
    rw [List.replicate_succ, List.foldl_cons, rep_one v k]
    apply Array.ext'
    simp [List.replicate_succ]
section
variable {prog : Program} {w : World} {A : Around} {E : Value → Shared → Prop} {s : Shared} {h : Heap} {tk : Nat} {env : Env} {Q : Value → Shared → Prop}
theorem l_mulZ {l : Addr} {items : Array Value} {n : Nat} {x : Int} {u : Tok} (hl : h.get? l = some { cls := .type "list", dict := none, data := .seq items n, slots := #[] })
    (hlo : -(2 ^ 63 : Int) ≤ x) (hhi : x < 2 ^ 63) (hsz : items.size * x.toNat ≤ 2 ^ 24)
    (q : Q (.ref h.objs.size) { mk s h tk with heap := h.push { cls := .type "list", data := .seq (List.foldl (fun x1 x2 => x1 ++ x2) #[] (List.replicate (if items.isEmpty = true then 0 else x.toNat) items)) } }) : wpAny (model prog w) A (binaryOp .Mult (.ref l) (.int x u)) Q E (mk s h tk) :=
  wpAny_binaryOp_repeat_ref (s := mk s h tk) (T := "list") (U := "int") (by decide) ⟨_, hl, rfl⟩ (fun s' => typeIs_int s' x u) noFill_list_mul F.fills_int_mul F.slot_int_rmul repeat_list F.slot_int_index.lookup
    (call_meets F.slot_int_rmul (typeIs_int (mk s h tk) x u) F.entry_int_rmul (F.args_int_rmul_2 _ _) (int___rmul___int_list x u l items n)
      ⟨hl, rfl, ⟨_, hl, rfl⟩, call_meets F.slot_list_mul ⟨_, hl, rfl⟩ F.entry_list_mul (F.args_list_mul_2 _ _)
        (AutoListH.list___mul___list_int_3 l items n x u (by simp [Builtin.List.listFitsIndex]; omega) (by omega) (by simp [Builtin.List.listTooLong, sizeLine]; omega))
        ⟨hl, q⟩⟩)
theorem l_mul {l : Addr} {v : Value} {n k : Nat} {u : Tok} (hl : h.get? l = some (listO #[v] n)) (hk : k ≤ 1000)
    (q : ∀ D h' tk', Kept h h' → h.get? D = none → h'.get? D = some (listO (List.replicate k v).toArray 0) → Q (.ref D) (mk s h' tk')) : wpAny (model prog w) A (binaryOp .Mult (.ref l) (.int k u)) Q E (mk s h tk) := by
  refine l_mulZ hl (by omega) (by omega) (by rw [Int.toNat_natCast]; show 1 * k ≤ _; omega) ?_
  have e : (List.foldl (fun x1 x2 => x1 ++ x2) #[] (List.replicate (if (#[v] : Array Value).isEmpty = true then 0 else (k : Int).toNat) #[v])) = (List.replicate k v).toArray := by
    rw [if_neg (by simp), Int.toNat_natCast, rep_one]; simp
  rw [e]
  exact q _ _ _ (Kept.push _ _) (get?_top _ (Nat.le_refl _)) (Heap.get?_push_size _ rfl)
theorem i_truthy {a : Int} {t : Tok} {Q : Bool → Shared → Prop} (q : Q (a != 0) (mk s h tk)) : wpAny (model prog w) A (truthy (.int a t)) Q E (mk s h tk) := PyProof.Rows.truthy_int q
end
/-- how many bits -/
def bitsN (a : Nat) : Nat := if a = 0 then 0 else a.log2 + 1
theorem bits_is (a : Nat) : Builtin.Int.intBits (a : Int) = bitsN a := by
  unfold Builtin.Int.intBits bitsN
  by_cases h : a = 0
  · subst h; rfl
  · rw [if_neg (by simpa using h), if_neg h, Int.natAbs_natCast]
theorem bitsN_lt (a : Nat) : a < 2 ^ bitsN a := by
  unfold bitsN
  by_cases h : a = 0
  · subst h; decide
  · rw [if_neg h]; exact Nat.lt_log2_self
theorem bitsN_le {a k : Nat} (h : a < 2 ^ k) : bitsN a ≤ k := by
  unfold bitsN
  by_cases h0 : a = 0
  · rw [if_pos h0]; exact Nat.zero_le _
  · rw [if_neg h0]; exact (Nat.log2_lt h0).mpr h
theorem bitsN_pos {a : Nat} (h : a ≠ 0) : 1 ≤ bitsN a := by unfold bitsN; rw [if_neg h]; omega
/-- how many figures of n bits -/
def cntN (n a : Nat) : Nat := (bitsN a + n - 1) / n

theorem none_of_ghost {h : Heap} {a : Addr} (h1 : a ≠ 37) (h2 : a ≠ 44) (e : (ghost h).get? a = none) : h.get? a = none := by
  cases q : h.get? a with
  | none => rfl
  | some o => rw [ghost_get h1 h2 q] at e; cases e
theorem keptT_of {h h' : Heap} (k : Kept (ghost h) h') (t : Tb h') : KeptT h h' := ⟨fun _ _ n1 n2 e => k _ _ (ghost_get n1 n2 e), fun _ => t⟩

/-- a nested def's statement -/
theorem x_inner {prog : Program} {w : World} {A : Around} {E : Value → Shared → Prop} {s : Shared} {h b : Heap} {tk : Nat} {Q : Flow → Shared → Prop} {env : Env} {i : Nat} {c P P' : Addr} {i' : Nat} {m cm : Str → Option Value} {ow : List (Addr × Obj)} {mg : Str → Option Value} (clos : List (Str × Addr))
    (F : Frm b env m cm ow h) (h37 : b.get? 37 = none) (h44 : b.get? 44 = none) (hP : (P = 37 ∧ i = 6 ∧ P' = 44 ∧ i' = 7) ∨ (P = 44 ∧ i = 7 ∧ P' = 37 ∧ i' = 6))
    (hC : PySem.W.CodeHd b c P) (hg : b.Ns mainGlobals mg) (hb : b.BuiltinsAt mg P)
    (hge0 : env.globals = mainGlobals) (hcode : env.code = .ref c) (hcl : closureFor (scopeOf (innerOf i)) env = pure clos)
    (hsh : innerOf i = .FunctionDef (nameOf (innerOf i)) (paramsOf (innerOf i)) (bodyOf (innerOf i)) [] none [] (scopeOf (innerOf i)) none (nameOf (innerOf i)) (posOf (innerOf i)))
    (hq : qualnameIn env (nameOf (innerOf i)) (nameOf (innerOf i)) = qualI i) (hd : (paramsOf (innerOf i)).defaults = []) (hkd : (paramsOf (innerOf i)).kw_defaults = []) (han : annTrees (paramsOf (innerOf i)) none env = [])
    (q : ∀ f c' doc ctv pm h' tk', Frm b env m cm ((f, innerO i clos doc pm c' ctv) :: ow) h' → h'.CodeRec (.ref c') (qualI i) → wpAny (model prog w) A (storeName env (nameOf (innerOf i)) (.ref f)) (fun _ s'' => Q .next s'') E (mk s h' tk')) :
    wpAny (model prog w) A (exec (innerOf i) env) Q E (mk s h tk) := by
  rw [hsh]
  refine PySem.W.nestDef_K hd hkd han ?_
  rw [hq]
  have tP : TabSt h P i ∧ TabSt h P' i' := by
    rcases hP with ⟨rfl, rfl, rfl, rfl⟩ | ⟨rfl, rfl, rfl, rfl⟩
    · exact F.tabs
    · exact ⟨F.tabs.2, F.tabs.1⟩
  have hne : P' ≠ P := by rcases hP with ⟨rfl, _, rfl, _⟩ | ⟨rfl, _, rfl, _⟩ <;> decide
  refine make_inner (hC.keeps F.keep) hge0 (hg.keeps F.keep) (hb.keeps F.keep) hcode tP.1 hcl fun f c' doc ctv pm h' tk' hx ht hf hfo hrec => ?_
  have kT : KeptT h h' := by
    refine ⟨fun a o n1 n2 e => hx a o (fun z => ?_) e, fun _ => ?_⟩
    · rcases hP with ⟨rfl, _⟩ | ⟨rfl, _⟩
      · exact n1 z
      · exact n2 z
    · have t2 := tP.2.other tP.1 hne hx
      rcases hP with ⟨rfl, rfl, rfl, rfl⟩ | ⟨rfl, rfl, rfl, rfl⟩
      · exact ⟨ht, t2⟩
      · exact ⟨t2, ht⟩
  exact q f c' doc ctv pm h' tk' ((F.growT h37 h44 kT).own_add F hf hfo fun _ e => (nomatch e)) hrec

/-- the frame's own is no code: a code that stands goes into the base -/
theorem Frm.code {b h : Heap} {env : Env} {m cm : Str → Option Value} {ow : List (Addr × Obj)} {c : Addr} {q : Str} (F : Frm b env m cm ow h) (h1 : b.get? 37 = none) (h2 : b.get? 44 = none) (x : h.CodeRec (.ref c) q) :
    ∃ b', Kept b b' ∧ Frm b' env m cm ow h ∧ b'.get? 37 = none ∧ b'.get? 44 = none ∧ b'.CodeRec (.ref c) q := by
  obtain ⟨b', k, F', g1, g2, g⟩ := F.rebase h1 h2
  refine ⟨b', k, F', g1, g2, ?_⟩
  obtain ⟨⟨ps, e1, t1, _⟩, ps', e2, t2, _⟩ := F.tabs
  have n1 := codeRec_ne_tab e1 t1 x
  have n2 := codeRec_ne_tab e2 t2 x
  obtain ⟨c', o, vs, t, e, ho, hd, hv⟩ := x
  cases e
  refine ⟨c, o, vs, t, rfl, g c o n1 n2 (fun hm => ?_) ho, hd, hv⟩
  unfold mineOf at hm
  rw [List.mem_cons, List.mem_append] at hm
  rcases hm with rfl | hm | hm
  · obtain ⟨o', es, ep, e, d, _⟩ := F.ns
    rw [e] at ho; cases ho; rw [d] at hd; cases hd
  · obtain ⟨p, hp, rfl⟩ := List.mem_map.mp hm
    obtain ⟨o', e, d⟩ := F.cell p hp
    rw [e] at ho; cases ho; rw [d] at hd; cases hd
  · obtain ⟨p, hp, rfl⟩ := List.mem_map.mp hm
    have e := F.own p hp
    rw [e] at ho; cases ho
    exact F.nc p hp vs hd

theorem ints_rep (t : Tok) : ∀ k, IntsAre (List.replicate k (.int 0 t)) (List.replicate k 0)
  | 0 => .nil
  | k + 1 => .cons 0 t (ints_rep t k)

theorem int2digits_call {prog : Program} {w : World} {A : Around} {E : Value → Shared → Prop} {s : Shared} {h : Heap} {tk : Nat} {Q : Value → Shared → Prop} {a n : Nat} {t u : Tok}
    (hB : Base h) (hT : Tb h) (hroom : A.depth + 20 < recursionLimit) (ha : a < 2 ^ 16) (hn : n = 2 ∨ n = 3)
    (q : ∀ D h' tk' vs, KeptT h h' → h.get? D = none → h'.IsList D (List.toArray vs) → IntsAre vs (digitsLE (2 ^ n) (cntN n a) a) → Q (.ref D) (mk s h' tk')) :
    wpAny (model prog w) A (call (.ref 42) [.int a t, .int n u]) Q E (mk s h tk) := by
  refine call_defC ["inner", "a_digits", "n"] (fun _ => rfl) (by decide) hB.f42 hB.nolimit hT (by omega) (binds := [("a", .int a t), ("n", .int n u)]) (fun _ _ _ _ _ => rfl)
    (PySem.W.kindsX rfl) rfl rfl rfl (fun L cd h₁ tk₁ hcd G => ?_)
  subst hcd
  have eC : cellsFrom (L + 1) (scopeOf (stmtAt 6)).names [] = [(Str.ofString "inner", L + 1 + 1 + 1), (Str.ofString "a_digits", L + 1 + 1), (Str.ofString "n", L + 1)] := rfl
  rw [eC] at G ⊢
  replace G : Frm h (envF 6 [(Str.ofString "inner", L + 1 + 1 + 1), (Str.ofString "a_digits", L + 1 + 1), (Str.ofString "n", L + 1)] L 42 (.ref 41)) (upd (fun _ => none) "a" (.int a t)) (upd (fun _ => none) "n" (.int n u)) [] h₁ := G
  have F := G.weaken (ghost_kept h)
  have hBg := hB.ghost
  clear G
  have hc1 : bitsN a ≤ 16 := bitsN_le ha
  have hc8 : cntN n a ≤ 8 := by unfold cntN; rcases hn with rfl | rfl <;> omega
  refine x_cons ?_
  iterate 2 walk_at "go"
  with_reducible refine' x_list1 ?_ ?_
  · rfl
  walk_at "go"
  with_reducible refine' n_list ?_ fun D0 h₂ tk₂ k₂ n₂ g₂ => ?_
  · rw [sizeLine_eq]; simp
  have F2 := F.grow k₂
  repeat walk_at "go"
  walk_at "bits"
  repeat walk_at "go"
  with_reducible refine i_bits fun _ _ => ?_
  repeat walk_at "go"
  with_reducible refine' i_div ?_ ?_ fun _ _ => ?_
  · rcases hn with rfl | rfl <;> decide
  · exact Or.inl (PyProof.noPylong_small (by rcases hn with rfl | rfl <;> decide))
  have eK : (((Builtin.Int.intBits (a : Int) : Nat) : Int) + (n : Int) - 1) / (n : Int) = ((cntN n a : Nat) : Int) := by
    rw [bits_is]
    unfold cntN
    rcases hn with rfl | rfl <;> omega
  rw [eK]
  with_reducible refine' l_mul g₂ ?_ fun D h₃ tk₃ k₃ n₃ g₃ => ?_
  · omega
  have F3 := F2.own_new k₃ n₃ g₃ (nc_seq _ _ _)
  walk_at "stc"
  rename_i h₄ tk₄ F4
  iterate 2 walk_at "go"
  obtain ⟨mg, mb, hg, _, _, _, _, hb37, _⟩ := hBg.top
  show wpAny _ _ (exec (innerOf 6) _) _ _ _
  refine x_inner (P' := 44) (i' := 7) [(Str.ofString "n", L + 1), (Str.ofString "inner", L + 1 + 1 + 1), (Str.ofString "a_digits", L + 1 + 1)] F4 (ghost37 h) (ghost44 h) (Or.inl ⟨rfl, rfl, rfl, rfl⟩) hBg.c37 hg hb37 rfl rfl rfl rfl rfl rfl rfl rfl fun f c' doc ctv pm h₅ tk₅ F5 hrec => ?_
  obtain ⟨b', kb', F5', g37, g44, hrec'⟩ := F5.code (ghost37 h) (ghost44 h) hrec
  clear F5 F4 F3 F2 F
  walk_at "stc"
  rename_i h₆ tk₆ F6
  have hBb := hBg.keeps kb'
  iterate 2 walk_at "go"
  walk_at "go"
  refine wpAny_isTrue_value ?_ rfl
  walk_at "go"
  with_reducible refine i_truthy ?_
  have fin : ∀ h₇ tk₇ vs, Kept b' h₇ → Tb h₇ → h₇.IsList D (List.toArray vs) → IntsAre vs (digitsLE (2 ^ n) (cntN n a) a) → Q (.ref D) (mk s h₇ tk₇) := fun h₇ tk₇ vs k₇ t₇ l₇ i₇ =>
    q D h₇ tk₇ vs (keptT_of (kb'.trans k₇) t₇) (none_of_ghost (F6.off D (by simp [mineOf])).2.1 (F6.off D (by simp [mineOf])).2.2 (kb'.none (F6.off D (by simp [mineOf])).1)) l₇ i₇
  by_cases h0 : a = 0
  · subst h0
    rw [show (((0 : Nat) : Int) != 0) = false by rfl]
    refine b_false ?_
    refine wpAny_execs_nil ?_
    repeat walk_at "go"
    refine fin h₆ _ _ F6.keep F6.tabs (isList_of (F6.get (List.Mem.tail _ (List.Mem.head _)))) ?_
    have : cntN n 0 = 0 := by unfold cntN; rcases hn with rfl | rfl <;> rfl
    rw [this]
    exact .nil
  · rw [show ((a : Int) != 0) = true by simpa using h0]
    refine b_true ?_
    iterate 1 walk_at "go"
    with_reducible refine' x_expr ?hi ?hs ?_
    case hi => rfl
    case hs => rfl
    have nf : f ≠ D := by
      have nd := (List.nodup_append.mp (List.nodup_cons.mp F6.nodup).2).2.1
      simpa using nd
    have nfo : h₆.get? f = some _ := F6.get (List.Mem.head _)
    have cellD : ∀ {x : Str} {y : Addr} {v : Value}, (x, y) ∈ (envF 6 [(Str.ofString "inner", L + 1 + 1 + 1), (Str.ofString "a_digits", L + 1 + 1), (Str.ofString "n", L + 1)] L 42 (.ref 41)).cells → h₆.IsCell y (some v) → (PySem.W.hideAll h₆ [D]).IsCell y (some v) := fun hm ⟨o, e, d⟩ =>
      ⟨o, PySem.W.hideAll_get _ e (by
        have := F6.ne_cell_own hm (List.Mem.tail _ (List.Mem.head _))
        simpa using this), d⟩
    iterate 2 walk_at "go"
    with_reducible refine' d_callN (b := PySem.W.hideAll h₆ [D]) (PySem.W.hideAll_get _ nfo (by simpa using nf)) (bt3 ?b1 ?b2 ?b3) ?_
    case b1 => rfl
    case b2 => rfl
    case b3 => rfl
    with_reducible refine s_cons ?_
    walk_at "go"
    with_reducible refine s_cons ?_
    walk_at "go"
    with_reducible refine s_cons ?_
    iterate 1 walk_at "go"
    walk_at "blt"
    with_reducible refine' b_call1 ?_ ?_
    · rfl
    walk_at "go"
    with_reducible refine' len_l (isList_of (F6.get (List.Mem.tail _ (List.Mem.head _)))) ?_ fun _ _ => ?_
    · simp; omega
    with_reducible refine s_nil ?_
    refine ⟨fun _ _ e => PySem.W.of_hideAll _ e, ?_⟩
    have ez : ∀ t : Tok, ((List.replicate (cntN n a) (Value.int 0 t)).toArray.size : Int) = ((0 + cntN n a : Nat) : Int) := fun t => by simp
    have hcnt : 1 ≤ cntN n a := by
      have := bitsN_pos h0
      unfold cntN; rcases hn with rfl | rfl <;> omega
    rw [ez]
    refine innerA_call hn (b := PySem.W.hideAll h₆ [D]) (D := D) (PySem.W.hideAll_get _ nfo (by simpa using nf)) ?_ ?_ (cellD (x := "n") (by simp [envF]) (F6.cell (Str.ofString "n", L + 1) (by simp [envF]))) (cellD (x := "inner") (by simp [envF]) (F6.cell (Str.ofString "inner", L + 1 + 1 + 1) (by simp [envF]))) (cellD (x := "a_digits") (by simp [envF]) (F6.cell (Str.ofString "a_digits", L + 1 + 1) (by simp [envF]))) (PySem.W.hideAll_none _ (by simp))
      (cntN n a) (lo := 0) hcnt (by omega) (ns := List.replicate (cntN n a) 0) (by simp) (by simp; omega) (Nat.lt_trans ha (by decide)) ?_ ?_ (fun _ _ e => PySem.W.of_hideAll _ e) (isList_of (F6.get (List.Mem.tail _ (List.Mem.head _)))) (ints_rep _ _) F6.tabs fun h₇ tk₇ vs x₇ l₇ i₇ T₇ => ⟨rfl, ?_⟩
    · obtain ⟨c'', o, vs, t', e, ho, hd, hv⟩ := hrec'.keeps F6.keep
      cases e
      refine ⟨c', o, vs, t', rfl, PySem.W.hideAll_get _ ho fun hm => ?_, hd, hv⟩
      rw [List.mem_singleton.mp hm, F6.get (List.Mem.tail _ (List.Mem.head _))] at ho
      cases ho
      cases hd
    · obtain ⟨mc, ns, r⟩ := hBb.nolimit
      refine ⟨mc, ?_, r⟩
      obtain ⟨o, es, ep, e, r⟩ := ns
      refine ⟨o, es, ep, PySem.W.hideAll_get _ (F6.keep _ _ e) fun hm => ?_, r⟩
      rw [List.mem_singleton.mp hm, (F6.off D (by simp [mineOf])).1] at e
      cases e
    · have := bitsN_lt a
      refine Nat.lt_of_lt_of_le this (Nat.pow_le_pow_right (by decide) ?_)
      unfold cntN
      rcases hn with rfl | rfl <;> omega
    · show A.depth + 1 + cntN n a < recursionLimit
      omega
    · obtain ⟨o7, ho7, hnc7, _⟩ := isList_nc l₇
      have F7 := (F6.swap).setO x₇ ho7 hnc7
      walk_at "go"
      refine wpAny_execs_nil ?_
      repeat walk_at "go"
      refine fin h₇ _ vs F7.keep F7.tabs l₇ ?_
      have : (List.replicate (cntN n a) (0 : Int)).take 0 ++ digitsLE (2 ^ n) (cntN n a) a ++ (List.replicate (cntN n a) (0 : Int)).drop (0 + cntN n a) = digitsLE (2 ^ n) (cntN n a) a := by simp
      rw [this] at i₇
      exact i₇
end Mine
end
section
open PySem PyProof.Rows
set_option maxHeartbeats 4000000
namespace Mine
local macro_rules | `(tactic| walk_at "look") => `(tactic| first | rfl | assumption | exact ((if_neg (by decide)).trans (by assumption)) | exact ((if_neg (by decide)).trans ((if_neg (by decide)).trans (by assumption))) | exact ((if_neg (by decide)).trans ((if_neg (by decide)).trans ((if_neg (by decide)).trans (by assumption)))) | exact ((if_neg (by decide)).trans ((if_neg (by decide)).trans ((if_neg (by decide)).trans ((if_neg (by decide)).trans (by assumption))))) | exact ((if_neg (by decide)).trans ((if_neg (by decide)).trans ((if_neg (by decide)).trans ((if_neg (by decide)).trans ((if_neg (by decide)).trans (by assumption)))))) | exact ((if_neg (by decide)).trans ((if_neg (by decide)).trans ((if_neg (by decide)).trans ((if_neg (by decide)).trans ((if_neg (by decide)).trans ((if_neg (by decide)).trans (by assumption))))))) | exact ((if_neg (by decide)).trans ((if_neg (by decide)).trans ((if_neg (by decide)).trans ((if_neg (by decide)).trans ((if_neg (by decide)).trans ((if_neg (by decide)).trans ((if_neg (by decide)).trans (by assumption)))))))) | exact ((if_neg (by decide)).trans ((if_neg (by decide)).trans ((if_neg (by decide)).trans ((if_neg (by decide)).trans ((if_neg (by decide)).trans ((if_neg (by decide)).trans ((if_neg (by decide)).trans ((if_neg (by decide)).trans (by assumption))))))))) | exact ((if_neg (by decide)).trans ((if_neg (by decide)).trans ((if_neg (by decide)).trans ((if_neg (by decide)).trans ((if_neg (by decide)).trans ((if_neg (by decide)).trans ((if_neg (by decide)).trans ((if_neg (by decide)).trans ((if_neg (by decide)).trans (by assumption)))))))))))
local macro_rules | `(tactic| walk_at "ld") => `(tactic| ((with_reducible refine' x_ld ?F ?k ?l ?v ?d ?_); (case F => assumption); (case k => rfl); (case l => rfl); (case v => walk_at "look"); (case d => rfl)))
local macro_rules | `(tactic| walk_at "ldn") => `(tactic| ((with_reducible refine' x_ldn ?F ?k ?l ?v ?d ?_); (case F => assumption); (case k => rfl); (case l => rfl); (case v => first | assumption | rfl); (case d => rfl)))
local macro_rules | `(tactic| walk_at "ldc") => `(tactic| ((with_reducible refine' x_ldc ?F ?k ?l ?c ?v ?d ?_); (case F => assumption); (case k => rfl); (case l => rfl); (case c => rfl); (case v => first | assumption | rfl); (case d => rfl)))
local macro_rules | `(tactic| walk_at "ldf") => `(tactic| ((with_reducible refine' x_ldf ?k ?l ?c ?v ?d ?e ?_); (case k => rfl); (case l => rfl); (case c => rfl); (case v => assumption); (case d => rfl); (case e => rfl)))
local macro_rules | `(tactic| walk_at "ldk") => `(tactic| ((with_reducible refine' x_ldk ?k ?l ?c ?v ?d ?_); (case k => rfl); (case l => rfl); (case c => rfl); (case v => assumption); (case d => rfl)))
local macro_rules | `(tactic| walk_at "blt") => `(tactic| ((with_reducible refine' x_blt ?B ?K ?g ?b ?k ?x ?m ?d ?_); (case B => assumption); (case K => first | assumption | exact Frm.keep (by assumption)); (case g => rfl); (case b => rfl); (case k => rfl); (case x => rfl); (case m => simp only [bltNames, List.mem_cons]; first | exact .inl rfl | exact .inr (.inl rfl) | exact .inr (.inr (.inl rfl)) | exact .inr (.inr (.inr (.inl rfl))) | exact .inr (.inr (.inr (.inr (.inl rfl)))) | exact .inr (.inr (.inr (.inr (.inr (.inl rfl))))) | exact .inr (.inr (.inr (.inr (.inr (.inr (.inl rfl)))))) | exact .inr (.inr (.inr (.inr (.inr (.inr (.inr (.inl rfl))))))) | exact .inr (.inr (.inr (.inr (.inr (.inr (.inr (.inr (.inl rfl))))))))); (case d => rfl)))
local macro_rules | `(tactic| walk_at "glob") => `(tactic| ((with_reducible refine' x_glob ?B ?K ?g ?k ?x ?m ?d ?_); (case B => assumption); (case K => first | assumption | exact Frm.keep (by assumption)); (case g => rfl); (case k => rfl); (case x => rfl); (case m => simp only [globNames, List.mem_cons]; first | exact .inl rfl | exact .inr (.inl rfl) | exact .inr (.inr (.inl rfl)) | exact .inr (.inr (.inr (.inl rfl))) | exact .inr (.inr (.inr (.inr (.inl rfl)))) | exact .inr (.inr (.inr (.inr (.inr (.inl rfl))))) | exact .inr (.inr (.inr (.inr (.inr (.inr (.inl rfl)))))) | exact .inr (.inr (.inr (.inr (.inr (.inr (.inr (.inl rfl))))))) | exact .inr (.inr (.inr (.inr (.inr (.inr (.inr (.inr (.inl rfl)))))))) | exact .inr (.inr (.inr (.inr (.inr (.inr (.inr (.inr (.inr (.inl rfl)))))))))); (case d => rfl)))
local macro_rules | `(tactic| walk_at "ap") => `(tactic| ((with_reducible refine' meth1 F.plainAttrs_list F.slot_list_append F.type_list_append ?ha ?hb ?hc ?_); (case ha => first | exact ab_const | exact ab_name | exact ab_sub); (case hb => exact rfl); (case hc => exact rfl)))
local macro_rules | `(tactic| walk_at "rv") => `(tactic| ((with_reducible refine' meth0 F.plainAttrs_list F.slot_list_reverse F.type_list_reverse ?ha ?hc ?_); (case ha => first | exact ab_const | exact ab_name | exact ab_sub); (case hc => exact rfl)))
local macro_rules | `(tactic| walk_at "lidx") => `(tactic| ((with_reducible refine' meth1 F.plainAttrs_list F.slot_list_index F.type_list_index ?ha ?hb ?hc ?_); (case ha => first | exact ab_const | exact ab_name | exact ab_sub); (case hb => exact rfl); (case hc => exact rfl)))
local macro_rules | `(tactic| walk_at "args2") => `(tactic| ((with_reducible refine s_cons ?_); walk_at "go"; (with_reducible refine s_cons ?_); walk_at "go"; with_reducible refine s_nil ?_))
local macro_rules | `(tactic| walk_at "exp") => `(tactic| ((with_reducible refine' x_expr ?hi ?hs ?_); (case hi => rfl); (case hs => rfl)))
local macro_rules | `(tactic| walk_at "index") => `(tactic| ((with_reducible refine' meth1 F.plainAttrs_str F.slot_str_index F.type_str_index ?ha ?hb ?hc ?_); (case ha => first | exact ab_const | exact ab_name); (case hb => exact rfl); (case hc => exact rfl)))
local macro_rules | `(tactic| walk_at "join") => `(tactic| ((with_reducible refine' meth1 F.plainAttrs_str F.slot_str_join F.type_str_join ?ha ?hb ?hc ?_); (case ha => first | exact ab_const | exact ab_name | exact ab_sub); (case hb => exact rfl); (case hc => exact rfl)))
local macro_rules | `(tactic| walk_at "split") => `(tactic| ((with_reducible refine' meth1 F.plainAttrs_str F.slot_str_split F.type_str_split ?ha ?hb ?hc ?_); (case ha => first | exact ab_const | exact ab_name | exact ab_sub); (case hb => exact rfl); (case hc => exact rfl)))
local macro_rules | `(tactic| walk_at "bits") => `(tactic| ((with_reducible refine' meth0 F.plainAttrs_int F.slot_int_bit_length F.type_int_bit_length ?ha ?hc ?_); (case ha => first | exact ab_const | exact ab_name | exact ab_sub); (case hc => exact rfl)))
local macro_rules | `(tactic| walk_at "cmp") => `(tactic| ((with_reducible refine' wpAny_isTrue_Compare1 ?_ ?hm); (case hm => rfl)))
local macro_rules | `(tactic| walk_at "t0") => `(tactic| ((with_reducible refine' t_fst ?hl ?he ?_); (case hl => assumption); (case he => rfl)))
local macro_rules | `(tactic| walk_at "t1") => `(tactic| ((with_reducible refine' t_snd ?hl ?he ?_); (case hl => assumption); (case he => rfl)))
local macro_rules | `(tactic| walk_at "sl") => `(tactic| ((with_reducible refine x_sliceEnd fun D' h' tk' k' hs' => ?_); have F' := Frm.grow (by assumption) k'))
local macro_rules | `(tactic| walk_at "st") => `(tactic| ((with_reducible refine' x_st ?F ?k ?l fun h' tk' F' => ?_); (case F => assumption); (case k => rfl); (case l => rfl)))
local macro_rules | `(tactic| walk_at "stc") => `(tactic| ((with_reducible refine' x_stc ?F ?k ?l ?c fun h' tk' F' => ?_); (case F => assumption); (case k => rfl); (case l => rfl); (case c => rfl)))
local macro_rules | `(tactic| walk_at "go") => `(tactic| first
  | with_reducible refine x_cons ?_
  | ((with_reducible refine' x_assign ?hs ?_); (case hs => rfl))
  | with_reducible refine wpAny_BinOp ?_
  | with_reducible refine Subscript_ ?_
  | with_reducible refine x_int fun _ _ => ?_
  | with_reducible refine x_str fun _ _ => ?_
  | walk_at "ld"
  | walk_at "ldc"
  | walk_at "ldn"
  | walk_at "ldk"
  | walk_at "ldf"
  | with_reducible refine x_call ?_
  | with_reducible refine x_slice ?_
  | with_reducible refine p_none ?_
  | walk_at "sl"
  | with_reducible refine p_some ?_
  | with_reducible refine wpAny_UnaryOp ?_
  | with_reducible refine i_neg fun _ _ => ?_
  | with_reducible refine i_add fun _ _ => ?_
  | with_reducible refine i_sub fun _ _ => ?_
  | with_reducible refine i_le ?_
  | with_reducible refine i_lt ?_
  | with_reducible refine i_eq ?_
  | with_reducible refine wpAny_Return_some ?_
  | with_reducible refine x_next ?_
  | with_reducible refine x_ret ?_
  | with_reducible refine strOk ?_
  | with_reducible refine intOk ?_
  | with_reducible refine wpAny_If ?_
  | with_reducible refine wpAny_truthy_bool ?_)
/-- what figures are worth, the last one first -/
def worthLE (B : Nat) : List Nat → Nat
  | [] => 0
  | d :: r => d + B * worthLE B r
theorem worthLE_append (B : Nat) (l l' : List Nat) : worthLE B (l ++ l') = worthLE B l + B ^ l.length * worthLE B l' := by
  induction l with
  | nil => simp [worthLE]
  | cons d r ih =>
    show d + B * worthLE B (r ++ l') = d + B * worthLE B r + B ^ (r.length + 1) * worthLE B l'
    rw [ih, Nat.mul_add, Nat.pow_succ', Nat.mul_assoc, Nat.add_assoc]
theorem worthLE_lt {B : Nat} : ∀ (l : List Nat), (∀ d ∈ l, d < B) → worthLE B l < B ^ l.length
  | [], _ => by simp [worthLE]
  | d :: r, h => by
    have h1 := worthLE_lt r fun x hx => h x (List.mem_cons_of_mem _ hx)
    have h2 := h d List.mem_cons_self
    show d + B * worthLE B r < B ^ (r.length + 1)
    rw [Nat.pow_succ']
    have h3 : B * (worthLE B r + 1) ≤ B * B ^ r.length := Nat.mul_le_mul_left _ h1
    rw [Nat.mul_add, Nat.mul_one] at h3
    omega
abbrev natI (ds : List Nat) : List Int := ds.map Int.ofNat
theorem ints_get {vs : List Value} {ns : List Int} (h : IntsAre vs ns) (k : Nat) (x : Int) (hk : ns[k]? = some x) : ∃ t, vs[k]? = some (.int x t) := by
  induction h generalizing k with
  | nil => simp at hk
  | cons n u r ih =>
    cases k with
    | zero => exact ⟨u, by simpa using hk⟩
    | succ k => exact ih k (by simpa using hk)

theorem innerB_call {prog : Program} {w : World} {n : Nat} (hn : n = 2 ∨ n = 3) {b : Heap} {D f c cn cd ci : Addr} {doc pm ctv : Value} {tn : Tok} {vs : List Value} {ds : List Nat}
    (bf : b.get? f = some (innerO 7 [(Str.ofString "n", cn), (Str.ofString "inner", ci), (Str.ofString "digits", cd)] doc pm c ctv)) (bc : b.CodeRec (.ref c) (qualI 7)) (bl : b.NoLimit)
    (b1 : b.IsCell cn (some (.int n tn))) (b2 : b.IsCell ci (some (.ref f))) (b3 : b.IsCell cd (some (.ref D))) (bD : b.IsList D vs.toArray) (hi : IntsAre vs (natI ds)) (hds : ∀ d ∈ ds, d < 2 ^ n) (hlen : ds.length ≤ 100) :
    ∀ (k : Nat) {lo : Nat} {t2 t3 : Tok} {A : Around} {E : Value → Shared → Prop} {s : Shared} {h : Heap} {tk : Nat} {Q : Value → Shared → Prop}, 1 ≤ k → k ≤ 16 → lo + k ≤ ds.length → A.depth + k < recursionLimit →
      Kept b h → Tb h →
      (∀ h' tk' t, Kept h h' → Q (.int (worthLE (2 ^ n) ((ds.drop lo).take k) : Nat) t) (mk s h' tk')) →
      wpAny (model prog w) A (call (.ref f) [.int lo t2, .int (lo + k : Nat) t3]) Q E (mk s h tk) := by
  intro k
  induction k using Nat.strongRecOn with
  | ind k ih =>
    intro lo t2 t3 A E s h tk Q hk1 hk2 hlo hroom kb hT q
    refine call_inner (kb _ _ bf) (bc.keeps kb) (bl.keeps kb) (by omega) (binds := [("L", .int lo t2), ("R", .int (lo + k : Nat) t3)]) rfl (by decide +kernel) (locs (by rfl)) rfl rfl rfl fun L h₁ tk₁ hN kh hL => ?_
    have hvl := hi.length
    have b1' := b1.keeps (kb.trans kh)
    have b2' := b2.keeps (kb.trans kh)
    have b3' := b3.keeps (kb.trans kh)
    have G : Frm h (envI 7 [] L f c) (fun x₀ => [(Str.ofString "L", Value.int lo t2), (Str.ofString "R", Value.int (lo + k : Nat) t3)].reverse.lookup x₀) (fun _ => none) [] h₁ := by
      refine ⟨hN, fun p hp => (nomatch hp), fun p hp => (nomatch hp), kh, fun a ha => ?_, ?_, List.nodup_nil, hT.keeps kh, fun p hp => (nomatch hp)⟩
      · have : a = L := by simpa [mineOf, envI] using ha
        subst this
        exact ⟨hL, hT.ne hL⟩
      · simp [mineOf, envI]
    refine x_cons ?_
    walk_at "go"
    walk_at "cmp"
    iterate 7 walk_at "go"
    by_cases h1 : k = 1
    · subst h1
      rw [show ((lo : Int) + 1 == ((lo + 1 : Nat) : Int)) = true by simp]
      refine b_true ?_
      iterate 5 walk_at "go"
      have hl1 : h₁.IsList D vs.toArray := by obtain ⟨o', e, r⟩ := bD; exact ⟨o', kh _ _ (kb _ _ e), r⟩
      obtain ⟨d, hd⟩ : ∃ d, ds[lo]? = some d := ⟨ds[lo]'(by omega), List.getElem?_eq_getElem (by omega)⟩
      obtain ⟨td, hv⟩ := ints_get hi lo d (by rw [List.getElem?_map, hd]; rfl)
      refine l_item hl1 (by omega) (v := .int d td) (by simpa using hv) rfl ?_
      repeat walk_at "go"
      have e1 : worthLE (2 ^ n) ((ds.drop lo).take 1) = d := by
        have : (ds.drop lo).take 1 = [d] := by
          obtain ⟨hlt, e⟩ := List.getElem?_eq_some_iff.mp hd
          rw [List.drop_eq_getElem_cons hlt, e]; rfl
        rw [this]; simp [worthLE]
      rw [e1] at q
      exact q h₁ _ td kh
    · rw [show ((lo : Int) + 1 == ((lo + k : Nat) : Int)) = false by simp; omega]
      refine b_false ?_
      refine wpAny_execs_nil ?_
      obtain ⟨j, hj⟩ : ∃ j, j = k / 2 := ⟨_, rfl⟩
      have hj1 : 1 ≤ j := by omega
      have hj2 : j < k := by omega
      have st : ∀ {h₀ : Heap} {m : Str → Option Value} {tk₀ : Nat} {x₀ : Str} {v₀ : Value} {Q₀ : Unit → Shared → Prop} {E₀ : Value → Shared → Prop}, Frm h (envI 7 [] L f c) m (fun _ => none) [] h₀ →
          (envI 7 [(Str.ofString "n", cn), (Str.ofString "inner", ci), (Str.ofString "digits", cd)] L f c).kindOf x₀ = some .local →
          (∀ h' tk', Frm h (envI 7 [] L f c) (upd m x₀ v₀) (fun _ => none) [] h' → h'.Ns L (upd m x₀ v₀) → h'.IsCell cn (some (.int n tn)) → h'.IsCell ci (some (.ref f)) → h'.IsCell cd (some (.ref D)) → Q₀ () (mk s h' tk')) →
          wpAny (model prog w) (A.deeper (envI 7 [(Str.ofString "n", cn), (Str.ofString "inner", ci), (Str.ofString "digits", cd)] L f c)) (storeName (envI 7 [(Str.ofString "n", cn), (Str.ofString "inner", ci), (Str.ofString "digits", cd)] L f c) x₀ v₀) Q₀ E₀ (mk s h₀ tk₀) := by
        intro h₀ m tk₀ x₀ v₀ Q₀ E₀ F₀ hl₀ q₀
        exact x_stn F₀ rfl rfl hl₀ fun h' tk' F' => q₀ h' tk' F' F'.ns (b1.keeps (kb.trans F'.keep)) (b2.keeps (kb.trans F'.keep)) (b3.keeps (kb.trans F'.keep))
      repeat walk_at "go"
      with_reducible refine' i_shr' (k := 1) ?e fun _ _ => ?_
      case e => rfl
      rw [show ((lo : Int) + ((lo + k : Nat) : Int)) / 2 ^ 1 = ((lo + j : Nat) : Int) by omega]
      refine st G rfl fun h₂ tk₂ G₂ N₂ c2 c2' c2'' => ?_
      repeat walk_at "go"
      rw [show ((lo + j : Nat) : Int) - (lo : Int) = (j : Int) by omega]
      with_reducible refine' i_mul ?_ fun _ _ => ?_
      · exact mulOk_small (by omega) (by omega)
      rw [show (j : Int) * (n : Int) = ((j * n : Nat) : Int) by push_cast; rfl]
      refine st G₂ rfl fun h₃ tk₃ G₃ N₃ c3 c3' c3'' => ?_
      have hdep : (A.deeper (envI 7 [(Str.ofString "n", cn), (Str.ofString "inner", ci), (Str.ofString "digits", cd)] L f c)).depth = A.depth + 1 := rfl
      iterate 7 walk_at "go"
      with_reducible refine' d_callN bf (bt2 ?b1 ?b2) ?_
      case b1 => rfl
      case b2 => rfl
      with_reducible refine s_cons ?_
      walk_at "go"
      with_reducible refine s_cons ?_
      walk_at "go"
      with_reducible refine s_nil ?_
      refine ⟨kb.trans G₃.keep, ?_⟩
      have hlk : lo + k = (lo + j) + (k - j) := by omega
      rw [hlk]
      refine ih (k - j) (by omega) (by omega) (by omega) (by omega) (by rw [hdep]; omega) (kb.trans G₃.keep) G₃.tabs fun h₄ tk₄ t4 k₄ => ?_
      have G₄ := G₃.grow k₄
      have N₄ := G₄.ns
      have c4 : h₄.IsCell ci (some (.ref f)) := c3'.keeps k₄
      repeat walk_at "go"
      have hup : worthLE (2 ^ n) ((ds.drop (lo + j)).take (k - j)) < 2 ^ 48 := by
        have h1 := worthLE_lt (B := 2 ^ n) ((ds.drop (lo + j)).take (k - j)) fun d hd => hds d (List.mem_of_mem_drop (List.mem_of_mem_take hd))
        refine Nat.lt_of_lt_of_le h1 ?_
        rw [← Nat.pow_mul]
        refine Nat.pow_le_pow_right (by decide) ?_
        have h2 : ((ds.drop (lo + j)).take (k - j)).length ≤ 16 := by rw [List.length_take]; omega
        have h3 : n ≤ 3 := by omega
        calc n * _ ≤ 3 * 16 := Nat.mul_le_mul h3 h2
          _ = 48 := rfl
      have hjn : j * n ≤ 48 := by
        have h1 : j ≤ 16 := by omega
        have h2 : n ≤ 3 := by omega
        calc j * n ≤ 16 * 3 := Nat.mul_le_mul h1 h2
          _ = 48 := rfl
      with_reducible refine' i_shl ?_ ?_ fun _ _ => ?_
      · omega
      · rw [Int.natAbs_natCast]; exact Nat.lt_trans hup (by decide)
      iterate 2 walk_at "go"
      with_reducible refine' d_callN bf (bt2 ?b1 ?b2) ?_
      case b1 => rfl
      case b2 => rfl
      with_reducible refine s_cons ?_
      walk_at "go"
      with_reducible refine s_cons ?_
      walk_at "go"
      with_reducible refine s_nil ?_
      refine ⟨kb.trans G₄.keep, ?_⟩
      refine ih j hj2 hj1 (by omega) (by omega) (by rw [hdep]; omega) (kb.trans G₄.keep) G₄.tabs fun h₅ tk₅ t5 k₅ => ?_
      repeat walk_at "go"
      have eW : ((worthLE (2 ^ n) ((ds.drop (lo + j)).take (k - j)) : Nat) : Int) * 2 ^ (j * n) + ((worthLE (2 ^ n) ((ds.drop lo).take j) : Nat) : Int) = ((worthLE (2 ^ n) ((ds.drop lo).take k) : Nat) : Int) := by
        have e1 : (ds.drop lo).take k = (ds.drop lo).take j ++ (ds.drop (lo + j)).take (k - j) := by
          rw [← List.drop_drop, ← List.take_add]; congr 1; omega
        have e2 : ((ds.drop lo).take j).length = j := by rw [List.length_take, List.length_drop]; omega
        rw [e1, worthLE_append, e2, ← Nat.pow_mul, Nat.mul_comm n j]
        push_cast
        rw [Int.mul_comm, Int.add_comm]
      rw [eW]
      exact q h₅ _ _ (G₄.keep.trans k₅)

theorem truthy_l {prog : Program} {w : World} {A : Around} {E : Value → Shared → Prop} {s : Shared} {h : Heap} {tk : Nat} {a : Addr} {vs : Array Value} {Q : Bool → Shared → Prop} (ht : h.IsList a vs) (hz : vs.size < 2 ^ 63) (q : ∀ tk', Q (!vs.isEmpty) (mk s h tk')) : wpAny (model prog w) A (truthy (.ref a)) Q E (mk s h tk) :=
  wpAny_truthy_list (s := mk s h tk) ht (by omega) (q _)
theorem digits2int_call {prog : Program} {w : World} {A : Around} {E : Value → Shared → Prop} {s : Shared} {h : Heap} {tk : Nat} {Q : Value → Shared → Prop} {n : Nat} {u : Tok} {D : Addr} {vs : List Value} {ds : List Nat}
    (hB : Base h) (hT : Tb h) (hroom : A.depth + 20 < recursionLimit) (hn : n = 2 ∨ n = 3) (hD : h.IsList D vs.toArray) (hi : IntsAre vs (natI ds)) (hds : ∀ d ∈ ds, d < 2 ^ n) (hlen : ds.length ≤ 16)
    (q : ∀ h' tk' t, KeptT h h' → Q (.int (worthLE (2 ^ n) ds : Nat) t) (mk s h' tk')) :
    wpAny (model prog w) A (call (.ref 49) [.ref D, .int n u]) Q E (mk s h tk) := by
  refine call_defC ["inner", "n", "digits"] (fun _ => rfl) (by decide) hB.f49 hB.nolimit hT (by omega) (binds := [("digits", .ref D), ("n", .int n u)]) (fun _ _ _ _ _ => rfl)
    (PySem.W.kindsX rfl) rfl rfl rfl (fun L cd h₁ tk₁ hcd G => ?_)
  subst hcd
  have eC : cellsFrom (L + 1) (scopeOf (stmtAt 7)).names [] = [(Str.ofString "inner", L + 1 + 1 + 1), (Str.ofString "n", L + 1 + 1), (Str.ofString "digits", L + 1)] := rfl
  rw [eC] at G ⊢
  replace G : Frm h (envF 7 [(Str.ofString "inner", L + 1 + 1 + 1), (Str.ofString "n", L + 1 + 1), (Str.ofString "digits", L + 1)] L 49 (.ref 48)) (fun _ => none) (upd (upd (fun _ => none) "digits" (.ref D)) "n" (.int n u)) [] h₁ := G
  have F := G.weaken (ghost_kept h)
  have hBg := hB.ghost
  have gD : (ghost h).IsList D vs.toArray := by
    obtain ⟨o, e, nc, r⟩ := isList_nc hD
    obtain ⟨n1, n2⟩ := tb_ne hT e nc
    exact ⟨o, ghost_get n1 n2 e, r⟩
  clear G
  refine x_cons ?_
  obtain ⟨mg, mb, hg, _, _, _, _, _, hb44⟩ := hBg.top
  show wpAny _ _ (exec (innerOf 7) _) _ _ _
  refine x_inner (P' := 37) (i' := 6) [(Str.ofString "n", L + 1 + 1), (Str.ofString "inner", L + 1 + 1 + 1), (Str.ofString "digits", L + 1)] F (ghost37 h) (ghost44 h) (Or.inr ⟨rfl, rfl, rfl, rfl⟩) hBg.c44 hg hb44 rfl rfl rfl rfl rfl rfl rfl rfl fun f c' doc ctv pm h₅ tk₅ F5 hrec => ?_
  obtain ⟨b', kb', F5', g37, g44, hrec'⟩ := F5.code (ghost37 h) (ghost44 h) hrec
  clear F5 F
  walk_at "stc"
  rename_i h₆ tk₆ F6
  have hBb := hBg.keeps kb'
  iterate 2 walk_at "go"
  walk_at "go"
  refine wpAny_IfExp ?_
  refine wpAny_isTrue_value ?_ rfl
  walk_at "go"
  have lD : h₆.IsList D vs.toArray := by obtain ⟨o, e, r⟩ := gD; exact ⟨o, F6.keep _ _ (kb' _ _ e), r⟩
  have hvl := hi.length
  rw [List.length_map] at hvl
  refine truthy_l lD (by simp; omega) fun tkt => ?_
  have fin : ∀ h₇ tk₇ t₇, Kept h₆ h₇ → Q (.int (worthLE (2 ^ n) ds : Nat) t₇) (mk s h₇ tk₇) := fun h₇ tk₇ t₇ k₇ => q h₇ tk₇ t₇ (keptT_of (kb'.trans (F6.keep.trans k₇)) (F6.tabs.keeps k₇))
  by_cases h0 : ds = []
  · subst h0
    have : vs = [] := List.length_eq_zero_iff.mp hvl
    subst this
    refine b_false ?_
    repeat walk_at "go"
    exact fin h₆ _ _ (Kept.refl _)
  · rw [show (!vs.toArray.isEmpty) = true by cases vs with | nil => exact absurd (List.length_eq_zero_iff.mp hvl.symm) h0 | cons => rfl]
    refine b_true ?_
    iterate 2 walk_at "go"
    have nfo : h₆.get? f = some _ := F6.get (List.Mem.head _)
    with_reducible refine' d_callN nfo (bt2 ?b1 ?b2) ?_
    case b1 => rfl
    case b2 => rfl
    with_reducible refine s_cons ?_
    walk_at "go"
    with_reducible refine s_cons ?_
    iterate 1 walk_at "go"
    walk_at "blt"
    with_reducible refine' b_call1 ?_ ?_
    · rfl
    walk_at "go"
    with_reducible refine' len_l lD ?_ fun _ _ => ?_
    · simp; omega
    with_reducible refine s_nil ?_
    refine ⟨Kept.refl _, ?_⟩
    have hd1 : 1 ≤ ds.length := List.length_pos_iff.mpr h0
    have ez : (vs.toArray.size : Int) = ((0 + ds.length : Nat) : Int) := by simp; omega
    rw [ez]
    refine innerB_call hn (b := h₆) (D := D) nfo (hrec'.keeps F6.keep) (hBb.nolimit.keeps F6.keep) (F6.cell (Str.ofString "n", L + 1 + 1) (by simp [envF])) (F6.cell (Str.ofString "inner", L + 1 + 1 + 1) (by simp [envF])) (F6.cell (Str.ofString "digits", L + 1) (by simp [envF])) lD hi hds (by omega)
      ds.length (lo := 0) hd1 hlen (by omega) ?_ (Kept.refl _) F6.tabs fun h₇ tk₇ t₇ k₇ => ?_
    · show A.depth + 1 + _ < recursionLimit
      omega
    · repeat walk_at "go"
      rw [List.drop_zero, List.take_length]
      exact fin h₇ _ _ k₇
end Mine
end
section
open PySem PyProof.Rows
set_option maxHeartbeats 4000000
namespace Mine
local macro_rules | `(tactic| walk_at "look") => `(tactic| first | rfl | assumption | exact ((if_neg (by decide)).trans (by assumption)) | exact ((if_neg (by decide)).trans ((if_neg (by decide)).trans (by assumption))) | exact ((if_neg (by decide)).trans ((if_neg (by decide)).trans ((if_neg (by decide)).trans (by assumption)))) | exact ((if_neg (by decide)).trans ((if_neg (by decide)).trans ((if_neg (by decide)).trans ((if_neg (by decide)).trans (by assumption))))) | exact ((if_neg (by decide)).trans ((if_neg (by decide)).trans ((if_neg (by decide)).trans ((if_neg (by decide)).trans ((if_neg (by decide)).trans (by assumption)))))) | exact ((if_neg (by decide)).trans ((if_neg (by decide)).trans ((if_neg (by decide)).trans ((if_neg (by decide)).trans ((if_neg (by decide)).trans ((if_neg (by decide)).trans (by assumption))))))) | exact ((if_neg (by decide)).trans ((if_neg (by decide)).trans ((if_neg (by decide)).trans ((if_neg (by decide)).trans ((if_neg (by decide)).trans ((if_neg (by decide)).trans ((if_neg (by decide)).trans (by assumption)))))))) | exact ((if_neg (by decide)).trans ((if_neg (by decide)).trans ((if_neg (by decide)).trans ((if_neg (by decide)).trans ((if_neg (by decide)).trans ((if_neg (by decide)).trans ((if_neg (by decide)).trans ((if_neg (by decide)).trans (by assumption))))))))) | exact ((if_neg (by decide)).trans ((if_neg (by decide)).trans ((if_neg (by decide)).trans ((if_neg (by decide)).trans ((if_neg (by decide)).trans ((if_neg (by decide)).trans ((if_neg (by decide)).trans ((if_neg (by decide)).trans ((if_neg (by decide)).trans (by assumption)))))))))))
local macro_rules | `(tactic| walk_at "ld") => `(tactic| ((with_reducible refine' x_ld ?F ?k ?l ?v ?d ?_); (case F => assumption); (case k => rfl); (case l => rfl); (case v => walk_at "look"); (case d => rfl)))
local macro_rules | `(tactic| walk_at "ldn") => `(tactic| ((with_reducible refine' x_ldn ?F ?k ?l ?v ?d ?_); (case F => assumption); (case k => rfl); (case l => rfl); (case v => first | assumption | rfl); (case d => rfl)))
local macro_rules | `(tactic| walk_at "ldc") => `(tactic| ((with_reducible refine' x_ldc ?F ?k ?l ?c ?v ?d ?_); (case F => assumption); (case k => rfl); (case l => rfl); (case c => rfl); (case v => first | assumption | rfl); (case d => rfl)))
local macro_rules | `(tactic| walk_at "ldf") => `(tactic| ((with_reducible refine' x_ldf ?k ?l ?c ?v ?d ?e ?_); (case k => rfl); (case l => rfl); (case c => rfl); (case v => assumption); (case d => rfl); (case e => rfl)))
local macro_rules | `(tactic| walk_at "ldk") => `(tactic| ((with_reducible refine' x_ldk ?k ?l ?c ?v ?d ?_); (case k => rfl); (case l => rfl); (case c => rfl); (case v => assumption); (case d => rfl)))
local macro_rules | `(tactic| walk_at "blt") => `(tactic| ((with_reducible refine' x_blt ?B ?K ?g ?b ?k ?x ?m ?d ?_); (case B => assumption); (case K => first | assumption | exact Frm.keep (by assumption)); (case g => rfl); (case b => rfl); (case k => rfl); (case x => rfl); (case m => simp only [bltNames, List.mem_cons]; first | exact .inl rfl | exact .inr (.inl rfl) | exact .inr (.inr (.inl rfl)) | exact .inr (.inr (.inr (.inl rfl))) | exact .inr (.inr (.inr (.inr (.inl rfl)))) | exact .inr (.inr (.inr (.inr (.inr (.inl rfl))))) | exact .inr (.inr (.inr (.inr (.inr (.inr (.inl rfl)))))) | exact .inr (.inr (.inr (.inr (.inr (.inr (.inr (.inl rfl))))))) | exact .inr (.inr (.inr (.inr (.inr (.inr (.inr (.inr (.inl rfl))))))))); (case d => rfl)))
local macro_rules | `(tactic| walk_at "glob") => `(tactic| ((with_reducible refine' x_glob ?B ?K ?g ?k ?x ?m ?d ?_); (case B => assumption); (case K => first | assumption | exact Frm.keep (by assumption)); (case g => rfl); (case k => rfl); (case x => rfl); (case m => simp only [globNames, List.mem_cons]; first | exact .inl rfl | exact .inr (.inl rfl) | exact .inr (.inr (.inl rfl)) | exact .inr (.inr (.inr (.inl rfl))) | exact .inr (.inr (.inr (.inr (.inl rfl)))) | exact .inr (.inr (.inr (.inr (.inr (.inl rfl))))) | exact .inr (.inr (.inr (.inr (.inr (.inr (.inl rfl)))))) | exact .inr (.inr (.inr (.inr (.inr (.inr (.inr (.inl rfl))))))) | exact .inr (.inr (.inr (.inr (.inr (.inr (.inr (.inr (.inl rfl)))))))) | exact .inr (.inr (.inr (.inr (.inr (.inr (.inr (.inr (.inr (.inl rfl)))))))))); (case d => rfl)))
local macro_rules | `(tactic| walk_at "ap") => `(tactic| ((with_reducible refine' meth1 F.plainAttrs_list F.slot_list_append F.type_list_append ?ha ?hb ?hc ?_); (case ha => first | exact ab_const | exact ab_name | exact ab_sub); (case hb => exact rfl); (case hc => exact rfl)))
local macro_rules | `(tactic| walk_at "rv") => `(tactic| ((with_reducible refine' meth0 F.plainAttrs_list F.slot_list_reverse F.type_list_reverse ?ha ?hc ?_); (case ha => first | exact ab_const | exact ab_name | exact ab_sub); (case hc => exact rfl)))
local macro_rules | `(tactic| walk_at "lidx") => `(tactic| ((with_reducible refine' meth1 F.plainAttrs_list F.slot_list_index F.type_list_index ?ha ?hb ?hc ?_); (case ha => first | exact ab_const | exact ab_name | exact ab_sub); (case hb => exact rfl); (case hc => exact rfl)))
local macro_rules | `(tactic| walk_at "args2") => `(tactic| ((with_reducible refine s_cons ?_); walk_at "go"; (with_reducible refine s_cons ?_); walk_at "go"; with_reducible refine s_nil ?_))
local macro_rules | `(tactic| walk_at "exp") => `(tactic| ((with_reducible refine' x_expr ?hi ?hs ?_); (case hi => rfl); (case hs => rfl)))
local macro_rules | `(tactic| walk_at "index") => `(tactic| ((with_reducible refine' meth1 F.plainAttrs_str F.slot_str_index F.type_str_index ?ha ?hb ?hc ?_); (case ha => first | exact ab_const | exact ab_name); (case hb => exact rfl); (case hc => exact rfl)))
local macro_rules | `(tactic| walk_at "join") => `(tactic| ((with_reducible refine' meth1 F.plainAttrs_str F.slot_str_join F.type_str_join ?ha ?hb ?hc ?_); (case ha => first | exact ab_const | exact ab_name | exact ab_sub); (case hb => exact rfl); (case hc => exact rfl)))
local macro_rules | `(tactic| walk_at "split") => `(tactic| ((with_reducible refine' meth1 F.plainAttrs_str F.slot_str_split F.type_str_split ?ha ?hb ?hc ?_); (case ha => first | exact ab_const | exact ab_name | exact ab_sub); (case hb => exact rfl); (case hc => exact rfl)))
local macro_rules | `(tactic| walk_at "bits") => `(tactic| ((with_reducible refine' meth0 F.plainAttrs_int F.slot_int_bit_length F.type_int_bit_length ?ha ?hc ?_); (case ha => first | exact ab_const | exact ab_name | exact ab_sub); (case hc => exact rfl)))
local macro_rules | `(tactic| walk_at "cmp") => `(tactic| ((with_reducible refine' wpAny_isTrue_Compare1 ?_ ?hm); (case hm => rfl)))
local macro_rules | `(tactic| walk_at "t0") => `(tactic| ((with_reducible refine' t_fst ?hl ?he ?_); (case hl => assumption); (case he => rfl)))
local macro_rules | `(tactic| walk_at "t1") => `(tactic| ((with_reducible refine' t_snd ?hl ?he ?_); (case hl => assumption); (case he => rfl)))
local macro_rules | `(tactic| walk_at "sl") => `(tactic| ((with_reducible refine x_sliceEnd fun D' h' tk' k' hs' => ?_); have F' := Frm.grow (by assumption) k'))
local macro_rules | `(tactic| walk_at "st") => `(tactic| ((with_reducible refine' x_st ?F ?k ?l fun h' tk' F' => ?_); (case F => assumption); (case k => rfl); (case l => rfl)))
local macro_rules | `(tactic| walk_at "stc") => `(tactic| ((with_reducible refine' x_stc ?F ?k ?l ?c fun h' tk' F' => ?_); (case F => assumption); (case k => rfl); (case l => rfl); (case c => rfl)))
local macro_rules | `(tactic| walk_at "go") => `(tactic| first
  | with_reducible refine x_cons ?_
  | ((with_reducible refine' x_assign ?hs ?_); (case hs => rfl))
  | with_reducible refine wpAny_BinOp ?_
  | with_reducible refine Subscript_ ?_
  | with_reducible refine x_int fun _ _ => ?_
  | with_reducible refine x_str fun _ _ => ?_
  | walk_at "ld"
  | walk_at "ldc"
  | walk_at "ldn"
  | walk_at "ldk"
  | walk_at "ldf"
  | with_reducible refine x_call ?_
  | with_reducible refine x_slice ?_
  | with_reducible refine p_none ?_
  | walk_at "sl"
  | with_reducible refine p_some ?_
  | with_reducible refine wpAny_UnaryOp ?_
  | with_reducible refine i_neg fun _ _ => ?_
  | with_reducible refine i_add fun _ _ => ?_
  | with_reducible refine i_sub fun _ _ => ?_
  | with_reducible refine i_le ?_
  | with_reducible refine i_lt ?_
  | with_reducible refine i_eq ?_
  | with_reducible refine wpAny_Return_some ?_
  | with_reducible refine x_next ?_
  | with_reducible refine x_ret ?_
  | with_reducible refine strOk ?_
  | with_reducible refine intOk ?_
  | with_reducible refine wpAny_If ?_
  | with_reducible refine wpAny_truthy_bool ?_)
theorem TabSt.wr {h h' : Heap} {P : Addr} {i : Nat} {wr : List Addr} (x : TabSt h P i) (hP : P ∉ wr) (hc : ∀ a ∈ wr, ∀ q, ¬ h.CodeRec (.ref a) q) (k : ∀ a o, a ∉ wr → h.get? a = some o → h'.get? a = some o) : TabSt h' P i := by
  obtain ⟨ps, e, ht, hc'⟩ := x
  refine ⟨ps, k _ _ hP e, ht, hc'.imp id fun ⟨c', e1, e3⟩ => ⟨c', e1, ?_⟩⟩
  have ne : c' ∉ wr := fun q => hc c' q _ e3
  obtain ⟨c₂, o, vs, t, q1, ho, r⟩ := e3
  cases q1
  exact ⟨c', o, vs, t, rfl, k _ _ ne ho, r⟩

/-- an object of mine becomes the base's -/
theorem Frm.settle {b h : Heap} {env : Env} {m cm : Str → Option Value} {ow : List (Addr × Obj)} {a : Addr} {o : Obj} (F : Frm b env m cm ((a, o) :: ow) h) (h1 : b.get? 37 = none) (h2 : b.get? 44 = none) :
    ∃ b', Kept b b' ∧ Frm b' env m cm ow h ∧ b'.get? 37 = none ∧ b'.get? 44 = none ∧ b'.get? a = some o := by
  obtain ⟨b', k, F', g1, g2, g⟩ := F.drop.rebase h1 h2
  have e : (mineOf env ((a, o) :: ow)).Perm (a :: mineOf env ow) := by
    unfold mineOf
    rw [List.map_cons]
    exact (List.Perm.cons _ List.perm_middle).trans (List.Perm.swap _ _ _)
  have nd := List.nodup_cons.mp (e.nodup_iff.mp F.nodup)
  have of := F.off a (e.mem_iff.mpr List.mem_cons_self)
  exact ⟨b', k, F', g1, g2, g a o of.2.1 of.2.2 nd.1 (F.own _ List.mem_cons_self)⟩

section
variable {prog : Program} {w : World} {A : Around} {s : Shared} {h : Heap} {tk : Nat} {env : Env}

/-- what a for loop wants of its iterator -/
def ForAt (prog : Program) (w : World) (A : Around) (s : Shared) (b : Heap) (env : Env) (cm : Str → Option Value) (x : Str) (body : List Stmt) (Q : Flow → Shared → Prop) (it : Value) (s₂ : Shared) : Prop :=
  ∃ (h₂ : Heap) (tk₂ : Nat) (I : Addr) (fp wr : List Addr) (n : Nat) (P : Nat → Value → Prop) (St : Nat → Heap → Prop) (m : Str → Option Value) (ow : List (Addr × Obj)) (J : Nat → (Str → Option Value) → List (Addr × Obj) → Prop),
    it = .ref I ∧ s₂ = mk s h₂ tk₂ ∧ Walks prog w A I fp wr n P St ∧ St 0 h₂ ∧ Frm b env m cm ow h₂ ∧ b.get? 37 = none ∧ b.get? 44 = none ∧ (∀ a ∈ fp, a ∉ mineOf env ow ∧ a ≠ 37 ∧ a ≠ 44) ∧ (∀ a ∈ wr, b.get? a = none) ∧
    (∀ i h, St i h → ∀ a ∈ fp, ∃ o, h.get? a = some o) ∧ (∀ i h, St i h → ∀ a ∈ wr, ∀ q, ¬ h.CodeRec (.ref a) q) ∧ J 0 m ow ∧
    (∀ i v m₁ ow₁ b₁ h₁ tk₁, i < n → P i v → J i m₁ ow₁ → Kept b b₁ → b₁.get? 37 = none → b₁.get? 44 = none → Frm b₁ env (upd m₁ x v) cm ow₁ h₁ →
      wpAny (model prog w) A (execs body env) (fun f s₃ => f = .next ∧ ∃ h' tk' m' ow', s₃ = mk s h' tk' ∧ Frm b₁ env m' cm ow' h' ∧ J (i + 1) m' ow') (fun _ _ => False) (mk s h₁ tk₁)) ∧
    (∀ h' tk' m' ow', Frm b env m' cm ow' h' → J n m' ow' → Q .next (mk s h' tk'))

theorem f_for {b : Heap} {cm : Str → Option Value} {x : Str} {px pos : Pos} {iter : Expr} {body : List Stmt} {Q : Flow → Shared → Prop} (hk : env.scope.kind = .function) (hl : env.kindOf x = some .local) (hs : ∀ x, foldedSetIterable iter env x = pure x)
    (k : wpAny (model prog w) A (eval iter env) (fun xv s₁ => wpAny (model prog w) A (pyIter xv) (ForAt prog w A s b env cm x body Q) (fun _ _ => False) s₁) (fun _ _ => False) (mk s h tk)) :
    wpAny (model prog w) A (exec (.For (.Name x px) iter body [] pos) env) Q (fun _ _ => False) (mk s h tk) := by
  refine wpAny_For (wpAny_mono k (fun xv s₁ h₁ => wpAny_mono h₁ (fun it s₂ h₂ => ?_) fun _ _ e => e) fun _ _ e => e) hs
  obtain ⟨h₂, tk₂, I, fp, wr, n, P, St, m, ow, J, rfl, rfl, W, st, F, b37, b44, hfp, hwr, hex, hnc, j0, turn, done⟩ := h₂
  refine codeAny_forLoop (fun k s' => ∃ h' tk' m' ow' i, s' = mk s h' tk' ∧ St i h' ∧ Frm b env m' cm ow' h' ∧ (∀ a ∈ fp, a ∉ mineOf env ow' ∧ a ≠ 37 ∧ a ≠ 44) ∧ J i m' ow' ∧ i ≤ n ∧ k = n + 1 - i) ?_ (n + 1) ⟨h₂, tk₂, m, ow, 0, rfl, st, F, hfp, j0, Nat.zero_le _, rfl⟩
  rintro k s' ⟨h', tk', m', ow', i, rfl, st', F', hfp', hJ, hi, rfl⟩
  have next : ∀ h₁ : Heap, (∀ a o, a ∉ wr → h'.get? a = some o → h₁.get? a = some o) → Frm b env m' cm ow' h₁ := fun h₁ hk₁ => by
    have off : ∀ a ∈ mineOf env ow', a ∉ wr := fun a ha q => (hfp' a (W.sub a q)).1 ha
    refine ⟨?_, fun p hp => ?_, fun p hp => ?_, fun a o e => ?_, F'.off, F'.nodup, F'.names, ?_, F'.nc⟩
    · obtain ⟨o, es, ep, e, r⟩ := F'.ns
      exact ⟨o, es, ep, hk₁ _ _ (off _ List.mem_cons_self) e, r⟩
    · obtain ⟨o, e, d⟩ := F'.cell p hp
      exact ⟨o, hk₁ _ _ (off _ (List.mem_cons_of_mem _ (List.mem_append_left _ (List.mem_map_of_mem hp)))) e, d⟩
    · exact hk₁ _ _ (off _ (List.mem_cons_of_mem _ (List.mem_append_right _ (List.mem_map_of_mem hp)))) (F'.own p hp)
    · exact hk₁ _ _ (fun q => by rw [hwr a q] at e; cases e) (F'.keep a o e)
    · exact ⟨F'.tabs.1.wr (fun q => (hfp' _ (W.sub _ q)).2.1 rfl) (hnc i h' st') hk₁, F'.tabs.2.wr (fun q => (hfp' _ (W.sub _ q)).2.2 rfl) (hnc i h' st') hk₁⟩
  by_cases hlt : i < n
  · refine W.item i _ _ _ hlt st' fun v h₁ tk₁ hP st₁ hk₁ => ?_
    have F₁ := next h₁ hk₁
    obtain ⟨b₁, kb, F₁', g37, g44, hg⟩ := F₁.rebase b37 b44
    refine wpAny_mono (E := fun _ _ => False) (wpAny_assign_Name (x_st (s := s) (h := h₁) (tk := tk₁) F₁' hk hl fun h₃ tk₃ F₃ => wpAny_mono (E := fun _ _ => False) (turn i v m' ow' b₁ h₃ tk₃ hlt hP hJ kb g37 g44 F₃) (fun f s₃ h₃ => ?_) fun _ _ e => e.elim)) (fun _ _ z => z) fun _ _ e => e.elim
    obtain ⟨rfl, h₄, tk₄, m₄, ow₄, rfl, F₄, J₄⟩ := h₃
    refine ⟨n + 1 - (i + 1), by omega, h₄, tk₄, m₄, ow₄, i + 1, rfl, W.frame _ _ _ st₁ fun a ha o e => F₄.keep _ _ (hg a o (hfp' a ha).2.1 (hfp' a ha).2.2 (hfp' a ha).1 e), F₄.weaken kb, fun a ha => ⟨fun q => ?_, (hfp' a ha).2⟩, J₄, hlt, rfl⟩
    obtain ⟨o, e⟩ := hex _ _ st₁ a ha
    have := (F₄.off a q).1
    rw [hg a o (hfp' a ha).2.1 (hfp' a ha).2.2 (hfp' a ha).1 e] at this
    cases this
  · have hin : i = n := by omega
    subst hin
    refine W.done _ _ _ st' fun h₁ tk₁ hk₁ => wpAny_execs_nil ?_
    exact done h₁ tk₁ m' ow' (next h₁ hk₁) hJ

theorem new_off {b : Heap} {m cm : Str → Option Value} {ow : List (Addr × Obj)} (F : Frm b env m cm ow h) {I : Addr} (hI : h.get? I = none) : I ∉ mineOf env ow ∧ I ≠ 37 ∧ I ≠ 44 :=
  ⟨(fun q => by obtain ⟨o, e⟩ := F.there I q; rw [hI] at e; cases e), F.tabs.ne hI⟩
theorem base_off {b : Heap} {m cm : Str → Option Value} {ow : List (Addr × Obj)} (F : Frm b env m cm ow h) (b37 : b.get? 37 = none) (b44 : b.get? 44 = none) {l : Addr} {o : Obj} (hl : b.get? l = some o) : l ∉ mineOf env ow ∧ l ≠ 37 ∧ l ≠ 44 :=
  ⟨(fun q => by rw [(F.off l q).1] at hl; cases hl), (fun q => by rw [q, b37] at hl; cases hl), (fun q => by rw [q, b44] at hl; cases hl)⟩

theorem forAt_range {b : Heap} {m cm : Str → Option Value} {ow : List (Addr × Obj)} {x : Str} {body : List Stmt} {Q : Flow → Shared → Prop} {N : Nat} {I : Addr} {h₂ : Heap} {tk₂ : Nat}
    (hA : A.handled = none) (F : Frm b env m cm ow h) (b37 : b.get? 37 = none) (b44 : b.get? 44 = none) (k : Kept h h₂) (hI : h.get? I = none) (hr : IsRangeIter h₂ I 0 N 1) (J : Nat → (Str → Option Value) → List (Addr × Obj) → Prop) (j0 : J 0 m ow)
    (turn : ∀ i t m₁ ow₁ b₁ h₁ tk₁, i < N → J i m₁ ow₁ → Kept b b₁ → b₁.get? 37 = none → b₁.get? 44 = none → Frm b₁ env (upd m₁ x (.int (i : Nat) t)) cm ow₁ h₁ →
      wpAny (model prog w) A (execs body env) (fun f s₃ => f = .next ∧ ∃ h' tk' m' ow', s₃ = mk s h' tk' ∧ Frm b₁ env m' cm ow' h' ∧ J (i + 1) m' ow') (fun _ _ => False) (mk s h₁ tk₁))
    (done : ∀ h' tk' m' ow', Frm b env m' cm ow' h' → J N m' ow' → Q .next (mk s h' tk')) : ForAt prog w A s b env cm x body Q (.ref I) (mk s h₂ tk₂) := by
  refine ⟨h₂, tk₂, I, [I], [I], N, _, _, m, ow, J, rfl, rfl, Walks.range hA I 0 1 N, by simpa using hr, F.grow k, b37, b44, fun a ha => ?_, fun a ha => ?_, fun i h' st a ha => ?_, fun i h' st a ha q hc => ?_, j0, ?_, done⟩
  · rw [List.mem_singleton.mp ha]; exact new_off F hI
  · rw [List.mem_singleton.mp ha]; exact F.keep.none hI
  · rw [List.mem_singleton.mp ha]; exact ⟨_, st⟩
  · rw [List.mem_singleton.mp ha] at hc
    obtain ⟨c, o, vs, t, e, ho, hd, hv⟩ := hc
    cases e
    rw [st] at ho; cases ho; cases hd; cases hv
  · rintro i v m₁ ow₁ b₁ h₁ tk₁ hi ⟨t, rfl⟩ hJ kb g1 g2 F₁
    have : (0 : Int) + (i : Nat) * 1 = (i : Nat) := by omega
    rw [this] at F₁
    exact turn i t m₁ ow₁ b₁ h₁ tk₁ hi hJ kb g1 g2 F₁

theorem l_iter {E : Value → Shared → Prop} {l : Addr} {items : Array Value} {K : Value → Shared → Prop} (hl : h.IsList l items) (q : ∀ I h₂ tk₂, Kept h h₂ → h.get? I = none → h₂.IsListIter I l 0 → K (.ref I) (mk s h₂ tk₂)) :
    wpAny (model prog w) A (pyIter (.ref l)) K E (mk s h tk) :=
  wpAny_pyIter_list (s := mk s h tk) hl (q _ _ _ (Kept.push _ _) (get?_top _ (Nat.le_refl _)) ⟨_, Heap.get?_push_size _ rfl, rfl, rfl⟩)
theorem rev_iter {E : Value → Shared → Prop} {l : Addr} {items : Array Value} {K : Value → Shared → Prop} (hl : h.IsList l items) (q : ∀ I h₂ tk₂, Kept h h₂ → h.get? I = none → h₂.IsRevIter I l ((items.size : Int) - 1) → K (.ref I) (mk s h₂ tk₂)) :
    wpAny (model prog w) A (call (.type "reversed") [.ref l]) (fun xv s₁ => wpAny (model prog w) A (pyIter xv) K E s₁) E (mk s h tk) := by
  refine call_reversed_list (s := mk s h tk) hl ?_
  have r : (h.push (revObj l ((items.size : Int) - 1))).IsRevIter h.objs.size l ((items.size : Int) - 1) := ⟨_, Heap.get?_push_size _ rfl, rfl, rfl⟩
  exact wpAny_pyIter_revIter (s := mk s (h.push (revObj l ((items.size : Int) - 1))) tk) r (q _ _ _ (Kept.push _ _) (get?_top _ (Nat.le_refl _)) r)

theorem forAt_list {b : Heap} {m cm : Str → Option Value} {ow : List (Addr × Obj)} {x : Str} {body : List Stmt} {Q : Flow → Shared → Prop} {l : Addr} {items : Array Value} {I : Addr} {h₂ : Heap} {tk₂ : Nat}
    (hA : A.handled = none) (F : Frm b env m cm ow h) (b37 : b.get? 37 = none) (b44 : b.get? 44 = none) (hl : b.IsList l items) (k : Kept h h₂) (hI : h.get? I = none) (hr : h₂.IsListIter I l 0) (J : Nat → (Str → Option Value) → List (Addr × Obj) → Prop) (j0 : J 0 m ow)
    (turn : ∀ i v m₁ ow₁ b₁ h₁ tk₁, i < items.size → items[i]? = some v → J i m₁ ow₁ → Kept b b₁ → b₁.get? 37 = none → b₁.get? 44 = none → Frm b₁ env (upd m₁ x v) cm ow₁ h₁ →
      wpAny (model prog w) A (execs body env) (fun f s₃ => f = .next ∧ ∃ h' tk' m' ow', s₃ = mk s h' tk' ∧ Frm b₁ env m' cm ow' h' ∧ J (i + 1) m' ow') (fun _ _ => False) (mk s h₁ tk₁))
    (done : ∀ h' tk' m' ow', Frm b env m' cm ow' h' → J items.size m' ow' → Q .next (mk s h' tk')) : ForAt prog w A s b env cm x body Q (.ref I) (mk s h₂ tk₂) := by
  obtain ⟨ol, hol, hol2⟩ := id hl
  have hne : l ≠ I := fun q => by rw [← q, F.keep _ _ hol] at hI; cases hI
  refine ⟨h₂, tk₂, I, [I, l], [I], items.size, _, _, m, ow, J, rfl, rfl, Walks.list hA I l hne items, ⟨hr, ⟨ol, k _ _ (F.keep _ _ hol), hol2⟩⟩, F.grow k, b37, b44, fun a ha => ?_, fun a ha => ?_, fun i h' st a ha => ?_, fun i h' st a ha q hc => ?_, j0, turn, done⟩
  · rcases List.mem_cons.mp ha with rfl | ha
    · exact new_off F hI
    · rw [List.mem_singleton.mp ha]; exact base_off F b37 b44 hol
  · rw [List.mem_singleton.mp ha]; exact F.keep.none hI
  · rcases List.mem_cons.mp ha with rfl | ha
    · obtain ⟨o, e, _⟩ := st.1; exact ⟨o, e⟩
    · rw [List.mem_singleton.mp ha]; obtain ⟨o, e, _⟩ := st.2; exact ⟨o, e⟩
  · rw [List.mem_singleton.mp ha] at hc
    obtain ⟨c, o, vs, t, e, ho, hd, hv⟩ := hc
    cases e
    obtain ⟨o', e', _, d'⟩ := st.1
    rw [e'] at ho; cases ho; rw [d'] at hd; cases hd; cases hv
theorem forAt_rev {b : Heap} {m cm : Str → Option Value} {ow : List (Addr × Obj)} {x : Str} {body : List Stmt} {Q : Flow → Shared → Prop} {l : Addr} {items : Array Value} {I : Addr} {h₂ : Heap} {tk₂ : Nat}
    (hA : A.handled = none) (F : Frm b env m cm ow h) (b37 : b.get? 37 = none) (b44 : b.get? 44 = none) (hl : b.IsList l items) (k : Kept h h₂) (hI : h.get? I = none) (hr : h₂.IsRevIter I l ((items.size : Int) - 1)) (J : Nat → (Str → Option Value) → List (Addr × Obj) → Prop) (j0 : J 0 m ow)
    (turn : ∀ i v m₁ ow₁ b₁ h₁ tk₁, i < items.size → items[items.size - 1 - i]? = some v → J i m₁ ow₁ → Kept b b₁ → b₁.get? 37 = none → b₁.get? 44 = none → Frm b₁ env (upd m₁ x v) cm ow₁ h₁ →
      wpAny (model prog w) A (execs body env) (fun f s₃ => f = .next ∧ ∃ h' tk' m' ow', s₃ = mk s h' tk' ∧ Frm b₁ env m' cm ow' h' ∧ J (i + 1) m' ow') (fun _ _ => False) (mk s h₁ tk₁))
    (done : ∀ h' tk' m' ow', Frm b env m' cm ow' h' → J items.size m' ow' → Q .next (mk s h' tk')) : ForAt prog w A s b env cm x body Q (.ref I) (mk s h₂ tk₂) := by
  obtain ⟨ol, hol, hol2⟩ := id hl
  have hne : l ≠ I := fun q => by rw [← q, F.keep _ _ hol] at hI; cases hI
  refine ⟨h₂, tk₂, I, [I, l], [I], items.size, _, _, m, ow, J, rfl, rfl, Walks.listRev hA I l hne items, ⟨Nat.zero_le _, by simpa using hr, ⟨ol, k _ _ (F.keep _ _ hol), hol2⟩⟩, F.grow k, b37, b44, fun a ha => ?_, fun a ha => ?_, fun i h' st a ha => ?_, fun i h' st a ha q hc => ?_, j0, turn, done⟩
  · rcases List.mem_cons.mp ha with rfl | ha
    · exact new_off F hI
    · rw [List.mem_singleton.mp ha]; exact base_off F b37 b44 hol
  · rw [List.mem_singleton.mp ha]; exact F.keep.none hI
  · rcases List.mem_cons.mp ha with rfl | ha
    · obtain ⟨o, e, _⟩ := st.2.1; exact ⟨o, e⟩
    · rw [List.mem_singleton.mp ha]; obtain ⟨o, e, _⟩ := st.2.2; exact ⟨o, e⟩
  · rw [List.mem_singleton.mp ha] at hc
    obtain ⟨c, o, vs, t, e, ho, hd, hv⟩ := hc
    cases e
    obtain ⟨o', e', _, d'⟩ := st.2.1
    rw [e'] at ho; cases ho; rw [d'] at hd; cases hd; cases hv

/-! list methods, pairs told apart -/
theorem listOk {a : Addr} {vs : Array Value} {n : Nat} {P : Prop} (hl : h.get? a = some (listO vs n)) (k : P) : (mk s h tk).TypeIs (.ref a) "list" ∧ (∀ b, Value.ref a = .ref b → ∃ ob, (mk s h tk).heap.get? b = some ob ∧ ob.dict = none) ∧ P :=
  ⟨⟨_, hl, rfl⟩, fun b e => by cases e; exact ⟨_, hl, rfl⟩, k⟩
theorem l_append {E : Value → Shared → Prop} {Q : Value → Shared → Prop} {b : Heap} {m cm : Str → Option Value} {ow : List (Addr × Obj)} {a : Addr} {vs : List Value} {n : Nat} {v : Value} (F : Frm b env m cm ((a, listO vs.toArray n) :: ow) h) (hz : vs.length ≤ 1000)
    (q : ∀ h' tk' n', Frm b env m cm ((a, listO (vs ++ [v]).toArray n') :: ow) h' → Q .none (mk s h' tk')) : wpAny (model prog w) A (call (.builtin "list.append") [.ref a, v]) Q E (mk s h tk) := by
  refine wpAny_list_append_plain (s := mk s h tk) ⟨n, F.get List.mem_cons_self⟩ (fun h' ⟨n', hp⟩ hs => ?_) (by simp [sizeLine_eq]; omega)
  have e : vs.toArray.push v = (vs ++ [v]).toArray := by simp
  rw [e] at hp
  exact q h' _ n' (F.setO hs.extBut hp (nc_seq _ _ _))
theorem l_reverse {E : Value → Shared → Prop} {Q : Value → Shared → Prop} {b : Heap} {m cm : Str → Option Value} {ow : List (Addr × Obj)} {a : Addr} {vs : List Value} {n : Nat} (F₀ : Frm b env m cm ((a, listO vs.toArray n) :: ow) h) (hz : vs.length ≤ 1000)
    (q : ∀ h' tk' n', Frm b env m cm ((a, listO vs.reverse.toArray n') :: ow) h' → Q .none (mk s h' tk')) : wpAny (model prog w) A (call (.builtin "list.reverse") [.ref a]) Q E (mk s h tk) := by
  refine call_meets F.slot_list_reverse ⟨_, F₀.get List.mem_cons_self, rfl⟩ F.entry_list_reverse (F.args_list_reverse_1 _) (AutoSeq1.list_reverse_list_0 a vs.toArray n (by simp [sizeLine_eq]; omega)) ⟨F₀.get List.mem_cons_self, ?_⟩
  have hg := F₀.get List.mem_cons_self
  have e : (listO vs.toArray n).mapSeq (fun x => x.reverse) = listO vs.reverse.toArray n := by
    simp [Obj.mapSeq]
  have hp : (h.update a (Obj.mapSeq fun x => x.reverse)).get? a = some _ := Heap.get?_update_self _ hg rfl
  rw [e] at hp
  exact q _ _ _ (F₀.setO (Heap.SameBut.update ..).extBut hp (nc_seq _ _ _))
theorem kept_size {h h' : Heap} (e : Heap.ExtBut h.objs.size h h') : Kept h h' := fun a o x => e a o (Nat.ne_of_lt (Heap.lt_size x)) x
/-- x, y = a pair -/
theorem x_pair {E : Value → Shared → Prop} {x y : Str} {p1 p2 tp pos : Pos} {k : Nat} {value : Expr} {Q : Flow → Shared → Prop} (hA : A.handled = none)
    (hs : swapsWithSole [.Tuple [.Name x p1, .Name y p2] k tp] value pos.line env = pure false) (hw : swappedStores [.Tuple [.Name x p1, .Name y p2] k tp] value env = pure none)
    (q : wpAny (model prog w) A (eval value env) (fun v s₁ => ∃ D a b h₁ tk₁, v = .ref D ∧ s₁ = mk s h₁ tk₁ ∧ IsTup h₁ D #[a, b] ∧
      ∀ h₂, Kept h₁ h₂ → wpAny (model prog w) A (storeName env x a) (fun _ s₂ => wpAny (model prog w) A (storeName env y b) (fun _ => Q .next) E s₂) E (mk s h₂ tk₁)) E (mk s h tk)) :
    wpAny (model prog w) A (exec (.Assign [.Tuple [.Name x p1, .Name y p2] k tp] value pos) env) Q E (mk s h tk) := by
  refine Assign_Tuple (wpAny_mono q (fun v s₁ h₁ => ?_) fun _ _ e => e) hs hw
  obtain ⟨D, a, b, h₁, tk₁, rfl, rfl, ht, q⟩ := h₁
  refine assign_Tuple_tuple (s := mk s h₁ tk₁) hA ht rfl rfl fun h' he => ?_
  exact assignInOrder_cons (wpAny_assign_Name (wpAny_mono (q h' (kept_size he)) (fun _ s₂ h₂ => assignInOrder_cons (wpAny_assign_Name (wpAny_mono h₂ (fun _ s₃ h₃ => assignInOrder_nil h₃) fun _ _ e => e))) fun _ _ e => e))
/-- x, y = two values: the last one first -/
theorem x_swap {E : Value → Shared → Prop} {x y : Str} {p1 p2 tp pos vp : Pos} {k k' : Nat} {e₁ e₂ : Expr} {Q : Flow → Shared → Prop} (hA : A.handled = none) (h1 : notStar e₁ = true) (h2 : notStar e₂ = true)
    (hs : swapsWithSole [.Tuple [.Name x p1, .Name y p2] k tp] (.Tuple [e₁, e₂] k' vp) pos.line env = pure false) (hw : swappedStores [.Tuple [.Name x p1, .Name y p2] k tp] (.Tuple [e₁, e₂] k' vp) env = pure (some [x, y]))
    (q : wpAny (model prog w) A (eval e₁ env) (fun a s₁ => wpAny (model prog w) A (eval e₂ env) (fun b s₂ => ∃ h₁ tk₁, s₂ = mk s h₁ tk₁ ∧
      ∀ h₂ tk₂, Kept h₁ h₂ → wpAny (model prog w) A (storeName env y b) (fun _ s₂ => wpAny (model prog w) A (storeName env x a) (fun _ => Q .next) E s₂) E (mk s h₂ tk₂)) E s₁) E (mk s h tk)) :
    wpAny (model prog w) A (exec (.Assign [.Tuple [.Name x p1, .Name y p2] k tp] (.Tuple [e₁, e₂] k' vp) pos) env) Q E (mk s h tk) := by
  refine Assign_Tuple_swapped (names := [x, y]) ?_ hs hw
  refine x_tuple2 h1 h2 ?_
  refine wpAny_mono q (fun a s₁ h₁ => ?_) fun _ _ e => e
  refine wpAny_mono h₁ (fun b s₂ h₂ => ?_) fun _ _ e => e
  obtain ⟨h₁, tk₁, rfl, q⟩ := h₂
  refine n_tuple (by rw [sizeLine_eq]; simp) fun D h₂ tk₂ k₂ n₂ g₂ => ?_
  have hT : IsTup h₂ D #[a, b] := isTup_of g₂
  show wpAny _ _ (unpackItems (.ref D) (#[a, b] : Array Value).size none) _ _ (mk s h₂ tk₂)
  refine unpackItems_tuple (s := mk s h₂ tk₂) (items := #[a, b]) hA hT fun h' he => ?_
  show wpAny _ _ (assignInOrder [bindName env y, bindName env x] [b, a]) _ _ (mk s h' tk₂)
  exact assignInOrder_cons (wpAny_bindName (wpAny_mono (q h' tk₂ (k₂.trans (kept_size he))) (fun _ s₂ h₂ => assignInOrder_cons (wpAny_bindName (wpAny_mono h₂ (fun _ s₃ h₃ => assignInOrder_nil h₃) fun _ _ e => e))) fun _ _ e => e))
end
end Mine
end
section
open PySem PyProof.Rows
set_option maxHeartbeats 4000000
namespace Mine
local macro_rules | `(tactic| walk_at "look") => `(tactic| first | rfl | assumption | exact ((if_neg (by decide)).trans (by assumption)) | exact ((if_neg (by decide)).trans ((if_neg (by decide)).trans (by assumption))) | exact ((if_neg (by decide)).trans ((if_neg (by decide)).trans ((if_neg (by decide)).trans (by assumption)))) | exact ((if_neg (by decide)).trans ((if_neg (by decide)).trans ((if_neg (by decide)).trans ((if_neg (by decide)).trans (by assumption))))) | exact ((if_neg (by decide)).trans ((if_neg (by decide)).trans ((if_neg (by decide)).trans ((if_neg (by decide)).trans ((if_neg (by decide)).trans (by assumption)))))) | exact ((if_neg (by decide)).trans ((if_neg (by decide)).trans ((if_neg (by decide)).trans ((if_neg (by decide)).trans ((if_neg (by decide)).trans ((if_neg (by decide)).trans (by assumption))))))) | exact ((if_neg (by decide)).trans ((if_neg (by decide)).trans ((if_neg (by decide)).trans ((if_neg (by decide)).trans ((if_neg (by decide)).trans ((if_neg (by decide)).trans ((if_neg (by decide)).trans (by assumption)))))))) | exact ((if_neg (by decide)).trans ((if_neg (by decide)).trans ((if_neg (by decide)).trans ((if_neg (by decide)).trans ((if_neg (by decide)).trans ((if_neg (by decide)).trans ((if_neg (by decide)).trans ((if_neg (by decide)).trans (by assumption))))))))) | exact ((if_neg (by decide)).trans ((if_neg (by decide)).trans ((if_neg (by decide)).trans ((if_neg (by decide)).trans ((if_neg (by decide)).trans ((if_neg (by decide)).trans ((if_neg (by decide)).trans ((if_neg (by decide)).trans ((if_neg (by decide)).trans (by assumption)))))))))))
local macro_rules | `(tactic| walk_at "ld") => `(tactic| ((with_reducible refine' x_ld ?F ?k ?l ?v ?d ?_); (case F => assumption); (case k => rfl); (case l => rfl); (case v => walk_at "look"); (case d => rfl)))
local macro_rules | `(tactic| walk_at "ldn") => `(tactic| ((with_reducible refine' x_ldn ?F ?k ?l ?v ?d ?_); (case F => assumption); (case k => rfl); (case l => rfl); (case v => first | assumption | rfl); (case d => rfl)))
local macro_rules | `(tactic| walk_at "ldc") => `(tactic| ((with_reducible refine' x_ldc ?F ?k ?l ?c ?v ?d ?_); (case F => assumption); (case k => rfl); (case l => rfl); (case c => rfl); (case v => first | assumption | rfl); (case d => rfl)))
local macro_rules | `(tactic| walk_at "ldf") => `(tactic| ((with_reducible refine' x_ldf ?k ?l ?c ?v ?d ?e ?_); (case k => rfl); (case l => rfl); (case c => rfl); (case v => assumption); (case d => rfl); (case e => rfl)))
local macro_rules | `(tactic| walk_at "ldk") => `(tactic| ((with_reducible refine' x_ldk ?k ?l ?c ?v ?d ?_); (case k => rfl); (case l => rfl); (case c => rfl); (case v => assumption); (case d => rfl)))
local macro_rules | `(tactic| walk_at "blt") => `(tactic| ((with_reducible refine' x_blt ?B ?K ?g ?b ?k ?x ?m ?d ?_); (case B => assumption); (case K => first | assumption | exact Frm.keep (by assumption)); (case g => rfl); (case b => rfl); (case k => rfl); (case x => rfl); (case m => simp only [bltNames, List.mem_cons]; first | exact .inl rfl | exact .inr (.inl rfl) | exact .inr (.inr (.inl rfl)) | exact .inr (.inr (.inr (.inl rfl))) | exact .inr (.inr (.inr (.inr (.inl rfl)))) | exact .inr (.inr (.inr (.inr (.inr (.inl rfl))))) | exact .inr (.inr (.inr (.inr (.inr (.inr (.inl rfl)))))) | exact .inr (.inr (.inr (.inr (.inr (.inr (.inr (.inl rfl))))))) | exact .inr (.inr (.inr (.inr (.inr (.inr (.inr (.inr (.inl rfl))))))))); (case d => rfl)))
local macro_rules | `(tactic| walk_at "glob") => `(tactic| ((with_reducible refine' x_glob ?B ?K ?g ?k ?x ?m ?d ?_); (case B => assumption); (case K => first | assumption | exact Frm.keep (by assumption)); (case g => rfl); (case k => rfl); (case x => rfl); (case m => simp only [globNames, List.mem_cons]; first | exact .inl rfl | exact .inr (.inl rfl) | exact .inr (.inr (.inl rfl)) | exact .inr (.inr (.inr (.inl rfl))) | exact .inr (.inr (.inr (.inr (.inl rfl)))) | exact .inr (.inr (.inr (.inr (.inr (.inl rfl))))) | exact .inr (.inr (.inr (.inr (.inr (.inr (.inl rfl)))))) | exact .inr (.inr (.inr (.inr (.inr (.inr (.inr (.inl rfl))))))) | exact .inr (.inr (.inr (.inr (.inr (.inr (.inr (.inr (.inl rfl)))))))) | exact .inr (.inr (.inr (.inr (.inr (.inr (.inr (.inr (.inr (.inl rfl)))))))))); (case d => rfl)))
local macro_rules | `(tactic| walk_at "ap") => `(tactic| ((with_reducible refine' meth1 F.plainAttrs_list F.slot_list_append F.type_list_append ?ha ?hb ?hc ?_); (case ha => first | exact ab_const | exact ab_name | exact ab_sub); (case hb => exact rfl); (case hc => exact rfl)))
local macro_rules | `(tactic| walk_at "rv") => `(tactic| ((with_reducible refine' meth0 F.plainAttrs_list F.slot_list_reverse F.type_list_reverse ?ha ?hc ?_); (case ha => first | exact ab_const | exact ab_name | exact ab_sub); (case hc => exact rfl)))
local macro_rules | `(tactic| walk_at "lidx") => `(tactic| ((with_reducible refine' meth1 F.plainAttrs_list F.slot_list_index F.type_list_index ?ha ?hb ?hc ?_); (case ha => first | exact ab_const | exact ab_name | exact ab_sub); (case hb => exact rfl); (case hc => exact rfl)))
local macro_rules | `(tactic| walk_at "args2") => `(tactic| ((with_reducible refine s_cons ?_); walk_at "go"; (with_reducible refine s_cons ?_); walk_at "go"; with_reducible refine s_nil ?_))
local macro_rules | `(tactic| walk_at "exp") => `(tactic| ((with_reducible refine' x_expr ?hi ?hs ?_); (case hi => rfl); (case hs => rfl)))
local macro_rules | `(tactic| walk_at "index") => `(tactic| ((with_reducible refine' meth1 F.plainAttrs_str F.slot_str_index F.type_str_index ?ha ?hb ?hc ?_); (case ha => first | exact ab_const | exact ab_name); (case hb => exact rfl); (case hc => exact rfl)))
local macro_rules | `(tactic| walk_at "join") => `(tactic| ((with_reducible refine' meth1 F.plainAttrs_str F.slot_str_join F.type_str_join ?ha ?hb ?hc ?_); (case ha => first | exact ab_const | exact ab_name | exact ab_sub); (case hb => exact rfl); (case hc => exact rfl)))
local macro_rules | `(tactic| walk_at "split") => `(tactic| ((with_reducible refine' meth1 F.plainAttrs_str F.slot_str_split F.type_str_split ?ha ?hb ?hc ?_); (case ha => first | exact ab_const | exact ab_name | exact ab_sub); (case hb => exact rfl); (case hc => exact rfl)))
local macro_rules | `(tactic| walk_at "bits") => `(tactic| ((with_reducible refine' meth0 F.plainAttrs_int F.slot_int_bit_length F.type_int_bit_length ?ha ?hc ?_); (case ha => first | exact ab_const | exact ab_name | exact ab_sub); (case hc => exact rfl)))
local macro_rules | `(tactic| walk_at "cmp") => `(tactic| ((with_reducible refine' wpAny_isTrue_Compare1 ?_ ?hm); (case hm => rfl)))
local macro_rules | `(tactic| walk_at "t0") => `(tactic| ((with_reducible refine' t_fst ?hl ?he ?_); (case hl => assumption); (case he => rfl)))
local macro_rules | `(tactic| walk_at "t1") => `(tactic| ((with_reducible refine' t_snd ?hl ?he ?_); (case hl => assumption); (case he => rfl)))
local macro_rules | `(tactic| walk_at "sl") => `(tactic| ((with_reducible refine x_sliceEnd fun D' h' tk' k' hs' => ?_); have F' := Frm.grow (by assumption) k'))
local macro_rules | `(tactic| walk_at "st") => `(tactic| ((with_reducible refine' x_st ?F ?k ?l fun h' tk' F' => ?_); (case F => assumption); (case k => rfl); (case l => rfl)))
local macro_rules | `(tactic| walk_at "stc") => `(tactic| ((with_reducible refine' x_stc ?F ?k ?l ?c fun h' tk' F' => ?_); (case F => assumption); (case k => rfl); (case l => rfl); (case c => rfl)))
local macro_rules | `(tactic| walk_at "go") => `(tactic| first
  | with_reducible refine x_cons ?_
  | ((with_reducible refine' x_assign ?hs ?_); (case hs => rfl))
  | with_reducible refine wpAny_BinOp ?_
  | with_reducible refine Subscript_ ?_
  | with_reducible refine x_int fun _ _ => ?_
  | with_reducible refine x_str fun _ _ => ?_
  | walk_at "ld"
  | walk_at "ldc"
  | walk_at "ldn"
  | walk_at "ldk"
  | walk_at "ldf"
  | with_reducible refine x_call ?_
  | with_reducible refine x_slice ?_
  | with_reducible refine p_none ?_
  | walk_at "sl"
  | with_reducible refine p_some ?_
  | with_reducible refine wpAny_UnaryOp ?_
  | with_reducible refine i_neg fun _ _ => ?_
  | with_reducible refine i_add fun _ _ => ?_
  | with_reducible refine i_sub fun _ _ => ?_
  | with_reducible refine i_le ?_
  | with_reducible refine i_lt ?_
  | with_reducible refine i_eq ?_
  | with_reducible refine wpAny_Return_some ?_
  | with_reducible refine x_next ?_
  | with_reducible refine x_ret ?_
  | with_reducible refine strOk ?_
  | with_reducible refine intOk ?_
  | with_reducible refine wpAny_If ?_
  | with_reducible refine wpAny_truthy_bool ?_)
theorem div_step {B b X d : Nat} (hb : 0 < b) : (X * B + d) / b = X / b * B + (X % b * B + d) / b ∧ (X * B + d) % b = (X % b * B + d) % b := by
  have e : X * B + d = b * (X / b * B) + (X % b * B + d) := by
    have h1 := Nat.div_add_mod X b
    calc X * B + d = (b * (X / b) + X % b) * B + d := by rw [h1]
      _ = _ := by rw [Nat.add_mul, Nat.mul_assoc, Nat.add_assoc]
  rw [e, Nat.mul_add_div hb, Nat.mul_add_mod]
  exact ⟨rfl, rfl⟩
theorem Frm.take {b h h' : Heap} {env : Env} {m cm : Str → Option Value} {ow : List (Addr × Obj)} {D : Addr} {o : Obj} (F : Frm b env m cm ow h) (b37 : b.get? 37 = none) (b44 : b.get? 44 = none) (k : KeptT h h') (hD : h.get? D = none) (e : h'.get? D = some o) :
    ∃ b', Kept b b' ∧ Frm b' env m cm ow h' ∧ b'.get? 37 = none ∧ b'.get? 44 = none ∧ b'.get? D = some o := by
  obtain ⟨b', k', F', g1, g2, g⟩ := (F.growT b37 b44 k).rebase b37 b44
  obtain ⟨n1, n2, n3⟩ := new_off F hD
  exact ⟨b', k', F', g1, g2, g D o n2 n3 n1 e⟩
theorem digitsLE_nat (B k x : Nat) : digitsLE B k x = natI ((List.range k).map fun j => x / B ^ j % B) := by
  unfold digitsLE natI
  rw [List.map_map]; rfl
theorem ints_app {vs : List Value} {ns : List Int} (h : IntsAre vs ns) (x : Int) (t : Tok) : IntsAre (vs ++ [.int x t]) (ns ++ [x]) := by
  induction h with
  | nil => exact .cons x t .nil
  | cons n u r ih => exact .cons n u ih
theorem ints_rev {vs : List Value} {ns : List Int} (h : IntsAre vs ns) : IntsAre vs.reverse ns.reverse := by
  induction h with
  | nil => exact .nil
  | cons n u r ih => rw [List.reverse_cons, List.reverse_cons]; exact ints_app ih n u

/-- the loop's state after i figures: the quotient's figures so far, what is left -/
def DivJ (a b n k : Nat) (tb tn : Tok) (Dq : Addr) (i : Nat) (m : Str → Option Value) (ow : List (Addr × Obj)) : Prop :=
  ∃ vs qs nn tr, ow = [(Dq, listO (List.toArray vs) nn)] ∧ IntsAre vs (natI qs) ∧ qs.length = i ∧ (∀ q ∈ qs, q < 2 ^ n) ∧ worthLE (2 ^ n) qs.reverse = a / (2 ^ n) ^ (k - i) / b ∧
    m "r" = some (.int (a / (2 ^ n) ^ (k - i) % b : Nat) tr) ∧ m "b" = some (.int b tb) ∧ m "n" = some (.int n tn) ∧ m "q_digits" = some (.ref Dq)

theorem divmod_pos_call {prog : Program} {w : World} {A : Around} {E : Value → Shared → Prop} {s : Shared} {h : Heap} {tk : Nat} {Q : Value → Shared → Prop} {a b : Nat} {t u : Tok}
    (hB : Base h) (hT : Tb h) (hA : A.handled = none) (hroom : A.depth + 30 < recursionLimit) (ha : a < 2 ^ 16) (hb : 2 ≤ b) (hb5 : b ≤ 5)
    (q : ∀ D h' tk' t1 t2, KeptT h h' → h.get? D = none → h'.get? D = some (tupO #[.int (a / b : Nat) t1, .int (a % b : Nat) t2] 0) → Q (.ref D) (mk s h' tk')) :
    wpAny (model prog w) A (call (.ref 56) [.int a t, .int b u]) Q E (mk s h tk) := by
  refine call_def hB.f56 hB.nolimit hT (by omega) (binds := [("a", .int a t), ("b", .int b u)]) (fun _ _ _ _ _ => rfl) (by decide +kernel) (locs (by rfl)) rfl rfl rfl (fun L cd h₁ tk _ G => ?_)
  replace G : Frm h (envF 8 [] L 56 cd) (fun x => [(Str.ofString "a", Value.int a t), (Str.ofString "b", Value.int b u)].reverse.lookup x) (fun _ => none) [] h₁ := G
  have F := G.weaken (ghost_kept h)
  have hBg := hB.ghost
  clear G
  obtain ⟨n, hn⟩ : ∃ n, n = bitsN b := ⟨_, rfl⟩
  have hn23 : n = 2 ∨ n = 3 := by
    have : b = 2 ∨ b = 3 ∨ b = 4 ∨ b = 5 := by omega
    rcases this with rfl | rfl | rfl | rfl
    · exact .inl (by rw [hn]; decide)
    · exact .inl (by rw [hn]; decide)
    · exact .inr (by rw [hn]; decide)
    · exact .inr (by rw [hn]; decide)
  have hbB : b < 2 ^ n := by rw [hn]; exact bitsN_lt b
  refine x_cons ?_
  walk_at "go"
  walk_at "bits"
  repeat walk_at "go"
  with_reducible refine i_bits fun tn _ => ?_
  rw [bits_is, ← hn]
  walk_at "st"
  rename_i h₂ tk₂ F2
  iterate 4 walk_at "go"
  walk_at "glob"
  with_reducible refine' d_call hBg.f42 (bt2 ?b1 ?b2) ?_
  case b1 => rfl
  case b2 => rfl
  walk_at "args2"
  refine ⟨F2.keep, ?_⟩
  refine int2digits_call (hBg.keeps F2.keep) F2.tabs (by show A.depth + 1 + 20 < _; omega) ha hn23 fun D h₃ tk₃ vs k₃ n₃ l₃ i₃ => ?_
  obtain ⟨o₃, e₃, r₃⟩ := id l₃
  obtain ⟨b₃, kb₃, F3, g37, g44, gD⟩ := F2.take (ghost37 h) (ghost44 h) k₃ n₃ e₃
  have hBb := hBg.keeps kb₃
  have hlD : b₃.IsList D vs.toArray := ⟨o₃, gD, r₃⟩
  rw [digitsLE_nat] at i₃
  have hvl : vs.length = cntN n a := by rw [i₃.length]; simp
  clear F2 F k₃ n₃ l₃ e₃
  walk_at "st"
  rename_i h₄ tk₄ F4
  iterate 4 walk_at "go"
  rename_i tr _
  walk_at "st"
  rename_i h₅ tk₅ F5
  iterate 3 walk_at "go"
  with_reducible refine x_list0 ?_
  with_reducible refine' n_list ?_ fun Dq h₆ tk₆ k₆ n₆ g₆ => ?_
  · rw [sizeLine_eq]; simp
  have F6 := F5.own_new k₆ n₆ g₆ (nc_seq _ _ _)
  clear F5 F4 F3
  walk_at "st"
  rename_i h₇ tk₇ F7
  clear F6
  iterate 2 walk_at "go"
  have hcB : a < (2 ^ n) ^ cntN n a := by
    rw [← Nat.pow_mul]
    refine Nat.lt_of_lt_of_le (bitsN_lt a) (Nat.pow_le_pow_right (by decide) ?_)
    unfold cntN
    rcases hn23 with e | e <;> subst e <;> omega
  have hc1 : bitsN a ≤ 16 := bitsN_le ha
  have hc8 : cntN n a ≤ 8 := by unfold cntN; rcases hn23 with e | e <;> subst e <;> omega
  have hA' : (A.deeper (envF 8 [] L 56 cd)).handled = none := hA
  refine f_for (b := b₃) (cm := fun _ => none) rfl rfl (fun _ => rfl) ?_
  walk_at "go"
  walk_at "blt"
  with_reducible refine' t_call1 ?_ ?_
  · rfl
  walk_at "go"
  have l₇ : h₇.IsList D vs.toArray := ⟨o₃, F7.keep _ _ gD, r₃⟩
  with_reducible refine' rev_iter l₇ fun I h₈ tk₈ k₈ n₈ r₈ => ?_
  refine forAt_rev hA' F7 g37 g44 hlD k₈ n₈ r₈ (DivJ a b n (cntN n a) u tn Dq) ?_ ?_ ?_
  · refine ⟨[], [], 0, tr, rfl, .nil, rfl, fun _ hq => (nomatch hq), ?_, ?_, rfl, rfl, rfl⟩
    · rw [Nat.sub_zero, Nat.div_eq_of_lt hcB]; simp [worthLE]
    · show some (Value.int 0 tr) = _
      rw [Nat.sub_zero, Nat.div_eq_of_lt hcB, Nat.zero_mod]; rfl
  · rintro i v m₁ ow₁ b₁ h₁ tk₁ hi hv ⟨ws, qs, nn, tr', rfl, hqi, hql, hqB, hqw, mr, mb, mn, mq⟩ kb g1 g2 F₁
    have hsz : vs.toArray.size = cntN n a := by simpa using hvl
    rw [hsz] at hi hv
    obtain ⟨Y, hY⟩ : ∃ Y, Y = a / (2 ^ n) ^ (cntN n a - 1 - i) := ⟨_, rfl⟩
    obtain ⟨td, hd⟩ := ints_get i₃ (cntN n a - 1 - i) ((Y % 2 ^ n : Nat) : Int) (by
      rw [hY, List.getElem?_map, List.getElem?_map, List.getElem?_range (by omega)]; rfl)
    have hv' : vs[cntN n a - 1 - i]? = some v := by simpa using hv
    rw [hd] at hv'
    cases hv'
    have eX : a / (2 ^ n) ^ (cntN n a - i) = Y / 2 ^ n := by
      rw [hY, Nat.div_div_eq_div_mul, ← Nat.pow_succ]
      congr 2; omega
    obtain ⟨X, hX⟩ : ∃ X, X = Y / 2 ^ n := ⟨_, rfl⟩
    obtain ⟨d, hdd⟩ : ∃ d, d = Y % 2 ^ n := ⟨_, rfl⟩
    have eY : Y = X * 2 ^ n + d := by rw [hX, hdd, Nat.mul_comm]; exact (Nat.div_add_mod _ _).symm
    rw [eX, ← hX] at mr hqw
    rw [← hdd] at F₁
    have hdB : d < 2 ^ n := by rw [hdd]; exact Nat.mod_lt _ (Nat.pow_pos (by decide))
    have hrb : X % b < b := Nat.mod_lt _ (by omega)
    have hB8 : 2 ^ n ≤ 8 := by rcases hn23 with e | e <;> rw [e] <;> decide
    have hmul : X % b * 2 ^ n ≤ 4 * 8 := Nat.mul_le_mul (by omega) hB8
    have hBb1 := hBb.keeps kb
    obtain ⟨eq1, eq2⟩ := div_step (B := 2 ^ n) (X := X) (d := d) (b := b) (by omega)
    have hqlt : (X % b * 2 ^ n + d) / b < 2 ^ n := by
      rw [Nat.div_lt_iff_lt_mul (by omega)]
      have : (X % b + 1) * 2 ^ n ≤ b * 2 ^ n := Nat.mul_le_mul_right _ hrb
      rw [Nat.add_mul, Nat.one_mul] at this
      rw [Nat.mul_comm (2 ^ n) b]
      omega
    refine x_cons ?_
    refine x_pair hA' rfl rfl ?_
    iterate 1 walk_at "go"
    walk_at "glob"
    with_reducible refine' d_call hBb1.f28 (bt3 ?b1 ?b2 ?b3) ?_
    case b1 => rfl
    case b2 => rfl
    case b3 => rfl
    with_reducible refine s_cons ?_
    iterate 4 walk_at "go"
    with_reducible refine' i_shl ?_ ?_ fun _ _ => ?_
    · rcases hn23 with e | e <;> rw [e] <;> decide
    · rw [Int.natAbs_natCast]; omega
    iterate 2 walk_at "go"
    with_reducible refine s_cons ?_
    iterate 1 walk_at "go"
    with_reducible refine s_cons ?_
    iterate 1 walk_at "go"
    with_reducible refine s_nil ?_
    refine ⟨F₁.keep, ?_⟩
    rw [show ((X % b : Nat) : Int) * 2 ^ n + (d : Int) = ((X % b * 2 ^ n + d : Nat) : Int) by push_cast; rfl]
    refine div2_call (hBb1.keeps F₁.keep) F₁.tabs (by show A.depth + 1 < _; omega) (by omega) (by omega) (by omega) fun T h₂ tk₂ t1 t2 k₂ n₂ g₂ => ?_
    refine ⟨T, _, _, h₂, tk₂, rfl, rfl, isTup_of g₂, fun h₃ k₃ => ?_⟩
    have G3 := F₁.grow (k₂.trans k₃)
    walk_at "st"
    rename_i h₄ tk₄ G4
    clear G3
    walk_at "st"
    rename_i h₅ tk₅ G5
    clear G4
    iterate 2 walk_at "go"
    walk_at "exp"
    walk_at "ap"
    walk_at "go"
    refine listOk (G5.get List.mem_cons_self) ?_
    walk_at "go"
    refine l_append G5 (by rw [hqi.length, List.length_map]; omega) fun h₆ tk₆ n' G6 => ?_
    refine ⟨rfl, ?_⟩
    walk_at "go"
    refine wpAny_execs_nil ⟨rfl, h₆, tk₆, _, _, rfl, G6, _, qs ++ [(X % b * 2 ^ n + d) / b], n', t2, rfl, ?_, ?_, ?_, ?_, ?_, ?_, ?_, ?_⟩
    · rw [natI, List.map_append]; exact ints_app hqi _ _
    · simp [hql]
    · intro q' hq'
      rcases List.mem_append.mp hq' with hq' | hq'
      · exact hqB q' hq'
      · rw [List.mem_singleton.mp hq']; exact hqlt
    · rw [List.reverse_append, show cntN n a - (i + 1) = cntN n a - 1 - i by omega, ← hY, eY]
      show (X % b * 2 ^ n + d) / b + 2 ^ n * worthLE (2 ^ n) qs.reverse = _
      rw [hqw, eq1, Nat.mul_comm (2 ^ n), Nat.add_comm]
    · rw [show cntN n a - (i + 1) = cntN n a - 1 - i by omega, ← hY, eY, eq2]
      rfl
    · walk_at "look"
    · walk_at "look"
    · walk_at "look"
  · rintro h' tk' m' ow' F' ⟨ws, qs, nn, tr', rfl, hqi, hql, hqB, hqw, mr, mb, mn, mq⟩
    have hsz : vs.toArray.size = cntN n a := by simpa using hvl
    rw [hsz, Nat.sub_self, Nat.pow_zero, Nat.div_one] at hqw mr
    rw [hsz] at hql
    iterate 2 walk_at "go"
    walk_at "exp"
    walk_at "rv"
    walk_at "go"
    refine listOk (F'.get List.mem_cons_self) ?_
    refine l_reverse F' (by rw [hqi.length, List.length_map]; omega) fun h₆ tk₆ n' F6 => ?_
    refine ⟨rfl, ?_⟩
    clear F7 F'
    iterate 4 walk_at "go"
    walk_at "glob"
    with_reducible refine' d_call hBb.f49 (bt2 ?b1 ?b2) ?_
    case b1 => rfl
    case b2 => rfl
    walk_at "args2"
    refine ⟨F6.keep, ?_⟩
    have hqr : IntsAre ws.reverse (natI qs.reverse) := by rw [natI, List.map_reverse]; exact ints_rev hqi
    refine digits2int_call (hBb.keeps F6.keep) F6.tabs (by show A.depth + 1 + 20 < _; omega) hn23 (isList_of (F6.get List.mem_cons_self)) hqr (fun d hd => hqB d (List.mem_reverse.mp hd)) (by rw [List.length_reverse]; omega) fun h₇ tk₇ t₇ k₇ => ?_
    have F7 := F6.growT g37 g44 k₇
    clear F6
    walk_at "st"
    rename_i h₈ tk₈ F8
    clear F7
    iterate 3 walk_at "go"
    with_reducible refine' x_tuple2 ?_ ?_ ?_
    · rfl
    · rfl
    iterate 2 walk_at "go"
    with_reducible refine' n_tuple ?_ fun T h₉ tk₉ k₉ n₉ g₉ => ?_
    · rw [sizeLine_eq]; simp
    walk_at "go"
    have nT := new_off F8 n₉
    rw [hqw] at g₉
    exact q T h₉ _ _ _ (keptT_of (kb₃.trans (F8.keep.trans k₉)) (F8.tabs.keeps k₉)) (none_of_ghost nT.2.1 nT.2.2 (kb₃.none (F8.keep.none n₉))) g₉
end Mine
end
section
open PySem PyProof.Rows
set_option maxHeartbeats 4000000
namespace Mine
local macro_rules | `(tactic| walk_at "look") => `(tactic| first | rfl | assumption | exact ((if_neg (by decide)).trans (by assumption)) | exact ((if_neg (by decide)).trans ((if_neg (by decide)).trans (by assumption))) | exact ((if_neg (by decide)).trans ((if_neg (by decide)).trans ((if_neg (by decide)).trans (by assumption)))) | exact ((if_neg (by decide)).trans ((if_neg (by decide)).trans ((if_neg (by decide)).trans ((if_neg (by decide)).trans (by assumption))))) | exact ((if_neg (by decide)).trans ((if_neg (by decide)).trans ((if_neg (by decide)).trans ((if_neg (by decide)).trans ((if_neg (by decide)).trans (by assumption)))))) | exact ((if_neg (by decide)).trans ((if_neg (by decide)).trans ((if_neg (by decide)).trans ((if_neg (by decide)).trans ((if_neg (by decide)).trans ((if_neg (by decide)).trans (by assumption))))))) | exact ((if_neg (by decide)).trans ((if_neg (by decide)).trans ((if_neg (by decide)).trans ((if_neg (by decide)).trans ((if_neg (by decide)).trans ((if_neg (by decide)).trans ((if_neg (by decide)).trans (by assumption)))))))) | exact ((if_neg (by decide)).trans ((if_neg (by decide)).trans ((if_neg (by decide)).trans ((if_neg (by decide)).trans ((if_neg (by decide)).trans ((if_neg (by decide)).trans ((if_neg (by decide)).trans ((if_neg (by decide)).trans (by assumption))))))))) | exact ((if_neg (by decide)).trans ((if_neg (by decide)).trans ((if_neg (by decide)).trans ((if_neg (by decide)).trans ((if_neg (by decide)).trans ((if_neg (by decide)).trans ((if_neg (by decide)).trans ((if_neg (by decide)).trans ((if_neg (by decide)).trans (by assumption)))))))))))
local macro_rules | `(tactic| walk_at "ld") => `(tactic| ((with_reducible refine' x_ld ?F ?k ?l ?v ?d ?_); (case F => assumption); (case k => rfl); (case l => rfl); (case v => walk_at "look"); (case d => rfl)))
local macro_rules | `(tactic| walk_at "ldn") => `(tactic| ((with_reducible refine' x_ldn ?F ?k ?l ?v ?d ?_); (case F => assumption); (case k => rfl); (case l => rfl); (case v => first | assumption | rfl); (case d => rfl)))
local macro_rules | `(tactic| walk_at "ldc") => `(tactic| ((with_reducible refine' x_ldc ?F ?k ?l ?c ?v ?d ?_); (case F => assumption); (case k => rfl); (case l => rfl); (case c => rfl); (case v => first | assumption | rfl); (case d => rfl)))
local macro_rules | `(tactic| walk_at "ldf") => `(tactic| ((with_reducible refine' x_ldf ?k ?l ?c ?v ?d ?e ?_); (case k => rfl); (case l => rfl); (case c => rfl); (case v => assumption); (case d => rfl); (case e => rfl)))
local macro_rules | `(tactic| walk_at "ldk") => `(tactic| ((with_reducible refine' x_ldk ?k ?l ?c ?v ?d ?_); (case k => rfl); (case l => rfl); (case c => rfl); (case v => assumption); (case d => rfl)))
local macro_rules | `(tactic| walk_at "blt") => `(tactic| ((with_reducible refine' x_blt ?B ?K ?g ?b ?k ?x ?m ?d ?_); (case B => assumption); (case K => first | assumption | exact Frm.keep (by assumption)); (case g => rfl); (case b => rfl); (case k => rfl); (case x => rfl); (case m => simp only [bltNames, List.mem_cons]; first | exact .inl rfl | exact .inr (.inl rfl) | exact .inr (.inr (.inl rfl)) | exact .inr (.inr (.inr (.inl rfl))) | exact .inr (.inr (.inr (.inr (.inl rfl)))) | exact .inr (.inr (.inr (.inr (.inr (.inl rfl))))) | exact .inr (.inr (.inr (.inr (.inr (.inr (.inl rfl)))))) | exact .inr (.inr (.inr (.inr (.inr (.inr (.inr (.inl rfl))))))) | exact .inr (.inr (.inr (.inr (.inr (.inr (.inr (.inr (.inl rfl))))))))); (case d => rfl)))
local macro_rules | `(tactic| walk_at "glob") => `(tactic| ((with_reducible refine' x_glob ?B ?K ?g ?k ?x ?m ?d ?_); (case B => assumption); (case K => first | assumption | exact Frm.keep (by assumption)); (case g => rfl); (case k => rfl); (case x => rfl); (case m => simp only [globNames, List.mem_cons]; first | exact .inl rfl | exact .inr (.inl rfl) | exact .inr (.inr (.inl rfl)) | exact .inr (.inr (.inr (.inl rfl))) | exact .inr (.inr (.inr (.inr (.inl rfl)))) | exact .inr (.inr (.inr (.inr (.inr (.inl rfl))))) | exact .inr (.inr (.inr (.inr (.inr (.inr (.inl rfl)))))) | exact .inr (.inr (.inr (.inr (.inr (.inr (.inr (.inl rfl))))))) | exact .inr (.inr (.inr (.inr (.inr (.inr (.inr (.inr (.inl rfl)))))))) | exact .inr (.inr (.inr (.inr (.inr (.inr (.inr (.inr (.inr (.inl rfl)))))))))); (case d => rfl)))
local macro_rules | `(tactic| walk_at "ap") => `(tactic| ((with_reducible refine' meth1 F.plainAttrs_list F.slot_list_append F.type_list_append ?ha ?hb ?hc ?_); (case ha => first | exact ab_const | exact ab_name | exact ab_sub); (case hb => exact rfl); (case hc => exact rfl)))
local macro_rules | `(tactic| walk_at "rv") => `(tactic| ((with_reducible refine' meth0 F.plainAttrs_list F.slot_list_reverse F.type_list_reverse ?ha ?hc ?_); (case ha => first | exact ab_const | exact ab_name | exact ab_sub); (case hc => exact rfl)))
local macro_rules | `(tactic| walk_at "lidx") => `(tactic| ((with_reducible refine' meth1 F.plainAttrs_list F.slot_list_index F.type_list_index ?ha ?hb ?hc ?_); (case ha => first | exact ab_const | exact ab_name | exact ab_sub); (case hb => exact rfl); (case hc => exact rfl)))
local macro_rules | `(tactic| walk_at "args2") => `(tactic| ((with_reducible refine s_cons ?_); walk_at "go"; (with_reducible refine s_cons ?_); walk_at "go"; with_reducible refine s_nil ?_))
local macro_rules | `(tactic| walk_at "exp") => `(tactic| ((with_reducible refine' x_expr ?hi ?hs ?_); (case hi => rfl); (case hs => rfl)))
local macro_rules | `(tactic| walk_at "index") => `(tactic| ((with_reducible refine' meth1 F.plainAttrs_str F.slot_str_index F.type_str_index ?ha ?hb ?hc ?_); (case ha => first | exact ab_const | exact ab_name); (case hb => exact rfl); (case hc => exact rfl)))
local macro_rules | `(tactic| walk_at "join") => `(tactic| ((with_reducible refine' meth1 F.plainAttrs_str F.slot_str_join F.type_str_join ?ha ?hb ?hc ?_); (case ha => first | exact ab_const | exact ab_name | exact ab_sub); (case hb => exact rfl); (case hc => exact rfl)))
local macro_rules | `(tactic| walk_at "split") => `(tactic| ((with_reducible refine' meth1 F.plainAttrs_str F.slot_str_split F.type_str_split ?ha ?hb ?hc ?_); (case ha => first | exact ab_const | exact ab_name | exact ab_sub); (case hb => exact rfl); (case hc => exact rfl)))
local macro_rules | `(tactic| walk_at "bits") => `(tactic| ((with_reducible refine' meth0 F.plainAttrs_int F.slot_int_bit_length F.type_int_bit_length ?ha ?hc ?_); (case ha => first | exact ab_const | exact ab_name | exact ab_sub); (case hc => exact rfl)))
local macro_rules | `(tactic| walk_at "cmp") => `(tactic| ((with_reducible refine' wpAny_isTrue_Compare1 ?_ ?hm); (case hm => rfl)))
local macro_rules | `(tactic| walk_at "t0") => `(tactic| ((with_reducible refine' t_fst ?hl ?he ?_); (case hl => assumption); (case he => rfl)))
local macro_rules | `(tactic| walk_at "t1") => `(tactic| ((with_reducible refine' t_snd ?hl ?he ?_); (case hl => assumption); (case he => rfl)))
local macro_rules | `(tactic| walk_at "sl") => `(tactic| ((with_reducible refine x_sliceEnd fun D' h' tk' k' hs' => ?_); have F' := Frm.grow (by assumption) k'))
local macro_rules | `(tactic| walk_at "st") => `(tactic| ((with_reducible refine' x_st ?F ?k ?l fun h' tk' F' => ?_); (case F => assumption); (case k => rfl); (case l => rfl)))
local macro_rules | `(tactic| walk_at "stc") => `(tactic| ((with_reducible refine' x_stc ?F ?k ?l ?c fun h' tk' F' => ?_); (case F => assumption); (case k => rfl); (case l => rfl); (case c => rfl)))
local macro_rules | `(tactic| walk_at "go") => `(tactic| first
  | with_reducible refine x_cons ?_
  | ((with_reducible refine' x_assign ?hs ?_); (case hs => rfl))
  | with_reducible refine wpAny_BinOp ?_
  | with_reducible refine Subscript_ ?_
  | with_reducible refine x_int fun _ _ => ?_
  | with_reducible refine x_str fun _ _ => ?_
  | walk_at "ld"
  | walk_at "ldc"
  | walk_at "ldn"
  | walk_at "ldk"
  | walk_at "ldf"
  | with_reducible refine x_call ?_
  | with_reducible refine x_slice ?_
  | with_reducible refine p_none ?_
  | walk_at "sl"
  | with_reducible refine p_some ?_
  | with_reducible refine wpAny_UnaryOp ?_
  | with_reducible refine i_neg fun _ _ => ?_
  | with_reducible refine i_add fun _ _ => ?_
  | with_reducible refine i_sub fun _ _ => ?_
  | with_reducible refine i_le ?_
  | with_reducible refine i_lt ?_
  | with_reducible refine i_eq ?_
  | with_reducible refine wpAny_Return_some ?_
  | with_reducible refine x_next ?_
  | with_reducible refine x_ret ?_
  | with_reducible refine strOk ?_
  | with_reducible refine intOk ?_
  | with_reducible refine wpAny_If ?_
  | with_reducible refine wpAny_truthy_bool ?_)
theorem int_divmod_call {prog : Program} {w : World} {A : Around} {E : Value → Shared → Prop} {s : Shared} {h : Heap} {tk : Nat} {Q : Value → Shared → Prop} {a b : Nat} {t u : Tok}
    (hB : Base h) (hT : Tb h) (hA : A.handled = none) (hroom : A.depth + 40 < recursionLimit) (ha : a < 2 ^ 16) (hb : 2 ≤ b) (hb5 : b ≤ 5)
    (q : ∀ D h' tk' t1 t2, KeptT h h' → h.get? D = none → h'.get? D = some (tupO #[.int (a / b : Nat) t1, .int (a % b : Nat) t2] 0) → Q (.ref D) (mk s h' tk')) :
    wpAny (model prog w) A (call (.ref 63) [.int a t, .int b u]) Q E (mk s h tk) := by
  refine call_def hB.f63 hB.nolimit hT (by omega) (binds := [("a", .int a t), ("b", .int b u)]) (fun _ _ _ _ _ => rfl) (by decide +kernel) (locs (by rfl)) rfl rfl rfl (fun L cd h₁ tk _ G => ?_)
  replace G : Frm h (envF 9 [] L 63 cd) (fun x => [(Str.ofString "a", Value.int a t), (Str.ofString "b", Value.int b u)].reverse.lookup x) (fun _ => none) [] h₁ := G
  refine x_cons ?_
  walk_at "go"
  walk_at "cmp"
  iterate 4 walk_at "go"
  rw [show ((b : Int) == 0) = false by simp; omega]
  refine b_false ?_
  iterate 2 walk_at "go"
  walk_at "cmp"
  iterate 4 walk_at "go"
  rw [decide_eq_false (by omega)]
  refine b_false ?_
  iterate 2 walk_at "go"
  walk_at "cmp"
  iterate 4 walk_at "go"
  rw [decide_eq_false (by omega)]
  refine b_false ?_
  iterate 3 walk_at "go"
  walk_at "glob"
  with_reducible refine' d_call hB.f56 (bt2 ?b1 ?b2) ?_
  case b1 => rfl
  case b2 => rfl
  walk_at "args2"
  refine ⟨G.keep, ?_⟩
  refine divmod_pos_call (hB.keeps G.keep) G.tabs hA (by show A.depth + 1 + 30 < _; omega) ha hb hb5 fun D h₂ tk₂ t1 t2 k₂ n₂ g₂ => ?_
  repeat walk_at "go"
  exact q D h₂ _ t1 t2 (G.keep.t.trans k₂) (G.keep.none n₂) g₂
end Mine
end
section
open PySem PyProof.Rows
set_option maxHeartbeats 4000000
namespace Mine
local macro_rules | `(tactic| walk_at "look") => `(tactic| first | rfl | assumption | exact ((if_neg (by decide)).trans (by assumption)) | exact ((if_neg (by decide)).trans ((if_neg (by decide)).trans (by assumption))) | exact ((if_neg (by decide)).trans ((if_neg (by decide)).trans ((if_neg (by decide)).trans (by assumption)))) | exact ((if_neg (by decide)).trans ((if_neg (by decide)).trans ((if_neg (by decide)).trans ((if_neg (by decide)).trans (by assumption))))) | exact ((if_neg (by decide)).trans ((if_neg (by decide)).trans ((if_neg (by decide)).trans ((if_neg (by decide)).trans ((if_neg (by decide)).trans (by assumption)))))) | exact ((if_neg (by decide)).trans ((if_neg (by decide)).trans ((if_neg (by decide)).trans ((if_neg (by decide)).trans ((if_neg (by decide)).trans ((if_neg (by decide)).trans (by assumption))))))) | exact ((if_neg (by decide)).trans ((if_neg (by decide)).trans ((if_neg (by decide)).trans ((if_neg (by decide)).trans ((if_neg (by decide)).trans ((if_neg (by decide)).trans ((if_neg (by decide)).trans (by assumption)))))))) | exact ((if_neg (by decide)).trans ((if_neg (by decide)).trans ((if_neg (by decide)).trans ((if_neg (by decide)).trans ((if_neg (by decide)).trans ((if_neg (by decide)).trans ((if_neg (by decide)).trans ((if_neg (by decide)).trans (by assumption))))))))) | exact ((if_neg (by decide)).trans ((if_neg (by decide)).trans ((if_neg (by decide)).trans ((if_neg (by decide)).trans ((if_neg (by decide)).trans ((if_neg (by decide)).trans ((if_neg (by decide)).trans ((if_neg (by decide)).trans ((if_neg (by decide)).trans (by assumption)))))))))))
local macro_rules | `(tactic| walk_at "ld") => `(tactic| ((with_reducible refine' x_ld ?F ?k ?l ?v ?d ?_); (case F => assumption); (case k => rfl); (case l => rfl); (case v => walk_at "look"); (case d => rfl)))
local macro_rules | `(tactic| walk_at "ldn") => `(tactic| ((with_reducible refine' x_ldn ?F ?k ?l ?v ?d ?_); (case F => assumption); (case k => rfl); (case l => rfl); (case v => first | assumption | rfl); (case d => rfl)))
local macro_rules | `(tactic| walk_at "ldc") => `(tactic| ((with_reducible refine' x_ldc ?F ?k ?l ?c ?v ?d ?_); (case F => assumption); (case k => rfl); (case l => rfl); (case c => rfl); (case v => first | assumption | rfl); (case d => rfl)))
local macro_rules | `(tactic| walk_at "ldf") => `(tactic| ((with_reducible refine' x_ldf ?k ?l ?c ?v ?d ?e ?_); (case k => rfl); (case l => rfl); (case c => rfl); (case v => assumption); (case d => rfl); (case e => rfl)))
local macro_rules | `(tactic| walk_at "ldk") => `(tactic| ((with_reducible refine' x_ldk ?k ?l ?c ?v ?d ?_); (case k => rfl); (case l => rfl); (case c => rfl); (case v => assumption); (case d => rfl)))
local macro_rules | `(tactic| walk_at "blt") => `(tactic| ((with_reducible refine' x_blt ?B ?K ?g ?b ?k ?x ?m ?d ?_); (case B => assumption); (case K => first | assumption | exact Frm.keep (by assumption)); (case g => rfl); (case b => rfl); (case k => rfl); (case x => rfl); (case m => simp only [bltNames, List.mem_cons]; first | exact .inl rfl | exact .inr (.inl rfl) | exact .inr (.inr (.inl rfl)) | exact .inr (.inr (.inr (.inl rfl))) | exact .inr (.inr (.inr (.inr (.inl rfl)))) | exact .inr (.inr (.inr (.inr (.inr (.inl rfl))))) | exact .inr (.inr (.inr (.inr (.inr (.inr (.inl rfl)))))) | exact .inr (.inr (.inr (.inr (.inr (.inr (.inr (.inl rfl))))))) | exact .inr (.inr (.inr (.inr (.inr (.inr (.inr (.inr (.inl rfl))))))))); (case d => rfl)))
local macro_rules | `(tactic| walk_at "glob") => `(tactic| ((with_reducible refine' x_glob ?B ?K ?g ?k ?x ?m ?d ?_); (case B => assumption); (case K => first | assumption | exact Frm.keep (by assumption)); (case g => rfl); (case k => rfl); (case x => rfl); (case m => simp only [globNames, List.mem_cons]; first | exact .inl rfl | exact .inr (.inl rfl) | exact .inr (.inr (.inl rfl)) | exact .inr (.inr (.inr (.inl rfl))) | exact .inr (.inr (.inr (.inr (.inl rfl)))) | exact .inr (.inr (.inr (.inr (.inr (.inl rfl))))) | exact .inr (.inr (.inr (.inr (.inr (.inr (.inl rfl)))))) | exact .inr (.inr (.inr (.inr (.inr (.inr (.inr (.inl rfl))))))) | exact .inr (.inr (.inr (.inr (.inr (.inr (.inr (.inr (.inl rfl)))))))) | exact .inr (.inr (.inr (.inr (.inr (.inr (.inr (.inr (.inr (.inl rfl)))))))))); (case d => rfl)))
local macro_rules | `(tactic| walk_at "ap") => `(tactic| ((with_reducible refine' meth1 F.plainAttrs_list F.slot_list_append F.type_list_append ?ha ?hb ?hc ?_); (case ha => first | exact ab_const | exact ab_name | exact ab_sub); (case hb => exact rfl); (case hc => exact rfl)))
local macro_rules | `(tactic| walk_at "rv") => `(tactic| ((with_reducible refine' meth0 F.plainAttrs_list F.slot_list_reverse F.type_list_reverse ?ha ?hc ?_); (case ha => first | exact ab_const | exact ab_name | exact ab_sub); (case hc => exact rfl)))
local macro_rules | `(tactic| walk_at "lidx") => `(tactic| ((with_reducible refine' meth1 F.plainAttrs_list F.slot_list_index F.type_list_index ?ha ?hb ?hc ?_); (case ha => first | exact ab_const | exact ab_name | exact ab_sub); (case hb => exact rfl); (case hc => exact rfl)))
local macro_rules | `(tactic| walk_at "args2") => `(tactic| ((with_reducible refine s_cons ?_); walk_at "go"; (with_reducible refine s_cons ?_); walk_at "go"; with_reducible refine s_nil ?_))
local macro_rules | `(tactic| walk_at "exp") => `(tactic| ((with_reducible refine' x_expr ?hi ?hs ?_); (case hi => rfl); (case hs => rfl)))
local macro_rules | `(tactic| walk_at "index") => `(tactic| ((with_reducible refine' meth1 F.plainAttrs_str F.slot_str_index F.type_str_index ?ha ?hb ?hc ?_); (case ha => first | exact ab_const | exact ab_name); (case hb => exact rfl); (case hc => exact rfl)))
local macro_rules | `(tactic| walk_at "join") => `(tactic| ((with_reducible refine' meth1 F.plainAttrs_str F.slot_str_join F.type_str_join ?ha ?hb ?hc ?_); (case ha => first | exact ab_const | exact ab_name | exact ab_sub); (case hb => exact rfl); (case hc => exact rfl)))
local macro_rules | `(tactic| walk_at "split") => `(tactic| ((with_reducible refine' meth1 F.plainAttrs_str F.slot_str_split F.type_str_split ?ha ?hb ?hc ?_); (case ha => first | exact ab_const | exact ab_name | exact ab_sub); (case hb => exact rfl); (case hc => exact rfl)))
local macro_rules | `(tactic| walk_at "bits") => `(tactic| ((with_reducible refine' meth0 F.plainAttrs_int F.slot_int_bit_length F.type_int_bit_length ?ha ?hc ?_); (case ha => first | exact ab_const | exact ab_name | exact ab_sub); (case hc => exact rfl)))
local macro_rules | `(tactic| walk_at "cmp") => `(tactic| ((with_reducible refine' wpAny_isTrue_Compare1 ?_ ?hm); (case hm => rfl)))
local macro_rules | `(tactic| walk_at "t0") => `(tactic| ((with_reducible refine' t_fst ?hl ?he ?_); (case hl => assumption); (case he => rfl)))
local macro_rules | `(tactic| walk_at "t1") => `(tactic| ((with_reducible refine' t_snd ?hl ?he ?_); (case hl => assumption); (case he => rfl)))
local macro_rules | `(tactic| walk_at "sl") => `(tactic| ((with_reducible refine x_sliceEnd fun D' h' tk' k' hs' => ?_); have F' := Frm.grow (by assumption) k'))
local macro_rules | `(tactic| walk_at "st") => `(tactic| ((with_reducible refine' x_st ?F ?k ?l fun h' tk' F' => ?_); (case F => assumption); (case k => rfl); (case l => rfl)))
local macro_rules | `(tactic| walk_at "stc") => `(tactic| ((with_reducible refine' x_stc ?F ?k ?l ?c fun h' tk' F' => ?_); (case F => assumption); (case k => rfl); (case l => rfl); (case c => rfl)))
local macro_rules | `(tactic| walk_at "go") => `(tactic| first
  | with_reducible refine x_cons ?_
  | ((with_reducible refine' x_assign ?hs ?_); (case hs => rfl))
  | with_reducible refine wpAny_BinOp ?_
  | with_reducible refine Subscript_ ?_
  | with_reducible refine x_int fun _ _ => ?_
  | with_reducible refine x_str fun _ _ => ?_
  | walk_at "ld"
  | walk_at "ldc"
  | walk_at "ldn"
  | walk_at "ldk"
  | walk_at "ldf"
  | with_reducible refine x_call ?_
  | with_reducible refine x_slice ?_
  | with_reducible refine p_none ?_
  | walk_at "sl"
  | with_reducible refine p_some ?_
  | with_reducible refine wpAny_UnaryOp ?_
  | with_reducible refine i_neg fun _ _ => ?_
  | with_reducible refine i_add fun _ _ => ?_
  | with_reducible refine i_sub fun _ _ => ?_
  | with_reducible refine i_le ?_
  | with_reducible refine i_lt ?_
  | with_reducible refine i_eq ?_
  | with_reducible refine wpAny_Return_some ?_
  | with_reducible refine x_next ?_
  | with_reducible refine x_ret ?_
  | with_reducible refine strOk ?_
  | with_reducible refine intOk ?_
  | with_reducible refine wpAny_If ?_
  | with_reducible refine wpAny_truthy_bool ?_)
theorem l_index {prog : Program} {w : World} {A : Around} {E : Value → Shared → Prop} {s : Shared} {h : Heap} {tk : Nat} {Q : Value → Shared → Prop} {l : Addr} {vs : List Value} {ord : List Nat} {x : Nat} {t : Tok}
    (hl : h.IsList l vs.toArray) (hi : IntsAre vs (natI ord)) (hx : x ∈ ord) (hlen : ord.length ≤ 1000) (q : ∀ t' tk', Q (.int (ord.idxOf x : Nat) t') (mk s h tk')) :
    wpAny (model prog w) A (call (.builtin "list.index") [.ref l, .int x t]) Q E (mk s h tk) := by
  obtain ⟨⟨cls, dd, data, sl⟩, ho, hc, n, hd⟩ := id hl
  cases hc; cases hd
  have hv := hi.length
  rw [List.length_map] at hv
  have hj : ord.idxOf x < ord.length := List.idxOf_lt_length_iff.mpr hx
  have at' : ∀ j (h1 : j < vs.length), isInt (x : Int) vs[j] = (ord[j]'(by omega) == x) := fun j h1 => by
    rw [isInt_at (x : Int) hi j h1 (by simp; omega)]
    have e : (natI ord)[j]'(by simp; omega) = ((ord[j]'(by omega) : Nat) : Int) := by simp
    rw [e, Bool.eq_iff_iff, beq_iff_eq, beq_iff_eq]
    omega
  refine call_meets F.slot_list_index ⟨_, ho, rfl⟩ F.entry_list_index (F.args_list_index_2 _ _) (SeqAt.list_indexAt l vs.toArray n dd sl (.int x t) (isInt x) (ord.idxOf x) (by simp; omega) (by omega) ?_ ?_)
    ⟨ho, fun y hy => (eq_isInt (x : Int) t hi y (by simpa using hy)).at _ _, q _ _⟩
  · show isInt (x : Int) vs[ord.idxOf x] = true
    rw [at' _ (by omega)]
    simpa using List.getElem_idxOf hj
  · intro j h1 hlt
    have h1' : j < vs.length := by simpa using h1
    show isInt (x : Int) vs[j] = false
    rw [at' _ h1']
    have := List.not_of_lt_findIdx (p := (· == x)) (xs := ord) (i := j) hlt
    simpa using this

section
variable (B by' : Nat) (ord ds : List Nat)
/-- what the first p figures are worth -/
def wN (p : Nat) : Nat := worthN B (ds.take p)
/-- which pair figure p needs, by its place in the row -/
def need (p : Nat) : Nat := ord.idxOf (wN B ds p % by' * B + ds.getD p 0)
def lastN (p : Nat) : Nat := if p = 0 then ord.length else need B by' ord ds (p - 1)
def isStop (p : Nat) : Bool := decide (need B by' ord ds p ≤ lastN B by' ord ds p)
def stopAt (p : Nat) : List Nat := stopL B ds p (wN B ds p / by') (wN B ds p % by')
def stopsTo (i : Nat) : List (List Nat) := ((List.range i).filter (isStop B by' ord ds)).map (stopAt B by' ds)
/-- all the stops -/
def stopsL : List (List Nat) := stopsTo B by' ord ds ds.length ++ [stopAt B by' ds ds.length]
theorem stopsTo_succ (i : Nat) : stopsTo B by' ord ds (i + 1) = stopsTo B by' ord ds i ++ (if isStop B by' ord ds i then [stopAt B by' ds i] else []) := by
  unfold stopsTo
  rw [List.range_succ, List.filter_append, List.map_append]
  congr 1
  cases h : isStop B by' ord ds i <;> simp [h]
end

def StopJ (B by' wd : Nat) (ord ds : List Nat) (t u v : Tok) (lo Ds : Addr) (i : Nat) (m : Str → Option Value) (ow : List (Addr × Obj)) : Prop :=
  ∃ vs nn tl, ow = [(Ds, listO (List.toArray vs) nn)] ∧ StrsAre vs ((stopsTo B by' ord ds i).map tx) ∧ m "last" = some (.int (lastN B by' ord ds i : Nat) tl) ∧
    m "numeral" = some (.str (fig ds) t) ∧ m "by" = some (.int by' u) ∧ m "width" = some (.int wd v) ∧ m "order" = some (.ref lo) ∧ m "stops" = some (.ref Ds)

theorem stops_call {prog : Program} {w : World} {A : Around} {E : Value → Shared → Prop} {s : Shared} {h : Heap} {tk : Nat} {Q : Value → Shared → Prop} {ds ord : List Nat} {t u v : Tok} {wd by' : Nat} {lo : Addr} {ovs : List Value} {no : Nat}
    (hB : Base h) (hT : Tb h) (hA : A.handled = none) (hroom : A.depth + 50 < recursionLimit) (hw : wd = 1 ∨ wd = 2) (hb : 2 ≤ by') (hb5 : by' ≤ 5) (hds : ∀ d ∈ ds, d < 2 ^ wd) (hlen : ds.length ≤ 8)
    (hl : h.get? lo = some (listO ovs.toArray no)) (hi : IntsAre ovs (natI ord)) (hol : ord.length ≤ 1000) (hord : ∀ x, x < by' * 2 ^ wd → x ∈ ord)
    (q : ∀ D h' tk' vs, KeptT h h' → h.get? D = none → h'.get? D = some (listO (List.toArray vs) 0) → StrsAre vs ((stopsL (2 ^ wd) by' ord ds).map tx) → Q (.ref D) (mk s h' tk')) :
    wpAny (model prog w) A (call (.ref 82) [.str (fig ds) t, .int by' u, .int wd v, .ref lo]) Q E (mk s h tk) := by
  refine call_def hB.f82 hB.nolimit hT (by omega) (binds := [("numeral", .str (fig ds) t), ("by", .int by' u), ("width", .int wd v), ("order", .ref lo)]) (fun _ _ _ _ _ => rfl) (by decide +kernel) (locs (by rfl)) rfl rfl rfl (fun L cd h₁ tk _ G => ?_)
  replace G : Frm h (envF 13 [] L 82 cd) (fun x => [(Str.ofString "numeral", Value.str (fig ds) t), (Str.ofString "by", Value.int by' u), (Str.ofString "width", .int wd v), (Str.ofString "order", .ref lo)].reverse.lookup x) (fun _ => none) [] h₁ := G
  have F := G.weaken (ghost_kept h)
  have hBg := hB.ghost
  have gl : (ghost h).get? lo = some (listO ovs.toArray no) := by
    obtain ⟨n1, n2⟩ := tb_ne hT hl (nc_seq _ _ _)
    exact ghost_get n1 n2 hl
  clear G
  have hov := hi.length
  rw [List.length_map] at hov
  have hA' : (A.deeper (envF 13 [] L 82 cd)).handled = none := hA
  refine x_cons ?_
  refine x_swap hA' rfl rfl rfl rfl ?_
  with_reducible refine x_list0 ?_
  with_reducible refine' n_list ?_ fun Ds h₂ tk₂ k₂ n₂ g₂ => ?_
  · rw [sizeLine_eq]; simp
  have F2 := F.own_new k₂ n₂ g₂ (nc_seq _ _ _)
  clear F
  walk_at "go"
  walk_at "blt"
  with_reducible refine' b_call1 ?_ ?_
  · rfl
  walk_at "go"
  have lk : ∀ {hh : Heap}, Kept (ghost h) hh → hh.IsList lo ovs.toArray := fun k => isList_of (k _ _ gl)
  with_reducible refine' len_l (lk F2.keep) ?_ fun tl tk₃ => ?_
  · simp; omega
  refine ⟨h₂, tk₃, rfl, fun h₃ tk₃ k₃ => ?_⟩
  have F3 := F2.grow k₃
  clear F2
  walk_at "st"
  rename_i h₄ tk₄ F4
  clear F3
  walk_at "st"
  rename_i h₅ tk₅ F5
  clear F4
  iterate 2 walk_at "go"
  refine f_for (b := ghost h) (cm := fun _ => none) rfl rfl (fun _ => rfl) ?_
  walk_at "go"
  walk_at "blt"
  with_reducible refine' t_call1 ?_ ?_
  · rfl
  walk_at "go"
  walk_at "blt"
  with_reducible refine' b_call1 ?_ ?_
  · rfl
  walk_at "go"
  with_reducible refine' len_s ?_ fun _ _ => ?_
  · rw [tx_len, List.length_map]; omega
  rw [tx_len, List.length_map]
  with_reducible refine' r_iter ?_ fun I h₈ tk₈ k₈ n₈ r₈ => ?_
  · omega
  refine forAt_range hA' F5 (ghost37 h) (ghost44 h) k₈ n₈ r₈ (StopJ (2 ^ wd) by' wd ord ds t u v lo Ds) ?_ ?_ ?_
  · refine ⟨[], 0, tl, rfl, .nil, ?_, rfl, rfl, rfl, rfl, rfl⟩
    show some (Value.int _ tl) = some (.int ((if 0 = 0 then ord.length else _ : Nat) : Int) tl)
    rw [if_pos rfl, ← hov]
    simp
  · rintro p tp m₁ ow₁ b₁ h₁ tk₁ hp ⟨vs, nn, tl', rfl, hvs, ml, mnum, mby, mw, mo, ms⟩ kb g1 g2 F₁
    have hBb := hBg.keeps kb
    obtain ⟨d, hd⟩ : ∃ d, d = ds.getD p 0 := ⟨_, rfl⟩
    have hdp : ds[p]? = some d := by rw [hd, List.getD_eq_getElem?_getD, List.getElem?_eq_getElem hp]; rfl
    have hdB : d < 2 ^ wd := hds d (List.mem_of_getElem? hdp)
    have hd4 : d < 4 := by rcases hw with e | e <;> subst e <;> omega
    have hW : wN (2 ^ wd) ds p < 2 ^ 16 := worth_lt16 hw (fun x hx => hds x (List.mem_of_mem_take hx)) (by rw [List.length_take]; omega)
    have hWb : wN (2 ^ wd) ds p % by' < by' := Nat.mod_lt _ (by omega)
    have hB4 : 2 ^ wd ≤ 4 := by rcases hw with e | e <;> subst e <;> decide
    have hmul : wN (2 ^ wd) ds p % by' * 2 ^ wd ≤ 4 * 4 := Nat.mul_le_mul (by omega) hB4
    have hx : wN (2 ^ wd) ds p % by' * 2 ^ wd + d < by' * 2 ^ wd := by
      have : (wN (2 ^ wd) ds p % by' + 1) * 2 ^ wd ≤ by' * 2 ^ wd := Nat.mul_le_mul_right _ hWb
      rw [Nat.add_mul, Nat.one_mul] at this
      omega
    refine x_cons ?_
    iterate 2 walk_at "go"
    walk_at "glob"
    with_reducible refine' d_call hBb.f70 (bt2 ?b1 ?b2) ?_
    case b1 => rfl
    case b2 => rfl
    with_reducible refine s_cons ?_
    repeat walk_at "go"
    rename_i D₁ h₂ tk₂ k₂ hs₂ F2
    with_reducible refine' s_to hs₂ ?ha ?hl ?he fun _ _ => ?_
    case ha => rw [List.length_map]; omega
    case hl => rw [List.length_map, sizeLine_eq]; omega
    case he => rfl
    rw [← List.map_take]
    with_reducible refine s_cons ?_
    walk_at "go"
    with_reducible refine s_nil ?_
    refine ⟨F2.keep, ?_⟩
    refine worth_call (hBb.keeps F2.keep) F2.tabs hA (by show A.depth + 1 < _; omega) hw (fun x hx => hds x (List.mem_of_mem_take hx)) (by rw [List.length_take]; omega) fun h₃ tk₃ t₃ k₃ => ?_
    have F3 := F2.grow k₃
    clear F2 F₁
    rw [show worthN (2 ^ wd) (ds.take p) = wN (2 ^ wd) ds p from rfl]
    walk_at "st"
    rename_i h₄ tk₄ F4
    clear F3
    iterate 3 walk_at "go"
    walk_at "lidx"
    walk_at "go"
    have hlo4 : h₄.get? lo = some (listO ovs.toArray no) := F4.keep _ _ (kb _ _ gl)
    refine listOk hlo4 ?_
    repeat walk_at "go"
    with_reducible refine' i_mod ?_ fun _ _ => ?_
    · omega
    walk_at "go"
    rw [show ((wN (2 ^ wd) ds p : Nat) : Int) % (by' : Int) = ((wN (2 ^ wd) ds p % by' : Nat) : Int) by push_cast; rfl]
    with_reducible refine' i_shl ?_ ?_ fun _ _ => ?_
    · rcases hw with e | e <;> subst e <;> decide
    · rw [Int.natAbs_natCast]; omega
    walk_at "index"
    iterate 5 walk_at "go"
    with_reducible refine' s_item' (k := p) (c := d + 48) ?he ?hk ?hc ?hs fun _ _ => ?_
    case he => rfl
    case hk => omega
    case hc => simp [tx, hdp]
    case hs => rfl
    with_reducible refine index_fig ?_ hd4 fun _ _ => ?_
    · exact hA
    iterate 1 walk_at "go"
    rw [show ((wN (2 ^ wd) ds p % by' : Nat) : Int) * 2 ^ wd + (d : Int) = ((wN (2 ^ wd) ds p % by' * 2 ^ wd + d : Nat) : Int) by push_cast; rfl]
    refine l_index (isList_of hlo4) hi (hord _ hx) hol fun tn tkn => ?_
    rw [show ord.idxOf (wN (2 ^ wd) ds p % by' * 2 ^ wd + d) = need (2 ^ wd) by' ord ds p by rw [hd]; rfl]
    walk_at "st"
    rename_i h₅ tk₅ F5
    clear F4
    iterate 3 walk_at "go"
    walk_at "cmp"
    iterate 4 walk_at "go"
    have eS : decide (((need (2 ^ wd) by' ord ds p : Nat) : Int) ≤ ((lastN (2 ^ wd) by' ord ds p : Nat) : Int)) = isStop (2 ^ wd) by' ord ds p := by
      unfold isStop
      rw [Bool.eq_iff_iff, decide_eq_true_iff, decide_eq_true_iff]
      omega
    rw [eS]
    have eL : lastN (2 ^ wd) by' ord ds (p + 1) = need (2 ^ wd) by' ord ds p := by unfold lastN; rw [if_neg (by omega)]; rfl
    by_cases hst : isStop (2 ^ wd) by' ord ds p = true
    · rw [hst]
      refine b_true ?_
      walk_at "go"
      walk_at "exp"
      walk_at "ap"
      walk_at "go"
      refine listOk (F5.get List.mem_cons_self) ?_
      walk_at "go"
      walk_at "glob"
      with_reducible refine' d_call hBb.f75 (bt4 ?b1 ?b2 ?b3 ?b4) ?_
      case b1 => rfl
      case b2 => rfl
      case b3 => rfl
      case b4 => rfl
      with_reducible refine s_cons ?_
      walk_at "go"
      with_reducible refine s_cons ?_
      walk_at "go"
      with_reducible refine s_cons ?_
      with_reducible refine' x_tuple2 ?_ ?_ ?_
      · rfl
      · rfl
      iterate 3 walk_at "go"
      with_reducible refine' i_div ?_ ?_ fun _ _ => ?_
      · omega
      · exact Or.inl (PyProof.noPylong_small (by omega))
      iterate 3 walk_at "go"
      with_reducible refine' i_mod ?_ fun _ _ => ?_
      · omega
      with_reducible refine' n_tuple ?_ fun T h₆ tk₆ k₆ n₆ g₆ => ?_
      · rw [sizeLine_eq]; simp
      have F6 := F5.grow k₆
      clear F5
      with_reducible refine s_cons ?_
      walk_at "go"
      with_reducible refine s_nil ?_
      refine ⟨F6.keep, ?_⟩
      rw [show ((wN (2 ^ wd) ds p : Nat) : Int) % (by' : Int) = ((wN (2 ^ wd) ds p % by' : Nat) : Int) by push_cast; rfl, show ((wN (2 ^ wd) ds p : Nat) : Int) / (by' : Int) = ((wN (2 ^ wd) ds p / by' : Nat) : Int) by push_cast; rfl] at g₆
      refine stop_call (hBb.keeps F6.keep) F6.tabs hA (by show A.depth + 1 < _; omega) hw (by omega) hlen (by omega) (isTup_of g₆) fun h₇ tk₇ t₇ k₇ => ?_
      have F7 := F6.grow k₇
      clear F6
      have hvl : vs.length = (stopsTo (2 ^ wd) by' ord ds p).length := by rw [hvs.length, List.length_map]
      have hstl : (stopsTo (2 ^ wd) by' ord ds p).length ≤ p := by
        unfold stopsTo
        rw [List.length_map]
        exact Nat.le_trans (List.length_filter_le _ _) (by simp)
      refine l_append F7 (by omega) fun h₈ tk₈ n₈ F8 => ⟨rfl, ?_⟩
      clear F7
      walk_at "go"
      refine wpAny_execs_nil ?_
      iterate 4 walk_at "go"
      walk_at "st"
      rename_i h₉ tk₉ F9
      walk_at "go"
      refine wpAny_execs_nil ⟨rfl, h₉, tk₉, _, _, rfl, F9, _, n₈, tn, rfl, ?_, ?_, ?_, ?_, ?_, ?_, ?_⟩
      · rw [stopsTo_succ, if_pos hst, List.map_append]
        exact hvs.append' (.cons _ _ .nil)
      · rw [eL]; rfl
      all_goals walk_at "look"
    · have hst' : isStop (2 ^ wd) by' ord ds p = false := by simpa using hst
      rw [hst']
      refine b_false ?_
      refine wpAny_execs_nil ?_
      iterate 4 walk_at "go"
      walk_at "st"
      rename_i h₉ tk₉ F9
      walk_at "go"
      refine wpAny_execs_nil ⟨rfl, h₉, tk₉, _, _, rfl, F9, vs, nn, tn, rfl, ?_, ?_, ?_, ?_, ?_, ?_, ?_⟩
      · rw [stopsTo_succ, if_neg hst, List.append_nil]
        exact hvs
      · rw [eL]; rfl
      all_goals walk_at "look"
  · rintro h' tk' m' ow' F' ⟨vs, nn, tl', rfl, hvs, ml, mnum, mby, mw, mo, ms⟩
    clear F5
    have hW : wN (2 ^ wd) ds ds.length < 2 ^ 16 := worth_lt16 hw (fun x hx => hds x (List.mem_of_mem_take hx)) (by rw [List.length_take]; omega)
    have hWb : wN (2 ^ wd) ds ds.length % by' < by' := Nat.mod_lt _ (by omega)
    iterate 4 walk_at "go"
    walk_at "glob"
    with_reducible refine' d_call hBg.f63 (bt2 ?b1 ?b2) ?_
    case b1 => rfl
    case b2 => rfl
    with_reducible refine s_cons ?_
    walk_at "go"
    walk_at "glob"
    with_reducible refine' d_call hBg.f70 (bt2 ?b1 ?b2) ?_
    case b1 => rfl
    case b2 => rfl
    walk_at "args2"
    refine ⟨F'.keep, ?_⟩
    refine worth_call (hBg.keeps F'.keep) F'.tabs hA (by show A.depth + 1 < _; omega) hw hds hlen fun h₃ tk₃ t₃ k₃ => ?_
    have F3 := F'.grow k₃
    clear F'
    rw [show worthN (2 ^ wd) ds = wN (2 ^ wd) ds ds.length by unfold wN; rw [List.take_length]]
    with_reducible refine s_cons ?_
    walk_at "go"
    with_reducible refine s_nil ?_
    refine ⟨F3.keep, ?_⟩
    refine int_divmod_call (hBg.keeps F3.keep) F3.tabs hA (by show A.depth + 1 + 40 < _; omega) hW hb hb5 fun T h₄ tk₄ t1 t2 k₄ n₄ g₄ => ?_
    obtain ⟨b₄, kb₄, F4, g37, g44, gT⟩ := F3.take (ghost37 h) (ghost44 h) k₄ n₄ g₄
    have hBb := hBg.keeps kb₄
    clear F3 k₄ n₄ g₄
    walk_at "st"
    rename_i h₅ tk₅ F5
    clear F4
    iterate 5 walk_at "go"
    with_reducible refine' x_list1 ?_ ?_
    · rfl
    walk_at "go"
    walk_at "glob"
    with_reducible refine' d_call hBb.f75 (bt4 ?b1 ?b2 ?b3 ?b4) ?_
    case b1 => rfl
    case b2 => rfl
    case b3 => rfl
    case b4 => rfl
    with_reducible refine s_cons ?_
    walk_at "go"
    with_reducible refine s_cons ?_
    walk_at "go"
    walk_at "blt"
    with_reducible refine' b_call1 ?_ ?_
    · rfl
    walk_at "go"
    with_reducible refine' len_s ?_ fun _ _ => ?_
    · rw [tx_len, List.length_map]; omega
    rw [tx_len, List.length_map]
    with_reducible refine s_cons ?_
    walk_at "go"
    with_reducible refine s_cons ?_
    walk_at "go"
    with_reducible refine s_nil ?_
    refine ⟨F5.keep, ?_⟩
    refine stop_call (hBb.keeps F5.keep) F5.tabs hA (by show A.depth + 1 < _; omega) hw (Nat.le_refl _) hlen (by omega) (isTup_of (F5.keep _ _ gT)) fun h₇ tk₇ t₇ k₇ => ?_
    have F7 := F5.grow k₇
    clear F5
    with_reducible refine' n_list ?_ fun D1 h₈ tk₈ k₈ n₈ g₈ => ?_
    · rw [sizeLine_eq]; simp
    have F8 := F7.grow k₈
    clear F7
    have hvl : vs.length = (stopsTo (2 ^ wd) by' ord ds ds.length).length := by rw [hvs.length, List.length_map]
    have hstl : (stopsTo (2 ^ wd) by' ord ds ds.length).length ≤ ds.length := by
      unfold stopsTo
      rw [List.length_map]
      exact Nat.le_trans (List.length_filter_le _ _) (by simp)
    with_reducible refine' l_add (isList_of (F8.get List.mem_cons_self)) (isList_of g₈) ?_ fun D2 h₉ tk₉ k₉ n₉ g₉ => ?_
    · rw [sizeLine_eq]; simp; omega
    walk_at "go"
    have nT := new_off F8 n₉
    refine q D2 h₉ _ _ (keptT_of (kb₄.trans (F8.keep.trans k₉)) (F8.tabs.keeps k₉)) (none_of_ghost nT.2.1 nT.2.2 (kb₄.none (F8.keep.none n₉))) g₉ ?_
    unfold stopsL
    rw [List.map_append]
    exact hvs.append' (.cons _ _ .nil)
end Mine
end
section
open PySem PyProof.Rows
namespace Mine

section
variable {x y u v : Nat}
theorem rep2_cons_ne {c : Nat} (h : c ≠ x) : ∀ l, rep2 x y u v (c :: l) = c :: rep2 x y u v l
  | [] => rfl
  | _ :: _ => rep2_no fun q => h q.1
theorem rep2_cons_y {c : Nat} : ∀ l, y ∉ l → rep2 x y u v (c :: l) = c :: rep2 x y u v l
  | [], _ => rfl
  | _ :: _, h => rep2_no fun q => h (q.2 ▸ List.mem_cons_self)
theorem rep2_skip_x : ∀ (a l : List Nat), x ∉ a → rep2 x y u v (a ++ l) = a ++ rep2 x y u v l
  | [], _, _ => rfl
  | c :: a, l, h => by
    rw [List.cons_append, rep2_cons_ne (fun q : c = x => h (by rw [← q]; exact List.mem_cons_self)), rep2_skip_x a l fun q => h (List.mem_cons_of_mem _ q)]; rfl
theorem rep2_id_x (l : List Nat) (h : x ∉ l) : rep2 x y u v l = l := by
  have := rep2_skip_x (x := x) (y := y) (u := u) (v := v) l [] h
  rw [List.append_nil] at this
  rw [this]; simp [rep2]
theorem rep2_id_y : ∀ (l : List Nat), y ∉ l → rep2 x y u v l = l
  | [], _ => rfl
  | c :: l, h => by
    have hl : y ∉ l := fun q => h (List.mem_cons_of_mem _ q)
    rw [rep2_cons_y l hl, rep2_id_y l hl]
theorem rep2_skip_y : ∀ (a : List Nat) (c : Nat) (l : List Nat), y ∉ a → y ≠ c → rep2 x y u v (a ++ c :: l) = a ++ rep2 x y u v (c :: l)
  | [], _, _, _, _ => rfl
  | [d], c, l, h, hc => by
    show rep2 x y u v (d :: c :: l) = _
    rw [rep2_no fun q => hc q.2.symm]; rfl
  | d :: e :: a, c, l, h, hc => by
    have h1 : y ∉ e :: a := fun q => h (List.mem_cons_of_mem _ q)
    have := rep2_skip_y (e :: a) c l h1 hc
    show rep2 x y u v (d :: e :: (a ++ c :: l)) = _
    rw [rep2_no fun q : d = x ∧ e = y => h1 (by rw [← q.2]; exact List.mem_cons_self)]
    show d :: rep2 x y u v ((e :: a) ++ c :: l) = _
    rw [this]; rfl
theorem act_yes {a b : List Nat} (ha : x ∉ a) (hb : x ∉ b) : rep2 x y u v (a ++ x :: y :: b) = a ++ u :: v :: b := by
  rw [rep2_skip_x _ _ ha, rep2_yes ⟨rfl, rfl⟩, rep2_id_x b hb]
theorem act_no {a b : List Nat} {m c : Nat} (ha : x ∉ a) (hb : x ∉ b) (hc : c ≠ x) (hn : ¬ (m = x ∧ c = y)) : rep2 x y u v (a ++ m :: c :: b) = a ++ m :: c :: b := by
  rw [rep2_skip_x _ _ ha, rep2_no hn, rep2_cons_ne hc, rep2_id_x b hb]
theorem act_end {a : List Nat} {m : Nat} (ha : x ∉ a) : rep2 x y u v (a ++ [m]) = a ++ [m] := by rw [rep2_skip_x _ _ ha]; rfl
theorem actB_yes {a b : List Nat} (ha : y ∉ a) (hx : y ≠ x) (hb : y ∉ b) : rep2 x y u v (a ++ x :: y :: b) = a ++ u :: v :: b := by
  rw [rep2_skip_y _ _ _ ha hx, rep2_yes ⟨rfl, rfl⟩, rep2_id_y b hb]
theorem actB_no {a b : List Nat} {m c : Nat} (ha : y ∉ a) (hc : y ≠ c) (hb : y ∉ b) (hn : ¬ (c = x ∧ m = y)) : rep2 x y u v (a ++ c :: m :: b) = a ++ c :: m :: b := by
  rw [rep2_skip_y _ _ _ ha hc, rep2_no hn, rep2_cons_y b hb, rep2_id_y b hb]
theorem actB_start {b : List Nat} {m : Nat} (hb : y ∉ b) : rep2 x y u v (m :: b) = m :: b := by rw [rep2_cons_y b hb, rep2_id_y b hb]
theorem rep2_split (hx : x ≠ 46) (hy : y ≠ 46) (b : List Nat) : ∀ a, rep2 x y u v (a ++ 46 :: b) = rep2 x y u v a ++ 46 :: rep2 x y u v b
  | [] => by
    show rep2 x y u v (46 :: b) = 46 :: rep2 x y u v b
    exact rep2_cons_ne hx.symm b
  | [c] => by
    show rep2 x y u v (c :: 46 :: b) = c :: 46 :: rep2 x y u v b
    rw [rep2_no fun q => hy q.2.symm, rep2_cons_ne hx.symm]
  | c :: d :: r => by
    by_cases h : c = x ∧ d = y
    · show rep2 x y u v (c :: d :: (r ++ 46 :: b)) = _
      rw [rep2_yes h, rep2_yes h, rep2_split hx hy b r]; rfl
    · have := rep2_split hx hy b (d :: r)
      show rep2 x y u v (c :: d :: (r ++ 46 :: b)) = _
      rw [rep2_no h, rep2_no h]
      show c :: rep2 x y u v ((d :: r) ++ 46 :: b) = _
      rw [this]; rfl
end
theorem replL_split (ps : List Pr) (h : ∀ p ∈ ps, p.x ≠ 46 ∧ p.y ≠ 46) : ∀ a b, replL ps (a ++ 46 :: b) = replL ps a ++ 46 :: replL ps b := by
  induction ps with
  | nil => intro a b; rfl
  | cons p r ih =>
    intro a b
    have hp := h p List.mem_cons_self
    show replL r (rep2 p.x p.y p.u p.v (a ++ 46 :: b)) = replL r (rep2 p.x p.y p.u p.v a) ++ 46 :: replL r (rep2 p.x p.y p.u p.v b)
    rw [rep2_split hp.1 hp.2, ih fun q hq => h q (List.mem_cons_of_mem _ hq)]

def prF (B by' v : Nat) : Pr := ⟨v / B + 97, v % B + 48, v / by' + 48, v % by' + 97⟩
def prB (B by' v : Nat) : Pr := ⟨v / by' + 48, v % by' + 97, v / B + 97, v % B + 48⟩
def xN (B by' : Nat) (ds : List Nat) (p : Nat) : Nat := wN B ds p % by' * B + ds.getD p 0

theorem digitsN_succ {B p v : Nat} : digitsN B (p + 1) v = digitsN B p (v / B) ++ [v % B] := by
  unfold digitsN
  rw [List.range_succ_eq_map, List.reverse_cons, List.map_append, ← List.map_reverse, List.map_map]
  congr 1
  · apply List.map_congr_left
    intro k _
    show v / B ^ (k + 1) % B = v / B / B ^ k % B
    rw [Nat.div_div_eq_div_mul, Nat.pow_succ']
  · simp
theorem digitsN_lt {B p v : Nat} (hB : 0 < B) : ∀ d ∈ digitsN B p v, d < B := by
  intro d hd
  obtain ⟨k, _, rfl⟩ := List.mem_map.mp hd
  exact Nat.mod_lt _ hB

section
variable {B by' : Nat} {ord ds : List Nat} (hB : 0 < B) (hB4 : B ≤ 4) (hb : 0 < by') (hds : ∀ d ∈ ds, d < B)
include hB hB4 hb hds
omit hB hB4 hb in
theorem getD_lt {p : Nat} (hp : p < ds.length) : ds.getD p 0 < B := by
  rw [List.getD_eq_getElem?_getD, List.getElem?_eq_getElem hp]
  exact hds _ (List.getElem_mem hp)
omit hB hB4 hb hds in
theorem drop_getD {p : Nat} (hp : p < ds.length) : ds.drop p = ds.getD p 0 :: ds.drop (p + 1) := by
  rw [List.drop_eq_getElem_cons hp, List.getD_eq_getElem?_getD, List.getElem?_eq_getElem hp]; rfl
omit hB hB4 hb hds in
theorem wN_succ {p : Nat} (hp : p < ds.length) : wN B ds (p + 1) = wN B ds p * B + ds.getD p 0 := by
  unfold wN
  rw [← List.take_append_getElem hp, worthN_snoc, List.getD_eq_getElem?_getD, List.getElem?_eq_getElem hp]; rfl
theorem xN_lt {p : Nat} (hp : p < ds.length) : xN B by' ds p < by' * B := by
  have h1 : wN B ds p % by' < by' := Nat.mod_lt _ hb
  have h2 := getD_lt hds hp
  have h3 : (wN B ds p % by' + 1) * B ≤ by' * B := Nat.mul_le_mul_right _ h1
  rw [Nat.add_mul, Nat.one_mul] at h3
  unfold xN
  omega
theorem xN_div {p : Nat} (hp : p < ds.length) : xN B by' ds p / B = wN B ds p % by' ∧ xN B by' ds p % B = ds.getD p 0 := by
  have h2 := getD_lt hds hp
  unfold xN
  rw [Nat.mul_comm, Nat.mul_add_div hB, Nat.mul_add_mod, Nat.div_eq_of_lt h2, Nat.mod_eq_of_lt h2]
  exact ⟨rfl, rfl⟩
def hd' (B by' : Nat) (ds : List Nat) (p : Nat) : List Nat := (digitsN B p (wN B ds p / by')).map (· + 48)
def tl' (ds : List Nat) (p : Nat) : List Nat := (ds.drop p).map (· + 48)
omit hB hB4 hb hds in
theorem stopAt_eq (p : Nat) : stopAt B by' ds p = hd' B by' ds p ++ (wN B ds p % by' + 97) :: tl' ds p := by
  show _ ++ _ ++ _ = _
  rw [List.append_assoc]; rfl
omit hB4 hb hds in
theorem hd_lt (p : Nat) : ∀ c ∈ hd' B by' ds p, c < 48 + B := by
  intro c hc
  obtain ⟨d, hd, rfl⟩ := List.mem_map.mp hc
  have := digitsN_lt hB d hd
  omega
omit hB hB4 hb in
theorem tl_lt (p : Nat) : ∀ c ∈ tl' ds p, c < 48 + B := by
  intro c hc
  obtain ⟨d, hd, rfl⟩ := List.mem_map.mp hc
  have := hds d (List.mem_of_mem_drop hd)
  omega
theorem hd_succ {p : Nat} (hp : p < ds.length) : hd' B by' ds (p + 1) = hd' B by' ds p ++ [xN B by' ds p / by' + 48] ∧ wN B ds (p + 1) % by' = xN B by' ds p % by' := by
  obtain ⟨e1, e2⟩ := div_step (B := B) (b := by') (X := wN B ds p) (d := ds.getD p 0) hb
  have hlt : xN B by' ds p / by' < B := by
    rw [Nat.div_lt_iff_lt_mul hb, Nat.mul_comm]
    exact xN_lt hB hB4 hb hds hp
  refine ⟨?_, ?_⟩
  · unfold hd'
    rw [digitsN_succ, wN_succ hp, e1, List.map_append]
    have e3 : (wN B ds p / by' * B + xN B by' ds p / by') / B = wN B ds p / by' := by
      rw [Nat.mul_comm, Nat.mul_add_div hB, Nat.div_eq_of_lt hlt, Nat.add_zero]
    have e4 : (wN B ds p / by' * B + xN B by' ds p / by') % B = xN B by' ds p / by' := by
      rw [Nat.mul_comm, Nat.mul_add_mod, Nat.mod_eq_of_lt hlt]
    show List.map _ (digitsN B p ((wN B ds p / by' * B + xN B by' ds p / by') / B)) ++ List.map _ [(wN B ds p / by' * B + xN B by' ds p / by') % B] = _
    rw [e3, e4]; rfl
  · rw [wN_succ hp, e2]; rfl
/-- a pair of the row acts on a stop -/
theorem fwd {p v : Nat} (hp : p ≤ ds.length) : rep2 (prF B by' v).x (prF B by' v).y (prF B by' v).u (prF B by' v).v (stopAt B by' ds p) = stopAt B by' ds (if p < ds.length ∧ v = xN B by' ds p then p + 1 else p) := by
  have nh : ∀ {k q : Nat}, k + 97 ∉ hd' B by' ds q := fun h => by have := hd_lt hB _ _ h; omega
  have nt : ∀ {k q : Nat}, k + 97 ∉ tl' ds q := fun h => by have := tl_lt hds _ _ h; omega
  rw [stopAt_eq]
  by_cases hpn : p < ds.length
  · have et : tl' ds p = (ds.getD p 0 + 48) :: tl' ds (p + 1) := by unfold tl'; rw [drop_getD hpn]; rfl
    obtain ⟨x1, x2⟩ := xN_div hB hB4 hb hds hpn
    rw [et]
    by_cases hv : v = xN B by' ds p
    · rw [if_pos ⟨hpn, hv⟩, stopAt_eq, (hd_succ hB hB4 hb hds hpn).1, (hd_succ hB hB4 hb hds hpn).2]
      have e1 : (prF B by' v).x = wN B ds p % by' + 97 := by rw [hv]; show _ / B + 97 = _; rw [x1]
      have e2 : (prF B by' v).y = ds.getD p 0 + 48 := by rw [hv]; show _ % B + 48 = _; rw [x2]
      rw [e1, e2, act_yes nh nt, List.append_assoc, hv]; rfl
    · rw [if_neg fun q => hv q.2]
      have hg := getD_lt hds hpn
      rw [act_no (x := (prF B by' v).x) nh nt ?_ ?_, stopAt_eq, et]
      · show ds.getD p 0 + 48 ≠ v / B + 97
        generalize v / B = k
        omega
      · rintro ⟨q1, q2⟩
        have q1 : wN B ds p % by' + 97 = v / B + 97 := q1
        have q2 : ds.getD p 0 + 48 = v % B + 48 := q2
        apply hv
        have h1 := Nat.div_add_mod v B
        unfold xN
        rw [show wN B ds p % by' = v / B by omega, show ds.getD p 0 = v % B by omega, Nat.mul_comm]
        exact h1.symm
  · have et : tl' ds p = [] := by unfold tl'; rw [List.drop_eq_nil_of_le (by omega)]; rfl
    rw [if_neg fun q => hpn q.1, et, act_end (x := (prF B by' v).x) nh, stopAt_eq, et]
/-- the pair turned round -/
theorem bwd {p v : Nat} (hp : p ≤ ds.length) : rep2 (prB B by' v).x (prB B by' v).y (prB B by' v).u (prB B by' v).v (stopAt B by' ds p) = stopAt B by' ds (if 0 < p ∧ v = xN B by' ds (p - 1) then p - 1 else p) := by
  have nh : ∀ {k q : Nat}, k + 97 ∉ hd' B by' ds q := fun h => by have := hd_lt hB _ _ h; omega
  have nt : ∀ {k q : Nat}, k + 97 ∉ tl' ds q := fun h => by have := tl_lt hds _ _ h; omega
  rw [stopAt_eq]
  cases p with
  | zero =>
    rw [if_neg fun q => Nat.lt_irrefl _ q.1, stopAt_eq]
    show rep2 _ _ _ _ ([] ++ _ :: tl' ds 0) = [] ++ _ :: tl' ds 0
    rw [List.nil_append, actB_start (y := (prB B by' v).y) nt]
  | succ p =>
    have hpn : p < ds.length := hp
    rw [Nat.add_sub_cancel]
    obtain ⟨x1, x2⟩ := xN_div hB hB4 hb hds hpn
    have et : tl' ds p = (ds.getD p 0 + 48) :: tl' ds (p + 1) := by unfold tl'; rw [drop_getD hpn]; rfl
    have hlt : xN B by' ds p / by' < B := by
      rw [Nat.div_lt_iff_lt_mul hb, Nat.mul_comm]
      exact xN_lt hB hB4 hb hds hpn
    rw [(hd_succ hB hB4 hb hds hpn).1, (hd_succ hB hB4 hb hds hpn).2, List.append_assoc]
    show rep2 _ _ _ _ (hd' B by' ds p ++ (xN B by' ds p / by' + 48) :: (xN B by' ds p % by' + 97) :: tl' ds (p + 1)) = _
    by_cases hv : v = xN B by' ds p
    · rw [if_pos ⟨Nat.succ_pos _, hv⟩, stopAt_eq, et]
      have e1 : (prB B by' v).x = xN B by' ds p / by' + 48 := by rw [hv]; rfl
      have e2 : (prB B by' v).y = xN B by' ds p % by' + 97 := by rw [hv]; rfl
      rw [e1, e2, actB_yes nh (by omega) nt]
      have e3 : (prB B by' v).u = wN B ds p % by' + 97 := by rw [hv]; show _ / B + 97 = _; rw [x1]
      have e4 : (prB B by' v).v = ds.getD p 0 + 48 := by rw [hv]; show _ % B + 48 = _; rw [x2]
      rw [e3, e4]
    · rw [if_neg fun q => hv q.2, stopAt_eq, (hd_succ hB hB4 hb hds hpn).1, (hd_succ hB hB4 hb hds hpn).2, List.append_assoc]
      rw [actB_no (y := (prB B by' v).y) nh ?_ nt ?_]; rfl
      · show v % by' + 97 ≠ _; omega
      · rintro ⟨q1, q2⟩
        have q1 : xN B by' ds p / by' + 48 = v / by' + 48 := q1
        have q2 : xN B by' ds p % by' + 97 = v % by' + 97 := q2
        apply hv
        rw [← Nat.div_add_mod v by', ← Nat.div_add_mod (xN B by' ds p) by', show xN B by' ds p / by' = v / by' by omega, show xN B by' ds p % by' = v % by' by omega]
end
end Mine
end
section
open PySem PyProof.Rows
namespace Mine

section
variable (B by' : Nat) (ord ds : List Nat)
def runF (l : List Nat) (p : Nat) : Nat := l.foldl (fun p v => if p < ds.length ∧ v = xN B by' ds p then p + 1 else p) p
def runB (l : List Nat) (p : Nat) : Nat := l.foldl (fun p v => if 0 < p ∧ v = xN B by' ds (p - 1) then p - 1 else p) p
def Next (p p' : Nat) : Prop := p < p' ∧ p' ≤ ds.length ∧ (∀ q, p < q → q < p' → isStop B by' ord ds q = false) ∧ (p' = ds.length ∨ isStop B by' ord ds p' = true)
def Prev (p p' : Nat) : Prop := p' < p ∧ (∀ q, p' < q → q < p → isStop B by' ord ds q = false) ∧ isStop B by' ord ds p' = true
def cnt (q : Nat) : Nat := ((List.range q).filter (isStop B by' ord ds)).length
end
section
variable {B by' : Nat} {ord ds : List Nat}
theorem runF_le (l : List Nat) : ∀ p, p ≤ ds.length → runF B by' ds l p ≤ ds.length := by
  induction l with
  | nil => intro p h; exact h
  | cons v r ih =>
    intro p h
    refine ih _ ?_
    dsimp only
    split
    · rename_i q; exact q.1
    · exact h
theorem runB_le (l : List Nat) : ∀ p, p ≤ ds.length → runB B by' ds l p ≤ ds.length := by
  induction l with
  | nil => intro p h; exact h
  | cons v r ih =>
    intro p h
    refine ih _ ?_
    dsimp only
    split
    · omega
    · exact h
theorem runF_end (l : List Nat) : runF B by' ds l ds.length = ds.length := by
  induction l with
  | nil => rfl
  | cons v r ih =>
    show runF B by' ds r (if ds.length < ds.length ∧ _ then _ else _) = _
    rw [if_neg fun q => Nat.lt_irrefl _ q.1, ih]
theorem runB_start (l : List Nat) : runB B by' ds l 0 = 0 := by
  induction l with
  | nil => rfl
  | cons v r ih =>
    show runB B by' ds r (if 0 < 0 ∧ _ then _ else _) = _
    rw [if_neg fun q => Nat.lt_irrefl _ q.1, ih]
theorem need_eq (p : Nat) : need B by' ord ds p = ord.idxOf (xN B by' ds p) := rfl
theorem isStop_succ (p : Nat) : isStop B by' ord ds (p + 1) = decide (need B by' ord ds (p + 1) ≤ need B by' ord ds p) := by
  unfold isStop lastN; rw [if_neg (by omega)]; rfl
theorem isStop_zero : isStop B by' ord ds 0 = true := by
  unfold isStop lastN need
  rw [if_pos rfl, decide_eq_true_iff]
  exact List.idxOf_le_length

section
variable (hB : 0 < B) (hB4 : B ≤ 4) (hb : 0 < by') (hds : ∀ d ∈ ds, d < B) (hall : ∀ x, x < by' * B → x ∈ ord) (hnd : ord.Nodup)
include hB hB4 hb hds hall
theorem need_lt {p : Nat} (hp : p < ds.length) : need B by' ord ds p < ord.length := List.idxOf_lt_length_iff.mpr (hall _ (xN_lt hB hB4 hb hds hp))
omit hB hB4 hb hds hall in
theorem idx_mid {pre suf : List Nat} {v : Nat} (hnd : (pre ++ v :: suf).Nodup) : (pre ++ v :: suf).idxOf v = pre.length := by
  have hv : v ∉ pre := fun h => (List.nodup_append.mp hnd).2.2 v h v List.mem_cons_self rfl
  clear hnd
  induction pre with
  | nil => simp
  | cons c r ih =>
    have hc : c ≠ v := fun q => hv (by rw [← q]; exact List.mem_cons_self)
    have hb : (c == v) = false := by simpa using hc
    rw [List.cons_append, List.idxOf_cons, hb, cond_false, ih fun q => hv (List.mem_cons_of_mem _ q)]; rfl
omit hB hB4 hb hds hall in
theorem idx_inj {x y : Nat} (hx : x ∈ ord) (h : ord.idxOf x = ord.idxOf y) : x = y := by
  have h1 := List.idxOf_lt_length_iff.mpr hx
  have h2 : ord.idxOf y < ord.length := h ▸ h1
  have e1 : ord[ord.idxOf x] = x := List.getElem_idxOf h1
  have e2 : ord[ord.idxOf y] = y := List.getElem_idxOf h2
  rw [← e1, ← e2]
  congr 1
include hnd
theorem run_fwd : ∀ (suf pre : List Nat) (p : Nat), ord = pre ++ suf → p < ds.length →
    (need B by' ord ds p < pre.length → runF B by' ds suf p = p) ∧ (pre.length ≤ need B by' ord ds p → Next B by' ord ds p (runF B by' ds suf p)) := by
  intro suf
  induction suf with
  | nil =>
    intro pre p e hp
    refine ⟨fun _ => rfl, fun h => ?_⟩
    have := need_lt hB hB4 hb hds hall hp
    rw [e, List.append_nil] at this
    rw [List.append_nil] at e
    rw [e] at h
    omega
  | cons v t ih =>
    intro pre p e hp
    have e' : ord = (pre ++ [v]) ++ t := by rw [e]; simp
    have ev : ord.idxOf v = pre.length := by rw [e]; exact idx_mid (e ▸ hnd)
    have hmem : xN B by' ds p ∈ ord := hall _ (xN_lt hB hB4 hb hds hp)
    have hlen : (pre ++ [v]).length = pre.length + 1 := by simp
    by_cases hv : v = xN B by' ds p
    · have hn : need B by' ord ds p = pre.length := by rw [need_eq, ← hv]; exact ev
      have hr : runF B by' ds (v :: t) p = runF B by' ds t (p + 1) := by
        show runF B by' ds t (if p < ds.length ∧ v = xN B by' ds p then p + 1 else p) = _
        rw [if_pos ⟨hp, hv⟩]
      refine ⟨fun h => absurd h (by omega), fun _ => ?_⟩
      rw [hr]
      by_cases hl : p + 1 = ds.length
      · rw [hl, runF_end]
        exact ⟨by omega, Nat.le_refl _, fun q h1 h2 => by omega, .inl rfl⟩
      · have hp1 : p + 1 < ds.length := by omega
        obtain ⟨i1, i2⟩ := ih (pre ++ [v]) (p + 1) e' hp1
        rw [hlen] at i1 i2
        by_cases hc : need B by' ord ds (p + 1) < pre.length + 1
        · rw [i1 hc]
          exact ⟨by omega, by omega, fun q h1 h2 => by omega, .inr (by rw [isStop_succ, decide_eq_true_iff]; omega)⟩
        · obtain ⟨n1, n2, n3, n4⟩ := i2 (by omega)
          refine ⟨by omega, n2, fun q h1 h2 => ?_, n4⟩
          by_cases hq : q = p + 1
          · rw [hq, isStop_succ, decide_eq_false_iff_not]; omega
          · exact n3 q (by omega) h2
    · have hn : need B by' ord ds p ≠ pre.length := fun h => hv (idx_inj hmem (by rw [← need_eq, h, ev])).symm
      have hr : runF B by' ds (v :: t) p = runF B by' ds t p := by
        show runF B by' ds t (if p < ds.length ∧ v = xN B by' ds p then p + 1 else p) = _
        rw [if_neg fun q => hv q.2]
      obtain ⟨i1, i2⟩ := ih (pre ++ [v]) p e' hp
      rw [hlen] at i1 i2
      rw [hr]
      exact ⟨fun h => i1 (by omega), fun h => i2 (by omega)⟩
theorem run_bwd (pre : List Nat) : ∀ (suf : List Nat) (p : Nat), ord = pre ++ suf → p < ds.length →
    (pre.length ≤ need B by' ord ds p → runB B by' ds pre.reverse (p + 1) = p + 1) ∧ (need B by' ord ds p < pre.length → Prev B by' ord ds (p + 1) (runB B by' ds pre.reverse (p + 1))) := by
  induction pre using snoc_ind with
  | nil =>
    intro suf p e hp
    exact ⟨fun _ => rfl, fun h => absurd h (Nat.not_lt_zero _)⟩
  | snoc t v ih =>
    intro suf p e hp
    have e' : ord = t ++ (v :: suf) := by rw [e]; simp
    have ev : ord.idxOf v = t.length := by rw [e']; exact idx_mid (e' ▸ hnd)
    have hmem : xN B by' ds p ∈ ord := hall _ (xN_lt hB hB4 hb hds hp)
    have hlen : (t ++ [v]).length = t.length + 1 := by simp
    rw [hlen, List.reverse_append]
    by_cases hv : v = xN B by' ds p
    · have hn : need B by' ord ds p = t.length := by rw [need_eq, ← hv]; exact ev
      have hr : runB B by' ds ([v].reverse ++ t.reverse) (p + 1) = runB B by' ds t.reverse p := by
        show runB B by' ds t.reverse (if 0 < p + 1 ∧ v = xN B by' ds (p + 1 - 1) then p + 1 - 1 else p + 1) = _
        rw [Nat.add_sub_cancel, if_pos ⟨Nat.succ_pos _, hv⟩]
      refine ⟨fun h => absurd h (by omega), fun _ => ?_⟩
      rw [hr]
      cases p with
      | zero =>
        rw [runB_start]
        exact ⟨by omega, fun q h1 h2 => by omega, isStop_zero⟩
      | succ p =>
        obtain ⟨i1, i2⟩ := ih (v :: suf) p e' (by omega)
        by_cases hc : t.length ≤ need B by' ord ds p
        · rw [i1 hc]
          exact ⟨by omega, fun q h1 h2 => by omega, by rw [isStop_succ, decide_eq_true_iff]; omega⟩
        · obtain ⟨n1, n2, n3⟩ := i2 (by omega)
          refine ⟨by omega, fun q h1 h2 => ?_, n3⟩
          by_cases hq : q = p + 1
          · rw [hq, isStop_succ, decide_eq_false_iff_not]; omega
          · exact n2 q h1 (by omega)
    · have hn : need B by' ord ds p ≠ t.length := fun h => hv (idx_inj hmem (by rw [← need_eq, h, ev])).symm
      have hr : runB B by' ds ([v].reverse ++ t.reverse) (p + 1) = runB B by' ds t.reverse (p + 1) := by
        show runB B by' ds t.reverse (if 0 < p + 1 ∧ v = xN B by' ds (p + 1 - 1) then p + 1 - 1 else p + 1) = _
        rw [Nat.add_sub_cancel, if_neg fun q => hv q.2]
      obtain ⟨i1, i2⟩ := ih (v :: suf) p e' hp
      rw [hr]
      exact ⟨fun h => i1 (by omega), fun h => i2 (by omega)⟩
end

theorem repl_fwd (hB : 0 < B) (hB4 : B ≤ 4) (hb : 0 < by') (hds : ∀ d ∈ ds, d < B) (l : List Nat) : ∀ p, p ≤ ds.length → replL (l.map (prF B by')) (stopAt B by' ds p) = stopAt B by' ds (runF B by' ds l p) := by
  induction l with
  | nil => intro p _; rfl
  | cons v r ih =>
    intro p hp
    show replL (r.map (prF B by')) (rep2 (prF B by' v).x (prF B by' v).y (prF B by' v).u (prF B by' v).v (stopAt B by' ds p)) = _
    rw [fwd hB hB4 hb hds hp]
    refine ih _ ?_
    split
    · rename_i q; exact q.1
    · exact hp
theorem repl_bwd (hB : 0 < B) (hB4 : B ≤ 4) (hb : 0 < by') (hds : ∀ d ∈ ds, d < B) (l : List Nat) : ∀ p, p ≤ ds.length → replL (l.map (prB B by')) (stopAt B by' ds p) = stopAt B by' ds (runB B by' ds l p) := by
  induction l with
  | nil => intro p _; rfl
  | cons v r ih =>
    intro p hp
    show replL (r.map (prB B by')) (rep2 (prB B by' v).x (prB B by' v).y (prB B by' v).u (prB B by' v).v (stopAt B by' ds p)) = _
    rw [bwd hB hB4 hb hds hp]
    refine ih _ ?_
    split
    · omega
    · exact hp

/-! the stops by their number -/
theorem cnt_succ (q : Nat) : cnt B by' ord ds (q + 1) = cnt B by' ord ds q + if isStop B by' ord ds q then 1 else 0 := by
  unfold cnt
  rw [List.range_succ, List.filter_append, List.length_append]
  congr 1
  cases h : isStop B by' ord ds q <;> simp [h]
theorem cnt_mono {a b : Nat} (h : a ≤ b) : cnt B by' ord ds a ≤ cnt B by' ord ds b := by
  induction h with
  | refl => exact Nat.le_refl _
  | step _ ih => rw [cnt_succ]; omega
theorem cnt_same {a b : Nat} (h : a ≤ b) (hn : ∀ q, a ≤ q → q < b → isStop B by' ord ds q = false) : cnt B by' ord ds b = cnt B by' ord ds a := by
  induction h with
  | refl => rfl
  | step hle ih =>
    rename_i m
    have hle : a ≤ m := hle
    rw [cnt_succ, hn _ hle (Nat.lt_succ_self _), ih fun q h1 h2 => hn q h1 (Nat.lt_succ_of_lt h2)]; rfl
theorem filter_at {n q : Nat} (hq : q < n) (hs : isStop B by' ord ds q = true) : ((List.range n).filter (isStop B by' ord ds))[cnt B by' ord ds q]? = some q := by
  induction n with
  | zero => omega
  | succ n ih =>
    rw [List.range_succ, List.filter_append]
    by_cases h : q = n
    · subst h
      have : ((List.range q).filter (isStop B by' ord ds)).length = cnt B by' ord ds q := rfl
      rw [List.getElem?_append_right (by omega), this, Nat.sub_self]
      simp [hs]
    · have h1 := ih (by omega)
      rw [List.getElem?_append_left ?_]
      · exact h1
      · exact (List.getElem?_eq_some_iff.mp h1).1
theorem of_cnt {n : Nat} : ∀ i, i < cnt B by' ord ds n → ∃ q, q < n ∧ isStop B by' ord ds q = true ∧ cnt B by' ord ds q = i := by
  induction n with
  | zero => intro i h; exact absurd h (Nat.not_lt_zero _)
  | succ n ih =>
    intro i h
    rw [cnt_succ] at h
    by_cases hi : i < cnt B by' ord ds n
    · obtain ⟨q, h1, h2, h3⟩ := ih i hi
      exact ⟨q, by omega, h2, h3⟩
    · cases hs : isStop B by' ord ds n with
      | false => rw [hs] at h; simp at h; omega
      | true => rw [hs] at h; exact ⟨n, by omega, hs, by simp at h; omega⟩
theorem stops_len : (stopsL B by' ord ds).length = cnt B by' ord ds ds.length + 1 := by
  unfold stopsL stopsTo cnt; simp
theorem stops_at {q : Nat} (hq : q < ds.length) (hs : isStop B by' ord ds q = true) : (stopsL B by' ord ds).getD (cnt B by' ord ds q) [] = stopAt B by' ds q := by
  have h1 := filter_at hq hs
  unfold stopsL stopsTo
  rw [List.getD_eq_getElem?_getD, List.getElem?_append_left (by rw [List.length_map]; exact (List.getElem?_eq_some_iff.mp h1).1), List.getElem?_map, h1]; rfl
theorem stops_end : (stopsL B by' ord ds).getD (cnt B by' ord ds ds.length) [] = stopAt B by' ds ds.length := by
  unfold stopsL stopsTo
  have : (((List.range ds.length).filter (isStop B by' ord ds)).map (stopAt B by' ds)).length = cnt B by' ord ds ds.length := by rw [List.length_map]; rfl
  rw [List.getD_eq_getElem?_getD, List.getElem?_append_right (by omega), this, Nat.sub_self]; rfl
theorem stops_of {i : Nat} (hi : i < (stopsL B by' ord ds).length) : ∃ q, q ≤ ds.length ∧ (q = ds.length ∨ isStop B by' ord ds q = true) ∧ cnt B by' ord ds q = i ∧ (stopsL B by' ord ds).getD i [] = stopAt B by' ds q := by
  rw [stops_len] at hi
  by_cases h : i = cnt B by' ord ds ds.length
  · exact ⟨ds.length, Nat.le_refl _, .inl rfl, h.symm, by rw [h]; exact stops_end⟩
  · obtain ⟨q, h1, h2, h3⟩ := of_cnt (B := B) (by' := by') (ord := ord) (ds := ds) (n := ds.length) i (by omega)
    exact ⟨q, by omega, .inr h2, h3, by rw [← h3]; exact stops_at h1 h2⟩
theorem stops_at' {q : Nat} (hq : q ≤ ds.length) (hs : q = ds.length ∨ isStop B by' ord ds q = true) : (stopsL B by' ord ds).getD (cnt B by' ord ds q) [] = stopAt B by' ds q := by
  by_cases h : q = ds.length
  · rw [h]; exact stops_end
  · exact stops_at (by omega) (hs.resolve_left h)

section
variable (hB : 0 < B) (hB4 : B ≤ 4) (hb : 0 < by') (hds : ∀ d ∈ ds, d < B) (hall : ∀ x, x < by' * B → x ∈ ord) (hnd : ord.Nodup)
include hB hB4 hb hds hall hnd
theorem plain_fwd {i : Nat} (hi : i < (stopsL B by' ord ds).length) :
    replL (ord.map (prF B by')) ((stopsL B by' ord ds).getD i []) = (stopsL B by' ord ds).getD (min (i + 1) ((stopsL B by' ord ds).length - 1)) [] := by
  obtain ⟨q, h1, h2, h3, h4⟩ := stops_of hi
  rw [h4, repl_fwd hB hB4 hb hds _ _ h1, stops_len, Nat.add_sub_cancel]
  by_cases h : q = ds.length
  · subst h
    rw [runF_end, ← h3, Nat.min_eq_right (by omega), stops_end]
  · have hq : q < ds.length := by omega
    obtain ⟨n1, n2, n3, n4⟩ := (run_fwd hB hB4 hb hds hall hnd ord [] q rfl hq).2 (Nat.zero_le _)
    have hs := h2.resolve_left h
    have e1 : cnt B by' ord ds (q + 1) = i + 1 := by rw [cnt_succ, hs, h3]; rfl
    have e2 : cnt B by' ord ds (runF B by' ds ord q) = i + 1 := by
      rw [← e1]
      exact cnt_same n1 fun z z1 z2 => n3 z z1 z2
    have e3 : i + 1 ≤ cnt B by' ord ds ds.length := by rw [← e1]; exact cnt_mono hq
    rw [Nat.min_eq_left e3, ← e2, stops_at' n2 n4]
theorem plain_bwd {i : Nat} (hi : i < (stopsL B by' ord ds).length) :
    replL (ord.reverse.map (prB B by')) ((stopsL B by' ord ds).getD i []) = (stopsL B by' ord ds).getD (i - 1) [] := by
  obtain ⟨q, h1, h2, h3, h4⟩ := stops_of hi
  rw [h4, repl_bwd hB hB4 hb hds _ _ h1]
  cases q with
  | zero =>
    have : i = 0 := by rw [← h3]; rfl
    subst this
    rw [runB_start]
    exact h4.symm
  | succ q =>
    have hq : q < ds.length := h1
    obtain ⟨n1, n2, n3⟩ := (run_bwd hB hB4 hb hds hall hnd ord [] q (by simp) hq).2 (need_lt hB hB4 hb hds hall hq)
    have e1 : cnt B by' ord ds (q + 1) = cnt B by' ord ds (runB B by' ds ord.reverse (q + 1) + 1) := cnt_same n1 fun z z1 z2 => n2 z z1 z2
    rw [h3, cnt_succ, n3] at e1
    have e2 : i - 1 = cnt B by' ord ds (runB B by' ds ord.reverse (q + 1)) := by rw [e1]; simp
    rw [e2, stops_at (by omega) n3]
end
end
end Mine
end
section
open PySem PyProof.Rows
namespace Mine
/-- the row's order -/
def ordN (size step c : Nat) : List Nat := (List.range size).map fun k => (c + step * k) % size
section
variable {size step inv c : Nat} (h1 : step * inv % size = 1) (hc : c < size)
include h1 hc
theorem ord_fg {x : Nat} (hx : x < size) : (c + step * ((x + (size - c)) * inv % size)) % size = x := by
  have e1 : step * ((x + (size - c)) * inv % size) % size = (x + (size - c)) % size := by
    rw [Nat.mul_mod_mod, show step * ((x + (size - c)) * inv) = (x + (size - c)) * (step * inv) by rw [Nat.mul_left_comm], ← Nat.mul_mod_mod, h1, Nat.mul_one]
  rw [← Nat.add_mod_mod, e1, Nat.add_mod_mod, show c + (x + (size - c)) = x + size by omega, Nat.add_mod_right, Nat.mod_eq_of_lt hx]
theorem ord_gf {k : Nat} (hk : k < size) : ((c + step * k) % size + (size - c)) * inv % size = k := by
  have e1 : ((c + step * k) % size + (size - c)) % size = step * k % size := by
    rw [Nat.mod_add_mod, show c + step * k + (size - c) = step * k + size by omega, Nat.add_mod_right]
  rw [← Nat.mod_mul_mod, e1, Nat.mod_mul_mod, show step * k * inv = k * (step * inv) by rw [Nat.mul_comm step k, Nat.mul_assoc], ← Nat.mul_mod_mod, h1, Nat.mul_one, Nat.mod_eq_of_lt hk]
theorem ord_all {x : Nat} (hx : x < size) : x ∈ ordN size step c :=
  List.mem_map.mpr ⟨_, List.mem_range.mpr (Nat.mod_lt _ (by omega)), ord_fg h1 hc hx⟩
theorem ord_nodup : (ordN size step c).Nodup := by
  unfold ordN List.Nodup
  rw [List.pairwise_map]
  refine List.Pairwise.imp_of_mem (fun {a b} ha hb hab e => hab ?_) List.nodup_range
  have ea := ord_gf h1 hc (List.mem_range.mp ha)
  have eb := ord_gf h1 hc (List.mem_range.mp hb)
  rw [← ea, ← eb, e]
end
theorem ord_lt {size step c x : Nat} (h : x ∈ ordN size step c) : x < size := by
  obtain ⟨k, hk, rfl⟩ := List.mem_map.mp h
  exact Nat.mod_lt _ (by have := List.mem_range.mp hk; omega)
theorem ord_len (size step c : Nat) : (ordN size step c).length = size := by simp [ordN]
/-- the steps have their inverse -/
theorem inv_of {by' wd j : Nat} (hw : wd = 1 ∨ wd = 2) (hb : 2 ≤ by') (hb5 : by' ≤ 5) (hj : j < 4) : ∃ inv, ([1, 7, 11, by' * 2 ^ wd - 1].getD j 0) * inv % (by' * 2 ^ wd) = 1 := by
  have h1 : by' = 2 ∨ by' = 3 ∨ by' = 4 ∨ by' = 5 := by omega
  have h2 : j = 0 ∨ j = 1 ∨ j = 2 ∨ j = 3 := by omega
  have key : ∀ by' ∈ [2, 3, 4, 5], ∀ wd ∈ [1, 2], ∀ j ∈ [0, 1, 2, 3], ∃ inv ∈ List.range 20, ([1, 7, 11, by' * 2 ^ wd - 1].getD j 0) * inv % (by' * 2 ^ wd) = 1 := by decide +kernel
  obtain ⟨i, _, e⟩ := key by' (by simp; omega) wd (by simp; omega) j (by simp; omega)
  exact ⟨i, e⟩
end Mine
end
section
open PySem PyProof.Rows
set_option maxHeartbeats 4000000
namespace Mine
local macro_rules | `(tactic| walk_at "look") => `(tactic| first | rfl | assumption | exact (if_neg (by decide)).trans (by assumption) | exact (if_neg (by decide)).trans ((if_neg (by decide)).trans (by assumption)) | exact (if_neg (by decide)).trans ((if_neg (by decide)).trans ((if_neg (by decide)).trans (by assumption))) | exact (if_neg (by decide)).trans ((if_neg (by decide)).trans ((if_neg (by decide)).trans ((if_neg (by decide)).trans (by assumption)))))
local macro_rules | `(tactic| walk_at "ld") => `(tactic| ((with_reducible refine' x_ld ?F ?k ?l ?v ?d ?_); (case F => assumption); (case k => rfl); (case l => rfl); (case v => walk_at "look"); (case d => rfl)))
local macro_rules | `(tactic| walk_at "ldn") => `(tactic| ((with_reducible refine' x_ldn ?F ?k ?l ?v ?d ?_); (case F => assumption); (case k => rfl); (case l => rfl); (case v => first | assumption | rfl); (case d => rfl)))
local macro_rules | `(tactic| walk_at "ldc") => `(tactic| ((with_reducible refine' x_ldc ?F ?k ?l ?c ?v ?d ?_); (case F => assumption); (case k => rfl); (case l => rfl); (case c => rfl); (case v => rfl); (case d => rfl)))
local macro_rules | `(tactic| walk_at "ldf") => `(tactic| ((with_reducible refine' x_ldf ?k ?l ?c ?v ?d ?e ?_); (case k => rfl); (case l => rfl); (case c => rfl); (case v => assumption); (case d => rfl); (case e => rfl)))
local macro_rules | `(tactic| walk_at "ldk") => `(tactic| ((with_reducible refine' x_ldk ?k ?l ?c ?v ?d ?_); (case k => rfl); (case l => rfl); (case c => rfl); (case v => assumption); (case d => rfl)))
local macro_rules | `(tactic| walk_at "blt") => `(tactic| ((with_reducible refine' x_blt ?B ?K ?g ?b ?k ?x ?m ?d ?_); (case B => assumption); (case K => first | assumption | exact Frm.keep (by assumption)); (case g => rfl); (case b => rfl); (case k => rfl); (case x => rfl); (case m => simp only [bltNames, List.mem_cons]; first | exact .inl rfl | exact .inr (.inl rfl) | exact .inr (.inr (.inl rfl)) | exact .inr (.inr (.inr (.inl rfl))) | exact .inr (.inr (.inr (.inr (.inl rfl)))) | exact .inr (.inr (.inr (.inr (.inr (.inl rfl))))) | exact .inr (.inr (.inr (.inr (.inr (.inr (.inl rfl)))))) | exact .inr (.inr (.inr (.inr (.inr (.inr (.inr (.inl rfl))))))) | exact .inr (.inr (.inr (.inr (.inr (.inr (.inr (.inr (.inl rfl))))))))); (case d => rfl)))
local macro_rules | `(tactic| walk_at "glob") => `(tactic| ((with_reducible refine' x_glob ?B ?K ?g ?k ?x ?m ?d ?_); (case B => assumption); (case K => first | assumption | exact Frm.keep (by assumption)); (case g => rfl); (case k => rfl); (case x => rfl); (case m => simp only [globNames, List.mem_cons]; first | exact .inl rfl | exact .inr (.inl rfl) | exact .inr (.inr (.inl rfl)) | exact .inr (.inr (.inr (.inl rfl))) | exact .inr (.inr (.inr (.inr (.inl rfl)))) | exact .inr (.inr (.inr (.inr (.inr (.inl rfl))))) | exact .inr (.inr (.inr (.inr (.inr (.inr (.inl rfl)))))) | exact .inr (.inr (.inr (.inr (.inr (.inr (.inr (.inl rfl))))))) | exact .inr (.inr (.inr (.inr (.inr (.inr (.inr (.inr (.inl rfl)))))))) | exact .inr (.inr (.inr (.inr (.inr (.inr (.inr (.inr (.inr (.inl rfl)))))))))); (case d => rfl)))
local macro_rules | `(tactic| walk_at "ap") => `(tactic| ((with_reducible refine' meth1 F.plainAttrs_list F.slot_list_append F.type_list_append ?ha ?hb ?hc ?_); (case ha => first | exact ab_const | exact ab_name | exact ab_sub); (case hb => exact rfl); (case hc => exact rfl)))
local macro_rules | `(tactic| walk_at "rv") => `(tactic| ((with_reducible refine' meth0 F.plainAttrs_list F.slot_list_reverse F.type_list_reverse ?ha ?hc ?_); (case ha => first | exact ab_const | exact ab_name | exact ab_sub); (case hc => exact rfl)))
local macro_rules | `(tactic| walk_at "lidx") => `(tactic| ((with_reducible refine' meth1 F.plainAttrs_list F.slot_list_index F.type_list_index ?ha ?hb ?hc ?_); (case ha => first | exact ab_const | exact ab_name | exact ab_sub); (case hb => exact rfl); (case hc => exact rfl)))
local macro_rules | `(tactic| walk_at "args2") => `(tactic| ((with_reducible refine s_cons ?_); walk_at "go"; (with_reducible refine s_cons ?_); walk_at "go"; with_reducible refine s_nil ?_))
local macro_rules | `(tactic| walk_at "exp") => `(tactic| ((with_reducible refine' x_expr ?hi ?hs ?_); (case hi => rfl); (case hs => rfl)))
local macro_rules | `(tactic| walk_at "index") => `(tactic| ((with_reducible refine' meth1 F.plainAttrs_str F.slot_str_index F.type_str_index ?ha ?hb ?hc ?_); (case ha => first | exact ab_const | exact ab_name); (case hb => exact rfl); (case hc => exact rfl)))
local macro_rules | `(tactic| walk_at "join") => `(tactic| ((with_reducible refine' meth1 F.plainAttrs_str F.slot_str_join F.type_str_join ?ha ?hb ?hc ?_); (case ha => first | exact ab_const | exact ab_name | exact ab_sub); (case hb => exact rfl); (case hc => exact rfl)))
local macro_rules | `(tactic| walk_at "split") => `(tactic| ((with_reducible refine' meth1 F.plainAttrs_str F.slot_str_split F.type_str_split ?ha ?hb ?hc ?_); (case ha => first | exact ab_const | exact ab_name | exact ab_sub); (case hb => exact rfl); (case hc => exact rfl)))
local macro_rules | `(tactic| walk_at "bits") => `(tactic| ((with_reducible refine' meth0 F.plainAttrs_int F.slot_int_bit_length F.type_int_bit_length ?ha ?hc ?_); (case ha => first | exact ab_const | exact ab_name | exact ab_sub); (case hc => exact rfl)))
local macro_rules | `(tactic| walk_at "cmp") => `(tactic| ((with_reducible refine' wpAny_isTrue_Compare1 ?_ ?hm); (case hm => rfl)))
local macro_rules | `(tactic| walk_at "t0") => `(tactic| ((with_reducible refine' t_fst ?hl ?he ?_); (case hl => assumption); (case he => rfl)))
local macro_rules | `(tactic| walk_at "t1") => `(tactic| ((with_reducible refine' t_snd ?hl ?he ?_); (case hl => assumption); (case he => rfl)))
local macro_rules | `(tactic| walk_at "sl") => `(tactic| ((with_reducible refine x_sliceEnd fun D' h' tk' k' hs' => ?_); have F' := Frm.grow (by assumption) k'))
local macro_rules | `(tactic| walk_at "st") => `(tactic| ((with_reducible refine' x_st ?F ?k ?l fun h' tk' F' => ?_); (case F => assumption); (case k => rfl); (case l => rfl)))
local macro_rules | `(tactic| walk_at "stc") => `(tactic| ((with_reducible refine' x_stc ?F ?k ?l ?c fun h' tk' F' => ?_); (case F => assumption); (case k => rfl); (case l => rfl); (case c => rfl)))
local macro_rules | `(tactic| walk_at "go") => `(tactic| first
  | with_reducible refine x_cons ?_
  | ((with_reducible refine' x_assign ?hs ?_); (case hs => rfl))
  | with_reducible refine wpAny_BinOp ?_
  | with_reducible refine Subscript_ ?_
  | with_reducible refine x_int fun _ _ => ?_
  | with_reducible refine x_str fun _ _ => ?_
  | walk_at "ld"
  | walk_at "ldc"
  | walk_at "ldn"
  | walk_at "ldk"
  | walk_at "ldf"
  | with_reducible refine x_call ?_
  | with_reducible refine x_slice ?_
  | with_reducible refine p_none ?_
  | walk_at "sl"
  | with_reducible refine p_some ?_
  | with_reducible refine wpAny_UnaryOp ?_
  | with_reducible refine i_neg fun _ _ => ?_
  | with_reducible refine i_add fun _ _ => ?_
  | with_reducible refine i_sub fun _ _ => ?_
  | with_reducible refine i_le ?_
  | with_reducible refine i_lt ?_
  | with_reducible refine i_eq ?_
  | with_reducible refine wpAny_Return_some ?_
  | with_reducible refine x_next ?_
  | with_reducible refine x_ret ?_
  | with_reducible refine strOk ?_
  | with_reducible refine intOk ?_
  | with_reducible refine wpAny_If ?_
  | with_reducible refine wpAny_truthy_bool ?_)
section
variable {prog : Program} {w : World} {A : Around} {E : Value → Shared → Prop} {s : Shared} {h : Heap} {tk : Nat} {env : Env} {Q : Value → Shared → Prop}
theorem x_list7 {i1 i2 i3 i4 i5 i6 i7 : Int} {k1 k2 k3 k4 k5 k6 k7 : Nat} {p1 p2 p3 p4 p5 p6 p7 pos : Pos}
    (q : ∀ t1 t2 t3 t4 t5 t6 t7 tk', wpAny (model prog w) A (newList [.int i1 t1, .int i2 t2, .int i3 t3, .int i4 t4, .int i5 t5, .int i6 t6, .int i7 t7]) Q E (mk s h tk')) :
    wpAny (model prog w) A (eval (.List [.Constant (.int i1) k1 p1, .Constant (.int i2) k2 p2, .Constant (.int i3) k3 p3, .Constant (.int i4) k4 p4, .Constant (.int i5) k5 p5, .Constant (.int i6) k6 p6, .Constant (.int i7) k7 p7] pos) env) Q E (mk s h tk) := by
  refine List_ ?_
  rw [se_cons rfl, se_cons rfl, se_cons rfl, se_cons rfl, se_cons rfl, se_cons rfl, se_cons rfl]
  show wpAny _ _ (spliced [(false, eval (.Constant (.int i1) k1 p1) env), (false, eval (.Constant (.int i2) k2 p2) env), (false, eval (.Constant (.int i3) k3 p3) env), (false, eval (.Constant (.int i4) k4 p4) env), (false, eval (.Constant (.int i5) k5 p5) env), (false, eval (.Constant (.int i6) k6 p6) env), (false, eval (.Constant (.int i7) k7 p7) env)]) _ _ _
  refine s_cons (x_int fun t1 _ => ?_)
  refine s_cons (x_int fun t2 _ => ?_)
  refine s_cons (x_int fun t3 _ => ?_)
  refine s_cons (x_int fun t4 _ => ?_)
  refine s_cons (x_int fun t5 _ => ?_)
  refine s_cons (x_int fun t6 _ => ?_)
  refine s_cons (x_int fun t7 _ => ?_)
  exact s_nil (q _ _ _ _ _ _ _ _)
theorem x_list4 {e₁ e₂ e₃ e₄ : Expr} {pos : Pos} (h1 : notStar e₁ = true) (h2 : notStar e₂ = true) (h3 : notStar e₃ = true) (h4 : notStar e₄ = true)
    (q : wpAny (model prog w) A (eval e₁ env) (fun v₁ s₁ => wpAny (model prog w) A (eval e₂ env) (fun v₂ s₂ => wpAny (model prog w) A (eval e₃ env) (fun v₃ s₃ => wpAny (model prog w) A (eval e₄ env) (fun v₄ s₄ => wpAny (model prog w) A (newList [v₁, v₂, v₃, v₄]) Q E s₄) E s₃) E s₂) E s₁) E (mk s h tk)) :
    wpAny (model prog w) A (eval (.List [e₁, e₂, e₃, e₄] pos) env) Q E (mk s h tk) := by
  refine List_ ?_
  rw [bt4 h1 h2 h3 h4]
  refine s_cons (wpAny_mono q (fun v₁ s₁ q₁ => ?_) fun _ _ x => x)
  refine s_cons (wpAny_mono q₁ (fun v₂ s₂ q₂ => ?_) fun _ _ x => x)
  refine s_cons (wpAny_mono q₂ (fun v₃ s₃ q₃ => ?_) fun _ _ x => x)
  exact s_cons (wpAny_mono q₃ (fun v₄ s₄ q₄ => s_nil q₄) fun _ _ x => x)
/-- list[a:] -/
theorem l_from {value slice : Expr} {l sl : Addr} {vs : List Value} {a : Nat} {u : Tok} {ops : List Value} (hl : h.IsList l vs.toArray) (hs : h.IsSliceOf sl (.int a u) .none .none) (hsz : vs.length ≤ 1000)
    (he : subscripted slice false (.ref l) (.ref sl) = operate ops (getItem (.ref l) (.ref sl)))
    (q : ∀ D h' tk', Kept h h' → h.get? D = none → h'.get? D = some (listO (vs.drop a).toArray 0) → Q (.ref D) (mk s h' tk')) : wpAny (model prog w) A (subscriptTail value slice (.ref l) (.ref sl)) Q E (mk s h tk) := by
  refine l_slice hl hs (IsPart.int _ _) IsPart.none IsPart.none (by decide) (by rw [sizeLine_eq]; simp; omega) he fun D h' tk' k n g => ?_
  rw [slicePick_from'] at g
  exact q D h' tk' k n g
/-- list[:a] -/
theorem l_upto {value slice : Expr} {l sl : Addr} {vs : List Value} {a : Nat} {u : Tok} {ops : List Value} (hl : h.IsList l vs.toArray) (hs : h.IsSliceOf sl .none (.int a u) .none) (hsz : vs.length ≤ 1000)
    (he : subscripted slice false (.ref l) (.ref sl) = operate ops (getItem (.ref l) (.ref sl)))
    (q : ∀ D h' tk', Kept h h' → h.get? D = none → h'.get? D = some (listO (vs.take a).toArray 0) → Q (.ref D) (mk s h' tk')) : wpAny (model prog w) A (subscriptTail value slice (.ref l) (.ref sl)) Q E (mk s h tk) := by
  refine l_slice hl hs IsPart.none (IsPart.int _ _) IsPart.none (by decide) (by rw [sizeLine_eq]; simp; omega) he fun D h' tk' k n g => ?_
  rw [slicePick_upto'] at g
  exact q D h' tk' k n g
/-- list[-1:] -/
theorem l_last {value slice : Expr} {l sl : Addr} {vs : List Value} {u : Tok} {ops : List Value} (hl : h.IsList l vs.toArray) (hs : h.IsSliceOf sl (.int (-1) u) .none .none) (hsz : vs.length ≤ 1000)
    (he : subscripted slice false (.ref l) (.ref sl) = operate ops (getItem (.ref l) (.ref sl)))
    (q : ∀ D h' tk', Kept h h' → h.get? D = none → h'.get? D = some (listO (vs.drop (vs.length - 1)).toArray 0) → Q (.ref D) (mk s h' tk')) : wpAny (model prog w) A (subscriptTail value slice (.ref l) (.ref sl)) Q E (mk s h tk) := by
  refine l_slice hl hs (IsPart.int _ _) IsPart.none IsPart.none (by decide) (by rw [sizeLine_eq]; simp; omega) he fun D h' tk' k n g => ?_
  have e := slicePick_last vs.toArray 1 (Nat.le_refl _)
  rw [show (-((1 : Nat) : Int)) = -1 by rfl] at e
  rw [e] at g
  exact q D h' tk' k n g
/-- list[::-1] -/
theorem l_rev {value slice : Expr} {l sl : Addr} {vs : List Value} {u : Tok} {ops : List Value} (hl : h.IsList l vs.toArray) (hs : h.IsSliceOf sl .none .none (.int (-1) u)) (hsz : vs.length ≤ 1000)
    (he : subscripted slice false (.ref l) (.ref sl) = operate ops (getItem (.ref l) (.ref sl)))
    (q : ∀ D h' tk', Kept h h' → h.get? D = none → h'.get? D = some (listO vs.reverse.toArray 0) → Q (.ref D) (mk s h' tk')) : wpAny (model prog w) A (subscriptTail value slice (.ref l) (.ref sl)) Q E (mk s h tk) := by
  refine l_slice hl hs IsPart.none IsPart.none (IsPart.int _ _) (by decide) (by rw [sizeLine_eq]; simp; omega) he fun D h' tk' k n g => ?_
  rw [PySem.W.krv_pick] at g
  exact q D h' tk' k n g
theorem i_max {a b : Nat} {t u : Tok} (hA : A.handled = none) (q : ∀ t' h' tk', Kept h h' → Q (.int (max a b : Nat) t') (mk s h' tk')) : wpAny (model prog w) A (call (.builtin "max") [.int a t, .int b u]) Q E (mk s h tk) :=
  max_two_ints (s := mk s h tk) hA fun h' tk' k => by
    split
    · rename_i hc
      have := q u h' tk' k
      rw [Nat.max_eq_right (by omega)] at this
      exact this
    · rename_i hc
      have := q t h' tk' k
      rw [Nat.max_eq_left (by omega)] at this
      exact this
theorem i_min {a b : Nat} {t u : Tok} (hA : A.handled = none) (q : ∀ t' h' tk', Kept h h' → Q (.int (min a b : Nat) t') (mk s h' tk')) : wpAny (model prog w) A (call (.builtin "min") [.int a t, .int b u]) Q E (mk s h tk) :=
  min_two_ints (s := mk s h tk) hA fun h' tk' k => by
    split
    · rename_i hc
      have := q u h' tk' k
      rw [Nat.min_eq_right (by omega)] at this
      exact this
    · rename_i hc
      have := q t h' tk' k
      rw [Nat.min_eq_left (by omega)] at this
      exact this
theorem ty_of {x : Value} {T : String} (hx : (mk s h tk).TypeIs x T) (hn : (Value.type T == Value.type "builtin_function_or_method") = false) (q : Q (.type T) (mk s h tk)) : wpAny (model prog w) A (call (.type "type") [x]) Q E (mk s h tk) := call_type_of hx hn q
theorem l_neTT {a b : Addr} {n m : Nat} (hU : A.units + 64 < cLine) (ha : h.get? a = some (listO #[.bool true, .bool true] n)) (hb : h.get? b = some (listO #[.bool true, .bool true] m)) (q : Q (.bool false) (mk s h tk)) :
    wpAny (model prog w) A (compareOp .NotEq (.ref a) (.ref b)) Q E (mk s h tk) :=
  SeqAt.compareNe_layable (s := mk s h tk) (da := .list [.bool true, .bool true]) (db := .list [.bool true, .bool true]) (.list ha rfl rfl (.cons (.bool _) (.cons (.bool _) .nil))) (.list hb rfl rfl (.cons (.bool _) (.cons (.bool _) .nil))) (by decide +kernel) (by decide +kernel) hU q

/-- comprehensions over a list, a pair -/
theorem compAt_list {b : Heap} {m cm : Str → Option Value} {ow : List (Addr × Obj)} {scope : Scope} {cl : List (Str × Addr)} {x : Str} {elt : Expr} {G : Nat → Value → Prop} {fin : Heap → Addr → Heap → Nat → Array Value → Nat → Prop} {I l : Addr} {items : Array Value} {h₂ : Heap} {tk₂ : Nat}
    (hA : A.handled = none) (F : Frm b env m cm ow h) (hl : h.IsList l items) (k : Kept h h₂) (hI : h.get? I = none) (hr : h₂.IsListIter I l 0) (hN : items.size ≤ 1000)
    (helt : ∀ C v s₃ h₃ tk₃ m₃ E' Q', (∃ i : Nat, items[i]? = some v) → h₃.Ns C m₃ → m₃ x = some v → Kept h h₃ → (∀ y tk', (∀ i : Nat, items[i]? = some v → G i y) → Q' y (mk s₃ h₃ tk')) → wpAny (model prog w) A (eval elt (compEnvC scope cl C env)) Q' E' (mk s₃ h₃ tk₃))
    (hfin : ∀ D h' tk' ys n, h.get? D = none → h'.get? D = some (listO ys n) → ys.size = items.size → (∀ k v, ys[k]? = some v → G k v) → fin h D h' tk' ys n) :
    CompAt prog w A s b env m cm ow scope cl x elt items.size (fun i v => items[i]? = some v) G fin (.ref I) (mk s h₂ tk₂) := by
  obtain ⟨ol, hol, hol2⟩ := id hl
  have hne : l ≠ I := fun q => by rw [← q, hol] at hI; cases hI
  refine ⟨h, h₂, tk₂, I, [I, l], [I], _, rfl, rfl, F, k, fun a ha => ?_, Walks.list hA I l hne items, by rw [sizeLine_eq]; omega, ⟨hr, ⟨ol, k _ _ hol, hol2⟩⟩, fun a ha => ?_, ?_, hfin⟩
  · rw [List.mem_singleton.mp ha]; exact hI
  · rcases List.mem_cons.mp ha with rfl | ha
    · obtain ⟨o, e, _⟩ := hr; exact Heap.lt_size e
    · rw [List.mem_singleton.mp ha]; exact Heap.lt_size (k _ _ hol)
  · rintro C v s₃ h₃ tk₃ m₃ E' Q' ⟨i, hi, hv⟩ hn hm hk hq
    exact helt C v s₃ h₃ tk₃ m₃ E' Q' ⟨i, hv⟩ hn hm hk fun y tk' hy => hq y tk' fun j hj hv' => hy j hv'
theorem t_iter {t : Addr} {items : Array Value} {K : Value → Shared → Prop} (hl : h.IsTuple t items) (q : ∀ I h₂ tk₂, Kept h h₂ → h.get? I = none → h₂.IsTupleIter I t 0 → K (.ref I) (mk s h₂ tk₂)) :
    wpAny (model prog w) A (pyIter (.ref t)) K E (mk s h tk) :=
  wpAny_pyIter_tuple (s := mk s h tk) hl (q _ _ _ (Kept.push _ _) (get?_top _ (Nat.le_refl _)) ⟨_, Heap.get?_push_size _ rfl, rfl, rfl⟩)
theorem compAt_tuple {b : Heap} {m cm : Str → Option Value} {ow : List (Addr × Obj)} {scope : Scope} {cl : List (Str × Addr)} {x : Str} {elt : Expr} {G : Nat → Value → Prop} {fin : Heap → Addr → Heap → Nat → Array Value → Nat → Prop} {I l : Addr} {items : Array Value} {h₂ : Heap} {tk₂ : Nat}
    (hA : A.handled = none) (F : Frm b env m cm ow h) (hl : h.IsTuple l items) (k : Kept h h₂) (hI : h.get? I = none) (hr : h₂.IsTupleIter I l 0) (hN : items.size ≤ 1000)
    (helt : ∀ C v s₃ h₃ tk₃ m₃ E' Q', (∃ i : Nat, items[i]? = some v) → h₃.Ns C m₃ → m₃ x = some v → Kept h h₃ → (∀ y tk', (∀ i : Nat, items[i]? = some v → G i y) → Q' y (mk s₃ h₃ tk')) → wpAny (model prog w) A (eval elt (compEnvC scope cl C env)) Q' E' (mk s₃ h₃ tk₃))
    (hfin : ∀ D h' tk' ys n, h.get? D = none → h'.get? D = some (listO ys n) → ys.size = items.size → (∀ k v, ys[k]? = some v → G k v) → fin h D h' tk' ys n) :
    CompAt prog w A s b env m cm ow scope cl x elt items.size (fun i v => items[i]? = some v) G fin (.ref I) (mk s h₂ tk₂) := by
  obtain ⟨ol, hol, hol2⟩ := id hl
  have hne : l ≠ I := fun q => by rw [← q, hol] at hI; cases hI
  refine ⟨h, h₂, tk₂, I, [I, l], [I], _, rfl, rfl, F, k, fun a ha => ?_, Walks.tuple hA I l hne items, by rw [sizeLine_eq]; omega, ⟨hr, ⟨ol, k _ _ hol, hol2⟩⟩, fun a ha => ?_, ?_, hfin⟩
  · rw [List.mem_singleton.mp ha]; exact hI
  · rcases List.mem_cons.mp ha with rfl | ha
    · obtain ⟨o, e, _⟩ := hr; exact Heap.lt_size e
    · rw [List.mem_singleton.mp ha]; exact Heap.lt_size (k _ _ hol)
  · rintro C v s₃ h₃ tk₃ m₃ E' Q' ⟨i, hi, hv⟩ hn hm hk hq
    exact helt C v s₃ h₃ tk₃ m₃ E' Q' ⟨i, hv⟩ hn hm hk fun y tk' hy => hq y tk' fun j hj hv' => hy j hv'
end
theorem ints_of {ys : List Value} {f : Nat → Nat} (h : ∀ (k : Nat) (v : Value), ys[k]? = some v → ∃ t, v = Value.int (f k : Nat) t) : IntsAre ys (natI ((List.range ys.length).map f)) := by
  induction ys using snoc_ind with
  | nil => exact .nil
  | snoc ys v ih =>
    have h1 := ih fun k u hk => h k u (by rw [List.getElem?_append_left (List.getElem?_eq_some_iff.mp hk).1]; exact hk)
    obtain ⟨t, e⟩ := h ys.length v (by rw [List.getElem?_append_right (Nat.le_refl _), Nat.sub_self]; rfl)
    rw [List.length_append, List.length_singleton, List.range_succ, List.map_append, natI, List.map_append, e]
    exact ints_app h1 _ _
theorem ints_cat {vs ws : List Value} {ns ms : List Int} (h : IntsAre vs ns) (h' : IntsAre ws ms) : IntsAre (vs ++ ws) (ns ++ ms) := by
  induction h with
  | nil => exact h'
  | cons n u r ih => exact .cons n u ih
theorem ints_take {vs : List Value} {ns : List Int} (h : IntsAre vs ns) (k : Nat) : IntsAre (vs.take k) (ns.take k) := by
  induction h generalizing k with
  | nil => simp; exact .nil
  | cons n u r ih => cases k with
    | zero => exact .nil
    | succ k => exact .cons n u (ih k)
theorem ints_drop {vs : List Value} {ns : List Int} (h : IntsAre vs ns) (k : Nat) : IntsAre (vs.drop k) (ns.drop k) := by
  induction h generalizing k with
  | nil => simp; exact .nil
  | cons n u r ih => cases k with
    | zero => exact .cons n u r
    | succ k => exact ih k
end Mine
end
section
open PySem PyProof.Rows
set_option maxHeartbeats 4000000
namespace Mine
local macro_rules | `(tactic| walk_at "look") => `(tactic| first | rfl | assumption | exact ((if_neg (by decide)).trans (by assumption)) | exact ((if_neg (by decide)).trans ((if_neg (by decide)).trans (by assumption))) | exact ((if_neg (by decide)).trans ((if_neg (by decide)).trans ((if_neg (by decide)).trans (by assumption)))) | exact ((if_neg (by decide)).trans ((if_neg (by decide)).trans ((if_neg (by decide)).trans ((if_neg (by decide)).trans (by assumption))))) | exact ((if_neg (by decide)).trans ((if_neg (by decide)).trans ((if_neg (by decide)).trans ((if_neg (by decide)).trans ((if_neg (by decide)).trans (by assumption)))))) | exact ((if_neg (by decide)).trans ((if_neg (by decide)).trans ((if_neg (by decide)).trans ((if_neg (by decide)).trans ((if_neg (by decide)).trans ((if_neg (by decide)).trans (by assumption))))))) | exact ((if_neg (by decide)).trans ((if_neg (by decide)).trans ((if_neg (by decide)).trans ((if_neg (by decide)).trans ((if_neg (by decide)).trans ((if_neg (by decide)).trans ((if_neg (by decide)).trans (by assumption)))))))) | exact ((if_neg (by decide)).trans ((if_neg (by decide)).trans ((if_neg (by decide)).trans ((if_neg (by decide)).trans ((if_neg (by decide)).trans ((if_neg (by decide)).trans ((if_neg (by decide)).trans ((if_neg (by decide)).trans (by assumption))))))))) | exact ((if_neg (by decide)).trans ((if_neg (by decide)).trans ((if_neg (by decide)).trans ((if_neg (by decide)).trans ((if_neg (by decide)).trans ((if_neg (by decide)).trans ((if_neg (by decide)).trans ((if_neg (by decide)).trans ((if_neg (by decide)).trans (by assumption)))))))))))
local macro_rules | `(tactic| walk_at "ld") => `(tactic| ((with_reducible refine' x_ld ?F ?k ?l ?v ?d ?_); (case F => assumption); (case k => rfl); (case l => rfl); (case v => walk_at "look"); (case d => rfl)))
local macro_rules | `(tactic| walk_at "ldn") => `(tactic| ((with_reducible refine' x_ldn ?F ?k ?l ?v ?d ?_); (case F => assumption); (case k => rfl); (case l => rfl); (case v => first | assumption | rfl); (case d => rfl)))
local macro_rules | `(tactic| walk_at "ldc") => `(tactic| ((with_reducible refine' x_ldc ?F ?k ?l ?c ?v ?d ?_); (case F => assumption); (case k => rfl); (case l => rfl); (case c => rfl); (case v => rfl); (case d => rfl)))
local macro_rules | `(tactic| walk_at "ldf") => `(tactic| ((with_reducible refine' x_ldf ?k ?l ?c ?v ?d ?e ?_); (case k => rfl); (case l => rfl); (case c => rfl); (case v => assumption); (case d => rfl); (case e => rfl)))
local macro_rules | `(tactic| walk_at "ldk") => `(tactic| ((with_reducible refine' x_ldk ?k ?l ?c ?v ?d ?_); (case k => rfl); (case l => rfl); (case c => rfl); (case v => assumption); (case d => rfl)))
local macro_rules | `(tactic| walk_at "blt") => `(tactic| ((with_reducible refine' x_blt ?B ?K ?g ?b ?k ?x ?m ?d ?_); (case B => assumption); (case K => first | assumption | exact Frm.keep (by assumption)); (case g => rfl); (case b => rfl); (case k => rfl); (case x => rfl); (case m => simp only [bltNames, List.mem_cons]; first | exact .inl rfl | exact .inr (.inl rfl) | exact .inr (.inr (.inl rfl)) | exact .inr (.inr (.inr (.inl rfl))) | exact .inr (.inr (.inr (.inr (.inl rfl)))) | exact .inr (.inr (.inr (.inr (.inr (.inl rfl))))) | exact .inr (.inr (.inr (.inr (.inr (.inr (.inl rfl)))))) | exact .inr (.inr (.inr (.inr (.inr (.inr (.inr (.inl rfl))))))) | exact .inr (.inr (.inr (.inr (.inr (.inr (.inr (.inr (.inl rfl))))))))); (case d => rfl)))
local macro_rules | `(tactic| walk_at "glob") => `(tactic| ((with_reducible refine' x_glob ?B ?K ?g ?k ?x ?m ?d ?_); (case B => assumption); (case K => first | assumption | exact Frm.keep (by assumption)); (case g => rfl); (case k => rfl); (case x => rfl); (case m => simp only [globNames, List.mem_cons]; first | exact .inl rfl | exact .inr (.inl rfl) | exact .inr (.inr (.inl rfl)) | exact .inr (.inr (.inr (.inl rfl))) | exact .inr (.inr (.inr (.inr (.inl rfl)))) | exact .inr (.inr (.inr (.inr (.inr (.inl rfl))))) | exact .inr (.inr (.inr (.inr (.inr (.inr (.inl rfl)))))) | exact .inr (.inr (.inr (.inr (.inr (.inr (.inr (.inl rfl))))))) | exact .inr (.inr (.inr (.inr (.inr (.inr (.inr (.inr (.inl rfl)))))))) | exact .inr (.inr (.inr (.inr (.inr (.inr (.inr (.inr (.inr (.inl rfl)))))))))); (case d => rfl)))
local macro_rules | `(tactic| walk_at "ap") => `(tactic| ((with_reducible refine' meth1 F.plainAttrs_list F.slot_list_append F.type_list_append ?ha ?hb ?hc ?_); (case ha => first | exact ab_const | exact ab_name | exact ab_sub); (case hb => exact rfl); (case hc => exact rfl)))
local macro_rules | `(tactic| walk_at "rv") => `(tactic| ((with_reducible refine' meth0 F.plainAttrs_list F.slot_list_reverse F.type_list_reverse ?ha ?hc ?_); (case ha => first | exact ab_const | exact ab_name | exact ab_sub); (case hc => exact rfl)))
local macro_rules | `(tactic| walk_at "lidx") => `(tactic| ((with_reducible refine' meth1 F.plainAttrs_list F.slot_list_index F.type_list_index ?ha ?hb ?hc ?_); (case ha => first | exact ab_const | exact ab_name | exact ab_sub); (case hb => exact rfl); (case hc => exact rfl)))
local macro_rules | `(tactic| walk_at "args2") => `(tactic| ((with_reducible refine s_cons ?_); walk_at "go"; (with_reducible refine s_cons ?_); walk_at "go"; with_reducible refine s_nil ?_))
local macro_rules | `(tactic| walk_at "exp") => `(tactic| ((with_reducible refine' x_expr ?hi ?hs ?_); (case hi => rfl); (case hs => rfl)))
local macro_rules | `(tactic| walk_at "index") => `(tactic| ((with_reducible refine' meth1 F.plainAttrs_str F.slot_str_index F.type_str_index ?ha ?hb ?hc ?_); (case ha => first | exact ab_const | exact ab_name); (case hb => exact rfl); (case hc => exact rfl)))
local macro_rules | `(tactic| walk_at "join") => `(tactic| ((with_reducible refine' meth1 F.plainAttrs_str F.slot_str_join F.type_str_join ?ha ?hb ?hc ?_); (case ha => first | exact ab_const | exact ab_name | exact ab_sub); (case hb => exact rfl); (case hc => exact rfl)))
local macro_rules | `(tactic| walk_at "split") => `(tactic| ((with_reducible refine' meth1 F.plainAttrs_str F.slot_str_split F.type_str_split ?ha ?hb ?hc ?_); (case ha => first | exact ab_const | exact ab_name | exact ab_sub); (case hb => exact rfl); (case hc => exact rfl)))
local macro_rules | `(tactic| walk_at "bits") => `(tactic| ((with_reducible refine' meth0 F.plainAttrs_int F.slot_int_bit_length F.type_int_bit_length ?ha ?hc ?_); (case ha => first | exact ab_const | exact ab_name | exact ab_sub); (case hc => exact rfl)))
local macro_rules | `(tactic| walk_at "cmp") => `(tactic| ((with_reducible refine' wpAny_isTrue_Compare1 ?_ ?hm); (case hm => rfl)))
local macro_rules | `(tactic| walk_at "t0") => `(tactic| ((with_reducible refine' t_fst ?hl ?he ?_); (case hl => assumption); (case he => rfl)))
local macro_rules | `(tactic| walk_at "t1") => `(tactic| ((with_reducible refine' t_snd ?hl ?he ?_); (case hl => assumption); (case he => rfl)))
local macro_rules | `(tactic| walk_at "sl") => `(tactic| ((with_reducible refine x_sliceEnd fun D' h' tk' k' hs' => ?_); have F' := Frm.grow (by assumption) k'))
local macro_rules | `(tactic| walk_at "st") => `(tactic| ((with_reducible refine' x_st ?F ?k ?l fun h' tk' F' => ?_); (case F => assumption); (case k => rfl); (case l => rfl)))
local macro_rules | `(tactic| walk_at "stc") => `(tactic| ((with_reducible refine' x_stc ?F ?k ?l ?c fun h' tk' F' => ?_); (case F => assumption); (case k => rfl); (case l => rfl); (case c => rfl)))
local macro_rules | `(tactic| walk_at "go") => `(tactic| first
  | with_reducible refine x_cons ?_
  | ((with_reducible refine' x_assign ?hs ?_); (case hs => rfl))
  | with_reducible refine wpAny_BinOp ?_
  | with_reducible refine Subscript_ ?_
  | with_reducible refine x_int fun _ _ => ?_
  | with_reducible refine x_str fun _ _ => ?_
  | walk_at "ld"
  | walk_at "ldc"
  | walk_at "ldn"
  | walk_at "ldk"
  | walk_at "ldf"
  | with_reducible refine x_call ?_
  | with_reducible refine x_slice ?_
  | with_reducible refine p_none ?_
  | walk_at "sl"
  | with_reducible refine p_some ?_
  | with_reducible refine wpAny_UnaryOp ?_
  | with_reducible refine i_neg fun _ _ => ?_
  | with_reducible refine i_add fun _ _ => ?_
  | with_reducible refine i_sub fun _ _ => ?_
  | with_reducible refine i_le ?_
  | with_reducible refine i_lt ?_
  | with_reducible refine i_eq ?_
  | with_reducible refine wpAny_Return_some ?_
  | with_reducible refine x_next ?_
  | with_reducible refine x_ret ?_
  | with_reducible refine strOk ?_
  | with_reducible refine intOk ?_
  | with_reducible refine wpAny_If ?_
  | with_reducible refine wpAny_truthy_bool ?_)
section
variable {prog : Program} {w : World} {A : Around} {E : Value → Shared → Prop} {s : Shared} {h : Heap} {tk : Nat} {env : Env} {Q : Value → Shared → Prop}
theorem bt_star {e e₂ : Expr} {p pos : Pos} (he : notStar e = true) : backTo pos (starEach [e, .Starred e₂ p] env) = [(false, eval e env), (true, (do let v ← eval e₂ env; standAt pos; pure v))] := by rw [se_cons he]; rfl
theorem star_list {a : Addr} {ws : List Value} {n : Nat} {Q : List Value → Shared → Prop} (ha : h.get? a = some (listO ws.toArray n)) (hz : ws.length ≤ 1000) (q : ∀ h' tk', Kept h h' → Q ws (mk s h' tk')) : PySem.W.StarOf (model prog w) A E (.ref a) Q (mk s h tk) := by
  unfold PySem.W.StarOf notIterableAtAll
  have hT : (mk s h tk).TypeIs (.ref a) "list" := ⟨_, ha, rfl⟩
  refine wpAny_bind (wpAny_specialOf hT F.slot_list_iter.lookup (wpAny_pure ⟨rfl, ?_⟩))
  refine wpAny_collect_seq (s := mk s h tk) a (.inl rfl) ha rfl rfl (fun h' hk => ?_) (by rw [sizeLine_eq]; simp; omega)
  exact q h' tk hk
/-- replace(text, *row) -/
theorem star_call {b : Heap} {m cm : Str → Option Value} {ow : List (Addr × Obj)} {e e₂ : Expr} {p pos : Pos} {ps : List Pr} (_ : Frm b env m cm ow h) (hB : Base b) (hroom : A.depth < recursionLimit) (he : notStar e = true)
    (k : wpAny (model prog w) A (eval e env) (fun v s₁ => wpAny (model prog w) A (eval e₂ env) (fun lv s₂ => ∃ a ws n h₂ tk₂ l t, v = .str (tx l) t ∧ lv = .ref a ∧ s₂ = mk s h₂ tk₂ ∧ Frm b env m cm ow h₂ ∧ h₂.get? a = some (listO (List.toArray ws) n) ∧
      StrsAre ws (ps.flatMap Pr.texts) ∧ ps.length ≤ 100 ∧ (∀ p ∈ ps, p.ok) ∧ (∀ c ∈ l, c < 256) ∧ l.length ≤ 100 ∧ ∀ h₃ tk₃ t', Frm b env m cm ow h₃ → Q (.str (tx (replL ps l)) t') (mk s h₃ tk₃)) E s₁) E (mk s h tk)) :
    wpAny (model prog w) A (callWith pos (.ref 21) [] (backTo pos (starEach [e, .Starred e₂ p] env)) []) Q E (mk s h tk) := by
  refine d_call hB.f21 (bt_star he) ?_
  refine s_cons (wpAny_mono k (fun v s₁ k₁ => ?_) fun _ _ x => x)
  refine PySem.W.ks_spliced (wpAny_mono k₁ (fun lv s₂ k₂ => ?_) fun _ _ x => x)
  obtain ⟨a, ws, n, h₂, tk₂, l, t, rfl, rfl, rfl, F2, ha, hs, hp, hok, hl, hlen, q⟩ := k₂
  have hwl : ws.length ≤ 200 := by
    rw [hs.length, flat_len]; omega
  refine star_list ha (by omega) fun h₃ tk₃ k₃ => s_nil ?_
  have F3 := F2.grow k₃
  rw [List.append_nil]
  refine ⟨F3.keep, ?_⟩
  exact replace_call (hB.keeps F3.keep) F3.tabs hroom hl hlen hok hs hp fun h₄ tk₄ t₄ k₄ => q h₄ tk₄ t₄ (F3.grow k₄)
end
end Mine
end
section
open PySem PyProof.Rows
set_option maxHeartbeats 4000000
namespace Mine
local macro_rules | `(tactic| walk_at "look") => `(tactic| first | rfl | assumption | exact ((if_neg (by decide)).trans (by assumption)) | exact ((if_neg (by decide)).trans ((if_neg (by decide)).trans (by assumption))) | exact ((if_neg (by decide)).trans ((if_neg (by decide)).trans ((if_neg (by decide)).trans (by assumption)))) | exact ((if_neg (by decide)).trans ((if_neg (by decide)).trans ((if_neg (by decide)).trans ((if_neg (by decide)).trans (by assumption))))) | exact ((if_neg (by decide)).trans ((if_neg (by decide)).trans ((if_neg (by decide)).trans ((if_neg (by decide)).trans ((if_neg (by decide)).trans (by assumption)))))) | exact ((if_neg (by decide)).trans ((if_neg (by decide)).trans ((if_neg (by decide)).trans ((if_neg (by decide)).trans ((if_neg (by decide)).trans ((if_neg (by decide)).trans (by assumption))))))) | exact ((if_neg (by decide)).trans ((if_neg (by decide)).trans ((if_neg (by decide)).trans ((if_neg (by decide)).trans ((if_neg (by decide)).trans ((if_neg (by decide)).trans ((if_neg (by decide)).trans (by assumption)))))))) | exact ((if_neg (by decide)).trans ((if_neg (by decide)).trans ((if_neg (by decide)).trans ((if_neg (by decide)).trans ((if_neg (by decide)).trans ((if_neg (by decide)).trans ((if_neg (by decide)).trans ((if_neg (by decide)).trans (by assumption))))))))) | exact ((if_neg (by decide)).trans ((if_neg (by decide)).trans ((if_neg (by decide)).trans ((if_neg (by decide)).trans ((if_neg (by decide)).trans ((if_neg (by decide)).trans ((if_neg (by decide)).trans ((if_neg (by decide)).trans ((if_neg (by decide)).trans (by assumption)))))))))))
local macro_rules | `(tactic| walk_at "ld") => `(tactic| ((with_reducible refine' x_ld ?F ?k ?l ?v ?d ?_); (case F => assumption); (case k => rfl); (case l => rfl); (case v => walk_at "look"); (case d => rfl)))
local macro_rules | `(tactic| walk_at "ldn") => `(tactic| ((with_reducible refine' x_ldn ?F ?k ?l ?v ?d ?_); (case F => assumption); (case k => rfl); (case l => rfl); (case v => first | assumption | rfl); (case d => rfl)))
local macro_rules | `(tactic| walk_at "ldc") => `(tactic| ((with_reducible refine' x_ldc ?F ?k ?l ?c ?v ?d ?_); (case F => assumption); (case k => rfl); (case l => rfl); (case c => rfl); (case v => rfl); (case d => rfl)))
local macro_rules | `(tactic| walk_at "ldf") => `(tactic| ((with_reducible refine' x_ldf ?k ?l ?c ?v ?d ?e ?_); (case k => rfl); (case l => rfl); (case c => rfl); (case v => assumption); (case d => rfl); (case e => rfl)))
local macro_rules | `(tactic| walk_at "ldk") => `(tactic| ((with_reducible refine' x_ldk ?k ?l ?c ?v ?d ?_); (case k => rfl); (case l => rfl); (case c => rfl); (case v => assumption); (case d => rfl)))
local macro_rules | `(tactic| walk_at "blt") => `(tactic| ((with_reducible refine' x_blt ?B ?K ?g ?b ?k ?x ?m ?d ?_); (case B => assumption); (case K => first | assumption | exact Frm.keep (by assumption)); (case g => rfl); (case b => rfl); (case k => rfl); (case x => rfl); (case m => simp only [bltNames, List.mem_cons]; first | exact .inl rfl | exact .inr (.inl rfl) | exact .inr (.inr (.inl rfl)) | exact .inr (.inr (.inr (.inl rfl))) | exact .inr (.inr (.inr (.inr (.inl rfl)))) | exact .inr (.inr (.inr (.inr (.inr (.inl rfl))))) | exact .inr (.inr (.inr (.inr (.inr (.inr (.inl rfl)))))) | exact .inr (.inr (.inr (.inr (.inr (.inr (.inr (.inl rfl))))))) | exact .inr (.inr (.inr (.inr (.inr (.inr (.inr (.inr (.inl rfl))))))))); (case d => rfl)))
local macro_rules | `(tactic| walk_at "glob") => `(tactic| ((with_reducible refine' x_glob ?B ?K ?g ?k ?x ?m ?d ?_); (case B => assumption); (case K => first | assumption | exact Frm.keep (by assumption)); (case g => rfl); (case k => rfl); (case x => rfl); (case m => simp only [globNames, List.mem_cons]; first | exact .inl rfl | exact .inr (.inl rfl) | exact .inr (.inr (.inl rfl)) | exact .inr (.inr (.inr (.inl rfl))) | exact .inr (.inr (.inr (.inr (.inl rfl)))) | exact .inr (.inr (.inr (.inr (.inr (.inl rfl))))) | exact .inr (.inr (.inr (.inr (.inr (.inr (.inl rfl)))))) | exact .inr (.inr (.inr (.inr (.inr (.inr (.inr (.inl rfl))))))) | exact .inr (.inr (.inr (.inr (.inr (.inr (.inr (.inr (.inl rfl)))))))) | exact .inr (.inr (.inr (.inr (.inr (.inr (.inr (.inr (.inr (.inl rfl)))))))))); (case d => rfl)))
local macro_rules | `(tactic| walk_at "ap") => `(tactic| ((with_reducible refine' meth1 F.plainAttrs_list F.slot_list_append F.type_list_append ?ha ?hb ?hc ?_); (case ha => first | exact ab_const | exact ab_name | exact ab_sub); (case hb => exact rfl); (case hc => exact rfl)))
local macro_rules | `(tactic| walk_at "rv") => `(tactic| ((with_reducible refine' meth0 F.plainAttrs_list F.slot_list_reverse F.type_list_reverse ?ha ?hc ?_); (case ha => first | exact ab_const | exact ab_name | exact ab_sub); (case hc => exact rfl)))
local macro_rules | `(tactic| walk_at "lidx") => `(tactic| ((with_reducible refine' meth1 F.plainAttrs_list F.slot_list_index F.type_list_index ?ha ?hb ?hc ?_); (case ha => first | exact ab_const | exact ab_name | exact ab_sub); (case hb => exact rfl); (case hc => exact rfl)))
local macro_rules | `(tactic| walk_at "args2") => `(tactic| ((with_reducible refine s_cons ?_); walk_at "go"; (with_reducible refine s_cons ?_); walk_at "go"; with_reducible refine s_nil ?_))
local macro_rules | `(tactic| walk_at "exp") => `(tactic| ((with_reducible refine' x_expr ?hi ?hs ?_); (case hi => rfl); (case hs => rfl)))
local macro_rules | `(tactic| walk_at "index") => `(tactic| ((with_reducible refine' meth1 F.plainAttrs_str F.slot_str_index F.type_str_index ?ha ?hb ?hc ?_); (case ha => first | exact ab_const | exact ab_name); (case hb => exact rfl); (case hc => exact rfl)))
local macro_rules | `(tactic| walk_at "join") => `(tactic| ((with_reducible refine' meth1 F.plainAttrs_str F.slot_str_join F.type_str_join ?ha ?hb ?hc ?_); (case ha => first | exact ab_const | exact ab_name | exact ab_sub); (case hb => exact rfl); (case hc => exact rfl)))
local macro_rules | `(tactic| walk_at "split") => `(tactic| ((with_reducible refine' meth1 F.plainAttrs_str F.slot_str_split F.type_str_split ?ha ?hb ?hc ?_); (case ha => first | exact ab_const | exact ab_name | exact ab_sub); (case hb => exact rfl); (case hc => exact rfl)))
local macro_rules | `(tactic| walk_at "bits") => `(tactic| ((with_reducible refine' meth0 F.plainAttrs_int F.slot_int_bit_length F.type_int_bit_length ?ha ?hc ?_); (case ha => first | exact ab_const | exact ab_name | exact ab_sub); (case hc => exact rfl)))
local macro_rules | `(tactic| walk_at "cmp") => `(tactic| ((with_reducible refine' wpAny_isTrue_Compare1 ?_ ?hm); (case hm => rfl)))
local macro_rules | `(tactic| walk_at "t0") => `(tactic| ((with_reducible refine' t_fst ?hl ?he ?_); (case hl => assumption); (case he => rfl)))
local macro_rules | `(tactic| walk_at "t1") => `(tactic| ((with_reducible refine' t_snd ?hl ?he ?_); (case hl => assumption); (case he => rfl)))
local macro_rules | `(tactic| walk_at "sl") => `(tactic| ((with_reducible refine x_sliceEnd fun D' h' tk' k' hs' => ?_); have F' := Frm.grow (by assumption) k'))
local macro_rules | `(tactic| walk_at "st") => `(tactic| ((with_reducible refine' x_st ?F ?k ?l fun h' tk' F' => ?_); (case F => assumption); (case k => rfl); (case l => rfl)))
local macro_rules | `(tactic| walk_at "stc") => `(tactic| ((with_reducible refine' x_stc ?F ?k ?l ?c fun h' tk' F' => ?_); (case F => assumption); (case k => rfl); (case l => rfl); (case c => rfl)))
local macro_rules | `(tactic| walk_at "go") => `(tactic| first
  | with_reducible refine x_cons ?_
  | ((with_reducible refine' x_assign ?hs ?_); (case hs => rfl))
  | with_reducible refine wpAny_BinOp ?_
  | with_reducible refine Subscript_ ?_
  | with_reducible refine x_int fun _ _ => ?_
  | with_reducible refine x_str fun _ _ => ?_
  | walk_at "ld"
  | walk_at "ldc"
  | walk_at "ldn"
  | walk_at "ldk"
  | walk_at "ldf"
  | with_reducible refine x_call ?_
  | with_reducible refine x_slice ?_
  | with_reducible refine p_none ?_
  | walk_at "sl"
  | with_reducible refine p_some ?_
  | with_reducible refine wpAny_UnaryOp ?_
  | with_reducible refine i_neg fun _ _ => ?_
  | with_reducible refine i_add fun _ _ => ?_
  | with_reducible refine i_sub fun _ _ => ?_
  | with_reducible refine i_le ?_
  | with_reducible refine i_lt ?_
  | with_reducible refine i_eq ?_
  | with_reducible refine wpAny_Return_some ?_
  | with_reducible refine x_next ?_
  | with_reducible refine x_ret ?_
  | with_reducible refine strOk ?_
  | with_reducible refine intOk ?_
  | with_reducible refine wpAny_If ?_
  | with_reducible refine wpAny_truthy_bool ?_)
section
variable {prog : Program} {w : World} {A : Around} {E : Value → Shared → Prop} {s : Shared} {h : Heap} {tk : Nat} {env : Env} {Q : Value → Shared → Prop}
theorem i_max0 {n : Nat} {t u : Tok} (hA : A.handled = none) (q : ∀ t' h' tk', Kept h h' → Q (.int (n - 1 : Nat) t') (mk s h' tk')) : wpAny (model prog w) A (call (.builtin "max") [.int 0 t, .int ((n : Int) - 1) u]) Q E (mk s h tk) :=
  max_two_ints (s := mk s h tk) hA fun h' tk' k => by
    split
    · rename_i hc
      have := q u h' tk' k
      rw [show ((n - 1 : Nat) : Int) = (n : Int) - 1 by omega] at this
      exact this
    · rename_i hc
      have := q t h' tk' k
      rw [show ((n - 1 : Nat) : Int) = 0 by omega] at this
      exact this
end
theorem strs_get {vs : List Value} {ls : List (List Nat)} (h : StrsAre vs (ls.map tx)) {k : Nat} (hk : k < ls.length) : ∃ t, vs[k]? = some (.str (tx (ls.getD k [])) t) := by
  induction ls generalizing vs k with
  | nil => exact absurd hk (Nat.not_lt_zero _)
  | cons a r ih =>
    cases h with
    | cons y t h' =>
      cases k with
      | zero => exact ⟨t, rfl⟩
      | succ k =>
        obtain ⟨t', e⟩ := ih h' (k := k) (Nat.lt_of_succ_lt_succ hk)
        exact ⟨t', e⟩
theorem strs_next {vs : List Value} {ls : List (List Nat)} (h : StrsAre vs (ls.map tx)) {k : Nat} (hk : k < ls.length) : ∃ t, (vs ++ vs.drop (vs.length - 1))[k + 1]? = some (.str (tx (ls.getD (min (k + 1) (ls.length - 1)) [])) t) := by
  have hl : vs.length = ls.length := by rw [h.length, List.length_map]
  by_cases hc : k + 1 < ls.length
  · rw [List.getElem?_append_left (by omega), Nat.min_eq_left (by omega)]
    exact strs_get h hc
  · have e : k + 1 - vs.length = 0 := by omega
    rw [List.getElem?_append_right (by omega), e, List.getElem?_drop, Nat.min_eq_right (by omega), Nat.add_zero, hl]
    exact strs_get h (by omega)
section
variable {B by' : Nat} {ord ds : List Nat}
theorem digitsN_len' (p v : Nat) : (digitsN B p v).length = p := by simp [digitsN]
theorem stops_ok (hB : 0 < B) (hB4 : B ≤ 4) (hb : 0 < by') (hb5 : by' ≤ 5) (hds : ∀ d ∈ ds, d < B) (hlen : ds.length ≤ 8) {i : Nat} (hi : i < (stopsL B by' ord ds).length) :
    (∀ c ∈ (stopsL B by' ord ds).getD i [], c < 256) ∧ ((stopsL B by' ord ds).getD i []).length ≤ 9 := by
  obtain ⟨q, h1, h2, h3, h4⟩ := stops_of hi
  rw [h4, stopAt_eq]
  refine ⟨fun c hc => ?_, ?_⟩
  · rcases List.mem_append.mp hc with hc | hc
    · have := hd_lt hB _ _ hc; omega
    · rcases List.mem_cons.mp hc with rfl | hc
      · have := Nat.mod_lt (wN B ds q) hb; omega
      · have := tl_lt hds _ _ hc; omega
  · rw [List.length_append, List.length_cons]
    unfold hd' tl'
    rw [List.length_map, List.length_map, digitsN_len', List.length_drop]
    omega
theorem stops_pos : 0 < (stopsL B by' ord ds).length := by rw [stops_len]; omega
theorem stops_small (hlen : ds.length ≤ 8) : (stopsL B by' ord ds).length ≤ 9 := by
  unfold stopsL stopsTo
  rw [List.length_append, List.length_map, List.length_singleton]
  have := List.length_filter_le (isStop B by' ord ds) (List.range ds.length)
  rw [List.length_range] at this
  omega
end
theorem row_rev (B by' : Nat) (l : List Nat) : ((l.map (prF B by')).flatMap Pr.texts).reverse = (l.reverse.map (prB B by')).flatMap Pr.texts := by
  induction l with
  | nil => rfl
  | cons v r ih =>
    rw [List.map_cons, List.flatMap_cons, List.reverse_append, ih, List.reverse_cons, List.map_append, List.flatMap_append]
    rfl
def lawCells (L : Addr) : List (Str × Addr) := [(Str.ofString "step", L + 1 + 1 + 1 + 1), (Str.ofString "size", L + 1 + 1 + 1), (Str.ofString "width", L + 1 + 1), (Str.ofString "drawn", L + 1)]

theorem law_end {prog : Program} {w : World} {A : Around} {s : Shared} {b h : Heap} {tk : Nat} {Q : Flow → Shared → Prop} {L a : Addr} {cd : Value} {m cm : Str → Option Value} {Ds Do Dr : Addr} {svs ovs rvs : List Value} {nr B by' : Nat} {ord ds : List Nat}
    (hBs : Base b) (b37 : b.get? 37 = none) (b44 : b.get? 44 = none) (hA : A.handled = none) (hroom : A.depth + 20 < recursionLimit)
    (hB : 0 < B) (hB4 : B ≤ 4) (hb : 0 < by') (hb5 : by' ≤ 5) (hds : ∀ d ∈ ds, d < B) (hlen : ds.length ≤ 8) (hall : ∀ x, x < by' * B → x ∈ ord) (hlt : ∀ x ∈ ord, x < by' * B) (hnd : ord.Nodup) (hol : ord.length ≤ 20)
    (F : Frm b (envF 14 (lawCells L) L a cd) m cm [] h) (ms : m "stops" = some (.ref Ds)) (mo : m "others" = some (.ref Do)) (mr : m "row" = some (.ref Dr))
    (gs : b.get? Ds = some (listO svs.toArray 0)) (go : b.get? Do = some (listO ovs.toArray 0)) (gr : b.get? Dr = some (listO rvs.toArray nr))
    (hs : StrsAre svs ((stopsL B by' ord ds).map tx)) (ho : StrsAre ovs ((stopsL B by' ord ds.reverse).map tx)) (hr : StrsAre rvs ((ord.map (prF B by')).flatMap Pr.texts))
    (q : ∀ h' tk', Kept b h' → Tb h' → Q (.ret (.bool true)) (mk s h' tk')) :
    wpAny (model prog w) A (execs ((bodyOf (stmtAt 14)).drop 11) (envF 14 (lawCells L) L a cd)) Q (fun _ _ => False) (mk s h tk) := by
  have hds' : ∀ d ∈ ds.reverse, d < B := fun d hd => hds d (List.mem_reverse.mp hd)
  have hlen' : ds.reverse.length ≤ 8 := by rw [List.length_reverse]; exact hlen
  have hsl : svs.length = (stopsL B by' ord ds).length := by rw [hs.length, List.length_map]
  have hol' : ovs.length = (stopsL B by' ord ds.reverse).length := by rw [ho.length, List.length_map]
  have sp := stops_pos (B := B) (by' := by') (ord := ord) (ds := ds)
  have op := stops_pos (B := B) (by' := by') (ord := ord) (ds := ds.reverse)
  have ss := stops_small (B := B) (by' := by') (ord := ord) hlen
  have os := stops_small (B := B) (by' := by') (ord := ord) hlen'
  have lS : ∀ {hh : Heap}, Kept b hh → hh.IsList Ds svs.toArray := fun k => isList_of (k _ _ gs)
  have lO : ∀ {hh : Heap}, Kept b hh → hh.IsList Do ovs.toArray := fun k => isList_of (k _ _ go)
  refine x_cons ?_
  refine f_for (b := b) (cm := cm) rfl rfl (fun _ => rfl) ?_
  walk_at "go"
  walk_at "blt"
  with_reducible refine' t_call1 ?_ ?_
  · rfl
  walk_at "go"
  walk_at "blt"
  with_reducible refine' b_call2 ?_ ?_ ?_
  · rfl
  · rfl
  walk_at "go"
  walk_at "blt"
  with_reducible refine' b_call1 ?_ ?_
  · rfl
  walk_at "go"
  with_reducible refine' len_l (lS F.keep) ?_ fun _ _ => ?_
  · simp; omega
  walk_at "go"
  walk_at "blt"
  with_reducible refine' b_call1 ?_ ?_
  · rfl
  walk_at "go"
  with_reducible refine' len_l (lO F.keep) ?_ fun _ _ => ?_
  · simp; omega
  with_reducible refine' i_max hA fun _ h₂ tk₂ k₂ => ?_
  have F2 := F.grow k₂
  clear F
  with_reducible refine' r_iter ?_ fun I h₃ tk₃ k₃ n₃ r₃ => ?_
  · simp; omega
  refine forAt_range hA F2 b37 b44 k₃ n₃ r₃ (fun _ m ow => ow = [] ∧ m "stops" = some (.ref Ds) ∧ m "others" = some (.ref Do) ∧ m "row" = some (.ref Dr)) ⟨rfl, ms, mo, mr⟩ ?_ ?_
  · rintro i ti m₁ ow₁ b₁ h₁ tk₁ hi ⟨rfl, ms, mo, mr⟩ kb g1 g2 F₁
    have hBb := hBs.keeps kb
    have lS' : ∀ {hh : Heap}, Kept b₁ hh → hh.IsList Ds svs.toArray := fun k => lS (kb.trans k)
    have lO' : ∀ {hh : Heap}, Kept b₁ hh → hh.IsList Do ovs.toArray := fun k => lO (kb.trans k)
    refine x_cons ?_
    refine x_swap hA rfl rfl rfl rfl ?_
    walk_at "go"
    walk_at "blt"
    with_reducible refine' b_call2 ?_ ?_ ?_
    · rfl
    · rfl
    iterate 3 walk_at "go"
    walk_at "blt"
    with_reducible refine' b_call1 ?_ ?_
    · rfl
    walk_at "go"
    with_reducible refine' len_l (lS' F₁.keep) ?_ fun _ _ => ?_
    · simp; omega
    iterate 2 walk_at "go"
    rw [show (svs.toArray.size : Int) - 1 = (((stopsL B by' ord ds).length - 1 : Nat) : Int) by simp; omega]
    with_reducible refine' i_min hA fun tone h₂ tk₂ k₂ => ?_
    have F2 := F₁.grow k₂
    clear F₁
    walk_at "go"
    walk_at "blt"
    with_reducible refine' b_call2 ?_ ?_ ?_
    · rfl
    · rfl
    iterate 3 walk_at "go"
    walk_at "blt"
    with_reducible refine' b_call1 ?_ ?_
    · rfl
    walk_at "go"
    with_reducible refine' len_l (lO' F2.keep) ?_ fun _ _ => ?_
    · simp; omega
    iterate 2 walk_at "go"
    rw [show (ovs.toArray.size : Int) - 1 = (((stopsL B by' ord ds.reverse).length - 1 : Nat) : Int) by simp; omega]
    with_reducible refine' i_min hA fun toth h₃ tk₃ k₃ => ?_
    have F3 := F2.grow k₃
    clear F2
    obtain ⟨one, hone⟩ : ∃ x, x = min i ((stopsL B by' ord ds).length - 1) := ⟨_, rfl⟩
    obtain ⟨oth, hoth⟩ : ∃ x, x = min i ((stopsL B by' ord ds.reverse).length - 1) := ⟨_, rfl⟩
    rw [← hone, ← hoth]
    have h1 : one < (stopsL B by' ord ds).length := by omega
    have h2 : oth < (stopsL B by' ord ds.reverse).length := by omega
    refine ⟨h₃, tk₃, rfl, fun h₄ tk₄ k₄ => ?_⟩
    have F4 := F3.grow k₄
    clear F3
    walk_at "st"
    rename_i h₅ tk₅ F5
    clear F4
    walk_at "st"
    rename_i h₆ tk₆ F6
    clear F5
    have edot : Str.ofString "." = tx [46] := rfl
    obtain ⟨c1, l1⟩ := stops_ok (ord := ord) hB hB4 hb hb5 hds hlen h1
    obtain ⟨c2, l2⟩ := stops_ok (ord := ord) hB hB4 hb hb5 hds' hlen' h2
    have h1n : min (one + 1) ((stopsL B by' ord ds).length - 1) < (stopsL B by' ord ds).length := by omega
    have h2n : min (oth + 1) ((stopsL B by' ord ds.reverse).length - 1) < (stopsL B by' ord ds.reverse).length := by omega
    obtain ⟨c3, l3⟩ := stops_ok (ord := ord) hB hB4 hb hb5 hds hlen h1n
    obtain ⟨c4, l4⟩ := stops_ok (ord := ord) hB hB4 hb hb5 hds' hlen' h2n
    have h1p : one - 1 < (stopsL B by' ord ds).length := by omega
    have h2p : oth - 1 < (stopsL B by' ord ds.reverse).length := by omega
    obtain ⟨c5, l5⟩ := stops_ok (ord := ord) hB hB4 hb hb5 hds hlen h1p
    obtain ⟨c6, l6⟩ := stops_ok (ord := ord) hB hB4 hb hb5 hds' hlen' h2p
    obtain ⟨S1, eS1⟩ : ∃ x, x = (stopsL B by' ord ds).getD one [] := ⟨_, rfl⟩
    obtain ⟨O1, eO1⟩ : ∃ x, x = (stopsL B by' ord ds.reverse).getD oth [] := ⟨_, rfl⟩
    obtain ⟨S2, eS2⟩ : ∃ x, x = (stopsL B by' ord ds).getD (min (one + 1) ((stopsL B by' ord ds).length - 1)) [] := ⟨_, rfl⟩
    obtain ⟨O2, eO2⟩ : ∃ x, x = (stopsL B by' ord ds.reverse).getD (min (oth + 1) ((stopsL B by' ord ds.reverse).length - 1)) [] := ⟨_, rfl⟩
    obtain ⟨S3, eS3⟩ : ∃ x, x = (stopsL B by' ord ds).getD (one - 1) [] := ⟨_, rfl⟩
    obtain ⟨O3, eO3⟩ : ∃ x, x = (stopsL B by' ord ds.reverse).getD (oth - 1) [] := ⟨_, rfl⟩
    obtain ⟨ts1, vs1⟩ := strs_get hs h1
    obtain ⟨to1, vo1⟩ := strs_get ho h2
    obtain ⟨ts2, vs2⟩ := strs_next hs h1
    obtain ⟨to2, vo2⟩ := strs_next ho h2
    obtain ⟨ts3, vs3⟩ := strs_get hs h1p
    obtain ⟨to3, vo3⟩ := strs_get ho h2p
    have pf1 := plain_fwd hB hB4 hb hds hall hnd h1
    have pf2 := plain_fwd hB hB4 hb hds' hall hnd h2
    have pb1 := plain_bwd hB hB4 hb hds hall hnd h1
    have pb2 := plain_bwd hB hB4 hb hds' hall hnd h2
    rw [← eS1] at vs1 c1 l1 pf1 pb1
    rw [← eO1] at vo1 c2 l2 pf2 pb2
    rw [← eS2] at vs2 c3 l3 pf1
    rw [← eO2] at vo2 c4 l4 pf2
    rw [← eS3] at vs3 c5 l5 pb1
    rw [← eO3] at vo3 c6 l6 pb2
    have szl : ∀ {x y : List Nat}, x.length ≤ 20 → y.length ≤ 20 → (tx x).length + (tx y).length ≤ sizeLine := fun {x y} a b => by rw [tx_len, tx_len, sizeLine_eq]; omega
    iterate 8 walk_at "go"
    with_reducible refine' l_item' (k := one) rfl (lS' F6.keep) ?hk (by simpa using vs1) rfl ?_
    case hk => omega
    walk_at "go"
    rw [edot]
    with_reducible refine' s_add ?hz fun _ _ => ?_
    case hz => exact szl (by omega) (by simp)
    rw [tx_append]
    iterate 3 walk_at "go"
    with_reducible refine' l_item' (k := oth) rfl (lO' F6.keep) ?hk (by simpa using vo1) rfl ?_
    case hk => omega
    with_reducible refine' s_add ?hz fun _ _ => ?_
    case hz => exact szl (by simp; omega) (by omega)
    rw [tx_append]
    walk_at "st"
    rename_i h₇ tk₇ F7
    clear F6
    repeat walk_at "go"
    rename_i Da ha tka ka hsa Fa
    clear F7
    with_reducible refine' l_last (lS' Fa.keep) hsa ?hz ?he fun Db hb' tkb kb' nb gb => ?_
    case hz => omega
    case he => rfl
    have Fb := Fa.grow kb'
    clear Fa
    with_reducible refine' l_add (lS' Fb.keep) (isList_of gb) ?hz fun Dc hc tkc kc nc gc => ?_
    case hz => rw [sizeLine_eq, List.length_drop]; omega
    have Fc := Fb.grow kc
    clear Fb
    repeat walk_at "go"
    with_reducible refine' l_item' (k := one + 1) ?e (isList_of gc) ?hk (by simpa using vs2) rfl ?_
    case e => push_cast; rfl
    case hk => omega
    walk_at "go"
    with_reducible refine' s_add ?hz fun _ _ => ?_
    case hz => exact szl (by omega) (by simp)
    rw [tx_append]
    repeat walk_at "go"
    rename_i Dd hd tkd kd hsd Fd
    clear Fc
    with_reducible refine' l_last (lO' Fd.keep) hsd ?hz ?he fun De he tke ke ne ge => ?_
    case hz => omega
    case he => rfl
    have Fe := Fd.grow ke
    clear Fd
    with_reducible refine' l_add (lO' Fe.keep) (isList_of ge) ?hz fun Df hf tkf kf nf gf => ?_
    case hz => rw [sizeLine_eq, List.length_drop]; omega
    have Ff := Fe.grow kf
    clear Fe
    repeat walk_at "go"
    with_reducible refine' l_item' (k := oth + 1) ?e (isList_of gf) ?hk (by simpa using vo2) rfl ?_
    case e => push_cast; rfl
    case hk => omega
    with_reducible refine' s_add ?hz fun _ _ => ?_
    case hz => exact szl (by simp; omega) (by omega)
    rw [tx_append]
    walk_at "st"
    rename_i h₈ tk₈ F8
    clear Ff
    have bnd : ∀ v ∈ ord, v / B + 97 < 256 ∧ v % B + 48 < 256 ∧ v / by' + 48 < 256 ∧ v % by' + 97 < 256 := fun v hv => by
      have h1 : v / B < by' := by rw [Nat.div_lt_iff_lt_mul hB]; exact hlt v hv
      have h2 : v % B < B := Nat.mod_lt _ hB
      have h3 : v / by' < B := by rw [Nat.div_lt_iff_lt_mul hb, Nat.mul_comm]; exact hlt v hv
      have h4 : v % by' < by' := Nat.mod_lt _ hb
      generalize v / B = k1 at *
      generalize v % B = k2 at *
      generalize v / by' = k3 at *
      generalize v % by' = k4 at *
      omega
    have okF : ∀ p ∈ ord.map (prF B by'), p.ok := fun p hp => by
      obtain ⟨v, hv, rfl⟩ := List.mem_map.mp hp
      exact bnd v hv
    have okB : ∀ p ∈ ord.reverse.map (prB B by'), p.ok := fun p hp => by
      obtain ⟨v, hv, rfl⟩ := List.mem_map.mp hp
      obtain ⟨x1, x2, x3, x4⟩ := bnd v (List.mem_reverse.mp hv)
      exact ⟨x3, x4, x1, x2⟩
    have dotF : ∀ p ∈ ord.map (prF B by'), p.x ≠ 46 ∧ p.y ≠ 46 := fun p hp => by
      obtain ⟨v, hv, rfl⟩ := List.mem_map.mp hp
      show v / B + 97 ≠ 46 ∧ v % B + 48 ≠ 46
      generalize v / B = k1
      generalize v % B = k2
      omega
    have dotB : ∀ p ∈ ord.reverse.map (prB B by'), p.x ≠ 46 ∧ p.y ≠ 46 := fun p hp => by
      obtain ⟨v, hv, rfl⟩ := List.mem_map.mp hp
      show v / by' + 48 ≠ 46 ∧ v % by' + 97 ≠ 46
      generalize v / by' = k1
      generalize v % by' = k2
      omega
    have txt : ∀ c ∈ S1 ++ [46] ++ O1, c < 256 := fun c hc => by
      rcases List.mem_append.mp hc with hc | hc
      · rcases List.mem_append.mp hc with hc | hc
        · exact c1 c hc
        · rw [List.mem_singleton.mp hc]; decide
      · exact c2 c hc
    have eF : replL (ord.map (prF B by')) (S1 ++ [46] ++ O1) = S2 ++ [46] ++ O2 := by
      rw [List.append_assoc]
      show replL _ (S1 ++ 46 :: O1) = _
      rw [replL_split _ dotF, pf1, pf2, List.append_assoc]; rfl
    have eB : replL (ord.reverse.map (prB B by')) (S1 ++ [46] ++ O1) = S3 ++ [46] ++ O3 := by
      rw [List.append_assoc]
      show replL _ (S1 ++ 46 :: O1) = _
      rw [replL_split _ dotB, pb1, pb2, List.append_assoc]; rfl
    iterate 3 walk_at "go"
    walk_at "cmp"
    walk_at "go"
    walk_at "glob"
    with_reducible refine' star_call F8 hBb (ps := ord.map (prF B by')) ?hro ?hst ?_
    case hro => omega
    case hst => rfl
    iterate 2 walk_at "go"
    refine ⟨Dr, rvs, nr, h₈, _, S1 ++ [46] ++ O1, _, rfl, rfl, rfl, F8, F8.keep _ _ (kb _ _ gr), hr, by rw [List.length_map]; omega, okF, txt, by simp; omega, fun h₉ tk₉ t₉ F9 => ?_⟩
    clear F8
    walk_at "go"
    rw [eF]
    with_reducible refine s_ne ?_
    rw [show ((tx (S2 ++ [46] ++ O2)).cps.toList != (tx (S2 ++ [46] ++ O2)).cps.toList) = false by simp]
    walk_at "go"
    refine b_false ?_
    refine wpAny_execs_nil ?_
    iterate 8 walk_at "go"
    walk_at "blt"
    with_reducible refine' b_call2 ?_ ?_ ?_
    · rfl
    · rfl
    repeat walk_at "go"
    with_reducible refine' i_max0 hA fun _ h₁₀ tk₁₀ k₁₀ => ?_
    have F10 := F9.grow k₁₀
    clear F9
    with_reducible refine' l_item' (k := one - 1) rfl (lS' F10.keep) ?hk (by simpa using vs3) rfl ?_
    case hk => omega
    walk_at "go"
    with_reducible refine' s_add ?hz fun _ _ => ?_
    case hz => exact szl (by omega) (by simp)
    rw [tx_append]
    iterate 3 walk_at "go"
    walk_at "blt"
    with_reducible refine' b_call2 ?_ ?_ ?_
    · rfl
    · rfl
    repeat walk_at "go"
    with_reducible refine' i_max0 hA fun _ h₁₁ tk₁₁ k₁₁ => ?_
    have F11 := F10.grow k₁₁
    clear F10
    with_reducible refine' l_item' (k := oth - 1) rfl (lO' F11.keep) ?hk (by simpa using vo3) rfl ?_
    case hk => omega
    with_reducible refine' s_add ?hz fun _ _ => ?_
    case hz => exact szl (by simp; omega) (by omega)
    rw [tx_append]
    walk_at "st"
    rename_i h₁₂ tk₁₂ F12
    clear F11
    iterate 3 walk_at "go"
    walk_at "cmp"
    walk_at "go"
    walk_at "glob"
    with_reducible refine' star_call F12 hBb (ps := ord.reverse.map (prB B by')) ?hro ?hst ?_
    case hro => omega
    case hst => rfl
    repeat walk_at "go"
    rename_i Dg hg tkg kg hsg Fg
    clear F12
    have gr' : hg.IsList Dr rvs.toArray := isList_of (Fg.keep _ _ (kb _ _ gr))
    have hrl : rvs.length ≤ 40 := by rw [hr.length, flat_len, List.length_map]; omega
    with_reducible refine' l_rev gr' hsg ?hz ?he fun Dh hh tkh kh nh gh => ?_
    case hz => omega
    case he => rfl
    have Fh := Fg.grow kh
    clear Fg
    have hrr : StrsAre rvs.reverse ((ord.reverse.map (prB B by')).flatMap Pr.texts) := by
      rw [← row_rev]
      exact strs_rev hr
    refine ⟨Dh, rvs.reverse, 0, hh, _, S1 ++ [46] ++ O1, _, rfl, rfl, rfl, Fh, gh, hrr, by rw [List.length_map, List.length_reverse]; omega, okB, txt, by simp; omega, fun h₉ tk₉ t₉ F9 => ?_⟩
    clear Fh
    walk_at "go"
    rw [eB]
    with_reducible refine s_ne ?_
    rw [show ((tx (S3 ++ [46] ++ O3)).cps.toList != (tx (S3 ++ [46] ++ O3)).cps.toList) = false by simp]
    walk_at "go"
    refine b_false ?_
    refine wpAny_execs_nil ?_
    walk_at "go"
    refine wpAny_execs_nil ⟨rfl, h₉, _, _, _, rfl, F9, rfl, ?_, ?_, ?_⟩
    · walk_at "look"
    · walk_at "look"
    · walk_at "look"
  · rintro h' tk' m' ow' F' ⟨rfl, _, _, _⟩
    iterate 3 walk_at "go"
    refine wpAny_Constant_bool ?_
    walk_at "go"
    exact q h' tk' F'.keep F'.tabs
end Mine
end
section
open PySem PyProof.Rows
set_option maxHeartbeats 4000000
namespace Mine
local macro_rules | `(tactic| walk_at "look") => `(tactic| first | rfl | assumption | exact ((if_neg (by decide)).trans (by assumption)) | exact ((if_neg (by decide)).trans ((if_neg (by decide)).trans (by assumption))) | exact ((if_neg (by decide)).trans ((if_neg (by decide)).trans ((if_neg (by decide)).trans (by assumption)))) | exact ((if_neg (by decide)).trans ((if_neg (by decide)).trans ((if_neg (by decide)).trans ((if_neg (by decide)).trans (by assumption))))) | exact ((if_neg (by decide)).trans ((if_neg (by decide)).trans ((if_neg (by decide)).trans ((if_neg (by decide)).trans ((if_neg (by decide)).trans (by assumption)))))) | exact ((if_neg (by decide)).trans ((if_neg (by decide)).trans ((if_neg (by decide)).trans ((if_neg (by decide)).trans ((if_neg (by decide)).trans ((if_neg (by decide)).trans (by assumption))))))) | exact ((if_neg (by decide)).trans ((if_neg (by decide)).trans ((if_neg (by decide)).trans ((if_neg (by decide)).trans ((if_neg (by decide)).trans ((if_neg (by decide)).trans ((if_neg (by decide)).trans (by assumption)))))))) | exact ((if_neg (by decide)).trans ((if_neg (by decide)).trans ((if_neg (by decide)).trans ((if_neg (by decide)).trans ((if_neg (by decide)).trans ((if_neg (by decide)).trans ((if_neg (by decide)).trans ((if_neg (by decide)).trans (by assumption))))))))) | exact ((if_neg (by decide)).trans ((if_neg (by decide)).trans ((if_neg (by decide)).trans ((if_neg (by decide)).trans ((if_neg (by decide)).trans ((if_neg (by decide)).trans ((if_neg (by decide)).trans ((if_neg (by decide)).trans ((if_neg (by decide)).trans (by assumption)))))))))))
local macro_rules | `(tactic| walk_at "ld") => `(tactic| ((with_reducible refine' x_ld ?F ?k ?l ?v ?d ?_); (case F => assumption); (case k => rfl); (case l => rfl); (case v => walk_at "look"); (case d => rfl)))
local macro_rules | `(tactic| walk_at "ldn") => `(tactic| ((with_reducible refine' x_ldn ?F ?k ?l ?v ?d ?_); (case F => assumption); (case k => rfl); (case l => rfl); (case v => first | assumption | rfl); (case d => rfl)))
local macro_rules | `(tactic| walk_at "ldc") => `(tactic| ((with_reducible refine' x_ldc ?F ?k ?l ?c ?v ?d ?_); (case F => assumption); (case k => rfl); (case l => rfl); (case c => rfl); (case v => first | assumption | rfl); (case d => rfl)))
local macro_rules | `(tactic| walk_at "ldf") => `(tactic| ((with_reducible refine' x_ldf ?k ?l ?c ?v ?d ?e ?_); (case k => rfl); (case l => rfl); (case c => rfl); (case v => assumption); (case d => rfl); (case e => rfl)))
local macro_rules | `(tactic| walk_at "ldk") => `(tactic| ((with_reducible refine' x_ldk ?k ?l ?c ?v ?d ?_); (case k => rfl); (case l => rfl); (case c => rfl); (case v => assumption); (case d => rfl)))
local macro_rules | `(tactic| walk_at "blt") => `(tactic| ((with_reducible refine' x_blt ?B ?K ?g ?b ?k ?x ?m ?d ?_); (case B => assumption); (case K => first | assumption | exact Frm.keep (by assumption)); (case g => rfl); (case b => rfl); (case k => rfl); (case x => rfl); (case m => simp only [bltNames, List.mem_cons]; first | exact .inl rfl | exact .inr (.inl rfl) | exact .inr (.inr (.inl rfl)) | exact .inr (.inr (.inr (.inl rfl))) | exact .inr (.inr (.inr (.inr (.inl rfl)))) | exact .inr (.inr (.inr (.inr (.inr (.inl rfl))))) | exact .inr (.inr (.inr (.inr (.inr (.inr (.inl rfl)))))) | exact .inr (.inr (.inr (.inr (.inr (.inr (.inr (.inl rfl))))))) | exact .inr (.inr (.inr (.inr (.inr (.inr (.inr (.inr (.inl rfl))))))))); (case d => rfl)))
local macro_rules | `(tactic| walk_at "glob") => `(tactic| ((with_reducible refine' x_glob ?B ?K ?g ?k ?x ?m ?d ?_); (case B => assumption); (case K => first | assumption | exact Frm.keep (by assumption)); (case g => rfl); (case k => rfl); (case x => rfl); (case m => simp only [globNames, List.mem_cons]; first | exact .inl rfl | exact .inr (.inl rfl) | exact .inr (.inr (.inl rfl)) | exact .inr (.inr (.inr (.inl rfl))) | exact .inr (.inr (.inr (.inr (.inl rfl)))) | exact .inr (.inr (.inr (.inr (.inr (.inl rfl))))) | exact .inr (.inr (.inr (.inr (.inr (.inr (.inl rfl)))))) | exact .inr (.inr (.inr (.inr (.inr (.inr (.inr (.inl rfl))))))) | exact .inr (.inr (.inr (.inr (.inr (.inr (.inr (.inr (.inl rfl)))))))) | exact .inr (.inr (.inr (.inr (.inr (.inr (.inr (.inr (.inr (.inl rfl)))))))))); (case d => rfl)))
local macro_rules | `(tactic| walk_at "ap") => `(tactic| ((with_reducible refine' meth1 F.plainAttrs_list F.slot_list_append F.type_list_append ?ha ?hb ?hc ?_); (case ha => first | exact ab_const | exact ab_name | exact ab_sub); (case hb => exact rfl); (case hc => exact rfl)))
local macro_rules | `(tactic| walk_at "rv") => `(tactic| ((with_reducible refine' meth0 F.plainAttrs_list F.slot_list_reverse F.type_list_reverse ?ha ?hc ?_); (case ha => first | exact ab_const | exact ab_name | exact ab_sub); (case hc => exact rfl)))
local macro_rules | `(tactic| walk_at "lidx") => `(tactic| ((with_reducible refine' meth1 F.plainAttrs_list F.slot_list_index F.type_list_index ?ha ?hb ?hc ?_); (case ha => first | exact ab_const | exact ab_name | exact ab_sub); (case hb => exact rfl); (case hc => exact rfl)))
local macro_rules | `(tactic| walk_at "args2") => `(tactic| ((with_reducible refine s_cons ?_); walk_at "go"; (with_reducible refine s_cons ?_); walk_at "go"; with_reducible refine s_nil ?_))
local macro_rules | `(tactic| walk_at "exp") => `(tactic| ((with_reducible refine' x_expr ?hi ?hs ?_); (case hi => rfl); (case hs => rfl)))
local macro_rules | `(tactic| walk_at "index") => `(tactic| ((with_reducible refine' meth1 F.plainAttrs_str F.slot_str_index F.type_str_index ?ha ?hb ?hc ?_); (case ha => first | exact ab_const | exact ab_name); (case hb => exact rfl); (case hc => exact rfl)))
local macro_rules | `(tactic| walk_at "join") => `(tactic| ((with_reducible refine' meth1 F.plainAttrs_str F.slot_str_join F.type_str_join ?ha ?hb ?hc ?_); (case ha => first | exact ab_const | exact ab_name | exact ab_sub); (case hb => exact rfl); (case hc => exact rfl)))
local macro_rules | `(tactic| walk_at "split") => `(tactic| ((with_reducible refine' meth1 F.plainAttrs_str F.slot_str_split F.type_str_split ?ha ?hb ?hc ?_); (case ha => first | exact ab_const | exact ab_name | exact ab_sub); (case hb => exact rfl); (case hc => exact rfl)))
local macro_rules | `(tactic| walk_at "bits") => `(tactic| ((with_reducible refine' meth0 F.plainAttrs_int F.slot_int_bit_length F.type_int_bit_length ?ha ?hc ?_); (case ha => first | exact ab_const | exact ab_name | exact ab_sub); (case hc => exact rfl)))
local macro_rules | `(tactic| walk_at "cmp") => `(tactic| ((with_reducible refine' wpAny_isTrue_Compare1 ?_ ?hm); (case hm => rfl)))
local macro_rules | `(tactic| walk_at "t0") => `(tactic| ((with_reducible refine' t_fst ?hl ?he ?_); (case hl => assumption); (case he => rfl)))
local macro_rules | `(tactic| walk_at "t1") => `(tactic| ((with_reducible refine' t_snd ?hl ?he ?_); (case hl => assumption); (case he => rfl)))
local macro_rules | `(tactic| walk_at "sl") => `(tactic| ((with_reducible refine x_sliceEnd fun D' h' tk' k' hs' => ?_); have F' := Frm.grow (by assumption) k'))
local macro_rules | `(tactic| walk_at "st") => `(tactic| ((with_reducible refine' x_st ?F ?k ?l fun h' tk' F' => ?_); (case F => assumption); (case k => rfl); (case l => rfl)))
local macro_rules | `(tactic| walk_at "stc") => `(tactic| ((with_reducible refine' x_stc ?F ?k ?l ?c fun h' tk' F' => ?_); (case F => assumption); (case k => rfl); (case l => rfl); (case c => rfl)))
local macro_rules | `(tactic| walk_at "go") => `(tactic| first
  | with_reducible refine x_cons ?_
  | ((with_reducible refine' x_assign ?hs ?_); (case hs => rfl))
  | with_reducible refine wpAny_BinOp ?_
  | with_reducible refine Subscript_ ?_
  | with_reducible refine x_int fun _ _ => ?_
  | with_reducible refine x_str fun _ _ => ?_
  | walk_at "ld"
  | walk_at "ldc"
  | walk_at "ldn"
  | walk_at "ldk"
  | walk_at "ldf"
  | with_reducible refine x_call ?_
  | with_reducible refine x_slice ?_
  | with_reducible refine p_none ?_
  | walk_at "sl"
  | with_reducible refine p_some ?_
  | with_reducible refine wpAny_UnaryOp ?_
  | with_reducible refine i_neg fun _ _ => ?_
  | with_reducible refine i_add fun _ _ => ?_
  | with_reducible refine i_sub fun _ _ => ?_
  | with_reducible refine i_le ?_
  | with_reducible refine i_lt ?_
  | with_reducible refine i_eq ?_
  | with_reducible refine wpAny_Return_some ?_
  | with_reducible refine x_next ?_
  | with_reducible refine x_ret ?_
  | with_reducible refine strOk ?_
  | with_reducible refine intOk ?_
  | with_reducible refine wpAny_If ?_
  | with_reducible refine wpAny_truthy_bool ?_)
theorem ints_at {vs : List Value} {ns : List Int} (h : IntsAre vs ns) {k : Nat} {v : Value} (hv : vs[k]? = some v) : ∃ x t, ns[k]? = some x ∧ v = .int x t := by
  induction h generalizing k with
  | nil => simp at hv
  | cons n u r ih =>
    cases k with
    | zero => exact ⟨n, u, rfl, by simpa using hv.symm⟩
    | succ k => exact ih (by simpa using hv)
def RowJ (B by' : Nat) (ord : List Nat) (tb : Tok) (Do Dr : Addr) (i : Nat) (m : Str → Option Value) (ow : List (Addr × Obj)) : Prop :=
  ∃ vs nn, ow = [(Dr, listO (List.toArray vs) nn)] ∧ StrsAre vs (((ord.take i).map (prF B by')).flatMap Pr.texts) ∧ m "by" = some (.int by' tb) ∧ m "order" = some (.ref Do) ∧ m "row" = some (.ref Dr)

theorem law_mid {prog : Program} {w : World} {A : Around} {s : Shared} {b h : Heap} {tk : Nat} {Q : Flow → Shared → Prop} {L a : Addr} {cd : Value} {m cm : Str → Option Value} {Do Dd : Addr} {ovs dvs : List Value} {no nd wd by' : Nat} {ord : List Nat} {dr : List Int} {tb tw : Tok}
    (hBs : Base b) (b37 : b.get? 37 = none) (b44 : b.get? 44 = none) (hA : A.handled = none) (hroom : A.depth + 60 < recursionLimit) (hU : A.units + 64 < cLine)
    (hw : wd = 1 ∨ wd = 2) (hb : 2 ≤ by') (hb5 : by' ≤ 5) (hall : ∀ x, x < by' * 2 ^ wd → x ∈ ord) (hlt : ∀ x ∈ ord, x < by' * 2 ^ wd) (hnd : ord.Nodup) (hol : ord.length ≤ 20)
    (F : Frm b (envF 14 (lawCells L) L a cd) m cm [] h) (mb : m "by" = some (.int by' tb)) (mo : m "order" = some (.ref Do)) (cw : cm "width" = some (.int wd tw)) (cdr : cm "drawn" = some (.ref Dd))
    (go : b.get? Do = some (listO ovs.toArray no)) (hi : IntsAre ovs (natI ord)) (gd : b.get? Dd = some (listO dvs.toArray nd)) (hdr : IntsAre dvs dr) (hd10 : dr.length ≤ 10)
    (q : ∀ h' tk', Kept b h' → Tb h' → Q (.ret (.bool true)) (mk s h' tk')) :
    wpAny (model prog w) A (execs ((bodyOf (stmtAt 14)).drop 6) (envF 14 (lawCells L) L a cd)) Q (fun _ _ => False) (mk s h tk) := by
  have hB4 : 2 ^ wd ≤ 4 := by rcases hw with e | e <;> subst e <;> decide
  have hBp : 0 < 2 ^ wd := Nat.pow_pos (by decide)
  have hov := hi.length
  rw [List.length_map] at hov
  have hsz20 : by' * 2 ^ wd ≤ 5 * 4 := Nat.mul_le_mul hb5 hB4
  refine x_cons ?_
  walk_at "go"
  with_reducible refine x_list0 ?_
  with_reducible refine' n_list ?_ fun Dr h₂ tk₂ k₂ n₂ g₂ => ?_
  · rw [sizeLine_eq]; simp
  have F2 := F.own_new k₂ n₂ g₂ (nc_seq _ _ _)
  clear F
  walk_at "st"
  rename_i h₃ tk₃ F3
  clear F2
  iterate 2 walk_at "go"
  have lO : h₃.IsList Do ovs.toArray := isList_of (F3.keep _ _ go)
  refine f_for (b := b) (cm := cm) rfl rfl (fun _ => rfl) ?_
  walk_at "go"
  with_reducible refine' l_iter lO fun I h₄ tk₄ k₄ n₄ r₄ => ?_
  refine forAt_list hA F3 b37 b44 (isList_of go) k₄ n₄ r₄ (RowJ (2 ^ wd) by' ord tb Do Dr) ?_ ?_ ?_
  · refine ⟨[], 0, rfl, .nil, ?_, ?_, ?_⟩
    · walk_at "look"
    · walk_at "look"
    · walk_at "look"
  · rintro i v m₁ ow₁ b₁ h₁ tk₁ hi' hv ⟨vs, nn, rfl, hvs, mb, mo, mr⟩ kb g1 g2 F₁
    have hBb := hBs.keeps kb
    have hiL : i < ord.length := by rw [← hov]; simpa using hi'
    obtain ⟨x, tx', hx, rfl⟩ := ints_at hi (k := i) (v := v) (by simpa using hv)
    rw [List.getElem?_map, List.getElem?_eq_getElem hiL] at hx
    obtain ⟨z, hz⟩ : ∃ z, z = ord[i] := ⟨_, rfl⟩
    rw [← hz] at hx
    have hx' : x = (z : Int) := by cases hx; rfl
    subst hx'
    have hzl : z < by' * 2 ^ wd := hlt z (by rw [hz]; exact List.getElem_mem hiL)
    have q1 : z / 2 ^ wd < by' := by rw [Nat.div_lt_iff_lt_mul hBp]; exact hzl
    have q2 : z % 2 ^ wd < 2 ^ wd := Nat.mod_lt _ hBp
    have q3 : z / by' < 2 ^ wd := by rw [Nat.div_lt_iff_lt_mul (by omega), Nat.mul_comm]; exact hzl
    have q4 : z % by' < by' := Nat.mod_lt _ (by omega)
    refine x_cons ?_
    iterate 2 walk_at "go"
    walk_at "glob"
    with_reducible refine' d_call hBb.f63 (bt2 ?b1 ?b2) ?_
    case b1 => rfl
    case b2 => rfl
    walk_at "args2"
    refine ⟨F₁.keep, ?_⟩
    refine int_divmod_call (hBb.keeps F₁.keep) F₁.tabs hA (by omega) (by omega) hb hb5 fun T h₂ tk₂ t1 t2 k₂ n₂ g₂ => ?_
    obtain ⟨b₂, kb₂, F2, g37, g44, gT⟩ := F₁.take g1 g2 k₂ n₂ g₂
    have hBb2 := hBb.keeps kb₂
    clear F₁ k₂ n₂ g₂
    walk_at "st"
    rename_i h₅ tk₅ F5
    clear F2
    iterate 3 walk_at "go"
    refine wpAny_isTrue_BoolOp ?_
    refine wpAny_allTrue_Or_cons ?_
    walk_at "cmp"
    iterate 1 walk_at "go"
    walk_at "blt"
    with_reducible refine' t_call1 ?_ ?_
    · rfl
    walk_at "go"
    have gT5 := F5.keep _ _ gT
    refine ty_of (T := "tuple") ⟨_, gT5, rfl⟩ (by decide +kernel) ?_
    walk_at "blt"
    refine isnot_type_same ?_
    walk_at "go"
    refine b_false ?_
    refine wpAny_allTrue_Or_cons ?_
    walk_at "cmp"
    obtain ⟨its, hits⟩ : ∃ its : Array Value, its = #[.int (z / by' : Nat) t1, .int (z % by' : Nat) t2] := ⟨_, rfl⟩
    have hT5 : h₅.IsTuple T its := by rw [hits]; exact ⟨_, gT5, rfl, _, rfl⟩
    have hsz2 : its.size = 2 := by rw [hits]; rfl
    refine' x_comp F5 [] its.size (fun i v => its[i]? = some v) (fun _ y => y = .bool true) ?_ ?_ ?_ ?_ ?_ ?_ ?_
    · rfl
    · decide +kernel
    · rfl
    · decide +kernel
    · rfl
    · intro _; rfl
    walk_at "go"
    with_reducible refine' t_iter hT5 fun I₂ h₆ tk₆ k₆ n₆ r₆ => ?_
    refine compAt_tuple hA F5 hT5 k₆ n₆ r₆ (by omega) ?_ ?_
    · rintro C v' s₃ h₇ tk₇ m₃ E' Q' ⟨j, hj⟩ hn hm hk hq
      have hvi : ∃ x t, v' = .int x t := by
        rw [hits] at hj
        match j, hj with
        | 0, hj => exact ⟨_, _, (Option.some.inj hj).symm⟩
        | 1, hj => exact ⟨_, _, (Option.some.inj hj).symm⟩
        | j + 2, hj => exact absurd hj (by simp)
      obtain ⟨x', t', rfl⟩ := hvi
      have kk : Kept b₂ h₇ := F5.keep.trans hk
      refine wpAny_Compare1 ?_ rfl
      walk_at "go"
      walk_at "blt"
      with_reducible refine' t_call1 ?_ ?_
      · rfl
      walk_at "go"
      refine ty_of (T := "int") (typeIs_int _ _ _) (by decide +kernel) ?_
      walk_at "blt"
      refine wpAny_is_self rfl ?_
      exact hq _ _ fun _ _ => rfl
    · intro D h' tk' ys n hD hg hsz hG F6
      have hys : ys = #[.bool true, .bool true] := by
        rw [hsz2] at hsz
        apply Array.ext'
        have e0 := hG 0 (ys[0]'(by omega)) (Array.getElem?_eq_getElem (by omega))
        have e1 := hG 1 (ys[1]'(by omega)) (Array.getElem?_eq_getElem (by omega))
        match hy : ys.toList with
        | [x0, x1] =>
          have l0 : ys[0]'(by omega) = x0 := by rw [← Array.getElem_toList]; simp [hy]
          have l1 : ys[1]'(by omega) = x1 := by rw [← Array.getElem_toList]; simp [hy]
          rw [← l0, ← l1, e0, e1]
        | [] => rw [← Array.length_toList, hy] at hsz; simp at hsz
        | [_] => rw [← Array.length_toList, hy] at hsz; simp at hsz
        | _ :: _ :: _ :: _ => rw [← Array.length_toList, hy] at hsz; simp at hsz
      subst hys
      with_reducible refine' x_list2 ?_ ?_ ?_
      · rfl
      · rfl
      refine wpAny_Constant_bool ?_
      refine wpAny_Constant_bool ?_
      with_reducible refine' n_list ?_ fun D2 h₈ tk₈ k₈ n₈ g₈ => ?_
      · rw [sizeLine_eq]; simp
      have F8 := F6.grow k₈
      refine l_neTT hU (F8.get List.mem_cons_self) g₈ ?_
      walk_at "go"
      refine b_false ?_
      refine wpAny_allTrue_Or_nil ?_
      refine b_false ?_
      refine wpAny_execs_nil ?_
      have F9 := F8.drop
      clear F8 F6 F5
      iterate 2 walk_at "go"
      walk_at "exp"
      walk_at "ap"
      walk_at "go"
      refine listOk (F9.get List.mem_cons_self) ?_
      iterate 6 walk_at "go"
      with_reducible refine' i_shr fun _ _ => ?_
      with_reducible refine' s_item' (k := z / 2 ^ wd) (c := z / 2 ^ wd + 97) ?e ?hk ?hc ?he fun _ _ => ?_
      case e => push_cast; rfl
      case hk => omega
      case hc => exact mark_at _ (by omega)
      case he => rfl
      iterate 7 walk_at "go"
      with_reducible refine' i_shl ?_ ?_ fun _ _ => ?_
      · rcases hw with e | e <;> subst e <;> decide
      · decide
      rw [Int.one_mul]
      with_reducible refine' i_mod ?_ fun _ _ => ?_
      · rcases hw with e | e <;> subst e <;> decide
      with_reducible refine' s_item' (k := z % 2 ^ wd) (c := z % 2 ^ wd + 48) ?e ?hk ?hc ?he fun _ _ => ?_
      case e => push_cast; rfl
      case hk => omega
      case hc => exact fig_at _ (by omega)
      case he => rfl
      rw [show (⟨#[z / 2 ^ wd + 97]⟩ : Str) = tx [z / 2 ^ wd + 97] from rfl, show (⟨#[z % 2 ^ wd + 48]⟩ : Str) = tx [z % 2 ^ wd + 48] from rfl]
      with_reducible refine' s_add ?hz fun _ _ => ?_
      case hz => rw [tx_len, tx_len, sizeLine_eq]; simp
      rw [tx_append]
      have hvl : vs.length ≤ 40 := by
        rw [hvs.length, flat_len, List.length_map, List.length_take]; omega
      refine l_append F9 (by omega) fun h₁₀ tk₁₀ n₁₀ F10 => ⟨rfl, ?_⟩
      clear F9
      iterate 2 walk_at "go"
      walk_at "exp"
      walk_at "ap"
      walk_at "go"
      refine listOk (F10.get List.mem_cons_self) ?_
      iterate 6 walk_at "go"
      have gT10 : IsTup h₁₀ T #[.int (z / by' : Nat) t1, .int (z % by' : Nat) t2] := isTup_of (F10.keep _ _ gT)
      walk_at "t0"
      with_reducible refine' s_item' (k := z / by') (c := z / by' + 48) ?e ?hk ?hc ?he fun _ _ => ?_
      case e => rfl
      case hk => omega
      case hc => exact fig_at _ (by omega)
      case he => rfl
      iterate 5 walk_at "go"
      walk_at "t1"
      with_reducible refine' s_item' (k := z % by') (c := z % by' + 97) ?e ?hk ?hc ?he fun _ _ => ?_
      case e => rfl
      case hk => omega
      case hc => exact mark_at _ (by omega)
      case he => rfl
      rw [show (⟨#[z / by' + 48]⟩ : Str) = tx [z / by' + 48] from rfl, show (⟨#[z % by' + 97]⟩ : Str) = tx [z % by' + 97] from rfl]
      with_reducible refine' s_add ?hz fun _ _ => ?_
      case hz => rw [tx_len, tx_len, sizeLine_eq]; simp
      rw [tx_append]
      refine l_append F10 (by simp; omega) fun h₁₁ tk₁₁ n₁₁ F11 => ⟨rfl, ?_⟩
      clear F10
      walk_at "go"
      refine wpAny_execs_nil ⟨rfl, h₁₁, tk₁₁, _, _, rfl, F11.weaken kb₂, _, n₁₁, rfl, ?_, ?_, ?_, ?_⟩
      · have e3 : ord.take (i + 1) = ord.take i ++ [z] := by rw [hz, List.take_append_getElem hiL]
        rw [e3, List.map_append, List.flatMap_append, List.append_assoc]
        exact hvs.append' (.cons _ _ (.cons _ _ .nil))
      all_goals walk_at "look"
  · rintro h' tk' m' ow' F' ⟨vs, nn, rfl, hvs, mb, mo, mr⟩
    rw [show ovs.toArray.size = ord.length by simpa using hov, List.take_length] at hvs
    clear F3
    obtain ⟨b₁, kb, F1, g37, g44, gr⟩ := F'.settle b37 b44
    clear F'
    have hBb := hBs.keeps kb
    obtain ⟨ds, hds⟩ : ∃ ds : List Nat, ds = (dr.drop 2).map fun x => (x % 2 ^ wd).toNat := ⟨_, rfl⟩
    have hdB : ∀ d ∈ ds, d < 2 ^ wd := fun d hd => by
      rw [hds] at hd
      obtain ⟨x, _, rfl⟩ := List.mem_map.mp hd
      have h1 : 0 ≤ x % 2 ^ wd := Int.emod_nonneg _ (by rcases hw with e | e <;> subst e <;> decide)
      have h2 : x % 2 ^ wd < 2 ^ wd := Int.emod_lt_of_pos _ (by rcases hw with e | e <;> subst e <;> decide)
      have h3 : ((2 ^ wd : Nat) : Int) = 2 ^ wd := by push_cast; rfl
      omega
    have hdl : dvs.length = dr.length := hdr.length
    have hdsl : ds.length = dr.length - 2 := by rw [hds]; simp
    have hd8 : ds.length ≤ 8 := by omega
    iterate 3 walk_at "go"
    walk_at "join"
    iterate 2 walk_at "go"
    refine' x_comp F1 [(Str.ofString "width", L + 1 + 1)] (dvs.drop 2).toArray.size (fun i v => (dvs.drop 2).toArray[i]? = some v) (fun k y => ∃ t, y = .str (tx [ds.getD k 0 + 48]) t) ?_ ?_ ?_ ?_ ?_ ?_ ?_
    · rfl
    · decide +kernel
    · rfl
    · decide +kernel
    · rfl
    · intro _; rfl
    repeat walk_at "go"
    rename_i Da ha tka ka hsa Fa
    have gda : ha.IsList Dd dvs.toArray := isList_of (Fa.keep _ _ (kb _ _ gd))
    with_reducible refine' l_from (a := 2) gda hsa ?hz ?he fun Db h₂ tkb k₂ nb gb => ?_
    case hz => omega
    case he => rfl
    have Fb := Fa.grow k₂
    clear Fa F1
    with_reducible refine' l_iter (isList_of gb) fun I₂ h₆ tk₆ k₆ n₆ r₆ => ?_
    refine compAt_list hA Fb (isList_of gb) k₆ n₆ r₆ (by simp; omega) ?_ ?_
    · rintro C v' s₃ h₇ tk₇ m₃ E' Q' ⟨j, hj⟩ hn hm hk hq
      obtain ⟨x, t, hx, rfl⟩ := ints_at (ints_drop hdr 2) (k := j) (v := v') (by simpa using hj)
      have c2 : h₇.IsCell (L + 1 + 1) (some (.int wd tw)) := by
        have := (Fb.cell (Str.ofString "width", L + 1 + 1) (by simp [envF, lawCells])).keeps hk
        rw [cw] at this
        exact this
      iterate 7 walk_at "go"
      with_reducible refine' i_shl ?_ ?_ fun _ _ => ?_
      · rcases hw with e | e <;> subst e <;> decide
      · decide
      rw [Int.one_mul]
      have hp2 : (0 : Int) < 2 ^ wd := by rcases hw with e | e <;> subst e <;> decide
      with_reducible refine' i_mod ?_ fun _ _ => ?_
      · exact hp2
      have x1 : 0 ≤ x % 2 ^ wd := Int.emod_nonneg _ (Int.ne_of_gt hp2)
      have x2 : x % 2 ^ wd < 2 ^ wd := Int.emod_lt_of_pos _ hp2
      have x3 : ((2 ^ wd : Nat) : Int) = 2 ^ wd := by push_cast; rfl
      with_reducible refine' s_item' (k := (x % 2 ^ wd).toNat) (c := (x % 2 ^ wd).toNat + 48) ?e ?hk ?hc ?he fun ts tks => ?_
      case e => omega
      case hk => omega
      case hc => exact fig_at _ (by omega)
      case he => rfl
      refine hq _ _ fun j' hj' => ⟨ts, ?_⟩
      obtain ⟨x', t', hx', e'⟩ := ints_at (ints_drop hdr 2) (k := j') (v := .int x t) (by simpa using hj')
      cases e'
      have : ds.getD j' 0 = (x % 2 ^ wd).toNat := by rw [hds, List.getD_eq_getElem?_getD, List.getElem?_map, hx']; rfl
      rw [this]; rfl
    · intro D h' tk' ys n hD hg hsz hG F6
      have hyl : ys.toList.length = ds.length := by
        rw [Array.length_toList, hsz, hdsl]; simp; omega
      have hS : StrsAre ys.toList ((ds.map fun d => [d + 48]).map tx) := by
        have := strs_of (ys := ys.toList) (f := fun k => [ds.getD k 0 + 48]) fun k v hv => hG k v (by simpa using hv)
        rw [hyl] at this
        have e : ((List.range ds.length).map fun k => tx [ds.getD k 0 + 48]) = (ds.map fun d => [d + 48]).map tx := by
          apply List.ext_getElem?
          intro k
          rw [List.map_map, List.getElem?_map, List.getElem?_map]
          by_cases hk : k < ds.length
          · rw [List.getElem?_range hk, List.getElem?_eq_getElem hk]
            show some (tx [ds.getD k 0 + 48]) = some (tx [ds[k] + 48])
            rw [List.getD_eq_getElem?_getD, List.getElem?_eq_getElem hk]; rfl
          · rw [List.getElem?_eq_none (by simp; omega), List.getElem?_eq_none (by omega)]; rfl
        rw [e] at this
        exact this
      have lD : h'.IsList D ys.toList.toArray := by have := isList_of (F6.get List.mem_cons_self); simpa using this
      with_reducible refine' s_join lD hS ?hok fun tn tkn => ?_
      case hok =>
        rw [List.map_map, List.map_map]
        have : (ds.map (((fun x : Str => x.length) ∘ tx) ∘ fun d => [d + 48])) = ds.map fun _ => 1 := by
          apply List.map_congr_left
          intro d _
          simp [tx_len]
        rw [this, sum_one, List.length_map, List.length_map, empty_tx, tx_len]
        simp
        omega
      rw [glued_empty]
      have hfl : (ds.map fun d => [d + 48]).flatten = ds.map (· + 48) := by
        generalize ds = l
        induction l with
        | nil => rfl
        | cons a r ih => simp [ih]
      rw [hfl]
      have F7 := F6.drop
      clear F6 Fb
      walk_at "st"
      rename_i h₈ tk₈ F8
      clear F7
      iterate 4 walk_at "go"
      walk_at "glob"
      with_reducible refine' d_call hBb.f82 (bt4 ?b1 ?b2 ?b3 ?b4) ?_
      case b1 => rfl
      case b2 => rfl
      case b3 => rfl
      case b4 => rfl
      with_reducible refine s_cons ?_
      walk_at "go"
      with_reducible refine s_cons ?_
      walk_at "go"
      with_reducible refine s_cons ?_
      walk_at "go"
      with_reducible refine s_cons ?_
      walk_at "go"
      with_reducible refine s_nil ?_
      refine ⟨F8.keep, ?_⟩
      refine stops_call (hBb.keeps F8.keep) F8.tabs hA (by omega) hw hb hb5 hdB hd8 (F8.keep _ _ (kb _ _ go)) hi (by omega) hall fun Ds h₉ tk₉ svs k₉ n₉ g₉ hs₉ => ?_
      obtain ⟨b₂, kb₂, F9, g37', g44', gS⟩ := F8.take g37 g44 k₉ n₉ g₉
      have hBb2 := hBb.keeps kb₂
      clear F8
      walk_at "st"
      rename_i h₁₀ tk₁₀ F10
      clear F9
      iterate 4 walk_at "go"
      walk_at "glob"
      with_reducible refine' d_call hBb2.f82 (bt4 ?b1 ?b2 ?b3 ?b4) ?_
      case b1 => rfl
      case b2 => rfl
      case b3 => rfl
      case b4 => rfl
      with_reducible refine s_cons ?_
      repeat walk_at "go"
      rename_i Dc hc tkc kc hsc Fc
      clear F10
      with_reducible refine' s_rev hsc ?hl ?he fun _ _ => ?_
      case hl => rw [List.length_map, sizeLine_eq]; omega
      case he => rfl
      rw [← List.map_reverse]
      with_reducible refine s_cons ?_
      walk_at "go"
      with_reducible refine s_cons ?_
      walk_at "go"
      with_reducible refine s_cons ?_
      walk_at "go"
      with_reducible refine s_nil ?_
      refine ⟨Fc.keep, ?_⟩
      refine stops_call (hBb2.keeps Fc.keep) Fc.tabs hA (by omega) hw hb hb5 (fun d hd => hdB d (List.mem_reverse.mp hd)) (by rw [List.length_reverse]; exact hd8) (Fc.keep _ _ (kb₂ _ _ (kb _ _ go))) hi (by omega) hall fun Dt h₁₁ tk₁₁ tvs k₁₁ n₁₁ g₁₁ hs₁₁ => ?_
      obtain ⟨b₃, kb₃, F11, g37'', g44'', gO⟩ := Fc.take g37' g44' k₁₁ n₁₁ g₁₁
      have hBb3 := hBb2.keeps kb₃
      clear Fc
      walk_at "st"
      rename_i h₁₂ tk₁₂ F12
      clear F11
      walk_at "go"
      show wpAny _ _ (execs ((bodyOf (stmtAt 14)).drop 11) _) _ _ _
      refine law_end hBb3 g37'' g44'' hA (by omega) hBp hB4 (by omega) hb5 hdB hd8 hall hlt hnd hol F12 (Ds := Ds) (Do := Dt) (Dr := Dr) ?_ ?_ ?_ (kb₃ _ _ gS) gO (kb₃ _ _ (kb₂ _ _ gr)) hs₉ hs₁₁ hvs fun h' tk' k t => q h' tk' (kb.trans (kb₂.trans (kb₃.trans k))) t
      · walk_at "look"
      · walk_at "look"
      · walk_at "look"
end Mine
end
section
open PySem PyProof.Rows
set_option maxHeartbeats 4000000
namespace Mine
local macro_rules | `(tactic| walk_at "look") => `(tactic| first | rfl | assumption | exact ((if_neg (by decide)).trans (by assumption)) | exact ((if_neg (by decide)).trans ((if_neg (by decide)).trans (by assumption))) | exact ((if_neg (by decide)).trans ((if_neg (by decide)).trans ((if_neg (by decide)).trans (by assumption)))) | exact ((if_neg (by decide)).trans ((if_neg (by decide)).trans ((if_neg (by decide)).trans ((if_neg (by decide)).trans (by assumption))))) | exact ((if_neg (by decide)).trans ((if_neg (by decide)).trans ((if_neg (by decide)).trans ((if_neg (by decide)).trans ((if_neg (by decide)).trans (by assumption)))))) | exact ((if_neg (by decide)).trans ((if_neg (by decide)).trans ((if_neg (by decide)).trans ((if_neg (by decide)).trans ((if_neg (by decide)).trans ((if_neg (by decide)).trans (by assumption))))))) | exact ((if_neg (by decide)).trans ((if_neg (by decide)).trans ((if_neg (by decide)).trans ((if_neg (by decide)).trans ((if_neg (by decide)).trans ((if_neg (by decide)).trans ((if_neg (by decide)).trans (by assumption)))))))) | exact ((if_neg (by decide)).trans ((if_neg (by decide)).trans ((if_neg (by decide)).trans ((if_neg (by decide)).trans ((if_neg (by decide)).trans ((if_neg (by decide)).trans ((if_neg (by decide)).trans ((if_neg (by decide)).trans (by assumption))))))))) | exact ((if_neg (by decide)).trans ((if_neg (by decide)).trans ((if_neg (by decide)).trans ((if_neg (by decide)).trans ((if_neg (by decide)).trans ((if_neg (by decide)).trans ((if_neg (by decide)).trans ((if_neg (by decide)).trans ((if_neg (by decide)).trans (by assumption)))))))))))
local macro_rules | `(tactic| walk_at "ld") => `(tactic| ((with_reducible refine' x_ld ?F ?k ?l ?v ?d ?_); (case F => assumption); (case k => rfl); (case l => rfl); (case v => walk_at "look"); (case d => rfl)))
local macro_rules | `(tactic| walk_at "ldn") => `(tactic| ((with_reducible refine' x_ldn ?F ?k ?l ?v ?d ?_); (case F => assumption); (case k => rfl); (case l => rfl); (case v => first | assumption | rfl); (case d => rfl)))
local macro_rules | `(tactic| walk_at "ldc") => `(tactic| ((with_reducible refine' x_ldc ?F ?k ?l ?c ?v ?d ?_); (case F => assumption); (case k => rfl); (case l => rfl); (case c => rfl); (case v => first | assumption | rfl); (case d => rfl)))
local macro_rules | `(tactic| walk_at "ldf") => `(tactic| ((with_reducible refine' x_ldf ?k ?l ?c ?v ?d ?e ?_); (case k => rfl); (case l => rfl); (case c => rfl); (case v => assumption); (case d => rfl); (case e => rfl)))
local macro_rules | `(tactic| walk_at "ldk") => `(tactic| ((with_reducible refine' x_ldk ?k ?l ?c ?v ?d ?_); (case k => rfl); (case l => rfl); (case c => rfl); (case v => assumption); (case d => rfl)))
local macro_rules | `(tactic| walk_at "blt") => `(tactic| ((with_reducible refine' x_blt ?B ?K ?g ?b ?k ?x ?m ?d ?_); (case B => assumption); (case K => first | assumption | exact Frm.keep (by assumption)); (case g => rfl); (case b => rfl); (case k => rfl); (case x => rfl); (case m => simp only [bltNames, List.mem_cons]; first | exact .inl rfl | exact .inr (.inl rfl) | exact .inr (.inr (.inl rfl)) | exact .inr (.inr (.inr (.inl rfl))) | exact .inr (.inr (.inr (.inr (.inl rfl)))) | exact .inr (.inr (.inr (.inr (.inr (.inl rfl))))) | exact .inr (.inr (.inr (.inr (.inr (.inr (.inl rfl)))))) | exact .inr (.inr (.inr (.inr (.inr (.inr (.inr (.inl rfl))))))) | exact .inr (.inr (.inr (.inr (.inr (.inr (.inr (.inr (.inl rfl))))))))); (case d => rfl)))
local macro_rules | `(tactic| walk_at "glob") => `(tactic| ((with_reducible refine' x_glob ?B ?K ?g ?k ?x ?m ?d ?_); (case B => assumption); (case K => first | assumption | exact Frm.keep (by assumption)); (case g => rfl); (case k => rfl); (case x => rfl); (case m => simp only [globNames, List.mem_cons]; first | exact .inl rfl | exact .inr (.inl rfl) | exact .inr (.inr (.inl rfl)) | exact .inr (.inr (.inr (.inl rfl))) | exact .inr (.inr (.inr (.inr (.inl rfl)))) | exact .inr (.inr (.inr (.inr (.inr (.inl rfl))))) | exact .inr (.inr (.inr (.inr (.inr (.inr (.inl rfl)))))) | exact .inr (.inr (.inr (.inr (.inr (.inr (.inr (.inl rfl))))))) | exact .inr (.inr (.inr (.inr (.inr (.inr (.inr (.inr (.inl rfl)))))))) | exact .inr (.inr (.inr (.inr (.inr (.inr (.inr (.inr (.inr (.inl rfl)))))))))); (case d => rfl)))
local macro_rules | `(tactic| walk_at "ap") => `(tactic| ((with_reducible refine' meth1 F.plainAttrs_list F.slot_list_append F.type_list_append ?ha ?hb ?hc ?_); (case ha => first | exact ab_const | exact ab_name | exact ab_sub); (case hb => exact rfl); (case hc => exact rfl)))
local macro_rules | `(tactic| walk_at "rv") => `(tactic| ((with_reducible refine' meth0 F.plainAttrs_list F.slot_list_reverse F.type_list_reverse ?ha ?hc ?_); (case ha => first | exact ab_const | exact ab_name | exact ab_sub); (case hc => exact rfl)))
local macro_rules | `(tactic| walk_at "lidx") => `(tactic| ((with_reducible refine' meth1 F.plainAttrs_list F.slot_list_index F.type_list_index ?ha ?hb ?hc ?_); (case ha => first | exact ab_const | exact ab_name | exact ab_sub); (case hb => exact rfl); (case hc => exact rfl)))
local macro_rules | `(tactic| walk_at "args2") => `(tactic| ((with_reducible refine s_cons ?_); walk_at "go"; (with_reducible refine s_cons ?_); walk_at "go"; with_reducible refine s_nil ?_))
local macro_rules | `(tactic| walk_at "exp") => `(tactic| ((with_reducible refine' x_expr ?hi ?hs ?_); (case hi => rfl); (case hs => rfl)))
local macro_rules | `(tactic| walk_at "index") => `(tactic| ((with_reducible refine' meth1 F.plainAttrs_str F.slot_str_index F.type_str_index ?ha ?hb ?hc ?_); (case ha => first | exact ab_const | exact ab_name); (case hb => exact rfl); (case hc => exact rfl)))
local macro_rules | `(tactic| walk_at "join") => `(tactic| ((with_reducible refine' meth1 F.plainAttrs_str F.slot_str_join F.type_str_join ?ha ?hb ?hc ?_); (case ha => first | exact ab_const | exact ab_name | exact ab_sub); (case hb => exact rfl); (case hc => exact rfl)))
local macro_rules | `(tactic| walk_at "split") => `(tactic| ((with_reducible refine' meth1 F.plainAttrs_str F.slot_str_split F.type_str_split ?ha ?hb ?hc ?_); (case ha => first | exact ab_const | exact ab_name | exact ab_sub); (case hb => exact rfl); (case hc => exact rfl)))
local macro_rules | `(tactic| walk_at "bits") => `(tactic| ((with_reducible refine' meth0 F.plainAttrs_int F.slot_int_bit_length F.type_int_bit_length ?ha ?hc ?_); (case ha => first | exact ab_const | exact ab_name | exact ab_sub); (case hc => exact rfl)))
local macro_rules | `(tactic| walk_at "cmp") => `(tactic| ((with_reducible refine' wpAny_isTrue_Compare1 ?_ ?hm); (case hm => rfl)))
local macro_rules | `(tactic| walk_at "t0") => `(tactic| ((with_reducible refine' t_fst ?hl ?he ?_); (case hl => assumption); (case he => rfl)))
local macro_rules | `(tactic| walk_at "t1") => `(tactic| ((with_reducible refine' t_snd ?hl ?he ?_); (case hl => assumption); (case he => rfl)))
local macro_rules | `(tactic| walk_at "sl") => `(tactic| ((with_reducible refine x_sliceEnd fun D' h' tk' k' hs' => ?_); have F' := Frm.grow (by assumption) k'))
local macro_rules | `(tactic| walk_at "st") => `(tactic| ((with_reducible refine' x_st ?F ?k ?l fun h' tk' F' => ?_); (case F => assumption); (case k => rfl); (case l => rfl)))
local macro_rules | `(tactic| walk_at "stc") => `(tactic| ((with_reducible refine' x_stc ?F ?k ?l ?c fun h' tk' F' => ?_); (case F => assumption); (case k => rfl); (case l => rfl); (case c => rfl)))
local macro_rules | `(tactic| walk_at "go") => `(tactic| first
  | with_reducible refine x_cons ?_
  | ((with_reducible refine' x_assign ?hs ?_); (case hs => rfl))
  | with_reducible refine wpAny_BinOp ?_
  | with_reducible refine Subscript_ ?_
  | with_reducible refine x_int fun _ _ => ?_
  | with_reducible refine x_str fun _ _ => ?_
  | walk_at "ld"
  | walk_at "ldc"
  | walk_at "ldn"
  | walk_at "ldk"
  | walk_at "ldf"
  | with_reducible refine x_call ?_
  | with_reducible refine x_slice ?_
  | with_reducible refine p_none ?_
  | walk_at "sl"
  | with_reducible refine p_some ?_
  | with_reducible refine wpAny_UnaryOp ?_
  | with_reducible refine i_neg fun _ _ => ?_
  | with_reducible refine i_add fun _ _ => ?_
  | with_reducible refine i_sub fun _ _ => ?_
  | with_reducible refine i_le ?_
  | with_reducible refine i_lt ?_
  | with_reducible refine i_eq ?_
  | with_reducible refine wpAny_Return_some ?_
  | with_reducible refine x_next ?_
  | with_reducible refine x_ret ?_
  | with_reducible refine strOk ?_
  | with_reducible refine intOk ?_
  | with_reducible refine wpAny_If ?_
  | with_reducible refine wpAny_truthy_bool ?_)
theorem law_call {prog : Program} {w : World} {A : Around} {E : Value → Shared → Prop} {s : Shared} {h : Heap} {tk : Nat} {Q : Value → Shared → Prop} {a c ls : Addr} {vs : List Value} {ns : List Int}
    (hf : FnAt h a 14 c) (hB : Base h) (hT : Tb h) (hA : A.handled = none) (hroom : A.depth + 70 < recursionLimit) (hU : A.units + 70 < cLine)
    (hl : h.IsList ls vs.toArray) (hi : IntsAre vs ns) (hn : ns.length ≤ 63)
    (q : ∀ h' tk', KeptT h h' → Q (.bool true) (mk s h' tk')) :
    wpAny (model prog w) A (call (.ref a) [.ref ls]) Q E (mk s h tk) := by
  refine call_defC ["step", "size", "width", "drawn"] (fun _ => rfl) (by decide) hf hB.nolimit hT (by omega) (binds := [("script", .ref ls)]) (fun _ _ _ _ _ => rfl)
    (PySem.W.kindsX rfl) rfl rfl rfl (fun L cd h₁ tk₁ hcd G => ?_)
  have eC : cellsFrom (L + 1) (scopeOf (stmtAt 14)).names [] = lawCells L := rfl
  rw [eC] at G ⊢
  replace G : Frm h (envF 14 (lawCells L) L a cd) (upd (fun _ => none) "script" (.ref ls)) (fun _ => none) [] h₁ := G
  have F := G.weaken (ghost_kept h)
  have hBg := hB.ghost
  clear G
  have hA' : (A.deeper (envF 14 (lawCells L) L a cd)).handled = none := hA
  have hD' : (A.deeper (envF 14 (lawCells L) L a cd)).depth = A.depth + 1 := rfl
  have hU' : (A.deeper (envF 14 (lawCells L) L a cd)).units = A.units + 3 := rfl
  have lk : ∀ {hh : Heap}, Kept (ghost h) hh → hh.IsList ls vs.toArray := fun k => by
    obtain ⟨o, e, nc, r⟩ := isList_nc hl
    obtain ⟨n1, n2⟩ := tb_ne hT e nc
    exact ⟨o, k _ _ (ghost_get n1 n2 e), r⟩
  have hvl := hi.length
  refine x_cons ?_
  iterate 5 walk_at "go"
  with_reducible refine x_list7 fun t1 t2 t3 t4 t5 t6 t7 _ => ?_
  with_reducible refine' n_list ?_ fun D7 h₂ tk₂ k₂ n₂ g₂ => ?_
  · rw [sizeLine_eq]; simp
  have F2 := F.grow k₂
  clear F
  iterate 3 walk_at "go"
  walk_at "blt"
  with_reducible refine' b_call1 ?_ ?_
  · rfl
  walk_at "go"
  with_reducible refine' len_l (lk F2.keep) ?_ fun _ _ => ?_
  · simp; omega
  iterate 3 walk_at "go"
  rename_i Da ha tka ka hsa Fa
  clear F2
  have g2a := isList_of (ka _ _ g₂)
  with_reducible refine' l_from (a := vs.toArray.size) g2a hsa ?hz ?he fun Db hb' tkb kb nb gb => ?_
  case hz => simp
  case he => rfl
  have Fb := Fa.grow kb
  clear Fa
  with_reducible refine' l_add (lk Fb.keep) (isList_of gb) ?hz fun Dc hc tkc kc nc gc => ?_
  case hz => rw [sizeLine_eq, List.length_drop]; simp; omega
  have Fc := Fb.grow kc
  clear Fb
  repeat walk_at "go"
  rename_i Dd hd tkd kd hsd Fd
  clear Fc
  have gcd := isList_of (kd _ _ gc)
  with_reducible refine' l_upto (a := 10) gcd hsd ?hz ?he fun De he tke ke ne ge => ?_
  case hz => simp; omega
  case he => rfl
  obtain ⟨dvs, hdvs⟩ : ∃ dvs : List Value, dvs = List.take 10 (vs ++ List.drop vs.toArray.size [Value.int 3 t1, Value.int 14 t2, Value.int 2 t3, Value.int 1 t4, Value.int 3 t5, Value.int 2 t6, Value.int 3 t7]) := ⟨_, rfl⟩
  obtain ⟨dr, hdr⟩ : ∃ dr : List Int, dr = List.take 10 (ns ++ List.drop ns.length [3, 14, 2, 1, 3, 2, 3]) := ⟨_, rfl⟩
  have hdi : IntsAre dvs dr := by
    rw [hdvs, hdr]
    refine ints_take (ints_cat hi ?_) 10
    rw [show vs.toArray.size = ns.length by simpa using hvl]
    exact ints_drop (.cons _ _ (.cons _ _ (.cons _ _ (.cons _ _ (.cons _ _ (.cons _ _ (.cons _ _ .nil))))))) _
  have hdl : 2 ≤ dr.length ∧ dr.length ≤ 10 := by
    rw [hdr]; simp; omega
  rw [← hdvs] at ge
  obtain ⟨b₁, kb₁, F1, g37, g44, gD⟩ := Fd.take (ghost37 h) (ghost44 h) ke.t ne ge
  clear Fd
  have hBb := hBg.keeps kb₁
  walk_at "stc"
  rename_i h₃ tk₃ F3
  clear F1
  obtain ⟨d0, hd0⟩ : ∃ d0, dr[0]? = some d0 := ⟨dr[0]'(by omega), List.getElem?_eq_getElem (by omega)⟩
  obtain ⟨d1, hd1⟩ : ∃ d1, dr[1]? = some d1 := ⟨dr[1]'(by omega), List.getElem?_eq_getElem (by omega)⟩
  obtain ⟨u0, v0⟩ := ints_get hdi 0 d0 hd0
  obtain ⟨u1, v1⟩ := ints_get hdi 1 d1 hd1
  have lD : ∀ {hh : Heap}, Kept b₁ hh → hh.IsList De dvs.toArray := fun k => isList_of (k _ _ gD)
  obtain ⟨wd, hwd⟩ : ∃ wd : Nat, wd = 1 + (d0 % 2).toNat := ⟨_, rfl⟩
  obtain ⟨by', hby⟩ : ∃ by' : Nat, by' = 2 + (d0 / 2 % 4).toNat := ⟨_, rfl⟩
  have hw : wd = 1 ∨ wd = 2 := by omega
  have hb : 2 ≤ by' := by omega
  have hb5 : by' ≤ 5 := by omega
  have hBp : 0 < 2 ^ wd := Nat.pow_pos (by decide)
  have hB4 : 2 ^ wd ≤ 4 := by rcases hw with e | e <;> rw [e] <;> decide
  obtain ⟨sz, hsz⟩ : ∃ sz : Nat, sz = by' * 2 ^ wd := ⟨_, rfl⟩
  have hsz20 : sz ≤ 20 := by rw [hsz]; exact Nat.mul_le_mul hb5 hB4
  have hszp : 0 < sz := by rw [hsz]; exact Nat.mul_pos (by omega) hBp
  repeat walk_at "go"
  with_reducible refine' l_item' (k := 0) ?e (lD F3.keep) ?hk ?hv ?he ?_
  case e => rfl
  case hk => decide
  case hv => simpa using v0
  case he => rfl
  walk_at "go"
  with_reducible refine' i_mod ?_ fun _ _ => ?_
  · decide
  walk_at "go"
  rw [show 1 + d0 % 2 = ((wd : Nat) : Int) by omega]
  walk_at "stc"
  rename_i tw _ h₄ tk₄ F4
  clear F3
  repeat walk_at "go"
  with_reducible refine' l_item' (k := 0) ?e (lD F4.keep) ?hk ?hv ?he ?_
  case e => rfl
  case hk => decide
  case hv => simpa using v0
  case he => rfl
  walk_at "go"
  with_reducible refine' i_div ?_ ?_ fun _ _ => ?_
  · decide
  · exact Or.inl (PyProof.noPylong_small (by decide))
  walk_at "go"
  with_reducible refine' i_mod ?_ fun _ _ => ?_
  · decide
  walk_at "go"
  rw [show 2 + d0 / 2 % 4 = ((by' : Nat) : Int) by omega]
  walk_at "st"
  rename_i tb _ h₅ tk₅ F5
  clear F4
  repeat walk_at "go"
  with_reducible refine' i_shl ?_ ?_ fun _ _ => ?_
  · omega
  · rw [Int.natAbs_natCast]; omega
  rw [show (by' : Int) * 2 ^ wd = ((sz : Nat) : Int) by rw [hsz]; push_cast; rfl]
  walk_at "stc"
  rename_i tsz _ h₆ tk₆ F6
  clear F5
  repeat walk_at "go"
  with_reducible refine' x_list4 ?h1 ?h2 ?h3 ?h4 ?_
  case h1 => rfl
  case h2 => rfl
  case h3 => rfl
  case h4 => rfl
  repeat walk_at "go"
  rename_i s1 _ s2 _ s3 _ _ _ s4 _
  with_reducible refine' n_list ?_ fun D4 h₇ tk₇ k₇ n₇ g₇ => ?_
  · rw [sizeLine_eq]; simp
  have F7 := F6.grow k₇
  clear F6
  repeat walk_at "go"
  with_reducible refine' l_item' (k := 1) ?e (lD F7.keep) ?hk ?hv ?he ?_
  case e => rfl
  case hk => decide
  case hv => simpa using v1
  case he => rfl
  repeat walk_at "go"
  with_reducible refine' i_div ?_ ?_ fun _ _ => ?_
  · omega
  · exact Or.inl (PyProof.noPylong_small (by omega))
  repeat walk_at "go"
  with_reducible refine' i_mod ?_ fun _ _ => ?_
  · decide
  obtain ⟨j, hj⟩ : ∃ j : Nat, j = (d1 / (sz : Int) % 4).toNat := ⟨_, rfl⟩
  have hj1 : 0 ≤ d1 / (sz : Int) % 4 := Int.emod_nonneg _ (by decide)
  have hj2 : d1 / (sz : Int) % 4 < 4 := Int.emod_lt_of_pos _ (by decide)
  have hj4 : j < 4 := by omega
  obtain ⟨st, hst⟩ : ∃ st : Nat, st = [1, 7, 11, sz - 1].getD j 0 := ⟨_, rfl⟩
  have hst20 : st ≤ 20 := by
    have h4 : j = 0 ∨ j = 1 ∨ j = 2 ∨ j = 3 := by omega
    rcases h4 with e | e | e | e <;> rw [hst, e] <;> simp <;> omega
  have hstv : ∃ tt, [Value.int 1 s1, Value.int 7 s2, Value.int 11 s3, Value.int ((sz : Int) - 1) s4].toArray[j]? = some (.int (st : Nat) tt) := by
    have h4 : j = 0 ∨ j = 1 ∨ j = 2 ∨ j = 3 := by omega
    rcases h4 with e | e | e | e <;> rw [hst, e]
    · exact ⟨s1, rfl⟩
    · exact ⟨s2, rfl⟩
    · exact ⟨s3, rfl⟩
    · refine ⟨s4, ?_⟩
      show some (Value.int ((sz : Int) - 1) s4) = some (.int ((sz - 1 : Nat) : Int) s4)
      rw [show ((sz - 1 : Nat) : Int) = (sz : Int) - 1 by omega]
  obtain ⟨tt, hstv⟩ := hstv
  with_reducible refine' l_item' (k := j) ?e (isList_of g₇) ?hk hstv ?he ?_
  case e => omega
  case hk => omega
  case he => rfl
  walk_at "stc"
  rename_i h₈ tk₈ F8
  clear F7
  iterate 2 walk_at "go"
  obtain ⟨c0, hc0⟩ : ∃ c0 : Nat, c0 = (d1 % (sz : Int)).toNat := ⟨_, rfl⟩
  have hc1 : 0 ≤ d1 % (sz : Int) := Int.emod_nonneg _ (by omega)
  have hc2 : d1 % (sz : Int) < sz := Int.emod_lt_of_pos _ (by omega)
  have hc3 : c0 < sz := by omega
  refine' x_compA F8 [(Str.ofString "step", L + 1 + 1 + 1 + 1), (Str.ofString "size", L + 1 + 1 + 1), (Str.ofString "drawn", L + 1)] sz (fun i v => ∃ t, v = .int (i : Nat) t) (fun k y => ∃ t, y = .int ((c0 + st * k) % sz : Nat) t) ?_ ?_ ?_ ?_ ?_ ?_ ?_ ?_ ?_ ?_
  · rfl
  · rfl
  · decide +kernel
  · rfl
  · decide +kernel
  · rfl
  · rfl
  · rfl
  · intro _; rfl
  refine x_call ?_
  walk_at "blt"
  with_reducible refine' t_call1 ?_ ?_
  · rfl
  walk_at "go"
  refine r_iter (by omega) fun I h₉ tk₉ k₉ hI hr₉ => ?_
  refine compAt_range hA' F8 k₉ hI hr₉ (by rw [sizeLine_eq]; omega) ?_ ?_
  · intro C i ti s₃ h₃ tk₃ m₃ E' Q' hi' hn' hm hk hq
    have e1 : h₃.IsCell (L + 1) (some (.ref De)) := (F8.cell (Str.ofString "drawn", L + 1) (by simp [envF, lawCells])).keeps hk
    have e2 : h₃.IsCell (L + 1 + 1 + 1) (some (.int sz tsz)) := (F8.cell (Str.ofString "size", L + 1 + 1 + 1) (by simp [envF, lawCells])).keeps hk
    have e3 : h₃.IsCell (L + 1 + 1 + 1 + 1) (some (.int st tt)) := (F8.cell (Str.ofString "step", L + 1 + 1 + 1 + 1) (by simp [envF, lawCells])).keeps hk
    repeat walk_at "go"
    with_reducible refine' l_item' (k := 1) ?e (lD (F8.keep.trans hk)) ?hk ?hv ?he ?_
    case e => rfl
    case hk => decide
    case hv => simpa using v1
    case he => rfl
    repeat walk_at "go"
    with_reducible refine' i_mul ?_ fun _ _ => ?_
    · exact mulOk_small (by omega) (by omega)
    repeat walk_at "go"
    with_reducible refine' i_mod ?_ fun tm _ => ?_
    · omega
    refine hq _ _ ⟨tm, ?_⟩
    have ev : (d1 + (st : Int) * (i : Int)) % (sz : Int) = (((c0 + st * i) % sz : Nat) : Int) := by
      rw [← Int.emod_add_emod, show d1 % (sz : Int) = (c0 : Int) by omega]
      push_cast
      rfl
    rw [ev]
  · intro D h' tk' ys n hD hg hsz' hG F9
    have hyl : ys.toList.length = sz := by rw [Array.length_toList]; exact hsz'
    have hyi : IntsAre ys.toList (natI (ordN sz st c0)) := by
      have := ints_of (ys := ys.toList) (f := fun k => (c0 + st * k) % sz) fun k v hv => hG k v (by simpa using hv)
      rw [hyl] at this
      exact this
    obtain ⟨b₂, kb₂, F10, g37', g44', gO⟩ := F9.settle g37 g44
    have gO' : b₂.get? D = some (listO ys.toList.toArray n) := by simpa using gO
    clear F9 F8
    obtain ⟨inv, hinv⟩ := inv_of (j := j) hw hb hb5 hj4
    rw [← hsz, ← hst] at hinv
    walk_at "go"
    show wpAny _ _ (execs ((bodyOf (stmtAt 14)).drop 6) _) _ _ _
    refine law_mid (hBb.keeps kb₂) g37' g44' hA' (by rw [hD']; omega) (by rw [hU']; omega) hw hb hb5 (ord := ordN sz st c0) (fun x hx => ord_all hinv hc3 (by rw [hsz]; exact hx)) (fun x hx => by rw [← hsz]; exact ord_lt hx) (ord_nodup hinv hc3) (by rw [ord_len]; exact hsz20)
      F10 (tb := tb) (tw := tw) (Do := D) (Dd := De) ?_ ?_ ?_ ?_ gO' hyi (kb₂ _ _ gD) hdi hdl.2 fun h' tk' k t => ?_
    · walk_at "look"
    · walk_at "look"
    · walk_at "look"
    · walk_at "look"
    · exact q h' tk' (keptT_of (kb₁.trans (kb₂.trans k)) t)
end Mine
end
section
open PySem PySem.W PyProof.Rows
set_option maxHeartbeats 8000000
namespace Mine
open_top hd for PySem.Challenge.rw_ph0079_01
end Mine
end
section
open PySem PyProof.Rows
set_option maxHeartbeats 4000000
namespace Mine
section
variable {P : Params} {h : Heap} (X : (hd.heap_39 P).In h)
include X
theorem fn21 : FnAt h 21 1 20 := ⟨_, _, _, _, _, _, _, X 21 _ rfl, 20, _, _, _, rfl, X 20 _ rfl, rfl, rfl⟩
theorem fn28 : FnAt h 28 4 27 := ⟨_, _, _, _, _, _, _, X 28 _ rfl, 27, _, _, _, rfl, X 27 _ rfl, rfl, rfl⟩
theorem fn42 : FnAt h 42 6 41 := ⟨_, _, _, _, _, _, _, X 42 _ rfl, 41, _, _, _, rfl, X 41 _ rfl, rfl, rfl⟩
theorem fn49 : FnAt h 49 7 48 := ⟨_, _, _, _, _, _, _, X 49 _ rfl, 48, _, _, _, rfl, X 48 _ rfl, rfl, rfl⟩
theorem fn56 : FnAt h 56 8 55 := ⟨_, _, _, _, _, _, _, X 56 _ rfl, 55, _, _, _, rfl, X 55 _ rfl, rfl, rfl⟩
theorem fn63 : FnAt h 63 9 62 := ⟨_, _, _, _, _, _, _, X 63 _ rfl, 62, _, _, _, rfl, X 62 _ rfl, rfl, rfl⟩
theorem fn70 : FnAt h 70 11 69 := ⟨_, _, _, _, _, _, _, X 70 _ rfl, 69, _, _, _, rfl, X 69 _ rfl, rfl, rfl⟩
theorem fn75 : FnAt h 75 12 74 := ⟨_, _, _, _, _, _, _, X 75 _ rfl, 74, _, _, _, rfl, X 74 _ rfl, rfl, rfl⟩
theorem fn82 : FnAt h 82 13 81 := ⟨_, _, _, _, _, _, _, X 82 _ rfl, 81, _, _, _, rfl, X 81 _ rfl, rfl, rfl⟩
theorem fn87 : FnAt h 87 14 86 := ⟨_, _, _, _, _, _, _, X 87 _ rfl, 86, _, _, _, rfl, X 86 _ rfl, rfl, rfl⟩
theorem hd37 : PySem.W.CodeHd h 41 37 := PySem.W.codeHd_of_K X rfl
theorem hd44 : PySem.W.CodeHd h 48 44 := PySem.W.codeHd_of_K X rfl
theorem glob_of {mg : Str → Option Value} (g : h.Ns mainGlobals mg) : (∀ p ∈ globNames, mg p.1 = some p.2) ∧ (∀ p ∈ bltNames, mg p.1 = none) ∧ mg "_DIV_LIMIT" = some (.int 4000 199) ∧ mg "__builtins__" = some (.ref 4) ∧ mg "law" = some (.ref 87) := by
  obtain ⟨o, es, ep, e, hd, _, hm⟩ := g
  have e3 := X 3 _ rfl
  have e : h.get? 3 = some o := e
  rw [e3] at e
  cases e
  cases hd
  refine ⟨fun p hp => ?_, fun p hp => ?_, ?_, ?_, ?_⟩
  · rw [← hm]
    simp only [globNames, List.mem_cons, List.not_mem_nil, or_false] at hp
    rcases hp with rfl | rfl | rfl | rfl | rfl | rfl | rfl | rfl | rfl | rfl <;> rfl
  · rw [← hm]
    simp only [bltNames, List.mem_cons, List.not_mem_nil, or_false] at hp
    rcases hp with rfl | rfl | rfl | rfl | rfl | rfl | rfl | rfl | rfl <;> rfl
  · rw [← hm]; rfl
  · rw [← hm]; rfl
  · rw [← hm]; rfl
end
end Mine
end
section
open PySem PySem.W PyProof.Rows
set_option maxHeartbeats 8000000
namespace Mine
theorem base_of {P : Params} {h : Heap} (X : (hd.heap_39 P).In h) {q : Program} {loose : List Str} {mean : ExcName → Option Value} {mg mb : Str → Option Value} (T : Top q loose mean mg mb h) : Base h := by
  obtain ⟨g1, g2, g3, g4, _⟩ := glob_of X T.g
  obtain ⟨bm, ob, e1, e2, e3, e4⟩ := T.bmain
  have hbm : bm = 4 := by rw [g4] at e1; cases e1; rfl
  subst hbm
  refine ⟨fn21 X, fn28 X, fn42 X, fn49 X, fn56 X, fn63 X, fn70 X, fn75 X, fn82 X, T.nolimit, hd37 X, hd44 X, mg, mb, T.g, T.b, g1, fun p hp => ⟨g2 p hp, ?_⟩, ⟨199, g3⟩, ⟨4, ob, e1, e2, by decide, by decide, e3, e4⟩, ⟨4, ob, e1, e2, by decide, by decide, e3, e4⟩⟩
  simp only [bltNames, List.mem_cons, List.not_mem_nil, or_false] at hp
  rcases hp with rfl | rfl | rfl | rfl | rfl | rfl | rfl | rfl | rfl <;> (rw [T.builtins _ (by decide)]; rfl)
theorem tb_of {h : Heap} (t : ∀ P ∈ [44, 37], h.get? P = some (PySem.W.tabObj #[])) : Tb h :=
  ⟨⟨#[], t 37 (by simp), trivial, .inl rfl⟩, ⟨#[], t 44 (by simp), trivial, .inl rfl⟩⟩
theorem all_holds : PySem.Challenge.rw_ph0079_01.Holds := by
  refine hd ?_
  intro w s₀ s₁ mg mb G Y fa o pm cd doc dV kV ho hd' hcd hD hmg hg args vals as hpre hlay hrd hwl hlo
  have X := km_in_of Y
  have tabs := km_tabs_of Y
  have hB := base_of X G.T
  have hT := tb_of tabs
  have ha : fa = 87 := by
    have := (glob_of X G.T.g).2.2.2.2
    have e : mg "law" = some (.ref fa) := hmg
    rw [this] at e
    cases e
    rfl
  subst ha
  clear hmg hd' hcd hD Y ho
  wrow_args hpre hlay hrd hwl hlo
  rename List Int => ns
  rename List Value => vs
  rename Heap.IsList _ _ _ => hL
  rename IntsAre _ _ => hI
  rename ¬ (_ < _) => hc
  show wpAny (model Challenge.rw_ph0079_01.row.prog w) callerA (call (.ref 87) [.ref _]) _ _ (mk s₁ s₁.heap s₁.toks)
  refine law_call (fn87 X) hB hT rfl (by decide) (by decide) hL hI (by omega) fun h' tk' k => ?_
  refine ⟨.inl ⟨_, _, [], rfl, fun _ => rfl, ReadsW.bool true, ?_, fun _ => ⟨List.nodup_nil, fun _ hm => (nomatch hm)⟩⟩, ?_, rfl, ?_⟩
  · first | rfl | wrow_post
  · have tb := k.tabs hT
    refine ⟨fun b ob e => ?_, fun b ob e => ?_⟩
    · by_cases h1 : b = 37
      · subst h1
        have e2 := tabs 37 (by simp)
        rw [e2] at e
        cases e
        obtain ⟨ps, e3, _⟩ := tb.1
        exact .inr (.inl ⟨((hd37 X).tab e2).isCodeTable, rfl, #[], ps, rfl, by rw [show (mk s₁ h' tk').heap = h' from rfl, e3]; simp [PySem.W.tabObj]⟩)
      · by_cases h2 : b = 44
        · subst h2
          have e2 := tabs 44 (by simp)
          rw [e2] at e
          cases e
          obtain ⟨ps, e3, _⟩ := tb.2
          exact .inr (.inl ⟨((hd44 X).tab e2).isCodeTable, rfl, #[], ps, rfl, by rw [show (mk s₁ h' tk').heap = h' from rfl, e3]; simp [PySem.W.tabObj]⟩)
        · exact .inl (k.keep b ob h1 h2 e)
    · by_cases h1 : b = 37
      · subst h1
        obtain ⟨ps, e3, _⟩ := tb.1
        exact ⟨_, e3⟩
      · by_cases h2 : b = 44
        · subst h2
          obtain ⟨ps, e3, _⟩ := tb.2
          exact ⟨_, e3⟩
        · exact ⟨ob, k.keep b ob h1 h2 e⟩
  · show AllBare s₁.gens
    rw [hg]
    exact AllBare.empty
end Mine
end
set_option maxHeartbeats 8000000 in
theorem PySem.Challenge.cw_ph0079_01_holds : PySem.Challenge.rw_ph0079_01.Holds := by
  exact Mine.all_holds
