import PyProof.Rows.All
import Wide.All
import OpenK.AllK
import Wide.FinOn
import PySem.Challenge.RW_ul0013_01
set_option Elab.async false
set_option maxRecDepth 100000
set_option genSizeOf false
set_option genSizeOfSpec false
set_option genInjectivity false
noncomputable section
open PySem PySem.W PySem.Spec PySem.Calls PyProof.Rows
namespace U13

def Kp (W : Addr → Prop) (h h' : Heap) : Prop := ∀ b o, ¬ W b → h.get? b = some o → h'.get? b = some o

/-- plain values: what is frozen is told whole -/
inductive MV where
  | none | bool (b : Bool) | int (i : Int) | str (s : Str) | tup (l : List MV) | list (l : List MV) | ref (a : Addr) | fn (fd : FuncData)

mutual
def VR (X : Addr → Prop) (h : Heap) : MV → Value → Prop
  | .none, v => v = .none
  | .bool b, v => v = .bool b
  | .int i, v => ∃ t, v = .int i t
  | .str s, v => ∃ t, v = .str s t
  | .tup l, v => ∃ a vs, v = .ref a ∧ ¬ X a ∧ IsTup h a vs.toArray ∧ VRs X h l vs
  | .list l, v => ∃ a vs, v = .ref a ∧ ¬ X a ∧ h.IsList a vs.toArray ∧ VRs X h l vs
  | .ref a, v => v = .ref a
  | .fn fd, v => ∃ a o c, v = .ref a ∧ ¬ X a ∧ h.get? a = some o ∧ o.data = .func fd ∧ fd.code = .ref c ∧ ¬ X c ∧ h.CodeRec fd.code fd.qualname
def VRs (X : Addr → Prop) (h : Heap) : List MV → List Value → Prop
  | [], vs => vs = []
  | m :: l, vs => ∃ v r, vs = v :: r ∧ VR X h m v ∧ VRs X h l r
end

theorem codeStay {X Y : Addr → Prop} {h h' : Heap} {cd : Value} {q : Str} {c : Addr} (x : h.CodeRec cd q) (e : cd = .ref c) (n : ¬ X c) (k : ∀ a o, h.get? a = some o → ¬ X a → ¬ Y a ∧ h'.get? a = some o) : ¬ Y c ∧ h'.CodeRec cd q := by
  obtain ⟨c', o, vs, t, e', ho, r⟩ := x
  rw [e] at e'; cases e'
  exact ⟨(k _ _ ho n).1, _, o, vs, t, e, (k _ _ ho n).2, r⟩
mutual
theorem VR.map {X Y : Addr → Prop} {h h' : Heap} (k : ∀ a o, h.get? a = some o → ¬ X a → ¬ Y a ∧ h'.get? a = some o) : ∀ {m : MV} {v : Value}, VR X h m v → VR Y h' m v
  | .none, _, x | .bool _, _, x | .int _, _, x | .str _, _, x | .ref _, _, x => x
  | .tup _, _, ⟨a, vs, e, n, ⟨o, ho, r⟩, q⟩ => ⟨a, vs, e, (k a o ho n).1, ⟨o, (k a o ho n).2, r⟩, VRs.map k q⟩
  | .list _, _, ⟨a, vs, e, n, ⟨o, ho, r⟩, q⟩ => ⟨a, vs, e, (k a o ho n).1, ⟨o, (k a o ho n).2, r⟩, VRs.map k q⟩
  | .fn _, _, ⟨a, o, c, e, n, ho, d, hc, nc, q⟩ => ⟨a, o, c, e, (k a o ho n).1, (k a o ho n).2, d, hc, codeStay q hc nc k⟩
theorem VRs.map {X Y : Addr → Prop} {h h' : Heap} (k : ∀ a o, h.get? a = some o → ¬ X a → ¬ Y a ∧ h'.get? a = some o) : ∀ {l : List MV} {vs : List Value}, VRs X h l vs → VRs Y h' l vs
  | [], _, x => x
  | _ :: _, _, ⟨v, r, e, p, q⟩ => ⟨v, r, e, VR.map k p, VRs.map k q⟩
end

/-- the one thing that a frame may turn -/
inductive Mut where
  | none
  | lst (a : Addr) (vs : List MV)
  | row (a dx : Addr) (n : Int) (vs : List MV)
def Mut.on (μ : Mut) (b : Addr) : Prop := match μ with
  | .none => False
  | .lst a _ => b = a
  | .row a dx _ _ => b = a ∨ b = dx

/-- a code table that may grow: one code of one def within -/
structure TabD where
  c : Addr
  P : Addr
  pos : Pos
  q : Str
structure Base where
  prog : Program
  w : World
  h₁ : Heap
  mg : Str → Option Value
  mb : Str → Option Value
  tabs : List TabD
  tabHd : ∀ t ∈ tabs, W.CodeHd h₁ t.c t.P
  /-- the class of rows -/
  C : Addr
  g : h₁.Ns mainGlobals mg
  b : h₁.Ns builtinsNs mb
  bi : ∀ x : Str, x ≠ "__name__" → mb x = bootBuiltins x
  lim : h₁.NoLimit
  bm : ∃ bm ob, mg "__builtins__" = some (.ref bm) ∧ bm ≠ builtinsNs ∧ bm ≠ mainGlobals ∧ h₁.get? bm = some ob ∧ ob.cls = .type "module" ∧ ob.dict = some builtinsNs ∧ ob.data = .plain
  free : ∀ x ∈ (["len", "sum", "sorted", "range", "divmod", "abs", "reversed", "str", "super"] : List Str), mg x = none

def Base.tw (B : Base) (a : Addr) : Prop := ∃ t ∈ B.tabs, t.P = a
def Tab1 (X : Addr → Prop) (h : Heap) (t : TabD) : Prop :=
  ∃ ps, h.get? t.P = some (W.tabObj ps) ∧ (ps = #[] ∨ ∃ c', ps = #[rawInt t.pos.line, rawInt t.pos.col, .ref c'] ∧ ¬ X c' ∧ h.CodeRec (.ref c') t.q)
def Base.tab (B : Base) (X : Addr → Prop) (h : Heap) : Prop := ∀ t ∈ B.tabs, Tab1 X h t
theorem Tab1.map {X Y : Addr → Prop} {h h' : Heap} {t : TabD} (k : ∀ a o, h.get? a = some o → ¬ X a → ¬ Y a ∧ h'.get? a = some o) (kw : ∀ o, h.get? t.P = some o → h'.get? t.P = some o) : Tab1 X h t → Tab1 Y h' t := by
  rintro ⟨ps, e, r⟩
  refine ⟨ps, kw _ e, r.imp id ?_⟩
  rintro ⟨c', e', n, q⟩
  exact ⟨c', e', codeStay q rfl n k⟩
theorem Base.tabOk (B : Base) (X Y : Addr → Prop) (h h' : Heap) (k : ∀ a o, h.get? a = some o → ¬ X a → ¬ Y a ∧ h'.get? a = some o) (kw : ∀ a o, B.tw a → h.get? a = some o → h'.get? a = some o) (x : B.tab X h) : B.tab Y h' :=
  fun t ht => (x t ht).map k fun o e => kw _ o ⟨t, ht, rfl⟩ e

def rowDict (B : Base) (n : Int) (kt t : Tok) (ed : Nat) : Obj :=
  ⟨.type "dict", none, .dict #[⟨PyData.keyHash B.w.params (Str.ofString "_initial_size"), .str (Str.ofString "_initial_size") kt, .int n t⟩] ed, #[]⟩

def MutR (B : Base) (X : Addr → Prop) (h : Heap) : Mut → Prop
  | .none => True
  | .lst a l => ∃ vs n, h.get? a = some { cls := .type "list", data := .seq vs.toArray n } ∧ VRs X h l vs
  | .row a dx n l => a ≠ dx ∧ ∃ vs ep kt t ed, h.get? a = some ⟨.ref B.C, some dx, .seq vs.toArray ep, #[]⟩ ∧ h.get? dx = some (rowDict B n kt t ed) ∧ VRs X h l vs

structure Cx where
  A : Around
  env : Env
  X : Addr → Prop
  n : Nat

def Cx.xx (c : Cx) (Y : Addr → Prop) : Cx := ⟨c.A, c.env, Y, c.n⟩

structure St where
  loc : List (Str × MV)
  mu : Mut

def Own (e : Env) (x : Str) (a : Addr) : Prop := e.kindOf x = some .cell ∧ e.cells.lookup x = some a
structure Cx.Ok (B : Base) (c : Cx) : Prop where
  hh : c.A.handled = none
  hd : c.A.depth + c.n < recursionLimit
  hu : c.A.units + 10 * c.n < cLine
  hk : c.env.scope.kind = .function
  hg : c.env.globals = mainGlobals
  hb : c.env.builtins = builtinsNs
  hL : B.h₁.get? c.env.locals = none ∧ c.X c.env.locals
  hC : ∀ x a, Own c.env x a → c.X a ∧ a ≠ c.env.locals ∧ B.h₁.get? a = none
  hI : ∀ x y a, Own c.env x a → Own c.env y a → x = y
  hc : ∀ x, c.env.kindOf x = some .cell → ∃ a, c.env.cells.lookup x = some a

/-- what a call may turn -/
def WrC (B : Base) (μ : Mut) (a : Addr) : Prop := μ.on a ∨ B.tw a

/-- what stands beside the frames -/
structure Inv (B : Base) (X : Addr → Prop) (μ : Mut) (h : Heap) (g : Array GenState) : Prop where
  base : ∀ b o, B.h₁.get? b = some o → h.get? b = some o
  mu : MutR B X h μ
  tab : B.tab X h
  wr : ∀ a, WrC B μ a → X a ∧ B.h₁.get? a = none ∧ ∃ o, h.get? a = some o
  gens : AllBare g
  ex : ∀ a, X a → ∃ o, h.get? a = some o
  ot : ∀ a, μ.on a → ¬ B.tw a

/-- what a frame may turn -/
def Wr (B : Base) (c : Cx) (μ : Mut) (a : Addr) : Prop := a = c.env.locals ∨ (∃ x, Own c.env x a) ∨ WrC B μ a

def Locs (B : Base) (c : Cx) (h : Heap) (loc : List (Str × MV)) : Prop :=
  ∃ m, h.Ns c.env.locals m ∧ ∀ x v, loc.lookup x = some v → ∃ v', ((c.env.kindOf x = some .local ∧ m x = some v') ∨ (∃ a, Own c.env x a ∧ h.IsCell a (some v')) ∨
    (c.env.kindOf x = some .free ∧ ∃ a, c.env.cells.lookup x = some a ∧ B.h₁.IsCell a (some v'))) ∧ VR c.X h v v'

structure Rel (B : Base) (c : Cx) (σ : St) (h : Heap) (g : Array GenState) : Prop where
  ok : c.Ok B
  inv : Inv B c.X σ.mu h g
  loc : Locs B c h σ.loc
  cell : ∀ x a, Own c.env x a → ∃ v, h.IsCell a v
  off : ∀ a, WrC B σ.mu a → a ≠ c.env.locals ∧ ∀ x, ¬ Own c.env x a

structure Go (B : Base) (c : Cx) (σ σ' : St) (s s' : Shared) : Prop where
  kp : Kp (Wr B c σ.mu) s.heap s'.heap
  os : s'.os = s.os
  new : ∀ a, σ'.mu.on a → σ.mu.on a ∨ s.heap.get? a = none
  rel : Rel B c σ' s'.heap s'.gens

section
variable {B : Base} {c : Cx} {σ σ' σ₁ σ₂ : St} {s s' s₁ s₂ : Shared} {h h' : Heap} {g : Array GenState}

theorem Rel.wr (R : Rel B c σ h g) {a : Addr} (w : Wr B c σ.mu a) : c.X a ∧ B.h₁.get? a = none ∧ ∃ o, h.get? a = some o := by
  rcases w with rfl | ⟨x, hx⟩ | w
  · obtain ⟨m, ⟨o, _, _, ho, _⟩, _⟩ := R.loc
    exact ⟨R.ok.hL.2, R.ok.hL.1, o, ho⟩
  · obtain ⟨v, o, ho, _⟩ := R.cell x a hx
    exact ⟨(R.ok.hC x a hx).1, (R.ok.hC x a hx).2.2, o, ho⟩
  · exact R.inv.wr a w
theorem Go.refl (R : Rel B c σ s.heap s.gens) : Go B c σ σ s s := ⟨fun _ _ _ e => e, rfl, fun _ h => .inl h, R⟩
theorem Go.trans (R : Rel B c σ s.heap s.gens) (x : Go B c σ σ₁ s s₁) (y : Go B c σ₁ σ₂ s₁ s₂) : Go B c σ σ₂ s s₂ := by
  have up : ∀ b o, s.heap.get? b = some o → Wr B c σ₁.mu b → Wr B c σ.mu b := by
    rintro b o e (h | h | h | h)
    · exact .inl h
    · exact .inr (.inl h)
    · rcases x.new b h with q | q
      · exact .inr (.inr (.inl q))
      · rw [e] at q; cases q
    · exact .inr (.inr (.inr h))
  refine ⟨fun b o n e => y.kp b o (fun q => n (up b o e q)) (x.kp b o n e), y.os.trans x.os, fun a h => ?_, y.rel⟩
  rcases y.new a h with q | q
  · exact x.new a q
  · cases e : s.heap.get? a with
    | none => exact .inr rfl
    | some o =>
      by_cases hw : Wr B c σ.mu a
      · rcases hw with h' | h' | h' | h'
        · obtain ⟨_, _, o, ho⟩ := x.rel.wr (.inl h'); rw [ho] at q; cases q
        · obtain ⟨_, _, o, ho⟩ := x.rel.wr (.inr (.inl h')); rw [ho] at q; cases q
        · exact .inl h'
        · obtain ⟨_, _, o, ho⟩ := x.rel.wr (.inr (.inr (.inr h'))); rw [ho] at q; cases q
      · have := x.kp a o hw e; rw [this] at q; cases q
/-- a value stays through a step -/
theorem Go.vr (R : Rel B c σ s.heap s.gens) (x : Go B c σ σ' s s') {v : MV} {v' : Value} (q : VR c.X s.heap v v') : VR c.X s'.heap v v' :=
  q.map fun a o e n => ⟨n, x.kp a o (fun w => n (R.wr w).1) e⟩
theorem Go.vrs (R : Rel B c σ s.heap s.gens) (x : Go B c σ σ' s s') {v : List MV} {v' : List Value} (q : VRs c.X s.heap v v') : VRs c.X s'.heap v v' :=
  q.map fun a o e n => ⟨n, x.kp a o (fun w => n (R.wr w).1) e⟩

theorem Inv.map {X Y : Addr → Prop} {μ : Mut} {g' : Array GenState} (I : Inv B X μ h g) (k : ∀ a o, h.get? a = some o → ¬ X a → ¬ Y a ∧ h'.get? a = some o) (kw : ∀ a o, WrC B μ a → h.get? a = some o → h'.get? a = some o)
    (kb : ∀ b o, B.h₁.get? b = some o → h.get? b = some o → h'.get? b = some o) (hY : ∀ a, WrC B μ a → Y a) (hg : AllBare g') (hx : ∀ a, Y a → ∃ o, h'.get? a = some o) : Inv B Y μ h' g' where
  base := fun b o e => kb b o e (I.base b o e)
  mu := match μ, I.mu, kw with
    | .none, _, _ => trivial
    | .lst _ _, ⟨vs, n, e, q⟩, kw => ⟨vs, n, kw _ _ (.inl rfl) e, q.map k⟩
    | .row _ _ _ _, ⟨n, vs, ep, kt, t, ed, e1, e2, q⟩, kw => ⟨n, vs, ep, kt, t, ed, kw _ _ (.inl (.inl rfl)) e1, kw _ _ (.inl (.inr rfl)) e2, q.map k⟩
  tab := B.tabOk X Y h h' k (fun a o w e => kw a o (.inr w) e) I.tab
  wr := fun a w => let ⟨_, b, o, e⟩ := I.wr a w; ⟨hY a w, b, o, kw a o w e⟩
  gens := hg
  ex := hx
  ot := I.ot
theorem Locs.map {Y : Addr → Prop} {l : List (Str × MV)} (R : Locs B c h l) (k : ∀ a o, h.get? a = some o → ¬ c.X a → ¬ Y a ∧ h'.get? a = some o) (kw : ∀ a o, (a = c.env.locals ∨ ∃ x, Own c.env x a) → h.get? a = some o → h'.get? a = some o) : Locs B (c.xx Y) h' l := by
  obtain ⟨m, ⟨o, es, ep, ho, r⟩, q⟩ := R
  refine ⟨m, ⟨o, es, ep, kw _ _ (.inl rfl) ho, r⟩, fun x v e => ?_⟩
  obtain ⟨v', a, b⟩ := q x v e
  refine ⟨v', a.imp id (Or.imp ?_ id), b.map k⟩
  rintro ⟨d, e, o, ho, f⟩
  exact ⟨d, e, o, kw _ _ (.inr ⟨x, e⟩) ho, f⟩
/-- a frame whose own things stand -/
theorem Rel.move {Y : Addr → Prop} (R : Rel B c σ h g) (ok : (c.xx Y).Ok B) (k : ∀ a o, h.get? a = some o → ¬ c.X a → ¬ Y a ∧ h'.get? a = some o) (kw : ∀ a o, Wr B c σ.mu a → h.get? a = some o → h'.get? a = some o)
    (kb : ∀ b o, B.h₁.get? b = some o → h.get? b = some o → h'.get? b = some o) (hY : ∀ a, WrC B σ.mu a → Y a) (hx : ∀ a, Y a → ∃ o, h'.get? a = some o) : Rel B (c.xx Y) σ h' g := by
  refine ⟨ok, R.inv.map k (fun a o w e => kw a o (.inr (.inr w)) e) kb hY R.inv.gens hx, R.loc.map k fun a o w e => kw a o (w.imp id .inl) e, fun x a e => ?_, R.off⟩
  obtain ⟨v, o, ho, q⟩ := R.cell x a e
  exact ⟨v, o, kw a o (.inr (.inl ⟨x, e⟩)) ho, q⟩
theorem Rel.ext (R : Rel B c σ h g) (k : ∀ b o, h.get? b = some o → h'.get? b = some o) : Rel B c σ h' g :=
  R.move (Y := c.X) R.ok (fun a o e n => ⟨n, k a o e⟩) (fun a o _ e => k a o e) (fun b o _ e => k b o e) (fun a w => (R.inv.wr a w).1) fun a w => (R.inv.ex a w).imp (k a)
theorem Go.ext (R : Rel B c σ s.heap s.gens) (k : ∀ b o, s.heap.get? b = some o → s'.heap.get? b = some o) (os : s'.os = s.os) (g : s'.gens = s.gens) : Go B c σ σ s s' :=
  ⟨fun b o _ e => k b o e, os, fun _ h => .inl h, g ▸ R.ext k⟩
theorem Go.toks (R : Rel B c σ s.heap s.gens) {t : Nat} : Go B c σ σ s { s with toks := t } := ⟨fun _ _ _ e => e, rfl, fun _ h => .inl h, R⟩
theorem Go.push (R : Rel B c σ s.heap s.gens) (o : Obj) {t : Nat} : Go B c σ σ s { s with heap := s.heap.push o, toks := t } :=
  ⟨fun _ _ _ e => Heap.get?_push_of_some _ e, rfl, fun _ h => .inl h, R.ext fun _ _ e => Heap.get?_push_of_some _ e⟩

theorem Rel.drop {l : List (Str × MV)} (R : Rel B c σ h g) (k : ∀ x v, l.lookup x = some v → σ.loc.lookup x = some v) : Rel B c ⟨l, σ.mu⟩ h g :=
  ⟨R.ok, R.inv, let ⟨m, hm, q⟩ := R.loc; ⟨m, hm, fun x v e => q x v (k x v e)⟩, R.cell, R.off⟩

/-- a local is bound -/
theorem Rel.local {x : Str} {v : MV} {v' : Value} {m : Str → Option Value} (R : Rel B c σ h g) (hm : h.Ns c.env.locals m) (hx : c.env.kindOf x = some .local) (q : VR c.X h v v')
    (hn : h'.Ns c.env.locals fun y => if y = x then some v' else m y) (hs : Heap.SameBut c.env.locals h h') : Rel B c ⟨(x, v) :: σ.loc, σ.mu⟩ h' g := by
  have k : ∀ a o, h.get? a = some o → ¬ c.X a → ¬ c.X a ∧ h'.get? a = some o := fun a o e n => ⟨n, (hs.2 a fun w => n (w ▸ R.ok.hL.2)).trans e⟩
  refine ⟨R.ok, R.inv.map k (fun a o w e => (hs.2 a (R.off a w).1).trans e) (fun b o w e => (hs.2 b fun q => ?_).trans e) (fun a w => (R.inv.wr a w).1) R.inv.gens fun a w => ?_, ?_, fun y a e => ?_, R.off⟩
  · rw [q, R.ok.hL.1] at w; cases w
  · by_cases ha : a = c.env.locals
    · obtain ⟨o, _, _, ho, _⟩ := hn; exact ⟨o, ha ▸ ho⟩
    · exact (R.inv.ex a w).imp fun o e => (hs.2 a ha).trans e
  · obtain ⟨m', hm', r⟩ := R.loc
    have em : m' = m := by
      obtain ⟨o, es, ep, ho, hd, _, hf⟩ := hm
      obtain ⟨o', es', ep', ho', hd', _, hf'⟩ := hm'
      rw [ho] at ho'; cases ho'; rw [hd] at hd'; cases hd'
      funext y; rw [← hf, ← hf']
    subst em
    refine ⟨_, hn, fun y u e => ?_⟩
    by_cases hy : y = x
    · subst hy
      simp only [List.lookup_cons, beq_self_eq_true] at e
      cases e
      exact ⟨v', .inl ⟨hx, if_pos rfl⟩, q.map k⟩
    · have hb : (y == x) = false := beq_eq_false_iff_ne.mpr hy
      simp only [List.lookup_cons, hb] at e
      obtain ⟨u', a, b⟩ := r y u e
      exact ⟨u', a.imp (fun ⟨p, d⟩ => ⟨p, (if_neg hy).trans d⟩) (Or.imp (fun ⟨a', d, f⟩ => ⟨a', d, f.sameBut hs (R.ok.hC y a' d).2.1⟩) id), b.map k⟩
  · obtain ⟨u, q⟩ := R.cell y a e
    exact ⟨u, q.sameBut hs (R.ok.hC y a e).2.1⟩
/-- a cell is bound -/
theorem Rel.store {x : Str} {a : Addr} {v : MV} {v' : Value} (R : Rel B c σ h g) (ha : Own c.env x a) (q : VR c.X h v v')
    (hn : h'.IsCell a (some v')) (hs : Heap.SameBut a h h') : Rel B c ⟨(x, v) :: σ.loc, σ.mu⟩ h' g := by
  obtain ⟨hX, hal, hb⟩ := R.ok.hC x a ha
  have k : ∀ b o, h.get? b = some o → ¬ c.X b → ¬ c.X b ∧ h'.get? b = some o := fun b o e n => ⟨n, (hs.2 b fun w => n (w ▸ hX)).trans e⟩
  have kc : ∀ {b : Addr} {y : Str} {u : Option Value}, Own c.env y b → y ≠ x → h.IsCell b u → h'.IsCell b u := fun hb' hy f => f.sameBut hs fun w => hy (R.ok.hI _ _ _ (w ▸ hb') ha)
  refine ⟨R.ok, R.inv.map k (fun b o w e => (hs.2 b fun q => (R.off b w).2 x (q ▸ ha)).trans e) (fun b o w e => (hs.2 b fun q => ?_).trans e) (fun b w => (R.inv.wr b w).1) R.inv.gens fun b w => ?_, ?_, fun y b e => ?_, R.off⟩
  · rw [q, hb] at w; cases w
  · by_cases hx' : b = a
    · obtain ⟨o, ho, _⟩ := hn; exact ⟨o, hx' ▸ ho⟩
    · exact (R.inv.ex b w).imp fun o e => (hs.2 b hx').trans e
  · obtain ⟨m, hm, r⟩ := R.loc
    refine ⟨m, hm.sameBut hs (Ne.symm hal), fun y u e => ?_⟩
    by_cases hy : y = x
    · subst hy
      simp only [List.lookup_cons, beq_self_eq_true] at e
      cases e
      exact ⟨v', .inr (.inl ⟨a, ha, hn⟩), q.map k⟩
    · have hb : (y == x) = false := beq_eq_false_iff_ne.mpr hy
      simp only [List.lookup_cons, hb] at e
      obtain ⟨u', w, z⟩ := r y u e
      exact ⟨u', w.imp id (Or.imp (fun ⟨b, d, f⟩ => ⟨b, d, kc d hy f⟩) id), z.map k⟩
  · by_cases hy : y = x
    · subst hy; have := e.2; rw [ha.2] at this; cases this; exact ⟨_, hn⟩
    · obtain ⟨u, q⟩ := R.cell y b e
      exact ⟨u, kc e hy q⟩
end

/-- an expression's value -/
def EvE (B : Base) (c : Cx) (e : Expr) (σ : St) (v : MV) (σ' : St) : Prop :=
  ∀ s, Rel B c σ s.heap s.gens → wpAny (model B.prog B.w) c.A (eval e c.env) (fun v' s' => Go B c σ σ' s s' ∧ VR c.X s'.heap v v') (fun _ _ => False) s
/-- a row of expressions' values -/
def EvL (B : Base) (c : Cx) (es : List Expr) (σ : St) (v : List MV) (σ' : St) : Prop :=
  v.length = es.length ∧ ∀ pos s, Rel B c σ s.heap s.gens → wpAny (model B.prog B.w) c.A (spliced (backTo pos (starEach es c.env))) (fun v' s' => Go B c σ σ' s s' ∧ VRs c.X s'.heap v v') (fun _ _ => False) s
/-- a test's answer -/
def EvT (B : Base) (c : Cx) (e : Expr) (σ : St) (b : Bool) (σ' : St) : Prop :=
  ∀ s, Rel B c σ s.heap s.gens → wpAny (model B.prog B.w) c.A (isTrue e c.env (eval e c.env)) (fun b' s' => Go B c σ σ' s s' ∧ b' = b) (fun _ _ => False) s
inductive MF where
  | next | brk | cont | ret (v : MV)
def FR (X : Addr → Prop) (h : Heap) (f : MF) (f' : Flow) : Prop := match f with
  | .next => f' = .next
  | .brk => f' = .brk
  | .cont => f' = .cont
  | .ret v => ∃ v', f' = .ret v' ∧ VR X h v v'
def EvS (B : Base) (c : Cx) (st : Stmt) (σ : St) (f : MF) (σ' : St) : Prop :=
  ∀ s, Rel B c σ s.heap s.gens → wpAny (model B.prog B.w) c.A (exec st c.env) (fun f' s' => Go B c σ σ' s s' ∧ FR c.X s'.heap f f') (fun _ _ => False) s
def EvSs (B : Base) (c : Cx) (sts : List Stmt) (σ : St) (f : MF) (σ' : St) : Prop :=
  ∀ s, Rel B c σ s.heap s.gens → wpAny (model B.prog B.w) c.A (execs sts c.env) (fun f' s' => Go B c σ σ' s s' ∧ FR c.X s'.heap f f') (fun _ _ => False) s
/-- a call's answer: what a def does, told apart from its callers -/
def CallP (B : Base) (n : Nat) (f : Value) (args : List MV) (μ : Mut) (v : MV) (μ' : Mut) : Prop :=
  ∀ (A : Around) (X : Addr → Prop) s vs, A.handled = none → A.depth + n < recursionLimit → A.units + 10 * n < cLine → Inv B X μ s.heap s.gens → VRs X s.heap args vs →
    wpAny (model B.prog B.w) A (call f vs) (fun v' s' => Kp (WrC B μ) s.heap s'.heap ∧ s'.os = s.os ∧ Inv B X μ' s'.heap s'.gens ∧ VR X s'.heap v v') (fun _ _ => False) s
end U13
end
noncomputable section
open PySem PySem.W PySem.Spec PySem.Calls PyProof.Rows
namespace U13
section
variable {B : Base} {c : Cx} {σ σ' σ₁ σ₂ σ₃ : St} {v v₁ v₂ : MV} {vs : List MV} {f : MF} {e e₁ e₂ : Expr} {pos p₁ p₂ : Pos} {b : Bool}

theorem EvE.use (H : EvE B c e σ v σ') {s : Shared} {Q : Value → Shared → Prop} {E : Value → Shared → Prop} (R : Rel B c σ s.heap s.gens)
    (k : ∀ v' s', Go B c σ σ' s s' → VR c.X s'.heap v v' → Q v' s') : wpAny (model B.prog B.w) c.A (eval e c.env) Q E s :=
  wpAny_mono (H s R) (fun v' s' q => k v' s' q.1 q.2) fun _ _ q => q.elim
theorem EvT.use (H : EvT B c e σ b σ') {s : Shared} {Q : Bool → Shared → Prop} {E : Value → Shared → Prop} (R : Rel B c σ s.heap s.gens)
    (k : ∀ s', Go B c σ σ' s s' → Q b s') : wpAny (model B.prog B.w) c.A (isTrue e c.env (eval e c.env)) Q E s :=
  wpAny_mono (H s R) (fun _ s' q => q.2 ▸ k s' q.1) fun _ _ q => q.elim
theorem EvL.use (H : EvL B c es σ vs σ') {s : Shared} {Q : List Value → Shared → Prop} {E : Value → Shared → Prop} (R : Rel B c σ s.heap s.gens)
    (k : ∀ v' s', Go B c σ σ' s s' → VRs c.X s'.heap vs v' → Q v' s') : wpAny (model B.prog B.w) c.A (spliced (backTo pos (starEach es c.env))) Q E s :=
  wpAny_mono (H.2 pos s R) (fun v' s' q => k v' s' q.1 q.2) fun _ _ q => q.elim
theorem EvSs.use (H : EvSs B c sts σ f σ') {s : Shared} {Q : Flow → Shared → Prop} {E : Value → Shared → Prop} (R : Rel B c σ s.heap s.gens)
    (k : ∀ f' s', Go B c σ σ' s s' → FR c.X s'.heap f f' → Q f' s') : wpAny (model B.prog B.w) c.A (execs sts c.env) Q E s :=
  wpAny_mono (H s R) (fun v' s' q => k v' s' q.1 q.2) fun _ _ q => q.elim

theorem EvL.nil : EvL B c [] σ [] σ := ⟨rfl, fun _ _ R => args_nil ⟨.refl R, rfl⟩⟩
theorem EvL.cons {es : List Expr} (H : EvE B c e σ v σ₁) (K : EvL B c es σ₁ vs σ₂)
    (he : starEach (e :: es) c.env = (false, eval e c.env) :: starEach es c.env := by rfl) : EvL B c (e :: es) σ (v :: vs) σ₂ := ⟨congrArg (· + 1) K.1, fun _ _ R =>
  args_cons (H.use R fun v' _ g q => K.use g.rel fun vs' _ g' q' => ⟨g.trans R g', v', vs', rfl, g'.vr g.rel q, q'⟩) he⟩

-- names
theorem EvE.name {x : Str} (hv : σ.loc.lookup x = some v) (hd : (x == ("__debug__" : Str)) = false := by decide) (hn : (x == ("__classdict__" : Str)) = false := by decide) : EvE B c (.Name x pos) σ v σ := fun s R => by
  obtain ⟨m, hm, q⟩ := R.loc
  obtain ⟨v', w, r⟩ := q x v hv
  refine wpAny_Name ?_ hd
  rcases w with ⟨hk, h⟩ | ⟨a, ⟨hk, ha⟩, hc⟩ | ⟨hk, a, ha, hc⟩
  · exact wpAny_loadName_local R.ok.hk hk hm h ⟨.refl R, r⟩
  · exact wpAny_loadName_cell R.ok.hk hk ha hc ⟨.refl R, r⟩
  · exact wpAny_loadName_free R.ok.hk hk ha (hc.keeps R.inv.base) ⟨.refl R, r⟩ hn

-- written values
theorem EvE.int {i : Int} {k : Nat} : EvE B c (.Constant (.int i) k pos) σ (.int i) σ := fun s R => wpAny_Constant_int ⟨.toks R, s.toks, rfl⟩

-- operators
def OpR (B : Base) (c : Cx) (t : Value → Value → Sem Value) (a b v : MV) : Prop :=
  ∀ σ s x y, Rel B c σ s.heap s.gens → VR c.X s.heap a x → VR c.X s.heap b y → wpAny (model B.prog B.w) c.A (t x y) (fun v' s' => Go B c σ σ s s' ∧ VR c.X s'.heap v v') (fun _ _ => False) s
theorem EvE.bin {op : Operator} (H : EvE B c e₁ σ v₁ σ₁) (K : EvE B c e₂ σ₁ v₂ σ₂) (O : OpR B c (binaryOp op) v₁ v₂ v) : EvE B c (.BinOp e₁ op e₂ pos) σ v σ₂ := fun _ R =>
  wpAny_BinOp (H.use R fun _ _ g q => K.use g.rel fun _ s₂ g' q' => wpAny_mono (O σ₂ s₂ _ _ g'.rel (g'.vr g.rel q) q') (fun _ _ z => ⟨(g.trans R g').trans R z.1, z.2⟩) fun _ _ z => z.elim)
theorem EvE.cmp {op : CmpOp} (H : EvE B c e₁ σ v₁ σ₁) (K : EvE B c e₂ σ₁ v₂ σ₂) (O : OpR B c (compareOp op) v₁ v₂ v) (hm : behindInMarks op e₂ = false := by with_unfolding_all rfl) : EvE B c (.Compare e₁ [op] [e₂] pos) σ v σ₂ := fun _ R =>
  wpAny_Compare1 (H.use R fun _ _ g q => K.use g.rel fun _ s₂ g' q' => wpAny_mono (O σ₂ s₂ _ _ g'.rel (g'.vr g.rel q) q') (fun _ _ z => ⟨(g.trans R g').trans R z.1, z.2⟩) fun _ _ z => z.elim) hm
theorem EvT.cmp {op : CmpOp} (H : EvE B c e₁ σ v₁ σ₁) (K : EvE B c e₂ σ₁ v₂ σ₂) (O : OpR B c (compareOp op) v₁ v₂ (.bool b)) (hm : behindInMarks op e₂ = false := by with_unfolding_all rfl) : EvT B c (.Compare e₁ [op] [e₂] pos) σ b σ₂ := fun _ R =>
  wpAny_isTrue_Compare1 (H.use R fun _ _ g q => K.use g.rel fun _ s₂ g' q' => wpAny_mono (O σ₂ s₂ _ _ g'.rel (g'.vr g.rel q) q')
    (fun _ _ z => by obtain ⟨z, rfl⟩ := z; exact wpAny_truthy_bool ⟨(g.trans R g').trans R z, rfl⟩) fun _ _ z => z.elim) hm

theorem OpR.add {i j : Int} : OpR B c (binaryOp .Add) (.int i) (.int j) (.int (i + j)) := fun _ _ _ _ R ⟨_, e⟩ ⟨_, e'⟩ => e ▸ e' ▸ add_int ⟨.toks R, _, rfl⟩
theorem OpR.sub {i j : Int} : OpR B c (binaryOp .Sub) (.int i) (.int j) (.int (i - j)) := fun _ _ _ _ R ⟨_, e⟩ ⟨_, e'⟩ => e ▸ e' ▸ sub_int ⟨.toks R, _, rfl⟩
theorem OpR.mul {i j : Int} (h : IntMulOk i j) : OpR B c (binaryOp .Mult) (.int i) (.int j) (.int (i * j)) := fun _ _ _ _ R ⟨_, e⟩ ⟨_, e'⟩ => e ▸ e' ▸ mul_int ⟨.toks R, _, rfl⟩ h
theorem OpR.mod {i j : Int} (h : j ≠ 0) : OpR B c (binaryOp .Mod) (.int i) (.int j) (.int (i.fmod j)) := fun _ _ _ _ R ⟨_, e⟩ ⟨_, e'⟩ => e ▸ e' ▸ mod_int' h ⟨.toks R, _, rfl⟩
theorem OpR.eq {i j : Int} : OpR B c (compareOp .Eq) (.int i) (.int j) (.bool (i == j)) := fun _ _ _ _ R ⟨_, e⟩ ⟨_, e'⟩ => e ▸ e' ▸ eq_int ⟨.refl R, rfl⟩
theorem OpR.ne {i j : Int} : OpR B c (compareOp .NotEq) (.int i) (.int j) (.bool (i != j)) := fun _ _ _ _ R ⟨_, e⟩ ⟨_, e'⟩ => e ▸ e' ▸ ne_int ⟨.refl R, rfl⟩
theorem OpR.lt {i j : Int} : OpR B c (compareOp .Lt) (.int i) (.int j) (.bool (decide (i < j))) := fun _ _ _ _ R ⟨_, e⟩ ⟨_, e'⟩ => e ▸ e' ▸ lt_int ⟨.refl R, rfl⟩
theorem OpR.le {i j : Int} : OpR B c (compareOp .LtE) (.int i) (.int j) (.bool (decide (i ≤ j))) := fun _ _ _ _ R ⟨_, e⟩ ⟨_, e'⟩ => e ▸ e' ▸ le_int ⟨.refl R, rfl⟩

-- statements
theorem EvSs.nil : EvSs B c [] σ .next σ := fun _ R => wpAny_execs_nil ⟨.refl R, rfl⟩
theorem EvSs.cons {st : Stmt} {sts : List Stmt} (H : EvS B c st σ .next σ₁) (K : EvSs B c sts σ₁ f σ₂) : EvSs B c (st :: sts) σ f σ₂ := fun s R =>
  wpAny_execs_cons (wpAny_mono (H s R) (fun f' s₁ z => by obtain ⟨g, rfl⟩ := z; exact K.use g.rel fun _ _ g' q => ⟨g.trans R g', q⟩) fun _ _ z => z.elim)
theorem EvSs.ret {st : Stmt} {sts : List Stmt} (H : EvS B c st σ (.ret v) σ₁) : EvSs B c (st :: sts) σ (.ret v) σ₁ := fun s R =>
  wpAny_execs_cons (wpAny_mono (H s R) (fun f' s₁ z => by obtain ⟨g, w, rfl, q⟩ := z; exact ⟨g, w, rfl, q⟩) fun _ _ z => z.elim)
theorem EvSs.brk {st : Stmt} {sts : List Stmt} (H : EvS B c st σ .brk σ₁) : EvSs B c (st :: sts) σ .brk σ₁ := fun s R =>
  wpAny_execs_cons (wpAny_mono (H s R) (fun f' s₁ z => by obtain ⟨g, rfl⟩ := z; exact ⟨g, rfl⟩) fun _ _ z => z.elim)
theorem EvS.ret (H : EvE B c e σ v σ₁) : EvS B c (.Return (some e) pos) σ (.ret v) σ₁ := fun _ R => wpAny_Return_some (H.use R fun _ _ g q => ⟨g, _, rfl, q⟩)

theorem store {x : Str} {s : Shared} {v' : Value} {Q : Unit → Shared → Prop} {E : Value → Shared → Prop} (R : Rel B c σ s.heap s.gens) (hk : c.env.kindOf x = some .local ∨ c.env.kindOf x = some .cell) (q : VR c.X s.heap v v')
    (h : ∀ s', Go B c σ ⟨(x, v) :: σ.loc, σ.mu⟩ s s' → Q () s') : wpAny (model B.prog B.w) c.A (storeName c.env x v') Q E s := by
  rcases hk with hk | hk
  · obtain ⟨m, hm, r⟩ := R.loc
    refine wpAny_storeName_local hk hm (fun h' hn hs => h _ ⟨fun b o n e => (hs.2 b fun w => n (.inl w)).trans e, rfl, fun _ w => .inl w, R.local hm hk q hn hs⟩) ?_
    rw [R.ok.hk]; rfl
  · obtain ⟨a, ha⟩ := R.ok.hc x hk
    obtain ⟨u, hu⟩ := R.cell x a ⟨hk, ha⟩
    exact wpAny_storeName_cell R.ok.hk hk ha hu fun h' hn hs => h _ ⟨fun b o n e => (hs.2 b fun w => n (.inr (.inl ⟨x, w ▸ ⟨hk, ha⟩⟩))).trans e, rfl, fun _ w => .inl w, R.store ⟨hk, ha⟩ q hn hs⟩
theorem EvS.assign {x : Str} (H : EvE B c e σ v σ₁) (hk : c.env.kindOf x = some .local ∨ c.env.kindOf x = some .cell := by first | exact .inl rfl | exact .inr rfl) (hs : swapsWith e (some (.Name x p₁)) pos.line c.env = pure false := by rfl) :
    EvS B c (.Assign [.Name x p₁] e pos) σ .next ⟨(x, v) :: σ₁.loc, σ₁.mu⟩ := fun _ R =>
  wpAny_Assign_Name (H.use R fun _ _ g q => store g.rel hk q fun _ g' => ⟨g.trans R g', rfl⟩) hs

theorem EvS.if {test : Expr} {t f' : List Stmt} (H : EvT B c test σ b σ₁) (K : EvSs B c (if b then t else f') σ₁ f σ₂) : EvS B c (.If test t f' pos) σ f σ₂ := fun _ R =>
  wpAny_If (H.use R fun _ g => by
    cases b
    · exact K.use g.rel fun _ _ g' q => ⟨g.trans R g', q⟩
    · exact K.use g.rel fun _ _ g' q => ⟨g.trans R g', q⟩)

/-- a while by its turns -/
theorem EvS.while {test : Expr} {body : List Stmt} (N : Nat) (τ ρ : Nat → St) (h0 : τ 0 = σ)
    (H : ∀ i, i < N → EvT B c test (τ i) true (ρ i) ∧ EvSs B c body (ρ i) .next (τ (i + 1))) (K : EvT B c test (τ N) false σ') : EvS B c (.While test body [] pos) σ .next σ' := fun s R => by
  refine wpAny_While (codeAny_whileLoop (fun k s' => ∃ i, k = N - i ∧ i ≤ N ∧ Go B c σ (τ i) s s') (fun k s₁ z => ?_) N ⟨0, rfl, Nat.zero_le _, h0.symm ▸ .refl R⟩)
  obtain ⟨i, rfl, hi, g⟩ := z
  by_cases h : i < N
  · refine (H i h).1.use g.rel fun s₂ g₂ => ?_
    rw [if_pos rfl]
    refine (H i h).2.use g₂.rel fun f' s₃ g₃ q => ?_
    cases q
    exact ⟨_, Nat.sub_lt_sub_left h (Nat.lt_succ_self i), i + 1, rfl, h, (g.trans R g₂).trans R g₃⟩
  · have e : i = N := Nat.le_antisymm hi (Nat.le_of_not_lt h)
    subst e
    refine K.use g.rel fun s₂ g₂ => ?_
    rw [if_neg Bool.false_ne_true]
    exact wpAny_execs_nil ⟨g.trans R g₂, rfl⟩
end
end U13
end
noncomputable section
open PySem PySem.W PySem.Spec PySem.Calls PyProof.Rows
namespace U13

def PR (X : Addr → Prop) (h : Heap) : List (Str × MV) → List (Str × Value) → Prop
  | [], l => l = []
  | (x, v) :: l, r => ∃ v' r', r = (x, v') :: r' ∧ VR X h v v' ∧ PR X h l r'
theorem PR.lookup {X : Addr → Prop} {h : Heap} {x : Str} {v : MV} : ∀ {l : List (Str × MV)} {r : List (Str × Value)}, PR X h l r → l.lookup x = some v → ∃ v', r.lookup x = some v' ∧ VR X h v v'
  | [], _, _, e => nomatch e
  | (y, u) :: l, _, ⟨u', r', rfl, q, p⟩, e => by
    rw [List.lookup_cons] at e ⊢
    by_cases hx : (x == y) = true
    · rw [hx] at e ⊢; cases e; exact ⟨u', rfl, q⟩
    · rw [Bool.not_eq_true] at hx; rw [hx] at e ⊢; exact PR.lookup p e
theorem PR.app {X : Addr → Prop} {h : Heap} {l' : List (Str × MV)} {r' : List (Str × Value)} (q : PR X h l' r') : ∀ {l : List (Str × MV)} {r : List (Str × Value)}, PR X h l r → PR X h (l ++ l') (r ++ r')
  | [], _, rfl => q
  | (_, _) :: _, _, ⟨u', _, rfl, a, b⟩ => ⟨u', _, rfl, a, PR.app q b⟩
theorem PR.rev {X : Addr → Prop} {h : Heap} : ∀ {l : List (Str × MV)} {r : List (Str × Value)}, PR X h l r → PR X h l.reverse r.reverse
  | [], _, rfl => rfl
  | (_, _) :: _, _, ⟨u', _, rfl, a, b⟩ => by rw [List.reverse_cons, List.reverse_cons]; exact PR.app (show PR X h [_] [_] from ⟨u', [], rfl, a, rfl⟩) (PR.rev b)
theorem PR.zip {X : Addr → Prop} {h : Heap} : ∀ {ns : List Str} {l : List MV} {r : List Value}, VRs X h l r → PR X h (ns.zip l) (ns.zip r)
  | [], _, _, _ => rfl
  | _ :: _, [], _, rfl => rfl
  | _ :: _, _ :: _, _, ⟨v', r, rfl, a, b⟩ => ⟨v', _, rfl, a, PR.zip b⟩
theorem PR.map {X Y : Addr → Prop} {h h' : Heap} (k : ∀ a o, h.get? a = some o → ¬ X a → ¬ Y a ∧ h'.get? a = some o) : ∀ {l : List (Str × MV)} {r : List (Str × Value)}, PR X h l r → PR Y h' l r
  | [], _, x => x
  | (_, _) :: _, _, ⟨u', r, e, a, b⟩ => ⟨u', r, e, a.map k, PR.map k b⟩
theorem PR.keys {X : Addr → Prop} {h : Heap} : ∀ {l : List (Str × MV)} {r : List (Str × Value)}, PR X h l r → r.map (·.1) = l.map (·.1)
  | [], _, rfl => rfl
  | (_, _) :: _, _, ⟨_, _, rfl, _, b⟩ => congrArg _ (PR.keys b)

/-- a new frame -/
def cxE (A : Around) (X : Addr → Prop) (n : Nat) (e : Env) : Cx := ⟨A.deeper e, e, fun a => X a ∨ a = e.locals ∨ ∃ x, Own e x a, n⟩
def Out (v : MV) : MF → Prop
  | .ret u => u = v
  | _ => v = .none

def AllL (P : Str → MV → Prop) : List (Str × MV) → Prop
  | [] => True
  | p :: r => P p.1 p.2 ∧ AllL P r
theorem AllL.get {P : Str → MV → Prop} {x : Str} {u : MV} : ∀ {l : List (Str × MV)}, AllL P l → l.lookup x = some u → P x u
  | [], _, e => nomatch e
  | p :: r, h, e => by
    rw [List.lookup_cons] at e
    cases hx : x == p.1 with
    | true => rw [hx] at e; cases e; rw [beq_iff_eq.mp hx]; exact h.1
    | false => rw [hx] at e; exact AllL.get h.2 e
theorem Out.ret {v : MV} : Out v (.ret v) := rfl
theorem Out.next : Out .none .next := rfl

structure FdOk (fd : FuncData) (body : List Stmt) : Prop where
  body : fd.body = .stmts body
  glob : fd.globals = mainGlobals
  bi : fd.builtins = builtinsNs
  co : fd.scope.isCoroutine = false
  gen : fd.scope.isGenerator = false
  kind : fd.scope.kind = .function
/-- a def's outward look: an object of the base -/
structure IsFn (B : Base) (f : Addr) (fd : FuncData) (body : List Stmt) : Prop extends FdOk fd body where
  at_ : ∃ o, B.h₁.get? f = some o ∧ o.data = .func fd
  code : B.h₁.CodeRec fd.code fd.qualname

section
variable {B : Base} {f : Addr} {fd : FuncData} {body : List Stmt} {n : Nat} {args : List MV} {loc fr : List (Str × MV)} {μ : Mut} {v : MV} {fl : MF} {σ' : St} {A : Around} {X : Addr → Prop} {s : Shared} {h₀ : Heap} {e : Env}
theorem enter {tk : Nat} {Q : Flow → Shared → Prop} {E : Value → Shared → Prop} (hh : A.handled = none) (hd : A.depth + (n + 1) < recursionLimit) (hu : A.units + 10 * (n + 1) < cLine) (I : Inv B X μ s.heap s.gens) (hk : ∀ b o, s.heap.get? b = some o → h₀.get? b = some o)
    (hL : s.heap.objs.size ≤ e.locals) (kind : e.scope.kind = .function) (glob : e.globals = mainGlobals) (bi : e.builtins = builtinsNs) (hcell : ∀ x a, Own e x a → e.locals < a ∧ ∃ v, h₀.IsCell a v) (hI : ∀ x y a, Own e x a → Own e y a → x = y) (hc : ∀ x, e.kindOf x = some .cell → ∃ a, e.cells.lookup x = some a)
    (hl : ∀ c : Cx, c.env = e → (∀ a o, s.heap.get? a = some o → ¬ X a → ¬ c.X a ∧ h₀.get? a = some o) → Locs B c h₀ loc) (H : EvSs B (cxE A X n e) body ⟨loc, μ⟩ fl σ')
    (hQ : ∀ f' s', Kp (WrC B μ) s.heap s'.heap → s'.os = s.os → Inv B X σ'.mu s'.heap s'.gens → FR X s'.heap fl f' → Q f' s') : wpAny (model B.prog B.w) (A.deeper e) (execs body e) Q E { s with heap := h₀, toks := tk } := by
  have old : ∀ a o, s.heap.get? a = some o → a < e.locals := fun a o q => Nat.lt_of_lt_of_le (Heap.lt_size q) hL
  have oldX : ∀ a o, s.heap.get? a = some o → ¬ (a = e.locals ∨ ∃ x, Own e x a) := fun a o q w => by
    have := old a o q
    rcases w with rfl | ⟨x, w⟩
    · exact Nat.lt_irrefl _ this
    · exact Nat.lt_asymm this (hcell x a w).1
  have kk : ∀ a o, s.heap.get? a = some o → ¬ X a → ¬ (cxE A X n e).X a ∧ h₀.get? a = some o := fun a o q nx => ⟨fun w => w.elim nx (oldX a o q), hk a o q⟩
  have new : ∀ a, (a = e.locals ∨ ∃ x, Own e x a) → B.h₁.get? a = none := fun a w => by
    cases q : B.h₁.get? a with
    | none => rfl
    | some o => exact absurd w (oldX a o (I.base _ o q))
  have L := hl (cxE A X n e) rfl kk
  have R : Rel B (cxE A X n e) ⟨loc, μ⟩ h₀ s.gens := by
    refine ⟨⟨hh, ?_, ?_, kind, glob, bi, ⟨new _ (.inl rfl), .inr (.inl rfl)⟩, fun x a q => ⟨.inr (.inr ⟨x, q⟩), Nat.ne_of_gt (hcell x a q).1, new _ (.inr ⟨x, q⟩)⟩, hI, hc⟩,
      I.map kk (fun a o _ q => hk a o q) (fun b o _ q => hk b o q) (fun a w => .inl (I.wr a w).1) I.gens fun a w => ?_, L, fun x a q => (hcell x a q).2, fun a w => ?_⟩
    · exact Nat.lt_of_le_of_lt (Nat.le_of_eq (Nat.add_right_comm _ _ _)) hd
    · exact Nat.lt_of_le_of_lt (by show A.units + 3 + 10 * n ≤ A.units + 10 * (n + 1); omega) hu
    · rcases w with w | rfl | ⟨x, w⟩
      · exact (I.ex a w).imp fun o q => hk a o q
      · obtain ⟨_, ⟨o, _, _, ho, _⟩, _⟩ := L; exact ⟨o, ho⟩
      · obtain ⟨_, _, o, ho, _⟩ := hcell x a w; exact ⟨o, ho⟩
    · obtain ⟨_, _, o, q⟩ := I.wr a w
      have := oldX a o q
      exact ⟨fun w => this (.inl w), fun x w => this (.inr ⟨x, w⟩)⟩
  refine wpAny_mono (H { s with heap := h₀, toks := tk } R) (fun f' s' z => ?_) fun _ _ z => z.elim
  obtain ⟨g, r⟩ := z
  have dn : ∀ a o, s'.heap.get? a = some o → ¬ (cxE A X n e).X a → ¬ X a ∧ s'.heap.get? a = some o := fun a o e nx => ⟨fun w => nx (.inl w), e⟩
  refine hQ f' s' (fun b o nw q => g.kp b o (fun w => ?_) (hk b o q)) g.os (g.rel.inv.map dn (fun _ _ _ e => e) (fun _ _ _ e => e) (fun a w => ?_) g.rel.inv.gens fun a w => g.rel.inv.ex a (.inl w)) ?_
  · rcases w with w | w | w
    · exact oldX b o q (.inl w)
    · exact oldX b o q (.inr w)
    · exact nw w
  · have o := g.rel.off a w
    exact ((g.rel.inv.wr a w).1).resolve_right fun z => z.elim o.1 fun ⟨x, z⟩ => o.2 x z
  · cases fl with
    | ret u => obtain ⟨v', q, r⟩ := r; exact ⟨v', q, r.map dn⟩
    | _ => exact r

theorem outV {h : Heap} (o : Out v fl) : ∀ {f' : Flow}, FR X h fl f' → VR X h v (match f' with | .ret u => u | _ => .none) := fun {f'} r => by
  cases fl with
  | ret u => obtain ⟨v', rfl, r⟩ := r; cases o; exact r
  | _ => cases r; cases o; rfl

theorem CallP.of (D : IsFn B f fd body)
    (hb : ∀ X s vs, (∀ b o, B.h₁.get? b = some o → s.heap.get? b = some o) → VRs X s.heap args vs → ∃ binds, BindsTo s fd ⟨vs, []⟩ binds ∧ PR X s.heap loc binds)
    (hl : ∀ x ∈ loc, fd.scope.names.lookup x.1 = some .local)
    (H : ∀ A X L, EvSs B (cxE A X n (callEnv fd L f)) body ⟨loc.reverse ++ fr, μ⟩ fl σ') (hO : Out v fl) (hcell : (fd.scope.names.all fun x => x.2 != .cell) = true)
    (hf : AllL (fun x u => fd.scope.names.lookup x = some .free ∧ (∃ a v', fd.closure.lookup x = some a ∧ B.h₁.IsCell a (some v') ∧ ∀ X h, VR X h u v')) fr) : CallP B (n + 1) (.ref f) args μ v σ'.mu := fun A X s vs hh hd hu I q => by
  obtain ⟨o, ho, hdat⟩ := D.at_
  obtain ⟨binds, bt, p⟩ := hb X s vs I.base q
  have hcell' : ∀ x ∈ fd.scope.names, x.2 ≠ .cell := fun x hx e => absurd (List.all_eq_true.mp hcell x hx) (by rw [e]; decide)
  have hloc : ∀ x ∈ binds, fd.scope.names.lookup x.1 = some .local := fun x hx => by
    have hm : x.1 ∈ binds.map (·.1) := List.mem_map_of_mem hx
    rw [p.keys] at hm
    obtain ⟨y, hy, e⟩ := List.mem_map.mp hm
    exact e ▸ hl y hy
  have no : ∀ x a, ¬ Own (callEnv fd s.heap.objs.size f) x a := fun x a w => hcell' _ (mem_of_lookup w.1) rfl
  refine wpAny_call (codeAny_call_def (Nat.lt_of_le_of_lt (Nat.le_add_right _ _) hd) (I.base _ _ ho) hdat (B.lim.keeps I.base) (let ⟨b, ob, ws, t, e1, e2, e3, e4⟩ := D.code; ⟨b, ob, ws, t, e1, I.base _ _ e2, e3, e4⟩) D.body bt hcell' hloc (fun h₀ hn hk => ?_) D.co D.gen D.kind)
  refine enter (n := n) (fl := fl) hh hd hu I hk (Nat.le_refl _) D.kind D.glob D.bi (fun x a w => (no x a w).elim) (fun x _ a w => (no x a w).elim) (fun x w => (hcell' _ (mem_of_lookup w) rfl).elim) (fun c ec kk => ?_) (H A X _) fun f' s' kp os I' r => ⟨kp, os, I', outV hO r⟩
  rw [Locs, ec]
  refine ⟨_, hn, fun x u e => ?_⟩
  rw [List.lookup_append] at e
  cases e' : loc.reverse.lookup x with
  | none =>
    rw [e'] at e
    obtain ⟨hk', a, v', q1, q2, q3⟩ := hf.get e
    exact ⟨v', .inr (.inr ⟨hk', a, q1, q2⟩), q3 _ _⟩
  | some u₂ =>
    rw [e'] at e; cases e
    obtain ⟨u', e', r⟩ := ((p.map kk).rev).lookup e'
    exact ⟨u', .inl ⟨hloc _ (List.mem_reverse.mp (mem_of_lookup e')), e'⟩, r⟩

theorem cells_keep {x : Str} : ∀ (names : List (Str × NameKind)) (n : Nat) (acc : List (Str × Addr)), (∃ a, acc.lookup x = some a) → ∃ a, (cellsFrom n names acc).lookup x = some a
  | [], _, _, h => h
  | (y, k) :: r, n, acc, h => by
    unfold cellsFrom
    split
    · refine cells_keep r _ _ ?_
      rw [List.lookup_cons]
      cases x == y
      · exact h
      · exact ⟨n, rfl⟩
    · exact cells_keep r _ _ h
theorem cells_have {x : Str} : ∀ {names : List (Str × NameKind)} (n : Nat) (acc : List (Str × Addr)), names.lookup x = some .cell → ∃ a, (cellsFrom n names acc).lookup x = some a
  | [], _, _, h => nomatch h
  | (y, k) :: r, n, acc, h => by
    rw [List.lookup_cons] at h
    unfold cellsFrom
    cases hx : x == y with
    | true =>
      rw [hx] at h; cases h
      exact cells_keep r _ _ ⟨n, by rw [List.lookup_cons, hx]⟩
    | false =>
      rw [hx] at h
      split
      · exact cells_have _ _ h
      · exact cells_have _ _ h
/-- a def with cells of its own -/
theorem CallP.ofC {la ca : List (Str × MV)} (D : IsFn B f fd body)
    (hb : ∀ X s vs, (∀ b o, B.h₁.get? b = some o → s.heap.get? b = some o) → VRs X s.heap args vs → ∃ binds, BindsTo s fd ⟨vs, []⟩ binds ∧ (∀ x ∈ binds, fd.scope.names.lookup x.1 = some .local ∨ fd.scope.names.lookup x.1 = some .cell) ∧
      ∀ L, AllL (fun x u => ∃ v', (callEnvC fd L f).kindOf x = some .local ∧ bindL (callEnvC fd L f).kindOf binds (fun _ => none) x = some v' ∧ VR X s.heap u v') la ∧
        AllL (fun x u => ∃ v', (callEnvC fd L f).kindOf x = some .cell ∧ bindC (callEnvC fd L f).kindOf binds (fun _ => none) x = some v' ∧ VR X s.heap u v') ca)
    (H : ∀ A X L, EvSs B (cxE A X n (callEnvC fd L f)) body ⟨la ++ ca, μ⟩ fl σ') (hO : Out v fl) (hcl : fd.closure = []) : CallP B (n + 1) (.ref f) args μ v σ'.mu := fun A X s vs hh hd hu I q => by
  obtain ⟨o, ho, hdat⟩ := D.at_
  obtain ⟨binds, bt, hkind, p⟩ := hb X s vs I.base q
  refine wpAny_call (codeAny_call_function (Nat.lt_of_le_of_lt (Nat.le_add_right _ _) hd) (I.base _ _ ho) hdat D.co D.gen D.body (let ⟨b, ob, ws, t, e1, e2, e3, e4⟩ := D.code; ⟨b, ob, ws, t, e1, I.base _ _ e2, e3, e4⟩) (bt _ _ _ _ ?_))
  rw [hcl]
  refine wpAny_newFunctionEnv_cells D.kind (fun x hx => (hkind x hx).imp id fun w => ⟨w, Option.isSome_iff_exists.mpr (cells_have _ _ w)⟩) fun env he s' x => ?_
  subst he
  obtain ⟨p1, p2⟩ := p s.heap.objs.size
  refine ⟨(B.lim.keeps I.base).keeps x.toInCall.keep, codeAny_func ?_⟩
  obtain ⟨h₁, tk, rfl, hk⟩ := x.done
  refine enter (e := callEnvC fd s.heap.objs.size f) (n := n) (fl := fl) hh hd hu I hk (Nat.le_refl _) D.kind D.glob D.bi (fun y a w => ⟨x.above y a (mem_of_lookup w.2), _, x.cell y a w.2⟩) (fun y z a w w' => name_of_addr x.apart (mem_of_lookup w.2) (mem_of_lookup w'.2)) (fun y w => cells_have _ _ w) (fun c ec kk => ?_) (H A X _) fun f' s' kp os I' r => ⟨kp, os, I', outV hO r⟩
  rw [Locs, ec]
  refine ⟨_, x.toInCall.ns, fun y u e => ?_⟩
  rw [List.lookup_append] at e
  cases e' : la.lookup y with
  | none =>
    rw [e'] at e
    obtain ⟨v', k, b, r⟩ := p2.get e
    obtain ⟨a, ha⟩ := cells_have (s.heap.objs.size + 1) [] k
    exact ⟨v', .inr (.inl ⟨a, ⟨k, ha⟩, b ▸ x.cell y a ha⟩), r.map kk⟩
  | some u₂ =>
    rw [e'] at e; cases e
    obtain ⟨v', k, b, r⟩ := p1.get e'
    exact ⟨v', .inl ⟨k, b⟩, r.map kk⟩
end

/-- the outer things turn, the frame's own do not -/
theorem Go.ofInv {B : Base} {c : Cx} {σ : St} {μ' : Mut} {s s' : Shared} (R : Rel B c σ s.heap s.gens) (kp : Kp (WrC B σ.mu) s.heap s'.heap) (os : s'.os = s.os) (I : Inv B c.X μ' s'.heap s'.gens) (hμ : ∀ a, μ'.on a → σ.mu.on a) : Go B c σ ⟨σ.loc, μ'⟩ s s' := by
  have up : ∀ a, WrC B μ' a → WrC B σ.mu a := fun a w => w.imp (hμ a) id
  have kx : ∀ a o, s.heap.get? a = some o → ¬ c.X a → ¬ c.X a ∧ s'.heap.get? a = some o := fun a o e nx => ⟨nx, kp a o (fun w => nx (R.inv.wr a w).1) e⟩
  have kw : ∀ a o, (a = c.env.locals ∨ ∃ x, Own c.env x a) → s.heap.get? a = some o → s'.heap.get? a = some o := fun a o w e => kp _ _ (fun z => w.elim (R.off _ z).1 fun ⟨x, w⟩ => (R.off _ z).2 x w) e
  refine ⟨fun b o nw e => kp b o (fun w => nw (.inr (.inr w))) e, os, fun a w => .inl (hμ a w), R.ok, I, R.loc.map kx kw, fun x a e => ?_, fun a w => R.off a (up a w)⟩
  obtain ⟨u, o, ho, hc⟩ := R.cell x a e
  exact ⟨u, o, kw _ _ (.inr ⟨x, e⟩) ho, hc⟩
/-- the caller's side -/
theorem CallP.use {B : Base} {c : Cx} {σ : St} {n : Nat} {f : Value} {args : List MV} {v : MV} {μ' : Mut} (C : CallP B n f args σ.mu v μ') (hn : n ≤ c.n) (hμ : ∀ a, μ'.on a → σ.mu.on a) {s : Shared} {vs : List Value} (R : Rel B c σ s.heap s.gens) (q : VRs c.X s.heap args vs)
    {Q : Value → Shared → Prop} {E : Value → Shared → Prop} (k : ∀ v' s', Go B c σ ⟨σ.loc, μ'⟩ s s' → VR c.X s'.heap v v' → Q v' s') : wpAny (model B.prog B.w) c.A (call f vs) Q E s :=
  wpAny_mono (C c.A c.X s vs R.ok.hh (Nat.lt_of_le_of_lt (Nat.add_le_add_left hn _) R.ok.hd) (Nat.lt_of_le_of_lt (Nat.add_le_add_left (Nat.mul_le_mul_left 10 hn) _) R.ok.hu) R.inv q)
    (fun v' s' ⟨kp, os, I, r⟩ => k v' s' (.ofInv R kp os I hμ) r) fun _ _ z => z.elim

section
variable {B : Base} {c : Cx} {σ σ' σ₁ σ₂ σ₃ : St} {v v₁ v₂ : MV} {vs : List MV} {e e₁ e₂ : Expr} {pos p₁ p₂ : Pos} {n : Nat}
/-- a def of the top, called by its name -/
theorem EvE.call {x : Str} {f : Addr} {fd : FuncData} {body : List Stmt} {es : List Expr} {μ' : Mut} (D : IsFn B f fd body) (hf : B.mg x = some (.ref f)) (K : EvL B c (e :: es) σ vs σ₁) (C : CallP B n (.ref f) vs σ₁.mu v μ') (hn : n ≤ c.n) (hμ : ∀ a, μ'.on a → σ₁.mu.on a)
    (hk : c.env.kindOf x = some .globalImplicit := by rfl) (hd : (x == ("__debug__" : Str)) = false := by decide)
    (h1 : eval (.Call (.Name x p₁) (e :: es) [] pos) c.env = (do callWith pos (← eval (.Name x p₁) c.env) [] (backTo pos (starEach (e :: es) c.env)) (backToKw pos (keywordEach [] c.env))) := by rfl)
    (h2 : starEach (e :: es) c.env = (false, eval e c.env) :: starEach es c.env := by rfl) : EvE B c (.Call (.Name x p₁) (e :: es) [] pos) σ v ⟨σ₁.loc, μ'⟩ := fun s R => by
  obtain ⟨o, ho, hdat⟩ := D.at_
  refine Call_ (Name_function_global R.ok.hk hk (loadGlobal_global (by rw [R.ok.hg]; exact B.g.keeps R.inv.base) hf ?_) hd) h1
  refine callWith_def hdat (K.use R fun vs' s₁ g q => ⟨g.rel.inv.base _ _ ho, C.use hn hμ g.rel q fun v' s' g' r => ⟨g.trans R g', r⟩⟩) h2
end
end U13
end
noncomputable section
open PySem PySem.W PySem.Spec PySem.Calls PyProof.Rows
namespace U13

theorem VRs.len {X : Addr → Prop} {h : Heap} : ∀ {l : List MV} {vs : List Value}, VRs X h l vs → vs.length = l.length
  | [], _, rfl => rfl
  | _ :: _, _, ⟨_, _, rfl, _, q⟩ => congrArg (· + 1) (VRs.len q)
theorem VRs.get {X : Addr → Prop} {h : Heap} : ∀ {l : List MV} {vs : List Value} {i : Nat} {v : MV}, VRs X h l vs → l[i]? = some v → ∃ v', vs[i]? = some v' ∧ VR X h v v'
  | [], _, _, _, _, e => by cases e
  | _ :: _, _, 0, _, ⟨v', _, rfl, p, _⟩, rfl => ⟨v', rfl, p⟩
  | _ :: l, _, i + 1, v, ⟨_, _, rfl, _, q⟩, e => VRs.get (l := l) (i := i) (v := v) q e
theorem VRs.app {X : Addr → Prop} {h : Heap} {l' : List MV} {vs' : List Value} (q : VRs X h l' vs') : ∀ {l : List MV} {vs : List Value}, VRs X h l vs → VRs X h (l ++ l') (vs ++ vs')
  | [], _, rfl => q
  | _ :: _, _, ⟨v', r, rfl, a, b⟩ => ⟨v', r ++ vs', rfl, a, VRs.app q b⟩

section
variable {B : Base} {c : Cx} {σ σ' σ₁ σ₂ σ₃ : St} {v v₁ v₂ : MV} {vs : List MV} {f : MF} {e e₁ e₂ : Expr} {pos p₁ p₂ p₃ : Pos} {b : Bool} {k : Nat}

theorem Rel.fresh {h : Heap} {g : Array GenState} (R : Rel B c σ h g) : ¬ c.X h.objs.size := fun w => by
  obtain ⟨o, e⟩ := R.inv.ex _ w
  exact Nat.lt_irrefl _ (Heap.lt_size e)
theorem small {n : Nat} (h : n ≤ 1000) : n ≤ sizeLine := Nat.le_trans h (by rw [sizeLine_eq]; decide)
theorem EvE.tup {es : List Expr} (K : EvL B c es σ vs σ₁) (hz : es.length ≤ 1000 := by exact Nat.le_of_ble_eq_true rfl) : EvE B c (.Tuple es k pos) σ (.tup vs) σ₁ := fun s R =>
  Tuple_ (K.use R fun vs' s₁ g q => wpAny_newObj_type ⟨g.trans R (.push g.rel _), _, vs', rfl, g.rel.fresh, ⟨_, Heap.get?_push_size _ rfl, rfl, _, rfl⟩, Go.vrs g.rel (.push g.rel _ (t := s₁.toks)) q⟩ (small (by rw [List.size_toArray, q.len, K.1]; exact hz)))
theorem EvE.list {es : List Expr} (K : EvL B c es σ vs σ₁) (hz : es.length ≤ 1000 := by exact Nat.le_of_ble_eq_true rfl) : EvE B c (.List es pos) σ (.list vs) σ₁ := fun s R =>
  List_ (K.use R fun vs' s₁ g q => wpAny_newObj_type ⟨g.trans R (.push g.rel _), _, vs', rfl, g.rel.fresh, ⟨_, Heap.get?_push_size _ rfl, rfl, _, rfl⟩, Go.vrs g.rel (.push g.rel _ (t := s₁.toks)) q⟩ (small (by rw [List.size_toArray, q.len, K.1]; exact hz)))

theorem Go.extBut {s : Shared} {h' : Heap} (R : Rel B c σ s.heap s.gens) (x : Heap.ExtBut s.heap.objs.size s.heap h') : Go B c σ σ s { s with heap := h' } :=
  .ext R (fun b o e => x b o (Nat.ne_of_lt (Heap.lt_size e)) e) rfl rfl

theorem unpackItems_list2 {prog : Program} {w : World} {A : Around} {E : Value → Shared → Prop} {s : Shared} {t : Addr} {x y : Value} {Q : List Value → Shared → Prop} (hh : A.handled = none) (ht : s.heap.IsList t #[x, y])
    (hQ : ∀ h', Heap.ExtBut s.heap.objs.size s.heap h' → Q [x, y] { s with heap := h' }) : wpAny (model prog w) A (unpackItems (.ref t) 2 none) Q E s := by
  have hlt : t ≠ s.heap.objs.size := by obtain ⟨o, ho, _⟩ := ht; exact Nat.ne_of_lt (Heap.lt_size ho)
  unfold unpackItems
  refine wpAny_bind ?_
  unfold notIterableAtAll
  refine wpAny_bind (wpAny_specialOf ht.typeIs slot_list_iter.lookup ?_)
  refine wpAny_pure ?_
  refine wpAny_bind (wpAny_holding (wpAny_pyIter_list ht ?_))
  have ht₀ := fun o => ht.at (h' := s.heap.push o) fun o e => Heap.get?_push_of_some _ e
  refine wpAny_bind (wpAny_holding (wpAny_bind (wpAny_pyNext_list_item ⟨_, Heap.get?_push_size _ rfl, rfl, rfl⟩ (ht₀ _) (x := x) rfl fun h₁ i₁ s₁ => wpAny_bind (wpAny_holding ?_))))
  have ht₁ := (ht₀ _).at fun o e => s₁.extBut t o hlt e
  refine wpAny_bind (wpAny_pyNext_list_item i₁ ht₁ (x := y) rfl fun h₂ i₂ s₂ => wpAny_bind (wpAny_holding (wpAny_pure (wpAny_pure (wpAny_pure ?_)))))
  have ht₂ := ht₁.at fun o e => s₂.extBut t o hlt e
  refine wpAny_bind (wpAny_holding (wpAny_pyNext_list_end hh i₂ ht₂ rfl fun h₃ e₃ => ?_))
  exact wpAny_pure (hQ h₃ fun b o hb e => e₃ b o hb (s₂.extBut b o hb (s₁.extBut b o hb (Heap.get?_push_of_some _ e))))

/-- x, y bound to two values, in some order -/
theorem store2 {x y : Str} {s : Shared} {u' v' : Value} {v : MV} {u : MV} {Q : Unit → Shared → Prop} {E : Value → Shared → Prop} (R : Rel B c σ s.heap s.gens) (hx : c.env.kindOf x = some .local) (hy : c.env.kindOf y = some .local) (q : VR c.X s.heap u u') (r : VR c.X s.heap v v')
    (h : ∀ s', Go B c σ ⟨(y, v) :: (x, u) :: σ.loc, σ.mu⟩ s s' → Q () s') : wpAny (model B.prog B.w) c.A (assignInOrder [bindName c.env x, bindName c.env y] [u', v']) Q E s :=
  assignInOrder_cons (bindName_ (store R (.inl hx) q fun _ g => assignInOrder_cons (bindName_ (store g.rel (.inl hy) (g.vr R r) fun _ g' => assignInOrder_nil (h _ (g.trans R g'))))))
theorem EvS.swap {x y : Str} {k' : Nat} (H : EvE B c e σ (.tup [v₁, v₂]) σ₁) (hx : c.env.kindOf x = some .local := by rfl) (hy : c.env.kindOf y = some .local := by rfl)
    (hs : swapsWithSole [.Tuple [.Name x p₁, .Name y p₂] k' p₃] e pos.line c.env = pure false := by rfl) (hw : swappedStores [.Tuple [.Name x p₁, .Name y p₂] k' p₃] e c.env = pure (some [x, y]) := by rfl) :
    EvS B c (.Assign [.Tuple [.Name x p₁, .Name y p₂] k' p₃] e pos) σ .next ⟨(x, v₁) :: (y, v₂) :: σ₁.loc, σ₁.mu⟩ := fun s R =>
  Assign_Tuple_swapped (names := [x, y]) (H.use R fun v' s₁ g q => by
    obtain ⟨a, _, rfl, _, ht, w₁, _, rfl, q₁, w₂, _, rfl, q₂, rfl⟩ := q
    refine unpackItems_tuple (items := [w₁, w₂].toArray) g.rel.ok.hh ht fun h' ex => ?_
    have g₁ := Go.extBut g.rel ex
    exact store2 g₁.rel hy hx (g₁.vr g.rel q₂) (g₁.vr g.rel q₁) fun s₂ g₂ => ⟨(g.trans R g₁).trans R g₂, rfl⟩) hs hw

/-- a target of two names -/
def Pair (v : MV) (v₁ v₂ : MV) : Prop := v = .tup [v₁, v₂] ∨ v = .list [v₁, v₂]
theorem assign2 {x y : Str} {k' : Nat} {v' : Value} (P : Pair v v₁ v₂) {s : Shared} {Q : Unit → Shared → Prop} {E : Value → Shared → Prop} (R : Rel B c σ s.heap s.gens) (q : VR c.X s.heap v v') (h : ∀ s', Go B c σ ⟨(y, v₂) :: (x, v₁) :: σ.loc, σ.mu⟩ s s' → Q () s')
    (hx : c.env.kindOf x = some .local := by rfl) (hy : c.env.kindOf y = some .local := by rfl) :
    wpAny (model B.prog B.w) c.A (assign (.Tuple [.Name x p₁, .Name y p₂] k' p₃) c.env v') Q E s := by
  rw [assign_Tuple]
  refine wpAny_bind (wpAny_standAt ?_)
  have fin : ∀ {w₁ w₂ : Value} {h' : Heap}, VR c.X s.heap v₁ w₁ → VR c.X s.heap v₂ w₂ → Heap.ExtBut s.heap.objs.size s.heap h' →
      wpAny (model B.prog B.w) c.A (assignInOrder [assign (.Name x p₁) c.env, assign (.Name y p₂) c.env] [w₁, w₂]) Q E { s with heap := h' } := fun q₁ q₂ ex => by
    have g₁ := Go.extBut R ex
    exact assignInOrder_cons (assign_Name (store g₁.rel (.inl hx) (g₁.vr R q₁) fun _ g => assignInOrder_cons (assign_Name (store g.rel (.inl hy) (g.vr g₁.rel (g₁.vr R q₂)) fun _ g' => assignInOrder_nil (h _ ((g₁.trans R g).trans R g'))))))
  rcases P with rfl | rfl
  · obtain ⟨a, _, rfl, _, ht, w₁, _, rfl, q₁, w₂, _, rfl, q₂, rfl⟩ := q
    exact unpack_tuple R.ok.hh ht rfl rfl fun h' ex => fin q₁ q₂ ex
  · obtain ⟨a, _, rfl, _, ht, w₁, _, rfl, q₁, w₂, _, rfl, q₂, rfl⟩ := q
    exact wpAny_bind (wpAny_holding (unpackItems_list2 R.ok.hh ht fun h' ex => fin q₁ q₂ ex))
theorem EvS.pair {x y : Str} {k' : Nat} (H : EvE B c e σ v σ₁) (P : Pair v v₁ v₂) (hx : c.env.kindOf x = some .local := by rfl) (hy : c.env.kindOf y = some .local := by rfl)
    (hs : swapsWithSole [.Tuple [.Name x p₁, .Name y p₂] k' p₃] e pos.line c.env = pure false := by rfl) (hw : swappedStores [.Tuple [.Name x p₁, .Name y p₂] k' p₃] e c.env = pure none := by rfl) :
    EvS B c (.Assign [.Tuple [.Name x p₁, .Name y p₂] k' p₃] e pos) σ .next ⟨(y, v₂) :: (x, v₁) :: σ₁.loc, σ₁.mu⟩ := fun s R =>
  Assign_Tuple (H.use R fun v' s₁ g q => assign2 P g.rel q (fun s₂ g₂ => ⟨g.trans R g₂, rfl⟩) hx hy) hs hw
end
end U13
end
noncomputable section
open PySem PySem.W PySem.Spec PySem.Calls PyProof.Rows
namespace U13
def Sub (l' : List (Str × MV)) : List (Str × MV) → Prop
  | [] => True
  | p :: r => l'.lookup p.1 = some p.2 ∧ Sub l' r
theorem Sub.ok {l' : List (Str × MV)} {x : Str} {v : MV} : ∀ {l : List (Str × MV)}, Sub l' l → l.lookup x = some v → l'.lookup x = some v
  | [], _, e => nomatch e
  | p :: r, h, e => by
    rw [List.lookup_cons] at e
    by_cases hx : (x == p.1) = true
    · rw [hx] at e; cases e; rw [beq_iff_eq.mp hx]; exact h.1
    · rw [Bool.not_eq_true] at hx; rw [hx] at e; exact Sub.ok h.2 e
section
variable {B : Base} {c : Cx} {σ σ' σ₁ σ₂ σ₃ : St} {v v₁ v₂ : MV} {vs : List MV} {f : MF} {e e₁ e₂ : Expr} {pos p₁ p₂ p₃ : Pos} {b : Bool} {k : Nat} {l : List (Str × MV)} {τ : St} {sts : List Stmt} {st : Stmt}
theorem Go.to {s s' : Shared} (g : Go B c σ σ' s s') (h : Sub σ'.loc τ.loc) (hm : σ'.mu = τ.mu) : Go B c σ τ s s' := by
  obtain ⟨l, μ⟩ := τ
  subst hm
  exact ⟨g.kp, g.os, g.new, g.rel.drop fun _ _ => h.ok⟩
theorem EvSs.to (H : EvSs B c sts σ f σ') (h : Sub σ'.loc τ.loc) (hm : σ'.mu = τ.mu := by rfl) : EvSs B c sts σ f τ := fun s R => wpAny_mono (H s R) (fun _ _ z => ⟨z.1.to h hm, z.2⟩) fun _ _ z => z
theorem EvS.to (H : EvS B c st σ f σ') (h : Sub σ'.loc τ.loc) (hm : σ'.mu = τ.mu := by rfl) : EvS B c st σ f τ := fun s R => wpAny_mono (H s R) (fun _ _ z => ⟨z.1.to h hm, z.2⟩) fun _ _ z => z
theorem EvE.to (H : EvE B c e σ v σ') (h : Sub σ'.loc τ.loc) (hm : σ'.mu = τ.mu := by rfl) : EvE B c e σ v τ := fun s R => wpAny_mono (H s R) (fun _ _ z => ⟨z.1.to h hm, z.2⟩) fun _ _ z => z
theorem EvSs.of (h : Sub l σ.loc) (H : EvSs B c sts σ f σ') : EvSs B c sts ⟨l, σ.mu⟩ f σ' := fun s R => wpAny_mono (H s (R.drop fun _ _ => h.ok)) (fun _ _ z => ⟨⟨z.1.kp, z.1.os, z.1.new, z.1.rel⟩, z.2⟩) fun _ _ z => z

theorem EvE.say (H : EvE B c e σ v₁ σ') (q : v₁ = v) : EvE B c e σ v σ' := q ▸ H
theorem EvT.say {b' : Bool} (H : EvT B c e σ b σ') (q : b = b') : EvT B c e σ b' σ' := q ▸ H
theorem OpR.say {t : Value → Value → Sem Value} {a a' : MV} (h : OpR B c t v₁ v₂ a) (e : a = a') : OpR B c t v₁ v₂ a' := e ▸ h
theorem EvT.not (H : EvT B c e σ b σ₁) : EvT B c (.UnaryOp .Not e pos) σ (!b) σ₁ := fun _ R => isTrue_not (H.use R fun _ g => ⟨g, rfl⟩)
theorem EvT.and_nil : EvT B c (.BoolOp .And [] pos) σ true σ := fun _ R => isTrue_and_nil ⟨.refl R, rfl⟩
theorem EvT.or_nil : EvT B c (.BoolOp .Or [] pos) σ false σ := fun _ R => isTrue_or_nil ⟨.refl R, rfl⟩
theorem EvT.and_f {es : List Expr} (H : EvT B c e σ false σ₁) : EvT B c (.BoolOp .And (e :: es) pos) σ false σ₁ := fun _ R => isTrue_and (H.use R fun _ g => ⟨g, rfl⟩)
theorem EvT.and_t {es : List Expr} (H : EvT B c e σ true σ₁) (K : EvT B c (.BoolOp .And es pos) σ₁ b σ₂) : EvT B c (.BoolOp .And (e :: es) pos) σ b σ₂ := fun _ R =>
  isTrue_and (H.use R fun _ g => K.use g.rel fun _ g' => ⟨g.trans R g', rfl⟩)
theorem EvT.or_t {es : List Expr} (H : EvT B c e σ true σ₁) : EvT B c (.BoolOp .Or (e :: es) pos) σ true σ₁ := fun _ R => isTrue_or (H.use R fun _ g => ⟨g, rfl⟩)
theorem EvT.or_f {es : List Expr} (H : EvT B c e σ false σ₁) (K : EvT B c (.BoolOp .Or es pos) σ₁ b σ₂) : EvT B c (.BoolOp .Or (e :: es) pos) σ b σ₂ := fun _ R =>
  isTrue_or (H.use R fun _ g => K.use g.rel fun _ g' => ⟨g.trans R g', rfl⟩)
/-- any other expression as a test -/
theorem EvT.val (H : EvE B c e σ v σ₁) (ht : ∀ (X : Addr → Prop) (h : Heap) (x : Value) (s : Shared) (A : Around) (Q : Bool → Shared → Prop) (E : Value → Shared → Prop), s.heap = h → VR X h v x → Q b s → wpAny (model B.prog B.w) A (truthy x) Q E s)
    (he : ∀ w, isTrue e c.env w = (do let v ← w; standAt e.pos; holding [v] (truthy v)) := by intro _; rfl) : EvT B c e σ b σ₁ := fun _ R =>
  isTrue_plain (H.use R fun _ _ g q => ht _ _ _ _ _ _ _ rfl q ⟨g, rfl⟩) (he _)
theorem EvT.bool (H : EvE B c e σ (.bool b) σ₁) (he : ∀ w, isTrue e c.env w = (do let v ← w; standAt e.pos; holding [v] (truthy v)) := by intro _; rfl) : EvT B c e σ b σ₁ :=
  .val H (fun _ _ _ _ _ _ _ _ q h => by cases q; exact wpAny_truthy_bool h) he

theorem EvE.neg {i : Int} (H : EvE B c e σ (.int i) σ₁) : EvE B c (.UnaryOp .USub e pos) σ (.int (-i)) σ₁ := fun _ R => wpAny_UnaryOp (H.use R fun _ _ g q => by obtain ⟨t, rfl⟩ := q; exact neg_int ⟨g.trans R (.toks g.rel), _, rfl⟩)
theorem EvE.inv {i : Int} (H : EvE B c e σ (.int i) σ₁) : EvE B c (.UnaryOp .Invert e pos) σ (.int (Builtin.bitNot i)) σ₁ := fun _ R => wpAny_UnaryOp (H.use R fun _ _ g q => by obtain ⟨t, rfl⟩ := q; exact invert_int ⟨g.trans R (.toks g.rel), _, rfl⟩)
theorem EvE.and {es : List Expr} (H : EvE B c e σ (.bool true) σ₁) (K : EvE B c (.BoolOp .And (e₂ :: es) pos) σ₁ v σ₂) : EvE B c (.BoolOp .And (e :: e₂ :: es) pos) σ v σ₂ := fun _ R =>
  BoolOp_and (H.use R fun _ _ g q => by cases q; exact wpAny_truthy_bool (K.use g.rel fun _ _ g' q' => ⟨g.trans R g', q'⟩))
theorem EvE.one {op : BoolOp} (H : EvE B c e σ v σ₁) : EvE B c (.BoolOp op [e] pos) σ v σ₁ := fun s R => BoolOp_one (H s R)
theorem EvE.ite (H : EvT B c e σ b σ₁) (K : EvE B c (if b then e₁ else e₂) σ₁ v σ₂) : EvE B c (.IfExp e e₁ e₂ pos) σ v σ₂ := fun _ R =>
  IfExp_ (H.use R fun _ g => by cases b <;> exact K.use g.rel fun _ _ g' q => ⟨g.trans R g', q⟩)
theorem EvS.brk : EvS B c (.Break pos) σ .brk σ := fun _ R => wpAny_Break ⟨.refl R, rfl⟩
end
end U13
end
noncomputable section
open PySem PySem.W PySem.Spec PySem.Calls PyProof.Rows
namespace U13
def tD (x : Str) : Arguments × List Stmt × Scope := (PySem.Challenge.pw_ul0013_01.theDef x).getD default
def fD (x : Str) (pm cd doc : Value) : FuncData := docDef x (tD x).1 (tD x).2.1 (tD x).2.2 pm cd doc

section
variable {B : Base} {f : Addr} {fd : FuncData} {body : List Stmt} {n : Nat} {μ : Mut} {v a b e : MV} {x y z : Str} {σ' : St} {fl : MF}
theorem CallP.of1 (D : IsFn B f fd body) (H : ∀ A X L, EvSs B (cxE A X n (callEnv fd L f)) body ⟨[(x, a)], μ⟩ fl σ') (hO : Out v fl)
    (hb : ∀ a, bindArgs fd ⟨[a], []⟩ = pure [(x, a)] := by intro _; rfl) (hl : fd.scope.names.lookup x = some .local := by rfl) (hc : (fd.scope.names.all fun x => x.2 != .cell) = true := by rfl) : CallP B (n + 1) (.ref f) [a] μ v σ'.mu :=
  .of (loc := [(x, a)]) (fr := []) D (fun X s vs _ q => by obtain ⟨u, _, rfl, q, rfl⟩ := q; exact ⟨_, .of_eq (hb u), u, _, rfl, q, rfl⟩) (by simpa using hl) H hO hc trivial
theorem CallP.of2 (D : IsFn B f fd body) (H : ∀ A X L, EvSs B (cxE A X n (callEnv fd L f)) body ⟨[(y, b), (x, a)], μ⟩ fl σ') (hO : Out v fl)
    (hb : ∀ a b, bindArgs fd ⟨[a, b], []⟩ = pure [(x, a), (y, b)] := by intro _ _; rfl) (hl : fd.scope.names.lookup x = some .local := by rfl) (hl' : fd.scope.names.lookup y = some .local := by rfl) (hc : (fd.scope.names.all fun x => x.2 != .cell) = true := by rfl) : CallP B (n + 1) (.ref f) [a, b] μ v σ'.mu :=
  .of (loc := [(x, a), (y, b)]) (fr := []) D (fun X s vs _ q => by obtain ⟨u, _, rfl, q, u', _, rfl, q', rfl⟩ := q; exact ⟨_, .of_eq (hb u u'), u, _, rfl, q, u', _, rfl, q', rfl⟩) (List.forall_mem_cons.mpr ⟨hl, List.forall_mem_cons.mpr ⟨hl', fun _ h => nomatch h⟩⟩) H hO hc trivial
theorem CallP.of3 (D : IsFn B f fd body) (H : ∀ A X L, EvSs B (cxE A X n (callEnv fd L f)) body ⟨[(z, e), (y, b), (x, a)], μ⟩ fl σ') (hO : Out v fl)
    (hb : ∀ a b c, bindArgs fd ⟨[a, b, c], []⟩ = pure [(x, a), (y, b), (z, c)] := by intro _ _ _; rfl) (hl : fd.scope.names.lookup x = some .local := by rfl) (hl' : fd.scope.names.lookup y = some .local := by rfl) (hl'' : fd.scope.names.lookup z = some .local := by rfl) (hc : (fd.scope.names.all fun x => x.2 != .cell) = true := by rfl) : CallP B (n + 1) (.ref f) [a, b, e] μ v σ'.mu :=
  .of (loc := [(x, a), (y, b), (z, e)]) (fr := []) D (fun X s vs _ q => by obtain ⟨u, _, rfl, q, u', _, rfl, q', u'', _, rfl, q'', rfl⟩ := q; exact ⟨_, .of_eq (hb u u' u''), u, _, rfl, q, u', _, rfl, q', u'', _, rfl, q'', rfl⟩) (List.forall_mem_cons.mpr ⟨hl, List.forall_mem_cons.mpr ⟨hl', List.forall_mem_cons.mpr ⟨hl'', fun _ h => nomatch h⟩⟩⟩) H hO hc trivial
end
end U13
end
noncomputable section
open PySem PySem.W PySem.Spec PySem.Calls PyProof.Rows
namespace U13
section
variable {B : Base} {c : Cx} {σ σ' σ₁ σ₂ : St} {h h' : Heap} {g : Array GenState} {Y : Addr → Prop} {I : Addr} {s s' : Shared}

/-- a thing of one's own beside the frame: into the list of what values may not touch -/
theorem Rel.sideIn (R : Rel B c σ h g) (n : h.get? I = none) (k : ∀ b o, h.get? b = some o → h'.get? b = some o) (e : ∃ o, h'.get? I = some o) : Rel B (c.xx fun a => c.X a ∨ a = I) σ h' g :=
  R.move ⟨R.ok.hh, R.ok.hd, R.ok.hu, R.ok.hk, R.ok.hg, R.ok.hb, ⟨R.ok.hL.1, .inl R.ok.hL.2⟩, fun x a q => ⟨.inl (R.ok.hC x a q).1, (R.ok.hC x a q).2⟩, R.ok.hI, R.ok.hc⟩
    (fun a o q nx => ⟨fun w => w.elim nx fun w => (by rw [w, n] at q; cases q), k a o q⟩) (fun a o _ q => k a o q) (fun b o _ q => k b o q) (fun a w => .inl (R.inv.wr a w).1) fun a w => w.elim (fun w => (R.inv.ex a w).imp (k a)) fun w => w ▸ e
/-- it turns, nothing else does -/
theorem Rel.sideStep (R : Rel B (c.xx Y) σ h g) (hY : Y I) (nW : ¬ Wr B c σ.mu I) (nB : B.h₁.get? I = none) (k : ∀ b o, b ≠ I → h.get? b = some o → h'.get? b = some o) (e : ∃ o, h'.get? I = some o) : Rel B (c.xx Y) σ h' g :=
  R.move (Y := Y) R.ok (fun a o q nx => ⟨nx, k a o (fun w => nx (w ▸ hY)) q⟩) (fun a o w q => k a o (fun z => nW (z ▸ w)) q) (fun b o w q => k b o (fun z => by rw [z, nB] at w; cases w) q) (fun a w => (R.inv.wr a w).1)
    fun a w => (Classical.em (a = I)).elim (fun z => z ▸ e) fun z => (R.inv.ex a w).imp fun o q => k a o z q
/-- and is let go -/
theorem Rel.sideOut (R : Rel B (c.xx Y) σ h g) (ok : c.Ok B) (hX : ∀ a, c.X a → Y a) (hY : Y I) (nX : ¬ c.X I) (hW : ∀ a, WrC B σ.mu a → c.X a) (nW : ¬ Wr B c σ.mu I) (nB : B.h₁.get? I = none) (k : ∀ b o, b ≠ I → h.get? b = some o → h'.get? b = some o) : Rel B c σ h' g :=
  R.move (Y := c.X) ok (fun a o q nx => ⟨fun w => nx (hX a w), k a o (fun w => nx (w ▸ hY)) q⟩) (fun a o w q => k a o (fun z => nW (z ▸ w)) q) (fun b o w q => k b o (fun z => by rw [z, nB] at w; cases w) q) hW
    fun a w => (R.inv.ex a (hX a w)).imp fun o q => k a o (fun z => nX (z ▸ w)) q

/-- a target takes a value -/
def EvA (B : Base) (c : Cx) (target : Expr) (v : MV) (σ σ' : St) : Prop :=
  ∀ s v', Rel B c σ s.heap s.gens → VR c.X s.heap v v' → wpAny (model B.prog B.w) c.A (assign target c.env v') (fun _ s' => Go B c σ σ' s s') (fun _ _ => False) s
theorem EvA.name {x : Str} {p : Pos} {v : MV} (hk : c.env.kindOf x = some .local := by rfl) : EvA B c (.Name x p) v σ ⟨(x, v) :: σ.loc, σ.mu⟩ := fun _ _ R q => assign_Name (store R (.inl hk) q fun _ g => g)
theorem EvA.pair {x y : Str} {p₁ p₂ p₃ : Pos} {k : Nat} {v v₁ v₂ : MV} (P : Pair v v₁ v₂) (hx : c.env.kindOf x = some .local := by rfl) (hy : c.env.kindOf y = some .local := by rfl) :
    EvA B c (.Tuple [.Name x p₁, .Name y p₂] k p₃) v σ ⟨(y, v₂) :: (x, v₁) :: σ.loc, σ.mu⟩ := fun _ _ R q => assign2 P R q (fun _ g => g) hx hy

/-- how a loop goes on: a value, then the body -/
def Turn (B : Base) (c : Cx) (target : Expr) (body : List Stmt) (v : MV) (σ : St) (f : MF) (σ' : St) : Prop := ∃ ρ, EvA B c target v σ ρ ∧ EvSs B c body ρ f σ'
def Trace (B : Base) (c : Cx) (target : Expr) (body : List Stmt) (n : Nat) (val : Nat → MV) (N : Nat) (τ : Nat → St) (σ' : St) : Prop :=
  (∀ i, i < N → Turn B c target body (val i) (τ i) .next (τ (i + 1))) ∧ (N = n ∧ σ' = τ N ∨ N < n ∧ Turn B c target body (val N) (τ N) .brk σ')
structure SideAt (B : Base) (c : Cx) (σ : St) (Y : Addr → Prop) (I : Addr) : Prop where
  ok : c.Ok B
  hY : Y I
  hX : ∀ a, c.X a → Y a
  nX : ¬ c.X I
  nW : ¬ Wr B c σ.mu I
  nB : B.h₁.get? I = none
  hW : ∀ a, WrC B σ.mu a → c.X a

theorem forW {target : Expr} {body : List Stmt} {fp : List Addr} {n N : Nat} {P : Nat → Value → Prop} {S : Nat → Heap → Prop} {val : Nat → MV} {τ : Nat → St} (W : Walks B.prog B.w c.A I fp [I] n P S) (D : SideAt B c σ Y I) (R : Rel B (c.xx Y) σ s.heap s.gens) (st : S 0 s.heap)
    (hfp : ∀ b ∈ fp, ¬ Wr B c σ.mu b) (hv : ∀ i v' h, i < n → P i v' → (∀ b o, ¬ Y b → s.heap.get? b = some o → h.get? b = some o) → VR Y h (val i) v')
    (hlet : ∀ i (s : Shared) v' (Q : Unit → Shared → Prop) (E : Value → Shared → Prop), i < n → S (i + 1) s.heap → VR Y s.heap (val i) v' → Q () s → wpAny (model B.prog B.w) c.A (letOwnedTupleGo target (.ref I) v') Q E s)
    (hS : ∀ i h, S i h → ∃ o, h.get? I = some o) (h0 : τ 0 = σ) (T : Trace B (c.xx Y) target body n val N τ σ') (hμ : ∀ i, i ≤ N → ∀ a, (τ i).mu.on a ↔ σ.mu.on a) (hμ' : ∀ a, σ'.mu.on a ↔ σ.mu.on a) :
    codeAny (model B.prog B.w) c.A (.forLoop target (.ref I) body [] c.env) (fun r s' => match r with
      | .ok f => f = .next ∧ Rel B c σ' s'.heap s'.gens ∧ s'.os = s.os ∧ ∀ b o, b ≠ I → ¬ Wr B c σ.mu b → s.heap.get? b = some o → s'.heap.get? b = some o
      | .error _ => False) s := by
  have wr : ∀ i, i ≤ N → ∀ a, Wr B c (τ i).mu a ↔ Wr B c σ.mu a := fun i hi a => or_congr Iff.rfl (or_congr Iff.rfl (or_congr (hμ i hi a) Iff.rfl))
  have out : ∀ b o, ¬ Y b → Wr B c σ.mu b → s.heap.get? b = some o → False := fun b o ny w _ => ny (by
    rcases w with w | ⟨x, w⟩ | w
    · exact w ▸ D.hX _ D.ok.hL.2
    · exact D.hX _ (D.ok.hC x b w).1
    · exact D.hX _ (D.hW b w))
  refine codeAny_forLoop_any (fun k s' => ∃ i, k = n + 1 - i ∧ i ≤ N ∧ Rel B (c.xx Y) (τ i) s'.heap s'.gens ∧ S i s'.heap ∧ s'.os = s.os ∧ ∀ b o, b ≠ I → ¬ Wr B c σ.mu b → s.heap.get? b = some o → s'.heap.get? b = some o)
    (fun k s₁ z => ?_) (n + 1) ⟨0, rfl, Nat.zero_le _, h0.symm ▸ R, st, rfl, fun _ _ _ _ e => e⟩
  obtain ⟨i, rfl, hi, R₁, st₁, os₁, k₁⟩ := z
  have hNn : N ≤ n := T.2.elim (fun q => Nat.le_of_eq q.1) fun q => Nat.le_of_lt q.1
  have nWi : ¬ Wr B c (τ i).mu I := fun w => D.nW ((wr i hi I).mp w)
  by_cases hin : i < n
  · refine W.item i _ _ _ hin st₁ fun v' h₂ tk₂ hP st₂ k₂ => ?_
    have k₂' : ∀ b o, b ≠ I → s₁.heap.get? b = some o → h₂.get? b = some o := fun b o hb e => k₂ b o (fun q => hb (List.mem_singleton.mp q)) e
    have R₂ : Rel B (c.xx Y) (τ i) h₂ s₁.gens := R₁.sideStep D.hY nWi D.nB k₂' (hS _ _ st₂)
    have k₃ : ∀ b o, b ≠ I → ¬ Wr B c σ.mu b → s.heap.get? b = some o → h₂.get? b = some o := fun b o hb nw e => k₂' b o hb (k₁ b o hb nw e)
    have q : VR Y h₂ (val i) v' := hv i v' h₂ hin hP fun b o ny e => k₃ b o (fun z => ny (z ▸ D.hY)) (fun w => out b o ny w e) e
    refine hlet i _ v' _ _ hin st₂ q ?_
    -- one turn, whatever its end
    have go : ∀ {f : MF} {σ₂ : St} {Q : Flow → Shared → Prop} {E : Value → Shared → Prop}, Turn B (c.xx Y) target body (val i) (τ i) f σ₂ →
        (∀ f' s', Rel B (c.xx Y) σ₂ s'.heap s'.gens → S (i + 1) s'.heap → s'.os = s.os → (∀ b o, b ≠ I → ¬ Wr B c σ.mu b → s.heap.get? b = some o → s'.heap.get? b = some o) → FR Y s'.heap f f' → Q f' s') →
        wpAny (model B.prog B.w) c.A (assign target c.env v') (fun _ s₂ => wpAny (model B.prog B.w) c.A (execs body c.env) Q E s₂) E { heap := h₂, gens := s₁.gens, drawn := s₁.drawn, toks := tk₂, os := s₁.os } := fun ⟨ρ, T₁, T₂⟩ k => by
      refine wpAny_mono (T₁ { heap := h₂, gens := s₁.gens, drawn := s₁.drawn, toks := tk₂, os := s₁.os } v' R₂ q) (fun _ s₃ g => ?_) fun _ _ z => z.elim
      refine T₂.use g.rel fun f' s₄ g' q' => ?_
      have G := g.trans R₂ g'
      have kk : ∀ b o, ¬ Wr B c σ.mu b → h₂.get? b = some o → s₄.heap.get? b = some o := fun b o nw e => G.kp b o (fun w => nw ((wr i hi b).mp w)) e
      exact k f' s₄ G.rel (W.frame _ _ _ st₂ fun b hb o e => kk b o (hfp b hb) e) (G.os.trans os₁) (fun b o hb nw e => kk b o nw (k₃ b o hb nw e)) q'
    by_cases hiN : i < N
    · refine go (T.1 i hiN) fun f' s' R' S' o' k' q' => ?_
      cases q'
      exact ⟨_, by omega, i + 1, rfl, hiN, R', S', o', k'⟩
    · have e : i = N := Nat.le_antisymm hi (Nat.le_of_not_lt hiN)
      subst e
      rcases T.2 with ⟨e, _⟩ | ⟨_, T'⟩
      · exact absurd hin (e ▸ Nat.lt_irrefl _)
      · refine go T' fun f' s' R' S' o' k' q' => ?_
        cases q'
        exact ⟨rfl, R'.sideOut D.ok D.hX D.hY D.nX (fun a w => D.hW a (w.imp (hμ' a).mp id)) (fun w => D.nW (w.imp id (Or.imp id (Or.imp (hμ' I).mp id)))) D.nB (fun _ _ _ e => e), o', k'⟩
  · have e : i = n := Nat.le_antisymm (Nat.le_trans hi hNn) (Nat.le_of_not_lt hin)
    have e' : N = n := Nat.le_antisymm hNn (e ▸ hi)
    refine W.done _ _ _ (e ▸ st₁) fun h₂ tk₂ k₂ => wpAny_execs_nil ⟨rfl, ?_, os₁, fun b o hb nw q => k₂ b o (fun z => hb (List.mem_singleton.mp z)) (k₁ b o hb nw q)⟩
    rcases T.2 with ⟨_, e''⟩ | ⟨lt, _⟩
    · rw [e'', e', ← e]
      exact R₁.sideOut D.ok D.hX D.hY D.nX (fun a w => D.hW a (w.imp (hμ i hi a).mp id)) nWi D.nB fun b o hb q => k₂ b o (fun z => hb (List.mem_singleton.mp z)) q
    · exact absurd lt (e' ▸ Nat.lt_irrefl _)
end
end U13
end
noncomputable section
open PySem PySem.W PySem.Spec PySem.Calls PyProof.Rows
namespace U13
section
variable {B : Base} {c : Cx} {σ σ' σ₁ σ₂ : St} {v : MV} {vs : List MV} {e e₁ : Expr} {es : List Expr} {pos p₁ p₂ : Pos} {body : List Stmt} {target : Expr}

theorem Rel.side {h' : Heap} {s : Shared} (R : Rel B c σ s.heap s.gens) (k : ∀ b o, s.heap.get? b = some o → h'.get? b = some o) (e : ∃ o, h'.get? s.heap.objs.size = some o) :
    SideAt B c σ (fun a => c.X a ∨ a = s.heap.objs.size) s.heap.objs.size ∧ Rel B (c.xx fun a => c.X a ∨ a = s.heap.objs.size) σ h' s.gens := by
  have n : s.heap.get? s.heap.objs.size = none := Heap.get?_none_of_le (Nat.le_refl _)
  refine ⟨⟨R.ok, .inr rfl, fun _ w => .inl w, R.fresh, fun w => ?_, ?_, fun a w => (R.inv.wr a w).1⟩, R.sideIn n k e⟩
  · obtain ⟨_, _, o, q⟩ := R.wr w; rw [n] at q; cases q
  · cases q : B.h₁.get? s.heap.objs.size with
    | none => rfl
    | some o => rw [R.inv.base _ _ q] at n; cases n

/-- a loop over a fresh iterator -/
theorem forPush {it : Obj} {s : Shared} {tk : Nat} {fp : List Addr} {n N : Nat} {P : Nat → Value → Prop} {S : Nat → Heap → Prop} {val : Nat → MV} {τ : Nat → St} (R : Rel B c σ s.heap s.gens) (W : Walks B.prog B.w c.A s.heap.objs.size fp [s.heap.objs.size] n P S) (st : S 0 (s.heap.push it)) (hit : it.isFreed = false)
    (hfp : ∀ b ∈ fp, b ≠ s.heap.objs.size → ¬ c.X b) (hv : ∀ i v', i < n → P i v' → VR c.X s.heap (val i) v')
    (hlet : ∀ i (s₂ : Shared) v' (Q : Unit → Shared → Prop) (E : Value → Shared → Prop), i < n → S (i + 1) s₂.heap → (∃ X h, VR X h (val i) v') → Q () s₂ → wpAny (model B.prog B.w) c.A (letOwnedTupleGo target (.ref s.heap.objs.size) v') Q E s₂)
    (hS : ∀ i h, S i h → ∃ o, h.get? s.heap.objs.size = some o) (h0 : τ 0 = σ) (T : ∀ Y, Trace B (c.xx Y) target body n val N τ σ') (hμ : ∀ i, i ≤ N → ∀ a, (τ i).mu.on a ↔ σ.mu.on a) (hμ' : ∀ a, σ'.mu.on a ↔ σ.mu.on a) :
    codeAny (model B.prog B.w) c.A (.forLoop target (.ref s.heap.objs.size) body [] c.env) (fun r s' => match r with
      | .ok f => f = .next ∧ Go B c σ σ' s s'
      | .error _ => False) { s with heap := s.heap.push it, toks := tk } := by
  have k : ∀ b o, s.heap.get? b = some o → (s.heap.push it).get? b = some o := fun _ _ e => Heap.get?_push_of_some _ e
  obtain ⟨D, R₁⟩ := R.side k ⟨_, Heap.get?_push_size _ hit⟩
  have kY : ∀ a o, s.heap.get? a = some o → ¬ c.X a → ¬ (c.X a ∨ a = s.heap.objs.size) ∧ (s.heap.push it).get? a = some o := fun a o e n => ⟨fun w => w.elim n (Nat.ne_of_lt (Heap.lt_size e)), k a o e⟩
  refine codeAny_mono (forW (s := { s with heap := s.heap.push it, toks := tk }) W D R₁ st (fun b hb w => ?_) (fun i v' h hi hP kk => ?_) (fun i s v' Q E hi st r hQ => hlet i s v' Q E hi st ⟨_, _, r⟩ hQ) hS h0 (T _) hμ hμ') fun r s' z => ?_
  · by_cases e : b = s.heap.objs.size
    · exact D.nW (e ▸ w)
    · exact hfp b hb e (R.wr w).1
  · exact ((hv i v' hi hP).map kY).map fun a o e n => ⟨n, kk a o n e⟩
  · cases r with
    | error => exact z.elim
    | ok f =>
      obtain ⟨rfl, R', os, kp⟩ := z
      exact ⟨rfl, fun b o nw e => kp b o (Nat.ne_of_lt (Heap.lt_size e)) nw (k b o e), os, fun a w => .inl ((hμ' a).mp w), R'⟩

/-- what a loop's target may take -/
def Fits (target : Expr) (vs : List MV) : Prop := (∃ x p, target = .Name x p) ∨ ((∃ es k p, target = .Tuple es k p) ∧ ∀ v ∈ vs, ∃ v₁ v₂, Pair v v₁ v₂)
theorem Fits.ref (h : Fits target vs) {i : Nat} (hi : i < vs.length) {X : Addr → Prop} {hp : Heap} {v' : Value} (r : VR X hp (vs.getD i .none) v') : (∃ x p, target = .Name x p) ∨ (∃ es k p, target = .Tuple es k p) ∧ ∃ a, v' = .ref a := h.imp id fun ⟨ht, hp⟩ => ⟨ht, by
  obtain ⟨v₁, v₂, P⟩ := hp (vs.getD i .none) (by rw [List.getD_eq_getElem?_getD, List.getElem?_eq_getElem hi]; exact List.getElem_mem hi)
  rcases P with P | P <;> rw [P] at r <;> obtain ⟨a, _, z, _⟩ := r <;> exact ⟨a, z⟩⟩
theorem VRs.at {X : Addr → Prop} {h : Heap} {ws : List Value} (q : VRs X h vs ws) {i : Nat} {v' : Value} (hP : ws.toArray[i]? = some v') : VR X h (vs.getD i .none) v' := by
  have e₃ : ws[i]? = some v' := by simpa using hP
  have hi : i < vs.length := q.len ▸ (List.getElem?_eq_some_iff.mp e₃).1
  obtain ⟨w, e₁, e₂⟩ := q.get (i := i) (v := vs.getD i .none) (by rw [List.getD_eq_getElem?_getD, List.getElem?_eq_getElem hi]; rfl)
  rw [e₃] at e₁; cases e₁
  exact e₂

/-- what may be gone over -/
def Src (B : Base) (c : Cx) (target : Expr) (iv : MV) (n : Nat) (val : Nat → MV) : Prop :=
  ∀ σ s v', Rel B c σ s.heap s.gens → VR c.X s.heap iv v' → ∃ (it : Obj) (fp : List Addr) (P : Nat → Value → Prop) (S : Nat → Heap → Prop), it.isFreed = false ∧ (∀ (Q : Value → Shared → Prop) (E : Value → Shared → Prop), Q (.ref s.heap.objs.size) { s with heap := s.heap.push it } → wpAny (model B.prog B.w) c.A (pyIter v') Q E s) ∧
    Walks B.prog B.w c.A s.heap.objs.size fp [s.heap.objs.size] n P S ∧ (∀ h', (∀ b o, s.heap.get? b = some o → h'.get? b = some o) → h'.get? s.heap.objs.size = some it → S 0 h') ∧ (∀ i h, S i h → ∃ o, h.get? s.heap.objs.size = some o) ∧
    (∀ b ∈ fp, b ≠ s.heap.objs.size → ¬ c.X b ∧ ∃ o, s.heap.get? b = some o) ∧ (∀ i v', i < n → P i v' → VR c.X s.heap (val i) v') ∧
    ∀ i (s₂ : Shared) v' (Q : Unit → Shared → Prop) (E : Value → Shared → Prop), i < n → S (i + 1) s₂.heap → (∃ X h, VR X h (val i) v') → Q () s₂ → wpAny (model B.prog B.w) c.A (letOwnedTupleGo target (.ref s.heap.objs.size) v') Q E s₂
theorem Src.list (ht : Fits target vs) : Src B c target (.list vs) vs.length fun i => vs.getD i .none := fun σ s v' R ⟨ax, ws, e, nX, hl, q⟩ => by
  subst e
  obtain ⟨oa, ha, _⟩ := id hl
  have W := Walks.list (prog := B.prog) (w := B.w) R.ok.hh s.heap.objs.size ax (Nat.ne_of_lt (Heap.lt_size ha)) ws.toArray
  rw [show ws.toArray.size = vs.length by rw [List.size_toArray, q.len]] at W
  refine ⟨_, _, _, _, rfl, fun Q E h => wpAny_pyIter_list hl h, W, fun h' k e => ⟨⟨_, e, rfl, rfl⟩, hl.at fun o e => k _ o e⟩, fun i h st => ?_, fun b hb n => ?_, fun i v' _ hP => q.at hP, fun i s v' Q E hi st hP hQ => ?_⟩
  · obtain ⟨⟨o, ho, _⟩, _⟩ := st; exact ⟨o, ho⟩
  · rcases List.mem_cons.mp hb with rfl | hb
    · exact absurd rfl n
    · rw [List.mem_singleton.mp hb]; exact ⟨nX, _, ha⟩
  · obtain ⟨_, _, hP⟩ := hP
    rcases ht.ref hi hP with ⟨x, p, rfl⟩ | ⟨⟨es, k, p, rfl⟩, a, rfl⟩
    · exact wpAny_pure hQ
    · exact wpAny_letOwnedTupleGo_listiter st.1 hQ
theorem Src.tup {x : Str} {p : Pos} : Src B c (.Name x p) (.tup vs) vs.length fun i => vs.getD i .none := fun σ s v' R ⟨ax, ws, e, nX, hl, q⟩ => by
  subst e
  obtain ⟨oa, ha, _⟩ := id hl
  have W := Walks.tuple (prog := B.prog) (w := B.w) R.ok.hh s.heap.objs.size ax (Nat.ne_of_lt (Heap.lt_size ha)) ws.toArray
  rw [show ws.toArray.size = vs.length by rw [List.size_toArray, q.len]] at W
  refine ⟨_, _, _, _, rfl, fun Q E h => wpAny_pyIter_tuple hl h, W, fun h' k e => ⟨⟨_, e, rfl, rfl⟩, hl.keeps k⟩, fun i h st => ?_, fun b hb n => ?_, fun i v' _ hP => q.at hP, fun i s v' Q E hi st hP hQ => wpAny_pure hQ⟩
  · obtain ⟨⟨o, ho, _⟩, _⟩ := st; exact ⟨o, ho⟩
  · rcases List.mem_cons.mp hb with rfl | hb
    · exact absurd rfl n
    · rw [List.mem_singleton.mp hb]; exact ⟨nX, _, ha⟩

/-- for -/
theorem EvS.forS {iv : MV} {n N : Nat} {val : Nat → MV} {τ : Nat → St} (H : EvE B c e σ iv σ₁) (hs' : Src B c target iv n val) (h0 : τ 0 = σ₁) (T : ∀ Y, Trace B (c.xx Y) target body n val N τ σ') (hμ : ∀ i, i ≤ N → ∀ a, (τ i).mu.on a ↔ σ₁.mu.on a) (hμ' : ∀ a, σ'.mu.on a ↔ σ₁.mu.on a)
    (hs : ∀ x, foldedSetIterable e c.env x = pure x := by intro _; rfl) : EvS B c (.For target e body [] pos) σ .next σ' := fun s R =>
  wpAny_For (H.use R fun v' s₁ g q => by
    obtain ⟨it, fp, P, S, e1, e2, W, e3, e4, e5, e6, e7⟩ := hs' _ _ _ g.rel q
    refine e2 _ _ (codeAny_mono (forPush (tk := s₁.toks) g.rel W (e3 _ (fun _ _ e => Heap.get?_push_of_some _ e) (Heap.get?_push_size _ e1)) e1 (fun b hb n => (e5 b hb n).1) e6 e7 e4 h0 T hμ hμ') fun r s' z => ?_)
    cases r with
    | error => exact z.elim
    | ok f => exact ⟨g.trans R z.2, z.1⟩) hs
theorem EvS.forL {N : Nat} {τ : Nat → St} (H : EvE B c e σ (.list vs) σ₁) (h0 : τ 0 = σ₁) (T : ∀ Y, Trace B (c.xx Y) target body vs.length (fun i => vs.getD i .none) N τ σ') (hμ : ∀ i, i ≤ N → ∀ a, (τ i).mu.on a ↔ σ₁.mu.on a) (hμ' : ∀ a, σ'.mu.on a ↔ σ₁.mu.on a)
    (ht : Fits target vs) (hs : ∀ x, foldedSetIterable e c.env x = pure x := by intro _; rfl) : EvS B c (.For target e body [] pos) σ .next σ' := .forS H (.list ht) h0 T hμ hμ' hs
end
end U13
end
noncomputable section
open PySem PySem.W PySem.Spec PySem.Calls PyProof.Rows
namespace U13
section
variable {B : Base} {c : Cx} {σ σ' σ₁ σ₂ : St} {v : MV} {vs : List MV} {e e₁ : Expr} {es : List Expr} {pos p₁ p₂ : Pos} {body : List Stmt} {target : Expr} {x : Str}

/-- a name of Python's own -/
theorem builtinName {s : Shared} {f : Value} {Q : Value → Shared → Prop} {E : Value → Shared → Prop} (R : Rel B c σ s.heap s.gens) (hf : B.mg x = none) (hb : bootBuiltins x = some f) (hx : x ≠ "__name__") (hk : c.env.kindOf x = some .globalImplicit) (hd : (x == ("__debug__" : Str)) = false) (h : Q f s) :
    wpAny (model B.prog B.w) c.A (eval (.Name x pos) c.env) Q E s :=
  Name_function_global R.ok.hk hk (loadGlobal_builtin (by rw [R.ok.hg]; exact B.g.keeps R.inv.base) hf (by rw [R.ok.hb]; exact B.b.keeps R.inv.base) ((B.bi x hx).trans hb) h) hd

theorem EvS.forR {n N : Nat} {x' : Str} {τ : Nat → St} (H : EvE B c e σ (.int n) σ₁) (h0 : τ 0 = σ₁) (T : ∀ Y, Trace B (c.xx Y) (.Name x' p₂) body n (fun i => .int i) N τ σ') (hμ : ∀ i, i ≤ N → ∀ a, (τ i).mu.on a ↔ σ₁.mu.on a) (hμ' : ∀ a, σ'.mu.on a ↔ σ₁.mu.on a) (hn : (n : Int) < 2 ^ 62)
    (hk : c.env.kindOf "range" = some .globalImplicit := by rfl) (hs : ∀ x, foldedSetIterable (.Call (.Name "range" p₁) [e] [] pos) c.env x = pure x := by intro _; rfl)
    (h1 : eval (.Call (.Name "range" p₁) [e] [] pos) c.env = (do callWith pos (← eval (.Name "range" p₁) c.env) [] (backTo pos (starEach [e] c.env)) (backToKw pos (keywordEach [] c.env))) := by rfl)
    (h2 : starEach [e] c.env = (false, eval e c.env) :: starEach [] c.env := by rfl) {pos' : Pos} : EvS B c (.For (.Name x' p₂) (.Call (.Name "range" p₁) [e] [] pos) body [] pos') σ .next σ' := fun s R =>
  wpAny_For (Call_ (builtinName R (B.free _ (by decide)) boot_range (by decide) hk (by decide) (callWith_type1 (args_cons (H.use R fun v' s₁ g q => args_nil (by
    obtain ⟨t, rfl⟩ := q
    refine call_range_1 ?_
    have G := Go.push g.rel ⟨.type "range", none, .fields #[.int 0 s₁.toks, .int n t, .int 1 (s₁.toks + 1)], #[]⟩ (t := s₁.toks + 1 + 1)
    refine wpAny_pyIter_range (IsRange.new _ _ _ _ _ _ _) (small_one (by decide) (by decide) (Int.le_trans (by decide) (Int.natCast_nonneg n)) hn) ?_
    have hsz : Builtin.Range.rangeSize 0 n 1 = (n : Int) := by rw [rangeSize_one]; split <;> omega
    rw [hsz]
    refine codeAny_mono (forPush (tk := s₁.toks + 1 + 1) G.rel (Walks.range (prog := B.prog) (w := B.w) g.rel.ok.hh _ 0 1 n) ?_ rfl (fun b hb h => absurd (List.mem_singleton.mp hb) h) (fun i v' hi hP => ?_) (fun i s v' Q E _ st r hQ => wpAny_pure hQ) (fun i h st => ⟨_, st⟩) h0 T hμ hμ') fun r s' z => ?_
    · show IsRangeIter _ _ (0 + ((0 : Nat) : Int) * 1) ((n : Int) - ((0 : Nat) : Int)) 1
      rw [show (0 + ((0 : Nat) : Int) * 1) = 0 from rfl, show ((n : Int) - ((0 : Nat) : Int)) = n from Int.sub_zero _]
      exact Heap.get?_push_size _ rfl
    · obtain ⟨t, rfl⟩ := hP
      exact ⟨t, by rw [Int.mul_one, Int.zero_add]⟩
    · cases r with
      | error => exact z.elim
      | ok f => exact ⟨(g.trans R G).trans R z.2, z.1⟩)) h2) h2)) h1) hs

/-- a call of a built-in -/
def BuiR (B : Base) (c : Cx) (f : Value) (vs : List MV) (v : MV) : Prop :=
  ∀ σ s ws, Rel B c σ s.heap s.gens → VRs c.X s.heap vs ws → wpAny (model B.prog B.w) c.A (call f ws) (fun v' s' => Go B c σ σ s s' ∧ VR c.X s'.heap v v') (fun _ _ => False) s
theorem EvE.bui {id : String} (K : EvL B c (e :: es) σ vs σ₁) (C : BuiR B c (.builtin id) vs v) (hb : bootBuiltins x = some (.builtin id)) (hf : B.mg x = none) (hx : x ≠ "__name__" := by decide)
    (hk : c.env.kindOf x = some .globalImplicit := by rfl) (hd : (x == ("__debug__" : Str)) = false := by decide)
    (h1 : eval (.Call (.Name x p₁) (e :: es) [] pos) c.env = (do callWith pos (← eval (.Name x p₁) c.env) [] (backTo pos (starEach (e :: es) c.env)) (backToKw pos (keywordEach [] c.env))) := by rfl)
    (h2 : starEach (e :: es) c.env = (false, eval e c.env) :: starEach es c.env := by rfl) (h3 : (backTo pos (starEach es c.env)).any (·.1) = false := by rfl) : EvE B c (.Call (.Name x p₁) (e :: es) [] pos) σ v σ₁ := fun s R =>
  Call_ (builtinName R hf hb hx hk hd (callWith_builtin1 (K.use R fun vs' s₁ g q => wpAny_mono (C _ _ _ g.rel q) (fun _ _ z => ⟨g.trans R z.1, z.2⟩) fun _ _ z => z.elim) h2 h3)) h1
theorem EvE.len (K : EvE B c e σ v σ₁) (C : BuiR B c (.builtin "len") [v] (.int n)) (hk : c.env.kindOf "len" = some .globalImplicit := by rfl)
    (h1 : eval (.Call (.Name "len" p₁) [e] [] pos) c.env = (do callWith pos (← eval (.Name "len" p₁) c.env) [] (backTo pos (starEach [e] c.env)) (backToKw pos (keywordEach [] c.env))) := by rfl)
    (h2 : starEach [e] c.env = (false, eval e c.env) :: starEach [] c.env := by rfl) : EvE B c (.Call (.Name "len" p₁) [e] [] pos) σ (.int n) σ₁ := .bui (.cons K .nil h2) C boot_len (B.free _ (by decide)) (by decide) hk (by decide) h1 h2

/-- a name of the top that holds an int -/
theorem EvE.gint {i : Int} {t : Tok} (hf : B.mg x = some (.int i t)) (hk : c.env.kindOf x = some .globalImplicit := by rfl) (hd : (x == ("__debug__" : Str)) = false := by decide) : EvE B c (.Name x pos) σ (.int i) σ := fun s R =>
  Name_function_global R.ok.hk hk (loadGlobal_global (by rw [R.ok.hg]; exact B.g.keeps R.inv.base) hf ⟨.refl R, t, rfl⟩) hd
end
end U13
end
noncomputable section
open PySem PySem.W PySem.Spec PySem.Calls PyProof.Rows
namespace U13
theorem small_mul {a b : Int} (h : -(2 ^ 64) < a) (h' : a < 2 ^ 64) : IntMulOk a b := by
  intro q
  rw [Bool.and_eq_true, Bool.and_eq_true] at q
  exact absurd (of_decide_eq_true q.1.1) (Nat.not_lt.mpr (intBits_le_64 h h'))
section
variable {B : Base} {c : Cx} {σ σ' σ₁ σ₂ σ₃ σ₄ : St} {v v₀ v₁ v₂ : MV} {vs l l₁ l₂ r : List MV} {e e₁ e₂ : Expr} {es : List Expr} {pos p₁ p₂ p₃ : Pos} {x : Str} {n : Nat} {id : String} {i j : Int}

theorem Go.keep {s : Shared} {h' : Heap} {tk : Nat} (R : Rel B c σ s.heap s.gens) (k : ∀ b o, s.heap.get? b = some o → h'.get? b = some o) : Go B c σ σ s { s with heap := h', toks := tk } := .ext R k rfl rfl

theorem OpR.fdiv (hb : j ≠ 0) (hj : j.natAbs < 1073741824) : OpR B c (binaryOp .FloorDiv) (.int i) (.int j) (.int (i.fdiv j)) := fun _ _ _ _ R ⟨_, e⟩ ⟨_, e'⟩ => e ▸ e' ▸ floordiv_int hb ⟨.toks R, _, rfl⟩ (.inl (PyProof.noPylong_small hj))
theorem OpR.shl (hn : 0 ≤ j) (hn2 : j ≤ 1000000) (ha : i.natAbs < 2 ^ 64) : OpR B c (binaryOp .LShift) (.int i) (.int j) (.int (i * 2 ^ j.toNat)) := fun _ _ _ _ R ⟨_, e⟩ ⟨_, e'⟩ => e ▸ e' ▸ lshift_int_small hn hn2 ha ⟨.toks R, _, rfl⟩
theorem OpR.shr (hn : 0 ≤ j) : OpR B c (binaryOp .RShift) (.int i) (.int j) (.int (i.fdiv (2 ^ j.toNat))) := fun _ _ _ _ R ⟨_, e⟩ ⟨_, e'⟩ => e ▸ e' ▸ rshift_int hn ⟨.toks R, _, rfl⟩
theorem OpR.xor : OpR B c (binaryOp .BitXor) (.int i) (.int j) (.int (Builtin.bitXor i j)) := fun _ _ _ _ R ⟨_, e⟩ ⟨_, e'⟩ => e ▸ e' ▸ xor_int ⟨.toks R, _, rfl⟩
theorem OpR.smul {x : Str} (h : MulOk x j) : OpR B c (binaryOp .Mult) (.str x) (.int j) (.str (Txt.mul x j)) := fun _ _ _ _ R ⟨_, e⟩ ⟨_, e'⟩ => e ▸ e' ▸ SB.mul h fun _ _ => ⟨.toks R, _, rfl⟩
theorem OpR.sadd {x y : Str} (h : x.length + y.length ≤ 1000000) : OpR B c (binaryOp .Add) (.str x) (.str y) (.str (x ++ y)) := fun _ _ _ _ R ⟨_, e⟩ ⟨_, e'⟩ => e ▸ e' ▸ add_str (fun _ _ => ⟨.toks R, _, rfl⟩) (Nat.le_trans h (by rw [sizeLine_eq]; decide))
theorem OpR.sne {x y : Str} : OpR B c (compareOp .NotEq) (.str x) (.str y) (.bool (x != y)) := fun _ _ _ _ R ⟨_, e⟩ ⟨_, e'⟩ => e ▸ e' ▸ PyProof.Rows.ne_str ⟨.refl R, rfl⟩
theorem OpR.seq {x y : Str} : OpR B c (compareOp .Eq) (.str x) (.str y) (.bool (x == y)) := fun _ _ _ _ R ⟨_, e⟩ ⟨_, e'⟩ => e ▸ e' ▸ PyProof.Rows.eq_str ⟨.refl R, rfl⟩

/-- a fresh list of known values -/
theorem VR.fresh {s : Shared} (R : Rel B c σ s.heap s.gens) {ws : List Value} (q : VRs c.X s.heap l ws) : VR c.X (s.heap.push { cls := .type "list", data := .seq ws.toArray }) (.list l) (.ref s.heap.objs.size) :=
  ⟨_, ws, rfl, R.fresh, ⟨_, Heap.get?_push_size _ rfl, rfl, _, rfl⟩, Go.vrs R (.push R _ (t := s.toks)) q⟩
theorem OpR.lcat (h : l₁.length + l₂.length ≤ 1000000) : OpR B c (binaryOp .Add) (.list l₁) (.list l₂) (.list (l₁ ++ l₂)) := fun σ s _ _ R ⟨a, vs, ea, _, ha, qa⟩ ⟨b, ws, eb, _, hb, qb⟩ => by
  subst ea eb
  obtain ⟨⟨cls, dd, data, sl⟩, ho, hc, n, hd⟩ := id ha
  obtain ⟨⟨cls2, dd2, data2, sl2⟩, ho2, hc2, n2, hd2⟩ := id hb
  simp only at hc hd hc2 hd2
  subst hc hd hc2 hd2
  have e : vs.toArray ++ ws.toArray = (vs ++ ws).toArray := by simp
  refine concat_meets ⟨_, ho, rfl⟩ ⟨_, ho2, rfl⟩ noFill_list_add seq_list_add PySem.F.slot_list_add PySem.F.entry_list_add (PySem.F.args_list_add_2 _ _) (list_addW a b vs.toArray ws.toArray n n2 dd dd2 sl sl2 (Nat.le_trans (by simpa [qa.len, qb.len] using h) (by rw [sizeLine_eq]; decide))) ⟨ho, ho2, ?_⟩
  rw [e]
  exact ⟨.push R _, VR.fresh R (qb.app qa)⟩

theorem carInts {X : Addr → Prop} {h : Heap} : ∀ {ns : List Int} {ws : List Value}, VRs X h (ns.map .int) ws → IntsAre ws ns
  | [], _, rfl => .nil
  | _ :: _, _, ⟨_, _, rfl, ⟨t, rfl⟩, q⟩ => .cons _ t (carInts q)
theorem intsCar {X : Addr → Prop} {h : Heap} : ∀ {ns : List Int} {ws : List Value}, IntsAre ws ns → VRs X h (ns.map .int) ws
  | _, _, .nil => rfl
  | _, _, .cons _ t q => ⟨_, _, rfl, ⟨t, rfl⟩, intsCar q⟩

theorem BuiR.bitlen : BuiR B c (.builtin "int.bit_length") [.int i] (.int (Builtin.Int.intBits i)) := fun _ _ _ R q => by
  obtain ⟨_, _, rfl, ⟨t, rfl⟩, rfl⟩ := q; exact call_int_bit_length ⟨.toks R, _, rfl⟩
theorem BuiR.abs : BuiR B c (.builtin "abs") [.int i] (.int (if i < 0 then -i else i)) := fun _ _ _ R q => by
  obtain ⟨_, _, rfl, ⟨t, rfl⟩, rfl⟩ := q; exact call_abs_int fun _ _ => ⟨.toks R, _, rfl⟩
theorem BuiR.divmod (hb : j ≠ 0) (hj : j.natAbs.log2 < 9000) : BuiR B c (.builtin "divmod") [.int i, .int j] (.tup [.int (i.fdiv j), .int (i.fmod j)]) := fun _ s _ R q => by
  obtain ⟨_, _, rfl, ⟨t, rfl⟩, _, _, rfl, ⟨u, rfl⟩, rfl⟩ := q
  exact divmod_int hb ⟨.push R _, _, [_, _], rfl, R.fresh, ⟨_, Heap.get?_push_size _ rfl, rfl, _, rfl⟩, _, _, rfl, ⟨_, rfl⟩, _, _, rfl, ⟨_, rfl⟩, rfl⟩ (.inl (PyProof.noPylong_of_log2 hj))
theorem BuiR.sum {ns : List Int} : BuiR B c (.builtin "sum") [.list (ns.map .int)] (.int ns.sum) := fun _ s _ R q => by
  obtain ⟨_, _, rfl, ⟨a, ws, rfl, _, hl, q⟩, rfl⟩ := q
  obtain ⟨xs, hx⟩ := (carInts q).allInts.items
  rw [hx] at hl
  refine sum_intListG R.ok.hh hl fun h' tk t' k => ?_
  refine ⟨.keep R k, t', ?_⟩
  rw [preSum_eq, List.take_of_length_le (by simp), ← nums_intItems, ← hx, show ws.toArray.toList = ws from rfl, (carInts q).numsOf]
theorem small63 {n : Nat} (h : n ≤ 1000000) : (n : Int) < 2 ^ 63 := by omega
theorem line {n : Nat} (h : n ≤ 1000000) : n ≤ sizeLine := Nat.le_trans h (by rw [sizeLine_eq]; decide)
theorem BuiR.lenL (h : l.length ≤ 1000000) : BuiR B c (.builtin "len") [.list l] (.int l.length) := fun _ s _ R q => by
  obtain ⟨_, _, rfl, ⟨a, ws, rfl, _, hl, q⟩, rfl⟩ := q
  refine call_len_list hl (by rw [List.size_toArray, q.len]; exact small63 h) ?_
  rw [List.size_toArray, q.len]; exact ⟨.toks R, _, rfl⟩
theorem BuiR.lenS {x : Str} (h : x.length ≤ 1000000) : BuiR B c (.builtin "len") [.str x] (.int x.length) := fun _ s _ R q => by
  obtain ⟨_, _, rfl, ⟨a, rfl⟩, rfl⟩ := q
  exact P.len_str (Int.not_le.mpr (small63 h)) ⟨.toks R, _, rfl⟩
theorem sortU : ∀ {a b : List Int}, a.Perm b → a.Pairwise (· ≤ ·) → b.Pairwise (· ≤ ·) → a = b
  | [], b, p, _, _ => (List.nil_perm.mp p).symm
  | x :: a, [], p, _, _ => (List.perm_nil.mp p)
  | x :: a, y :: b, p, ha, hb => by
    rw [List.pairwise_cons] at ha hb
    have h1 : x ≤ y := (List.mem_cons.mp (p.symm.subset (List.mem_cons_self))).elim (fun e => Int.le_of_eq e.symm) (ha.1 y)
    have h2 : y ≤ x := (List.mem_cons.mp (p.subset (List.mem_cons_self))).elim (fun e => Int.le_of_eq e.symm) (hb.1 x)
    have e := Int.le_antisymm h1 h2
    subst e
    rw [sortU (List.Perm.cons_inv p) ha.2 hb.2]
theorem BuiR.sorted {ns ms : List Int} (h : ns.length < 64) (hp : ms.Perm ns) (hs : ms.Pairwise (· ≤ ·)) : BuiR B c (.builtin "sorted") [.list (ns.map .int)] (.list (ms.map .int)) := fun _ s _ R q => by
  obtain ⟨_, _, rfl, ⟨a, ws, rfl, _, hl, q⟩, rfl⟩ := q
  refine sorted_ints hl (carInts q) (by rw [q.len, List.length_map]; exact h) fun out ns' a1 a2 a3 => ?_
  obtain ⟨e, he⟩ := sortedAll_at s.heap ws out
  cases sortU (a2.trans hp.symm) a3 hs
  have R' := Go.keep (tk := s.toks) R (h' := sortedAll s.heap ws out) fun _ _ => sortedAll_old
  refine ⟨R', _, out.toList, rfl, fun w => ?_, ⟨_, he, rfl, _, rfl⟩, intsCar a1⟩
  obtain ⟨o, w⟩ := R.inv.ex _ w
  exact Nat.lt_irrefl _ (Nat.lt_of_succ_lt (Heap.lt_size w))

-- methods of plain values
def MetR (B : Base) (c : Cx) (σ : St) (name : Str) (v : MV) (id : String) : Prop :=
  ∀ s x pl Q E, Rel B c σ s.heap s.gens → VR c.X s.heap v x → Q (.builtin id, [x]) s → wpAny (model B.prog B.w) c.A (getMethod x name pl) Q E s
def CalR (B : Base) (c : Cx) (f : Value) (vs : List MV) (σ : St) (v : MV) (σ' : St) : Prop :=
  ∀ s ws, Rel B c σ s.heap s.gens → VRs c.X s.heap vs ws → wpAny (model B.prog B.w) c.A (call f ws) (fun v' s' => Go B c σ σ' s s' ∧ VR c.X s'.heap v v') (fun _ _ => False) s
theorem BuiR.cal {f : Value} (h : BuiR B c f vs v) : CalR B c f vs σ v σ := fun s ws => h σ s ws
theorem EvE.meth0 {o : Expr} {name : Str} {apos : Pos} {pl : Sem Bool} (H : EvE B c o σ v₀ σ₁) (G : MetR B c σ₁ name v₀ id) (C : CalR B c (.builtin id) [v₀] σ₁ v σ₂)
    (he : eval (.Call (.Attribute o name apos) [] [] pos) c.env = (do
      let ov ← eval o c.env
      standAt apos.atName
      let (f, first) ← holding [ov] (getMethod ov name pl)
      callWith pos f first (backTo pos (starEach [] c.env)) []) := by rfl) : EvE B c (.Call (.Attribute o name apos) [] [] pos) σ v σ₂ := fun _ R =>
  MethodCall_ (H.use R fun x s₁ g q => G _ _ _ _ _ g.rel q (callWith_method0 (wpAny_mono (C _ _ g.rel ⟨x, [], rfl, q, rfl⟩) (fun _ _ z => ⟨g.trans R z.1, z.2⟩) fun _ _ z => z.elim))) he
theorem EvE.meth1 {o : Expr} {name : Str} {apos : Pos} {pl : Sem Bool} (H : EvE B c o σ v₀ σ₁) (K : EvL B c (e :: es) σ₁ vs σ₂) (G : MetR B c σ₁ name v₀ id) (C : CalR B c (.builtin id) (v₀ :: vs) σ₂ v σ₃)
    (he : eval (.Call (.Attribute o name apos) (e :: es) [] pos) c.env = (do
      let ov ← eval o c.env
      standAt apos.atName
      let (f, first) ← holding [ov] (getMethod ov name pl)
      callWith pos f first (backTo pos (starEach (e :: es) c.env)) []) := by rfl)
    (h2 : starEach (e :: es) c.env = (false, eval e c.env) :: starEach es c.env := by rfl) (h3 : (backTo pos (starEach es c.env)).any (·.1) = false := by rfl) : EvE B c (.Call (.Attribute o name apos) (e :: es) [] pos) σ v σ₃ := fun _ R =>
  MethodCall_ (H.use R fun x s₁ g q => G _ _ _ _ _ g.rel q (callWith_method1 (K.use g.rel fun ws s₂ g₂ q₂ => wpAny_mono (C _ _ g₂.rel ⟨x, ws, rfl, g₂.vr g.rel q, q₂⟩) (fun _ _ z => ⟨(g.trans R g₂).trans R z.1, z.2⟩) fun _ _ z => z.elim) h2 h3)) he
theorem MetR.bitlen : MetR B c σ "bit_length" (.int i) "int.bit_length" := fun _ _ _ _ _ _ ⟨_, e⟩ h => by subst e; exact getMethod_int_bit_length h
theorem MetR.lstrip {x : Str} : MetR B c σ "lstrip" (.str x) "str.lstrip" := fun _ _ _ _ _ _ ⟨_, e⟩ h => by subst e; exact GM.lstrip h
theorem MetR.split {x : Str} : MetR B c σ "split" (.str x) "str.split" := fun _ _ _ _ _ _ ⟨_, e⟩ h => by subst e; exact GM.split h
theorem MetR.join {x : Str} : MetR B c σ "join" (.str x) "str.join" := fun _ _ _ _ _ _ ⟨_, e⟩ h => by subst e; exact GM.join h
theorem BuiR.lstripC {x y : Str} (h : x.length ≤ 1000000) : BuiR B c (.builtin "str.lstrip") [.str x, .str y] (.str (Txt.lstripChars x y)) := fun _ s _ R q => by
  obtain ⟨_, _, rfl, ⟨t, rfl⟩, _, _, rfl, ⟨u, rfl⟩, rfl⟩ := q
  exact SC.lstripChars (fun _ _ => ⟨.toks R, _, rfl⟩) (line h)
theorem strsVR {X : Addr → Prop} {h : Heap} : ∀ {ys : List Str} {ws : List Value}, VRs X h (ys.map .str) ws → StrsAre ws ys
  | [], _, rfl => .nil
  | _ :: _, _, ⟨_, _, rfl, ⟨t, rfl⟩, q⟩ => .cons _ t (strsVR q)
theorem vrStrs {X : Addr → Prop} {h : Heap} : ∀ (l : List (Str × Tok)), VRs X h ((l.map (·.1)).map .str) (strValues l)
  | [] => rfl
  | (_, t) :: l => ⟨_, _, rfl, ⟨t, rfl⟩, vrStrs l⟩
theorem BuiR.split {x y : Str} {ps : List Str} (h1 : (decide (x.length < y.length) || decide (Builtin.Str.strKind x < Builtin.Str.strKind y)) = false) (hy : (y.length == 0) = false) (hf : (Builtin.Str.occurrences x y 0 x.length (x.length + 1)).isEmpty = false) (h : x.length ≤ 1000000)
    (h2 : (Builtin.Str.partsBetween x (Builtin.Str.occurrences x y 0 x.length (x.length + 1)) y.length).length ≤ 1000000) (hp : Txt.split x y = ps) : BuiR B c (.builtin "str.split") [.str x, .str y] (.list (ps.map .str)) := fun _ s _ R q => by
  obtain ⟨_, _, rfl, ⟨t, rfl⟩, _, _, rfl, ⟨u, rfl⟩, rfl⟩ := q
  refine call_meets F.slot_str_split (typeIs_str _ _ _) F.entry_str_split (F.args_str_split_2 _ _) (meets_str_split_sep x y t u h1 hy hf (line h) (line h2)) ?_
  rw [← hp, show Txt.split x y = _ from ((numbered_texts s.toks _).trans ((if_neg (ne_true_of_eq_false h1)).trans (if_neg (ne_true_of_eq_false hf))).symm).symm, strsFrom_eq]
  exact ⟨.push R _, VR.fresh R (vrStrs _)⟩
theorem BuiR.join {x : Str} {ys : List Str} (h : (ys.map (·.length)).sum + ys.length * x.length ≤ 16777216) : BuiR B c (.builtin "str.join") [.str x, .list (ys.map .str)] (.str (Txt.join x ys)) := fun _ s _ R q => by
  obtain ⟨_, _, rfl, ⟨t, rfl⟩, _, _, rfl, ⟨a, ws, rfl, _, hl, q⟩, rfl⟩ := q
  exact join_list hl (strsVR q) h fun _ _ => ⟨.toks R, _, rfl⟩
end
end U13
end
noncomputable section
open PySem PySem.W PySem.Spec PySem.Calls PyProof.Rows
namespace U13
theorem VRs.take {X : Addr → Prop} {h : Heap} : ∀ {l : List MV} {vs : List Value} (k : Nat), VRs X h l vs → VRs X h (l.take k) (vs.take k)
  | _, _, 0, _ => rfl
  | [], _, _ + 1, rfl => rfl
  | _ :: _, _, k + 1, ⟨v, _, rfl, a, b⟩ => ⟨v, _, rfl, a, VRs.take k b⟩
theorem VRs.drop {X : Addr → Prop} {h : Heap} : ∀ {l : List MV} {vs : List Value} (k : Nat), VRs X h l vs → VRs X h (l.drop k) (vs.drop k)
  | _, _, 0, q => q
  | [], _, _ + 1, rfl => rfl
  | _ :: _, _, k + 1, ⟨_, _, rfl, _, b⟩ => VRs.drop k b
section
variable {B : Base} {c : Cx} {σ σ' σ₁ σ₂ σ₃ σ₄ : St} {v v₀ v₁ v₂ a b : MV} {vs l l₁ l₂ r : List MV} {e e₁ e₂ : Expr} {es : List Expr} {pos p₁ p₂ p₃ : Pos} {x : Str} {n : Nat} {id : String} {i j : Int}

theorem subTail {s : Shared} {value slice : Expr} {o i : Value} {T id : String} {ops : List Value} {Q : Value → Shared → Prop} {E : Value → Shared → Prop} {prog : Program} {w : World} {A : Around} (hT : s.TypeIs o T)
    (hl : typeLookup (.type T) "__getitem__" = pure (some (.builtin id))) (h : wpAny (model prog w) A (getItem o i) Q E s) (hs : subscripted slice false o i = operate ops (getItem o i)) : wpAny (model prog w) A (subscriptTail value slice o i) Q E s := by
  unfold subscriptTail
  refine wpAny_bind ?_
  rw [getitemInPython_of_ne hT.not_modules]
  refine wpAny_bind (wpAny_specialOf hT hl ?_)
  refine wpAny_pure (wpAny_bind ?_)
  rw [hs]
  exact wpAny_operating (wpAny_mono h (fun r s₃ h₃ => wpAny_bind (wpAny_letTemporaryGo (wpAny_pure h₃))) fun _ _ x => x)

/-- what stands under a key -/
def GetR (B : Base) (c : Cx) (a b v : MV) : Prop :=
  ∀ σ s x y, Rel B c σ s.heap s.gens → VR c.X s.heap a x → VR c.X s.heap b y → (∃ T id, s.TypeIs x T ∧ typeLookup (.type T) "__getitem__" = pure (some (.builtin id))) ∧
    wpAny (model B.prog B.w) c.A (getItem x y) (fun v' s' => Go B c σ σ s s' ∧ VR c.X s'.heap v v') (fun _ _ => False) s
theorem EvE.sub {slice : Expr} (H : EvE B c e σ a σ₁) (K : EvE B c slice σ₁ b σ₂) (G : GetR B c a b v) (hs : ∀ o i, subscripted slice false o i = operate [o, i] (getItem o i) := by intro _ _; rfl) : EvE B c (.Subscript e slice pos) σ v σ₂ := fun _ R =>
  Subscript_ (H.use R fun x s₁ g q => K.use g.rel fun y s₂ g₂ q₂ => by
    obtain ⟨⟨T, id, hT, hl⟩, z⟩ := G σ₂ s₂ x y g₂.rel (g₂.vr g.rel q) q₂
    exact subTail hT hl (wpAny_mono z (fun _ _ z => ⟨(g.trans R g₂).trans R z.1, z.2⟩) fun _ _ z => z.elim) (hs x y))
theorem GetR.list (h0 : 0 ≤ i) (hi : i < 2 ^ 63) (h : l[i.toNat]? = some v) : GetR B c (.list l) (.int i) v := fun σ s _ _ R ⟨a, ws, e, _, hl, q⟩ ⟨t, e'⟩ => by
  subst e e'
  obtain ⟨v', hv, r⟩ := q.get h
  exact ⟨⟨"list", _, hl.typeIs, list_getitem_lookup⟩, wpAny_getItem_list hl h0 hi (by simpa using hv) ⟨.refl R, r⟩⟩
theorem GetR.tup {k : Nat} (hk : k < 1000) (h : l[k]? = some v) : GetR B c (.tup l) (.int k) v := fun σ s _ _ R ⟨a, ws, e, _, hl, q⟩ ⟨t, e'⟩ => by
  subst e e'
  obtain ⟨v', hv, r⟩ := q.get h
  obtain ⟨hlt, _⟩ := List.getElem?_eq_some_iff.mp hv
  refine ⟨⟨"tuple", _, hl.typeIs, slot_tuple_getitem.lookup⟩, PyProof.Rows.getItem_tuple (j := k) hl (by omega) (by omega) ?_ (by simpa using hv) ⟨.refl R, r⟩⟩
  exact seqIndex_at (Int.natCast_nonneg k) (Int.ofNat_lt.mpr (by simpa using hlt))
/-- a list of the base that holds ints -/
theorem GetR.base {f : Addr} {ws : List Value} {k : Int} (hl : B.h₁.IsList f ws.toArray) (h0 : 0 ≤ i) (hi : i < 2 ^ 63) (h : ∃ t, ws[i.toNat]? = some (.int k t)) : GetR B c (.ref f) (.int i) (.int k) := fun σ s _ _ R e ⟨t, e'⟩ => by
  cases e; subst e'
  obtain ⟨u, h⟩ := h
  have hl := hl.at fun o => R.inv.base _ o
  exact ⟨⟨"list", _, hl.typeIs, list_getitem_lookup⟩, wpAny_getItem_list hl h0 hi (by simpa using h) ⟨.refl R, u, rfl⟩⟩

-- slices
def EvO (B : Base) (c : Cx) (e : Option Expr) (σ : St) (k : Option Int) (σ' : St) : Prop :=
  ∀ s, Rel B c σ s.heap s.gens → wpAny (model B.prog B.w) c.A (evalPart e c.env) (fun v s' => Go B c σ σ' s s' ∧ IsPart v k) (fun _ _ => False) s
theorem EvO.none : EvO B c Option.none σ Option.none σ := fun _ R => wpAny_pure ⟨.refl R, .none⟩
theorem EvO.some (H : EvE B c e σ (.int i) σ') : EvO B c (Option.some e) σ (Option.some i) σ' := fun _ R => H.use R fun _ _ g q => by obtain ⟨t, rfl⟩ := q; exact ⟨g, .int i t⟩
/-- what a cut makes -/
def CutR (B : Base) (c : Cx) (a : MV) (lo hi st : Option Int) (v : MV) : Prop :=
  ∀ σ s x sl vl vu vt, Rel B c σ s.heap s.gens → VR c.X s.heap a x → s.heap.IsSliceOf sl vl vu vt → IsPart vl lo → IsPart vu hi → IsPart vt st → (∃ T id, s.TypeIs x T ∧ typeLookup (.type T) "__getitem__" = pure (Option.some (.builtin id))) ∧
    wpAny (model B.prog B.w) c.A (getItem x (.ref sl)) (fun v' s' => Go B c σ σ s s' ∧ VR c.X s'.heap v v') (fun _ _ => False) s
theorem EvE.cut {lo hi st : Option Expr} {l u t : Option Int} (H : EvE B c e σ a σ₁) (L : EvO B c lo σ₁ l σ₂) (U : EvO B c hi σ₂ u σ₃) (T : EvO B c st σ₃ t σ₄) (G : CutR B c a l u t v) (ops : Value → Value → List Value)
    (hs : ∀ o i, subscripted (.Slice lo hi st p₁) false o i = operate (ops o i) (getItem o i) := by intro _ _; rfl) : EvE B c (.Subscript e (.Slice lo hi st p₁) pos) σ v σ₄ := fun s R =>
  Subscript_ (H.use R fun x s₁ g q => wpAny_Slice (wpAny_mono (L _ g.rel) (fun vl s₂ ⟨g₂, l'⟩ => wpAny_mono (U _ g₂.rel) (fun vu s₃ ⟨g₃, u'⟩ => wpAny_mono (T _ g₃.rel) (fun vt s₄ ⟨g₄, t'⟩ => by
    have G₂ := (g₂.trans g.rel g₃).trans g.rel g₄
    have P := Go.push g₄.rel ⟨.type "slice", Option.none, .fields #[vl, vu, vt], #[]⟩ (t := s₄.toks)
    obtain ⟨⟨T, id, hT, hl⟩, z⟩ := G σ₄ _ x s₄.heap.objs.size vl vu vt P.rel (P.vr g₄.rel (G₂.vr g.rel q)) ⟨_, Heap.get?_push_size _ rfl, rfl, rfl⟩ l' u' t'
    exact subTail hT hl (wpAny_mono z (fun _ _ z => ⟨((g.trans R G₂).trans R P).trans R z.1, z.2⟩) fun _ _ z => z.elim) (hs _ _)) fun _ _ z => z.elim) fun _ _ z => z.elim) fun _ _ z => z.elim))
theorem CutR.list {lo hi st : Option Int} (hsz : l.length ≤ 1000000) (h0 : st ≠ Option.some 0) (h : ∀ (X : Addr → Prop) h (ws : List Value), VRs X h l ws → VRs X h r (slicePick ws.toArray lo hi st).toList) : CutR B c (.list l) lo hi st (.list r) := fun σ s _ sl vl vu vt R ⟨a, ws, e, _, hl, q⟩ hsl pl pu pt => by
  subst e
  refine ⟨⟨"list", _, hl.typeIs, list_getitem_lookup⟩, wpAny_getItem_list_slice hl hsl pl pu pt h0 ⟨.push R _, ?_⟩ (line (by rw [List.size_toArray, q.len]; exact hsz))⟩
  have := VR.fresh R (h _ _ ws q)
  simpa using this
theorem CutR.from {k : Nat} (hsz : l.length ≤ 1000000) : CutR B c (.list l) (Option.some (k : Int)) Option.none Option.none (.list (l.drop k)) := .list hsz (fun e => nomatch e) fun X h ws q => by rw [slicePick_from']; exact q.drop k
theorem CutR.upto {k : Nat} (hsz : l.length ≤ 1000000) : CutR B c (.list l) Option.none (Option.some (k : Int)) Option.none (.list (l.take k)) := .list hsz (fun e => nomatch e) fun X h ws q => by rw [slicePick_upto']; exact q.take k
theorem CutR.sfrom {x : Str} {k : Int} (hsz : x.length ≤ 1000000) : CutR B c (.str x) (Option.some k) Option.none Option.none (.str (Txt.slice x (Option.some k) Option.none)) := fun σ s _ sl vl vu vt R ⟨t, e⟩ ⟨os, hos, hcs, hds⟩ pl pu pt => by
  subst e
  cases pl with | int _ tl =>
  cases pu; cases pt
  exact ⟨⟨"str", _, typeIs_str _ _ _, F.slot_str_getitem.lookup⟩, wpAny_getItem_str_slice (l := Option.some (k, tl)) (u := Option.none) (st := Option.none) ⟨os, hos, hcs, hds⟩ rfl (post_val_or_str ⟨Nat.le_trans (Txt.slice_le x _ _) (line hsz), fun _ _ => ⟨.toks R, _, rfl⟩⟩)⟩
theorem CutR.supto {x : Str} {k : Int} (hsz : x.length ≤ 1000000) : CutR B c (.str x) Option.none (Option.some k) Option.none (.str (Txt.slice x Option.none (Option.some k))) := fun σ s _ sl vl vu vt R ⟨t, e⟩ ⟨os, hos, hcs, hds⟩ pl pu pt => by
  subst e
  cases pu with | int _ tl =>
  cases pl; cases pt
  exact ⟨⟨"str", _, typeIs_str _ _ _, F.slot_str_getitem.lookup⟩, wpAny_getItem_str_slice (l := Option.none) (u := Option.some (k, tl)) (st := Option.none) ⟨os, hos, hcs, hds⟩ rfl (post_val_or_str ⟨Nat.le_trans (Txt.slice_le x _ _) (line hsz), fun _ _ => ⟨.toks R, _, rfl⟩⟩)⟩

-- statements
theorem EvS.expr (H : EvE B c e σ v σ₁) (hi : interactive c.env = false := by rfl) (hs : swapsWith e Option.none pos.line c.env = pure false := by rfl) : EvS B c (.Expr e pos) σ .next σ₁ := fun _ R => wpAny_Expr_any (H.use R fun _ _ g _ => ⟨g, rfl⟩) hi hs
theorem EvE.none {k : Nat} : EvE B c (.Constant .none k pos) σ .none σ := fun s R => wpAny_Constant_none ⟨.refl R, rfl⟩
theorem EvE.bool {k : Nat} {b : Bool} : EvE B c (.Constant (.bool b) k pos) σ (.bool b) σ := fun s R => wpAny_Constant_bool ⟨.refl R, rfl⟩
theorem EvE.str {k : Nat} {x : Str} : EvE B c (.Constant (.str x) k pos) σ (.str x) σ := fun s R => wpAny_Constant_str ⟨.toks R, _, rfl⟩
theorem EvS.retN : EvS B c (.Return Option.none pos) σ (.ret .none) σ := fun _ R => wpAny_Return_none ⟨.refl R, _, rfl, rfl⟩
end
end U13
end
noncomputable section
open PySem PySem.W PySem.Spec PySem.Calls PyProof.Rows
namespace U13
section
variable {B : Base} {c : Cx} {σ σ' σ₁ σ₂ σ₃ σ₄ : St} {v v₀ v₁ v₂ a b : MV} {vs l l₁ l₂ r : List MV} {e e₁ e₂ : Expr} {es : List Expr} {pos p₁ p₂ p₃ : Pos} {x : Str} {n : Nat} {id : String} {i j : Int} {X : Addr → Prop} {μ μ' : Mut} {h h' : Heap} {g : Array GenState}

theorem VRs.one {w : Value} (q : VR X h v w) : VRs X h [v] [w] := ⟨w, [], rfl, q, rfl⟩
theorem VRs.set {w : Value} (q : VR X h v w) : ∀ {l : List MV} {vs : List Value} (k : Nat), VRs X h l vs → VRs X h (l.set k v) (vs.set k w)
  | [], _, _, rfl => rfl
  | _ :: _, _, 0, ⟨_, r, rfl, _, b⟩ => ⟨w, r, rfl, q, b⟩
  | _ :: _, _, k + 1, ⟨u, _, rfl, a, b⟩ => ⟨u, _, rfl, a, VRs.set q k b⟩

/-- the mutable thing turns -/
theorem Inv.touch (I : Inv B X μ h g) (k : ∀ b o, ¬ μ.on b → h.get? b = some o → h'.get? b = some o) (e : ∀ a, μ.on a → ∃ o, h'.get? a = some o) (hμ : ∀ a, μ'.on a → μ.on a) (M : MutR B X h' μ') : Inv B X μ' h' g where
  base := fun b o q => k b o (fun w => by have := (I.wr b (.inl w)).2.1; rw [q] at this; cases this) (I.base b o q)
  mu := M
  tab := B.tabOk X X h h' (fun a o q n => ⟨n, k a o (fun w => n (I.wr a (.inl w)).1) q⟩) (fun a o w q => k a o (fun z => I.ot a z w) q) I.tab
  wr := fun a w => by
    obtain ⟨q1, q2, o, q3⟩ := I.wr a (w.imp (hμ a) id)
    refine ⟨q1, q2, ?_⟩
    by_cases z : μ.on a
    · exact e a z
    · exact ⟨o, k a o z q3⟩
  gens := I.gens
  ex := fun a w => by
    obtain ⟨o, q⟩ := I.ex a w
    by_cases z : μ.on a
    · exact e a z
    · exact ⟨o, k a o z q⟩
  ot := fun a w => I.ot a (hμ a w)
theorem Go.touch {s : Shared} {tk : Nat} (R : Rel B c σ s.heap s.gens) (k : ∀ b o, ¬ σ.mu.on b → s.heap.get? b = some o → h'.get? b = some o) (e : ∀ a, σ.mu.on a → ∃ o, h'.get? a = some o) (hμ : ∀ a, μ'.on a → σ.mu.on a) (M : MutR B c.X h' μ') : Go B c σ ⟨σ.loc, μ'⟩ s { s with heap := h', toks := tk } :=
  .ofInv R (fun b o n q => k b o (fun w => n (.inl w)) q) rfl (R.inv.touch k e hμ M) hμ
theorem Go.lst {loc : List (Str × MV)} {A : Addr} {s : Shared} {tk : Nat} {ws : List Value} {m : Nat} (R : Rel B c ⟨loc, .lst A l⟩ s.heap s.gens) (hs : Heap.SameBut A s.heap h') (ho : h'.get? A = some { cls := .type "list", data := .seq ws.toArray m }) (q : VRs c.X s.heap r ws) :
    Go B c ⟨loc, .lst A l⟩ ⟨loc, .lst A r⟩ s { s with heap := h', toks := tk } := by
  have k : ∀ b o, ¬ (Mut.lst A l).on b → s.heap.get? b = some o → h'.get? b = some o := fun b o n e => (hs.2 b n).trans e
  exact .touch R k (fun a w => by cases w; exact ⟨_, ho⟩) (fun _ w => w) ⟨ws, m, ho, q.map fun a o e n => ⟨n, k a o (fun w => n (R.inv.wr a (.inl w)).1) e⟩⟩

theorem MetR.append {loc : List (Str × MV)} {A : Addr} : MetR B c ⟨loc, .lst A l⟩ "append" (.ref A) "list.append" := fun s x pl Q E R q h => by
  cases q
  obtain ⟨ws, m, ho, _⟩ := R.inv.mu
  exact Calls.getMethod_list_append ho rfl rfl h
theorem MetR.reverse {loc : List (Str × MV)} {A : Addr} : MetR B c ⟨loc, .lst A l⟩ "reverse" (.ref A) "list.reverse" := fun s x pl Q E R q h => by
  cases q
  obtain ⟨ws, m, ho, _⟩ := R.inv.mu
  exact getMethod_builtin ⟨_, ho, rfl⟩ PySem.F.plainAttrs_list F.slot_list_reverse F.type_list_reverse (fun a e => by cases e; exact ⟨_, ho, rfl⟩) h
theorem CalR.append {loc : List (Str × MV)} {A : Addr} (hl : l.length ≤ 1000000) : CalR B c (.builtin "list.append") [.ref A, v] ⟨loc, .lst A l⟩ .none ⟨loc, .lst A (l ++ [v])⟩ := fun s ws R q => by
  obtain ⟨_, _, rfl, rfl, y, _, rfl, q, rfl⟩ := q
  obtain ⟨ws, m, ho, p⟩ := R.inv.mu
  refine append_at (x := y) ho (fun h' hs ho' => ⟨.lst (ws := ws ++ [y]) (m := m + 1) R hs (by simpa using ho') ((VRs.one q).app p), rfl⟩) (line (by rw [List.size_toArray, p.len]; exact hl))
theorem VRs.rev {h : Heap} : ∀ {l : List MV} {vs : List Value}, VRs X h l vs → VRs X h l.reverse vs.reverse
  | [], _, rfl => rfl
  | _ :: _, _, ⟨v, _, rfl, a, b⟩ => by rw [List.reverse_cons, List.reverse_cons]; exact (VRs.one a).app (VRs.rev b)
theorem CalR.reverse {loc : List (Str × MV)} {A : Addr} (hl : l.length ≤ 1000000) : CalR B c (.builtin "list.reverse") [.ref A] ⟨loc, .lst A l⟩ .none ⟨loc, .lst A l.reverse⟩ := fun s ws R q => by
  obtain ⟨_, _, rfl, rfl, rfl⟩ := q
  obtain ⟨ws, m, ho, p⟩ := R.inv.mu
  refine call_meets F.slot_list_reverse ⟨_, ho, rfl⟩ F.entry_list_reverse (F.args_list_reverse_1 _) (AutoListH.list_reverse_list_0 A ws.toArray m (line (by rw [List.size_toArray, p.len]; exact hl))) ⟨ho, .lst (ws := ws.reverse) (m := m) R (Heap.SameBut.update ..) ?_ p.rev, rfl⟩
  rw [Heap.get?_update_self _ ho rfl]
  simp [Obj.mapSeq]
theorem CalR.len {loc : List (Str × MV)} {A : Addr} (hl : l.length ≤ 1000000) : CalR B c (.builtin "len") [.ref A] ⟨loc, .lst A l⟩ (.int l.length) ⟨loc, .lst A l⟩ := fun s ws R q => by
  obtain ⟨_, _, rfl, rfl, rfl⟩ := q
  obtain ⟨ws, m, ho, p⟩ := R.inv.mu
  refine call_len_list (items := ws.toArray) ⟨_, ho, rfl, m, rfl⟩ (by rw [List.size_toArray, p.len]; exact small63 hl) ?_
  rw [List.size_toArray, p.len]; exact ⟨.toks R, _, rfl⟩

theorem setItemAt {prog : Program} {w : World} {A : Around} {s : Shared} {D : Addr} {its : Array Value} {m k : Nat} {i : Int} {t : Tok} {v : Value} {Q : Unit → Shared → Prop} {E : Value → Shared → Prop} (ho : s.heap.get? D = some { cls := .type "list", data := .seq its m }) (h0 : 0 ≤ i) (hf : i < 2 ^ 63) (hi : (k : Int) = i) (hk : k < its.size)
    (hQ : ∀ h' m', Heap.SameBut D s.heap h' → h'.get? D = some { cls := .type "list", data := .seq (its.setIfInBounds k v) m' } → Q () { s with heap := h' }) : wpAny (model prog w) A (setItem (.ref D) (.int i t) v) Q E s := by
  have hl' : s.heap.IsList D its := ⟨_, ho, rfl, m, rfl⟩
  unfold setItem
  try with_reducible refine wpAny_holding ?_
  first | refine wpAny_bind (wpAny_pure ?_) | skip
  refine wpAny_bind (wpAny_sequenceKey hl'.typeIs (by decide) ?_)
  refine wpAny_bind (wpAny_callSpecial?_slot (name := Str.ofString "__setitem__") hl'.typeIs slot_list_setitem
    (wpAny_call_entry slot_list_setitem hl'.typeIs entry_list_setitem ?_ (args_list_setitem _ _ _)))
  show wpAny _ _ (Builtin.List.listSubscript? (.int i t) >>= _) _ _ s
  refine wpAny_bind (wpAny_listSubscript_int (fitsIndex_of h0 hf) ?_)
  clear hf
  subst hi
  show wpAny _ _ ((seqItemAt D k >>= fun r => pure (r.map (k, ·))) >>= _) _ _ s
  refine wpAny_bind (wpAny_bind (wpAny_seqItemAt ho rfl (wpAny_pure ?_)))
  rw [Array.getElem?_eq_getElem hk]
  show wpAny _ _ (setSeqItemAt D k v >>= _) _ _ s
  refine wpAny_bind (wpAny_setSeqItemAt ho rfl ?_)
  have z := fun m' (e : (s.heap.update D (Obj.mapSeq (·.setIfInBounds k v))).get? D = some { cls := .type "list", data := .seq (its.setIfInBounds k v) m' }) => hQ _ m' (Heap.SameBut.update ..) e
  refine wpAny_pure ⟨.none, rfl, wpAny_pure (z m ?_)⟩
  rw [Heap.get?_update_self _ ho rfl]
  simp [Obj.mapSeq]

/-- a place of the list is set -/
theorem EvS.setAt {o i' : Expr} {loc : List (Str × MV)} {A : Addr} {k : Nat} {pos' : Pos} (V : EvE B c e σ v σ₁) (O : EvE B c o σ₁ (.ref A) σ₂) (K : EvE B c i' σ₂ (.int k) ⟨loc, .lst A l⟩) (hk : k < l.length) (hl : l.length ≤ 1000000)
    (hs : swapsWith e (some (.Subscript o i' pos')) pos.line c.env = pure false := by rfl) : EvS B c (.Assign [.Subscript o i' pos'] e pos) σ .next ⟨loc, .lst A (l.set k v)⟩ := fun s R =>
  wpAny_Assign_Subscript (V.use R fun v' s₁ g q => O.use g.rel fun _ s₂ g₂ q₂ => K.use g₂.rel fun _ s₃ g₃ q₃ => by
    cases q₂
    obtain ⟨t, rfl⟩ := q₃
    obtain ⟨ws, m, ho, p⟩ := g₃.rel.inv.mu
    have G := g₂.trans g.rel g₃
    refine setItemAt ho (Int.natCast_nonneg k) (small63 (Nat.le_trans (Nat.le_of_lt hk) hl)) rfl (by rw [List.size_toArray, p.len]; exact hk) fun h' m' hs ho' => ⟨(g.trans R G).trans R (.lst (ws := ws.set k v') (m := m') g₃.rel hs ?_ (VRs.set (G.vr g.rel q) k p)), rfl⟩
    rw [ho']; simp) hs
theorem EvT.int (H : EvE B c e σ (.int i) σ₁) (he : ∀ w, isTrue e c.env w = (do let v ← w; standAt e.pos; holding [v] (truthy v)) := by intro _; rfl) : EvT B c e σ (i != 0) σ₁ :=
  .val H (fun _ _ _ _ _ _ _ _ q h => by obtain ⟨t, rfl⟩ := q; exact PyProof.Rows.truthy_int h) he
theorem EvT.list (H : EvE B c e σ (.list l) σ₁) (hl : l.length ≤ 1000000) (he : ∀ w, isTrue e c.env w = (do let v ← w; standAt e.pos; holding [v] (truthy v)) := by intro _; rfl) : EvT B c e σ (!l.isEmpty) σ₁ := fun _ R =>
  isTrue_plain (H.use R fun _ _ g q => by
    obtain ⟨a, ws, rfl, _, hL, q⟩ := q
    refine wpAny_truthy_list hL (by rw [List.size_toArray, q.len]; exact small63 hl) ⟨g.trans R (.toks g.rel), ?_⟩
    have := q.len
    cases l <;> cases ws <;> first | rfl | cases this) (he _)
theorem EvE.cal {id : String} {x : Str} (K : EvL B c (e :: es) σ vs σ₁) (C : CalR B c (.builtin id) vs σ₁ v σ₂) (hb : bootBuiltins x = some (.builtin id)) (hf : B.mg x = Option.none) (hx : x ≠ "__name__" := by decide)
    (hk : c.env.kindOf x = some .globalImplicit := by rfl) (hd : (x == ("__debug__" : Str)) = false := by decide)
    (h1 : eval (.Call (.Name x p₁) (e :: es) [] pos) c.env = (do callWith pos (← eval (.Name x p₁) c.env) [] (backTo pos (starEach (e :: es) c.env)) (backToKw pos (keywordEach [] c.env))) := by rfl)
    (h2 : starEach (e :: es) c.env = (false, eval e c.env) :: starEach es c.env := by rfl) (h3 : (backTo pos (starEach es c.env)).any (·.1) = false := by rfl) : EvE B c (.Call (.Name x p₁) (e :: es) [] pos) σ v σ₂ := fun s R =>
  Call_ (builtinName R hf hb hx hk hd (callWith_builtin1 (K.use R fun vs' s₁ g q => wpAny_mono (C _ _ g.rel q) (fun _ _ z => ⟨g.trans R z.1, z.2⟩) fun _ _ z => z.elim) h2 h3)) h1
end
end U13
end
noncomputable section
open PySem PySem.W PySem.Spec PySem.Calls PyProof.Rows
namespace U13
theorem execs_app' {M : Model} {A : Around} {env : Env} {b : List Stmt} {Q : Flow → Shared → Prop} {E : Value → Shared → Prop} {Γ : PySem.Ctx} (hΓ : Γ.In A) : ∀ (a : List Stmt) (p : Pos) (s : Shared),
    Sem.wp M Γ (execs a env) (fun f _ s' => match f with | .next => wpAny M A (execs b env) Q E s' | f => Q f s') (fun e _ s' => E e s') p s → Sem.wp M Γ (execs (a ++ b) env) (fun f _ s' => Q f s') (fun e _ s' => E e s') p s
  | [], p, s, h => (show wpAny M A (execs b env) Q E s from h) Γ p hΓ
  | st :: a, p, s, h => by
    rw [execs_cons, Sem.wp_bind'] at h
    rw [List.cons_append, execs_cons, Sem.wp_bind']
    refine Sem.wp_mono M Γ _ (fun f p' s' h' => ?_) (fun _ _ _ h' => h') _ _ h
    cases f <;> first | exact execs_app' hΓ a p' s' h' | exact h'
theorem execs_app {M : Model} {A : Around} {env : Env} {a b : List Stmt} {Q : Flow → Shared → Prop} {E : Value → Shared → Prop} {s : Shared} (h : wpAny M A (execs a env) (fun f s' => match f with | .next => wpAny M A (execs b env) Q E s' | f => Q f s') E s) : wpAny M A (execs (a ++ b) env) Q E s :=
  fun Γ p hΓ => execs_app' hΓ a p s (h Γ p hΓ)
section
variable {B : Base} {c : Cx} {σ σ' σ₁ σ₂ σ₃ σ₄ : St} {v v₀ v₁ v₂ a b : MV} {vs l l' l₁ l₂ r : List MV} {e e₁ e₂ : Expr} {es : List Expr} {pos p₁ p₂ p₃ : Pos} {x : Str} {n : Nat} {id : String} {i j : Int} {X : Addr → Prop} {μ μ' : Mut} {h h' : Heap} {g : Array GenState} {f : MF} {sts : List Stmt} {loc : List (Str × MV)}

/-- a fresh list -/
def EvN (B : Base) (c : Cx) (e : Expr) (σ : St) (l : List MV) (σ' : St) : Prop :=
  ∀ s, Rel B c σ s.heap s.gens → wpAny (model B.prog B.w) c.A (eval e c.env) (fun v' s' => ∃ s₁ ws tk, Go B c σ σ' s s₁ ∧ VRs c.X s₁.heap l ws ∧ v' = .ref s₁.heap.objs.size ∧ s' = { s₁ with heap := s₁.heap.push { cls := .type "list", data := .seq ws.toArray }, toks := tk }) (fun _ _ => False) s
theorem EvN.list (K : EvL B c es σ l σ₁) (hz : es.length ≤ 1000 := by exact Nat.le_of_ble_eq_true rfl) : EvN B c (.List es pos) σ l σ₁ := fun s R =>
  List_ (K.use R fun vs' s₁ g q => wpAny_newObj_type ⟨s₁, vs', s₁.toks, g, q, rfl, rfl⟩ (small (by rw [List.size_toArray, q.len, K.1]; exact hz)))

/-- the frame takes a fresh list as its own -/
theorem Rel.own {s : Shared} {ws : List Value} (R : Rel B c σ s.heap s.gens) (h0 : σ.mu = .none) (q : VRs c.X s.heap l ws) :
    Rel B (c.xx fun a => c.X a ∨ a = s.heap.objs.size) ⟨σ.loc, .lst s.heap.objs.size l⟩ (s.heap.push { cls := .type "list", data := .seq ws.toArray }) s.gens := by
  have n : s.heap.get? s.heap.objs.size = none := Heap.get?_none_of_le (Nat.le_refl _)
  have at_ : (s.heap.push { cls := .type "list", data := .seq ws.toArray }).get? s.heap.objs.size = some { cls := .type "list", data := .seq ws.toArray } := Heap.get?_push_size _ rfl
  have k : ∀ b o, s.heap.get? b = some o → (s.heap.push { cls := .type "list", data := .seq ws.toArray }).get? b = some o := fun _ _ e => Heap.get?_push_of_some _ e
  have R' := R.sideIn n k ⟨_, at_⟩
  have kx : ∀ a o, s.heap.get? a = some o → ¬ c.X a → ¬ (c.X a ∨ a = s.heap.objs.size) ∧ (s.heap.push { cls := .type "list", data := .seq ws.toArray }).get? a = some o := fun a o e nx => ⟨fun w => w.elim nx (Nat.ne_of_lt (Heap.lt_size e)), k a o e⟩
  have nb : B.h₁.get? s.heap.objs.size = none := by
    cases e : B.h₁.get? s.heap.objs.size with
    | none => rfl
    | some o => rw [R.inv.base _ _ e] at n; cases n
  have old : ∀ a, Wr B c σ.mu a → a ≠ s.heap.objs.size := fun a w e => by obtain ⟨_, _, o, z⟩ := R.wr w; rw [e, n] at z; cases z
  exact ⟨R'.ok, ⟨R'.inv.base, ⟨ws, 0, at_, q.map kx⟩, R'.inv.tab, fun a w => w.elim (fun w => by cases w; exact ⟨.inr rfl, nb, _, at_⟩) fun w => R'.inv.wr a (.inr w), R'.inv.gens, R'.inv.ex, fun a w z => by cases w; exact old _ (.inr (.inr (.inr z))) rfl⟩, R'.loc, R'.cell,
    fun a w => w.elim (fun w => by cases w; exact ⟨fun e => old _ (.inl rfl) e.symm, fun x o => old _ (.inr (.inl ⟨x, o⟩)) rfl⟩) fun w => R'.off a (.inr w)⟩

/-- and gives it away for good -/
theorem Rel.freeze {Y : Addr → Prop} {A : Addr} (R : Rel B (c.xx Y) ⟨(x, .ref A) :: loc, .lst A l⟩ h g) (ok : c.Ok B) (hX : ∀ a, c.X a → Y a) (nA : ¬ c.X A) (hW : ∀ a, B.tw a → c.X a) : Rel B c ⟨(x, .list l) :: loc, .none⟩ h g := by
  obtain ⟨ws, m, hA, q⟩ := R.inv.mu
  have k : ∀ a o, h.get? a = some o → ¬ Y a → ¬ c.X a ∧ h.get? a = some o := fun a o e n => ⟨fun w => n (hX a w), e⟩
  have L : Locs B c h ((x, .ref A) :: loc) := R.loc.map (Y := c.X) k fun _ _ _ e => e
  refine ⟨ok, ⟨R.inv.base, trivial, B.tabOk _ _ _ _ k (fun _ _ _ e => e) R.inv.tab, fun a w => w.elim (fun w => w.elim) fun w => ⟨hW a w, (R.inv.wr a (.inr w)).2⟩, R.inv.gens, fun a w => R.inv.ex a (hX a w), fun a w => w.elim⟩, ?_, R.cell, fun a w => w.elim (fun w => w.elim) fun w => R.off a (.inr w)⟩
  obtain ⟨m', hm, p⟩ := L
  refine ⟨m', hm, fun y u e => ?_⟩
  rw [List.lookup_cons] at e
  cases hy : y == x with
  | true =>
    rw [hy] at e; cases e
    obtain ⟨v', w, z⟩ := p y (.ref A) (by rw [List.lookup_cons, hy])
    cases z
    exact ⟨_, w, A, ws, rfl, nA, ⟨_, hA, rfl, m, rfl⟩, q.map k⟩
  | false => rw [hy] at e; exact p y u (by rw [List.lookup_cons, hy]; exact e)

theorem Rel.tw (R : Rel B c σ h g) (a : Addr) (w : B.tw a) : c.X a := (R.inv.wr a (.inr w)).1

/-- a list of the frame's own, from its making to its last turn -/
theorem EvSs.own {k : Nat} (N : EvN B c e σ l σ₁) (h0 : σ₁.mu = .none) (H : ∀ A Y, EvSs B (c.xx Y) (sts.take k) ⟨(x, .ref A) :: σ₁.loc, .lst A l⟩ .next ⟨(x, .ref A) :: loc, .lst A l'⟩) (K : EvSs B c (sts.drop k) ⟨(x, .list l') :: loc, .none⟩ f σ') (hm : σ'.mu = .none := by rfl)
    (hk : c.env.kindOf x = some .local ∨ c.env.kindOf x = some .cell := by first | exact .inl rfl | exact .inr rfl) (hs : swapsWith e (some (.Name x p₁)) pos.line c.env = pure false := by rfl) : EvSs B c (.Assign [.Name x p₁] e pos :: sts) σ f σ' := fun s R =>
  wpAny_execs_cons (wpAny_Assign_Name (wpAny_mono (N s R) (fun v' s' z => by
    obtain ⟨s₁, ws, tk, g, q, rfl, rfl⟩ := z
    have n : s₁.heap.get? s₁.heap.objs.size = none := Heap.get?_none_of_le (Nat.le_refl _)
    have R₁ := g.rel.own h0 q
    refine store (s := { s₁ with heap := s₁.heap.push { cls := .type "list", data := .seq ws.toArray }, toks := tk }) (c := c.xx fun a => c.X a ∨ a = s₁.heap.objs.size) (v := .ref s₁.heap.objs.size) R₁ hk rfl fun s₂ g₂ => ?_
    show wpAny _ _ (execs sts c.env) _ _ s₂
    rw [← List.take_append_drop k sts]
    refine execs_app ((H _ _).use (c := c.xx fun a => c.X a ∨ a = s₁.heap.objs.size) g₂.rel fun f' s₃ g₃ q₃ => ?_)
    cases q₃
    have G := g₂.trans R₁ g₃
    have R₃ := g₃.rel.freeze R.ok (fun _ w => .inl w) g.rel.fresh R.tw
    refine K.use R₃ fun f' s₄ g₄ q₄ => ⟨g.trans R ⟨fun b o nw e => ?_, (g₄.os.trans G.os).trans rfl, fun a w => ?_, g₄.rel⟩, q₄⟩
    · have hb : b ≠ s₁.heap.objs.size := Nat.ne_of_lt (Heap.lt_size e)
      exact g₄.kp b o (fun w => nw (w.imp id (Or.imp id (Or.imp (fun w => w.elim) id)))) (G.kp b o (fun w => nw (w.imp id (Or.imp id fun w => w.elim (fun w => absurd w hb) .inr))) (Heap.get?_push_of_some _ e))
    · rw [hm] at w; exact w.elim) fun _ _ z => z.elim) hs)
end
end U13
end
noncomputable section
open PySem PySem.W PySem.Spec PySem.Calls PyProof.Rows
namespace U13
/-- another ground: more is told of it -/
def Base.re (B : Base) (h₁ : Heap) (k : ∀ b o, B.h₁.get? b = some o → h₁.get? b = some o) : Base :=
  { B with h₁ := h₁, tabHd := fun t ht => (B.tabHd t ht).keeps k, g := B.g.keeps k, b := B.b.keeps k, lim := B.lim.keeps k, bm := let ⟨bm, ob, a, b, c, d, r⟩ := B.bm; ⟨bm, ob, a, b, c, k _ _ d, r⟩ }
def Mut.as : Mut → List Addr
  | .none => []
  | .lst a _ => [a]
  | .row a dx _ _ => [a, dx]
/-- the ground of now: all but what may turn -/
def now (B : Base) (μ : Mut) (h : Heap) : Heap := hideAll h (μ.as ++ B.tabs.map (·.P))
section
variable {B : Base} {c : Cx} {σ σ' σ₁ σ₂ : St} {v : MV} {vs l : List MV} {e : Expr} {es : List Expr} {pos p₁ p₂ : Pos} {x : Str} {n : Nat} {X : Addr → Prop} {μ μ' : Mut} {h h' h₁ : Heap} {g : Array GenState} {fd : FuncData} {body : List Stmt} {fa : Addr} {f : MF} {sts : List Stmt}
theorem mem_now {a : Addr} : a ∈ μ.as ++ B.tabs.map (·.P) ↔ WrC B μ a := by
  rw [List.mem_append, List.mem_map]
  refine or_congr ?_ Iff.rfl
  cases μ <;> simp [Mut.as, Mut.on]
theorem now_of {b : Addr} {o : Obj} (e : (now B μ h).get? b = some o) : h.get? b = some o := of_hideAll _ e
theorem now_get {b : Addr} {o : Obj} (e : h.get? b = some o) (n : ¬ WrC B μ b) : (now B μ h).get? b = some o := hideAll_get _ e fun w => n (mem_now.mp w)
theorem now_none {b : Addr} (w : WrC B μ b) : (now B μ h).get? b = none := hideAll_none _ (mem_now.mpr w)
theorem Inv.now (I : Inv B X μ h g) : ∀ b o, B.h₁.get? b = some o → (now B μ h).get? b = some o := fun b o e => now_get (I.base b o e) fun w => by have := (I.wr b w).2.1; rw [e] at this; cases this
theorem Inv.re (I : Inv B X μ h g) (k : ∀ b o, B.h₁.get? b = some o → (U13.now B μ h).get? b = some o) : Inv (B.re (U13.now B μ h) k) X μ h g where
  base := fun _ _ e => now_of e
  mu := match μ, I.mu with
    | .none, m => m
    | .lst _ _, m => m
    | .row _ _ _ _, m => m
  tab := I.tab
  wr := fun a w => ⟨(I.wr a w).1, now_none w, (I.wr a w).2.2⟩
  gens := I.gens
  ex := I.ex
  ot := I.ot
theorem Inv.unre {k : ∀ b o, B.h₁.get? b = some o → h₁.get? b = some o} (I : Inv (B.re h₁ k) X μ h g) : Inv B X μ h g where
  base := fun b o e => I.base b o (k b o e)
  mu := match μ, I.mu with
    | .none, m => m
    | .lst _ _, m => m
    | .row _ _ _ _, m => m
  tab := I.tab
  wr := fun a w => ⟨(I.wr a w).1, (by
    cases e : B.h₁.get? a with
    | none => rfl
    | some o => exact absurd ((k a o e).symm.trans (I.wr a w).2.1) nofun), (I.wr a w).2.2⟩
  gens := I.gens
  ex := I.ex
  ot := I.ot
theorem IsFn.re {k : ∀ b o, B.h₁.get? b = some o → h₁.get? b = some o} (D : IsFn B fa fd body) : IsFn (B.re h₁ k) fa fd body :=
  ⟨D.toFdOk, let ⟨o, e, r⟩ := D.at_; ⟨o, k _ _ e, r⟩, let ⟨a, o, ws, t, e1, e2, r⟩ := D.code; ⟨a, o, ws, t, e1, k _ _ e2, r⟩⟩

/-- what a def does with nothing that turns, it does beside what turns -/
theorem CallP.fr {f : Value} {args : List MV} (C : CallP B n f args .none v .none) (μ : Mut) : CallP B n f args μ v μ := fun A X s vs hh hd hu I q => by
  have I0 : Inv B X .none s.heap s.gens := ⟨I.base, trivial, I.tab, fun a w => I.wr a (w.imp False.elim id), I.gens, I.ex, fun a w => w.elim⟩
  refine wpAny_mono (C A X s vs hh hd hu I0 q) (fun v' s' z => ?_) fun _ _ z => z
  obtain ⟨kp, os, I', r⟩ := z
  have kx : ∀ a o, s.heap.get? a = some o → ¬ X a → ¬ X a ∧ s'.heap.get? a = some o := fun a o e n => ⟨n, kp a o (fun w => n (I0.wr a w).1) e⟩
  have km : ∀ a o, μ.on a → s.heap.get? a = some o → s'.heap.get? a = some o := fun a o w e => kp a o (fun z => z.elim False.elim (I.ot a w)) e
  refine ⟨fun b o n e => kp b o (fun w => n (w.imp False.elim id)) e, os, ⟨I'.base, ?_, I'.tab, fun a w => w.elim (fun w => ?_) fun w => I'.wr a (.inr w), I'.gens, I'.ex, I.ot⟩, r⟩
  · match μ, I.mu, km with
    | .none, _, _ => trivial
    | .lst _ _, ⟨ws, m, e, q⟩, km => exact ⟨ws, m, km _ _ rfl e, q.map kx⟩
    | .row _ _ _ _, ⟨nn, ws, ep, kt, t, ed, e1, e2, q⟩, km => exact ⟨nn, ws, ep, kt, t, ed, km _ _ (.inl rfl) e1, km _ _ (.inr rfl) e2, q.map kx⟩
  · obtain ⟨q1, q2, o, q3⟩ := I.wr a (.inl w)
    exact ⟨q1, q2, o, km a o w q3⟩

theorem Inv.stay (I : Inv B X μ h g) {b : Addr} {o : Obj} (e : h.get? b = some o) (n : ¬ X b) : (U13.now B μ h).get? b = some o := now_get e fun w => n (I.wr b w).1
theorem Inv.fn (I : Inv B X μ h g) {v' : Value} (q : VR X h (.fn fd) v') (St : FdOk fd body) : ∃ fa, v' = .ref fa ∧ IsFn (B.re (U13.now B μ h) I.now) fa fd body := by
  obtain ⟨fa, o, cc, rfl, nX, ho, hdat, hc, ncX, a, oc, ws, t, e1, e2, r⟩ := q
  rw [hc] at e1; cases e1
  exact ⟨fa, rfl, St, ⟨o, I.stay ho nX, hdat⟩, _, oc, ws, t, hc, I.stay e2 ncX, r⟩
/-- the cells of now, as the ground tells them -/
theorem Rel.cells (R : Rel B c σ h g) {y : Str} {u : MV} (e : σ.loc.lookup y = some u) (hk : c.env.kindOf y = some .cell) : ∃ a v', c.env.cells.lookup y = some a ∧ (now B σ.mu h).IsCell a (some v') ∧ VR c.X h u v' := by
  obtain ⟨m, _, p⟩ := R.loc
  obtain ⟨v', w, q⟩ := p y u e
  rcases w with ⟨w, _⟩ | ⟨a, w, o, ho, hd⟩ | ⟨w, _⟩
  · rw [hk] at w; cases w
  · exact ⟨a, v', w.2, ⟨o, now_get ho fun z => (R.off a z).2 y w, hd⟩, q⟩
  · rw [hk] at w; cases w

/-- a call of a def within, by the ground of now -/
theorem EvE.callN {es : List Expr} (hx : σ.loc.lookup x = some (.fn fd)) (K : EvL B c (e :: es) σ vs σ₁) (St : FdOk fd body)
    (C : ∀ h g fa, (R : Rel B c σ₁ h g) → IsFn (B.re (now B σ₁.mu h) R.inv.now) fa fd body → CallP (B.re (now B σ₁.mu h) R.inv.now) n (.ref fa) vs σ₁.mu v μ') (hn : n ≤ c.n) (hμ : ∀ a, μ'.on a → σ₁.mu.on a)
    (hd : (x == ("__debug__" : Str)) = false := by decide) (hnm : (x == ("__classdict__" : Str)) = false := by decide)
    (h1 : eval (.Call (.Name x p₁) (e :: es) [] pos) c.env = (do callWith pos (← eval (.Name x p₁) c.env) [] (backTo pos (starEach (e :: es) c.env)) (backToKw pos (keywordEach [] c.env))) := by rfl)
    (h2 : starEach (e :: es) c.env = (false, eval e c.env) :: starEach es c.env := by rfl) : EvE B c (.Call (.Name x p₁) (e :: es) [] pos) σ v ⟨σ₁.loc, μ'⟩ := fun s R =>
  Call_ ((EvE.name (pos := p₁) hx hd hnm).use R fun v' s₀ g₀ q₀ => by
    obtain ⟨fa, o, cc, rfl, nX, ho, hdat, r⟩ := id q₀
    refine callWith_def hdat (K.use g₀.rel fun vs' s₁ g q => ⟨g.kp fa o (fun w => nX (g₀.rel.wr w).1) ho, ?_⟩) h2
    obtain ⟨fa', e', D⟩ := g.rel.inv.fn (g.vr g₀.rel q₀) St
    cases e'
    refine wpAny_mono (C _ _ fa g.rel D c.A c.X s₁ vs' R.ok.hh (Nat.lt_of_le_of_lt (Nat.add_le_add_left hn _) R.ok.hd) (Nat.lt_of_le_of_lt (Nat.add_le_add_left (Nat.mul_le_mul_left 10 hn) _) R.ok.hu) (g.rel.inv.re _) q) (fun v' s' z => ?_) fun _ _ z => z.elim
    obtain ⟨kp, os, I, r⟩ := z
    exact ⟨(g₀.trans R g).trans R (.ofInv g.rel kp os I.unre hμ), r⟩) h1

/-- a def within is made -/
theorem EvSs.defn {t : TabD} {name : Str} {params : Arguments} {body : List Stmt} {scope : Scope} {clos : List (Str × Addr)} (ht : t ∈ B.tabs) (hcode : c.env.code = .ref t.c) (hpos : t.pos = pos) (hq : qualnameIn c.env name name = t.q) (hcl : closureFor scope c.env = pure clos)
    (hu : ∀ t' ∈ B.tabs, t'.P = t.P → t' = t)
    (H : ∀ doc pm cd ctv, EvSs B c sts ⟨(name, .fn (fnX name t.q params body scope clos .none .none doc pm none cd ctv)) :: σ.loc, σ.mu⟩ f σ')
    (hd0 : params.defaults = [] := by rfl) (hk0 : params.kw_defaults = [] := by rfl) (ha : annTrees params none c.env = [] := by rfl) (hk : c.env.kindOf name = some .local ∨ c.env.kindOf name = some .cell := by first | exact .inl rfl | exact .inr rfl) :
    EvSs B c (.FunctionDef name params body [] none [] scope none name pos :: sts) σ f σ' := fun s R => by
  refine wpAny_execs_cons (W.nestDef_K hd0 hk0 ha ?_)
  rw [hq]
  obtain ⟨ps, hP, hps⟩ := R.inv.tab t ht
  have C := (B.tabHd t ht).keeps R.inv.base
  have hg := B.g.keeps R.inv.base
  obtain ⟨bm, ob, b1, b2, b3, b4, b5, b6, b7⟩ := B.bm
  have wP : B.tw t.P := ⟨t, ht, rfl⟩
  have nP := (R.inv.wr _ (.inr wP)).2.1
  have neP : ∀ {b o}, B.h₁.get? b = some o → b ≠ t.P := fun e z => by rw [z, nP] at e; cases e
  have bA : s.heap.BuiltinsAt B.mg t.P := ⟨bm, ob, b1, b2, b3, neP b4, R.inv.base _ _ b4, b5, b6, b7⟩
  have hgP : mainGlobals ≠ t.P := by obtain ⟨o, es, ep, e, _⟩ := B.g; exact neP e
  -- what is made, and how the frame stands then
  have fin : ∀ (doc ctv : Value) (c' : Addr) (h' : Heap) (tk : Nat) (o : Obj) (ps' : Array Value), o.data = .func (fnX name t.q params body scope clos .none .none doc ((B.mg "__name__").getD .none) none (.ref c') ctv) → (∀ b o, b ≠ t.P → s.heap.get? b = some o → h'.get? b = some o) → s.heap.objs.size ≤ h'.objs.size →
      h'.get? t.P = some (W.tabObj ps') → ps' = #[rawInt pos.line, rawInt pos.col, .ref c'] → ¬ c.X c' → h'.CodeRec (.ref c') t.q →
      wpAny (model B.prog B.w) c.A (storeName c.env name (.ref h'.objs.size)) (fun _ s'' => wpAny (model B.prog B.w) c.A (execs sts c.env) (fun f' s' => Go B c σ σ' s s' ∧ FR c.X s'.heap f f') (fun _ _ => False) s'') (fun _ _ => False) { s with heap := h'.push o, toks := tk } := fun doc ctv c' h' tk o ps' hd k hsz hP' eps nX hrec => by
    have k' : ∀ b o', b ≠ t.P → s.heap.get? b = some o' → (h'.push o).get? b = some o' := fun b o' n e => Heap.get?_push_of_some _ (k b o' n e)
    have nXf : ¬ c.X h'.objs.size := fun w => by obtain ⟨_, e⟩ := R.inv.ex _ w; exact Nat.not_lt.mpr hsz (Heap.lt_size e)
    have I : Inv B c.X σ.mu (h'.push o) s.gens := by
      have kx : ∀ a o', s.heap.get? a = some o' → ¬ c.X a → ¬ c.X a ∧ (h'.push o).get? a = some o' := fun a o' e n => ⟨n, k' a o' (fun z => n (z ▸ (R.inv.wr _ (.inr wP)).1)) e⟩
      have km : ∀ a o', σ.mu.on a → s.heap.get? a = some o' → (h'.push o).get? a = some o' := fun a o' w e => k' a o' (fun z => R.inv.ot a w (z ▸ wP)) e
      refine ⟨fun b o' e => k' b o' (neP e) (R.inv.base b o' e), ?_, fun t' ht' => ?_, fun a w => ⟨(R.inv.wr a w).1, (R.inv.wr a w).2.1, ?_⟩, R.inv.gens, fun a w => ?_, R.inv.ot⟩
      · revert km
        cases hμ : σ.mu with
        | none => intro _; trivial
        | lst A l => intro km; obtain ⟨ws, m, e, q⟩ := hμ ▸ R.inv.mu; exact ⟨ws, m, km _ _ rfl e, q.map kx⟩
        | row A dx nn l => intro km; obtain ⟨z, ws, ep, kt, t, ed, e1, e2, q⟩ := hμ ▸ R.inv.mu; exact ⟨z, ws, ep, kt, t, ed, km _ _ (.inl rfl) e1, km _ _ (.inr rfl) e2, q.map kx⟩
      · by_cases z : t'.P = t.P
        · cases hu t' ht' z
          refine ⟨ps', Heap.get?_push_of_some _ hP', .inr ⟨c', hpos ▸ eps, nX, ?_⟩⟩
          obtain ⟨b, ob, ws, tt, e1, e2, e3⟩ := hrec
          exact ⟨b, ob, ws, tt, e1, Heap.get?_push_of_some _ e2, e3⟩
        · exact (R.inv.tab t' ht').map kx fun o' e => k' _ o' z e
      · obtain ⟨_, _, o', e⟩ := R.inv.wr a w
        by_cases z : a = t.P
        · exact ⟨_, z ▸ Heap.get?_push_of_some _ hP'⟩
        · exact ⟨o', k' a o' z e⟩
      · obtain ⟨o', e⟩ := R.inv.ex a w
        by_cases z : a = t.P
        · exact ⟨_, z ▸ Heap.get?_push_of_some _ hP'⟩
        · exact ⟨o', k' a o' z e⟩
    have G : Go B c σ σ s { s with heap := h'.push o, toks := tk } := Go.ofInv (μ' := σ.mu) R (fun b o' n e => k' b o' (fun z => n (z ▸ .inr wP)) e) rfl I fun _ w => w
    refine store (v := .fn (fnX name t.q params body scope clos .none .none doc ((B.mg "__name__").getD .none) none (.ref c') ctv)) G.rel hk ⟨h'.objs.size, o, c', rfl, nXf, Heap.get?_push_size _ (by cases o; cases hd; rfl), hd, rfl, nX, ?_⟩ fun s₂ g₂ => (H doc ((B.mg "__name__").getD .none) (.ref c') ctv).use g₂.rel fun _ _ g₃ q₃ => ⟨(G.trans R g₂).trans R g₃, q₃⟩
    obtain ⟨b, ob, ws, tt, e1, e2, e3⟩ := hrec
    exact ⟨b, ob, ws, tt, e1, Heap.get?_push_of_some _ e2, e3⟩
  rcases hps with rfl | ⟨c', rfl, nX, hrec⟩
  · refine W.makeFunction_K hcl R.ok.hg hg hcode C hP trivial rfl hgP bA fun c' ctv doc h' tk hx hge hlt hrec htb => ?_
    exact fin doc ctv c' h' tk _ _ rfl (fun b o n e => hx b o n e) (Nat.le_trans hge (Nat.le_of_lt hlt)) htb (by simp) (fun w => by obtain ⟨_, e⟩ := R.inv.ex _ w; exact Nat.not_lt.mpr hge (Heap.lt_size e)) hrec
  · refine W.makeFunction_hit hcl R.ok.hg hg hcode C hP ?_ (cv := .ref c') ?_ bA fun ctv doc h' tk k hsz => ?_
    · exact TriplesOk_snoc _ _ _ [] trivial
    · rw [hpos]; exact codeAmong_snoc [] trivial rfl
    · exact fin doc ctv c' h' tk _ _ rfl (fun b o _ e => k b o e) hsz (k _ _ hP) (by rw [hpos]) nX (let ⟨b, ob, ws, tt, e1, e2, e3⟩ := hrec; ⟨b, ob, ws, tt, e1, k _ _ e2, e3⟩)
end
end U13
end
noncomputable section
open PySem PySem.W PySem.Spec PySem.Calls PyProof.Rows
namespace U13
section
variable {B : Base} {c : Cx} {σ σ' σ₁ σ₂ : St} {v : MV} {vs : List MV} {e e₁ : Expr} {es : List Expr} {pos p₁ p₂ : Pos} {body : List Stmt} {target : Expr} {x : Str}
/-- for over a list, from its end -/
theorem EvS.forRev {N : Nat} {τ : Nat → St} {y : Str} (H : EvE B c e σ (.list vs) σ₁) (h0 : τ 0 = σ₁) (T : ∀ Y, Trace B (c.xx Y) (.Name y p₂) body vs.length (fun i => vs.reverse.getD i .none) N τ σ') (hμ : ∀ i, i ≤ N → ∀ a, (τ i).mu.on a ↔ σ₁.mu.on a) (hμ' : ∀ a, σ'.mu.on a ↔ σ₁.mu.on a)
    (hk : c.env.kindOf "reversed" = some .globalImplicit := by rfl) (hs : ∀ x, foldedSetIterable (.Call (.Name "reversed" p₁) [e] [] pos) c.env x = pure x := by intro _; rfl)
    (h1 : eval (.Call (.Name "reversed" p₁) [e] [] pos) c.env = (do callWith pos (← eval (.Name "reversed" p₁) c.env) [] (backTo pos (starEach [e] c.env)) (backToKw pos (keywordEach [] c.env))) := by rfl)
    (h2 : starEach [e] c.env = (false, eval e c.env) :: starEach [] c.env := by rfl) {pos' : Pos} : EvS B c (.For (.Name y p₂) (.Call (.Name "reversed" p₁) [e] [] pos) body [] pos') σ .next σ' := fun s R =>
  wpAny_For (Call_ (builtinName R (B.free _ (by decide)) boot_reversed (by decide) hk (by decide) (callWith_type1 (args_cons (H.use R fun v' s₁ g q => args_nil (by
    obtain ⟨ax, ws, rfl, nX, hl, q⟩ := q
    refine call_reversed_list hl ?_
    have hne : ax ≠ s₁.heap.objs.size := by obtain ⟨o, ho, _⟩ := hl; exact Nat.ne_of_lt (Heap.lt_size ho)
    have W := Walks.listRev (prog := B.prog) (w := B.w) g.rel.ok.hh s₁.heap.objs.size ax hne ws.toArray
    have hz : ws.toArray.size = vs.length := by rw [List.size_toArray, q.len]
    rw [hz] at W ⊢
    refine wpAny_pyIter_revIter (l := ax) (i := (vs.length : Int) - 1) ⟨_, Heap.get?_push_size _ rfl, rfl, rfl⟩ ?_
    refine codeAny_mono (forPush (tk := s₁.toks) g.rel W ⟨Nat.zero_le _, ⟨_, Heap.get?_push_size _ rfl, rfl, by rw [Int.natCast_zero, Int.sub_zero]; rfl⟩, hl.at fun o e => Heap.get?_push_of_some _ e⟩ rfl (fun b hb n => ?_) (fun i v' hi hP => ?_) (fun i s v' Q E hi st hP hQ => wpAny_pure hQ) (fun i h st => ?_) h0 T hμ hμ') fun r s' z => ?_
    · rcases List.mem_cons.mp hb with rfl | hb
      · exact absurd rfl n
      · rw [List.mem_singleton.mp hb]; exact nX
    · have := q.at hP
      rwa [List.getD_eq_getElem?_getD, List.getElem?_reverse hi, ← List.getD_eq_getElem?_getD]
    · obtain ⟨_, ⟨o, ho, _⟩, _⟩ := st; exact ⟨o, ho⟩
    · cases r with
      | error => exact z.elim
      | ok f => exact ⟨g.trans R z.2, z.1⟩)) h2) h2)) h1) hs

theorem VRs.rep {X : Addr → Prop} {h : Heap} {w : Value} (q : VR X h v w) : ∀ k, VRs X h (List.replicate k v) (List.replicate k w)
  | 0 => rfl
  | k + 1 => ⟨w, _, rfl, q, VRs.rep q k⟩
theorem rep_fold (w : Value) : ∀ (k : Nat) (a : Array Value), List.foldl (fun x1 x2 => x1 ++ x2) a (List.replicate k #[w]) = a ++ (List.replicate k w).toArray
  | 0, a => by simp
  | k + 1, a => by rw [List.replicate_succ, List.foldl_cons, rep_fold w k, List.replicate_succ]; apply Array.ext'; simp
theorem rep1 {k : Nat} (hk : k ≤ 1000000) : ¬(!Builtin.List.listFitsIndex (k : Int)) = true := by rw [fitsIndex_of (Int.natCast_nonneg k) (small63 hk)]; decide
theorem rep2 {w : Value} {k : Nat} (hk : k ≤ 1000000) : ¬(#[w] : Array Value).size * (k : Int).toNat > (2 ^ 63 - 1) / 8 := by
  rw [Int.toNat_natCast, List.size_toArray, List.length_singleton, Nat.one_mul]
  exact Nat.not_lt.mpr (Nat.le_trans hk (by decide))
theorem rep3 {w : Value} {k : Nat} (hk : k ≤ 1000000) : ¬Builtin.List.listTooLong ((#[w] : Array Value).size * (k : Int).toNat) = true := by
  rw [Int.toNat_natCast, List.size_toArray, List.length_singleton, Nat.one_mul, Builtin.List.listTooLong, decide_eq_true_eq]
  exact Nat.not_lt.mpr (line hk)
theorem EvN.rep {k : Nat} (H : EvE B c e σ v σ₁) (K : EvE B c e₁ σ₁ (.int k) σ₂) (hk : k ≤ 1000000) (h2 : starEach [e] c.env = (false, eval e c.env) :: starEach [] c.env := by rfl) : EvN B c (.BinOp (.List [e] p₁) .Mult e₁ pos) σ (List.replicate k v) σ₂ := fun s R =>
  wpAny_BinOp (List_ (args_cons (H.use R fun w s₁ g q => args_nil (wpAny_newObj_type (by
    have P := Go.push g.rel ⟨.type "list", none, .seq #[w], #[]⟩ (t := s₁.toks)
    refine K.use P.rel fun _ s₂ g₂ q₂ => ?_
    obtain ⟨t, rfl⟩ := q₂
    have hl := g₂.kp s₁.heap.objs.size _ (fun w => by have := (P.rel.wr w).1; exact g.rel.fresh this) (Heap.get?_push_size _ rfl)
    have h1 := rep1 hk
    have h2 := rep2 (w := w) hk
    have h3 := rep3 (w := w) hk
    have h4 : (k : Int).toNat = k := Int.toNat_natCast k
    generalize (k : Int) = kk at h1 h2 h3 h4 ⊢
    have hm := AutoListH.list___mul___list_int_3 s₁.heap.objs.size #[w] 0 kk t h1 h2 h3
    refine wpAny_binaryOp_repeat_ref (T := "list") (U := "int") (by decide) ⟨_, hl, rfl⟩ (fun s' => typeIs_int s' kk t) noFill_list_mul F.fills_int_mul F.slot_int_rmul repeat_list F.slot_int_index.lookup
      (call_meets F.slot_int_rmul (typeIs_int _ kk t) F.entry_int_rmul (F.args_int_rmul_2 _ _) (int___rmul___int_list kk t _ #[w] 0)
        ⟨hl, rfl, ⟨_, hl, rfl⟩, call_meets F.slot_list_mul ⟨_, hl, rfl⟩ F.entry_list_mul (F.args_list_mul_2 _ _)
          hm ⟨hl, ?_⟩⟩)
    refine ⟨s₂, List.replicate k w, s₂.toks, (g.trans R P).trans R g₂, VRs.rep (g₂.vr P.rel (P.vr g.rel q)) k, rfl, ?_⟩
    rw [show (if (#[w] : Array Value).isEmpty = true then 0 else kk.toNat) = k from h4, rep_fold]
    simp) (small (by decide : 1 ≤ 1000)))) h2))
/-- a def whose address the ground knows, called by a name of the frame -/
theorem EvE.callR {fa : Addr} {fd : FuncData} {sts : List Stmt} {n : Nat} {μ' : Mut} (hx : σ.loc.lookup x = some (.ref fa)) (D : IsFn B fa fd sts) (K : EvL B c (e :: es) σ vs σ₁) (C : CallP B n (.ref fa) vs σ₁.mu v μ') (hn : n ≤ c.n) (hμ : ∀ a, μ'.on a → σ₁.mu.on a)
    (hd : (x == ("__debug__" : Str)) = false := by decide) (hnm : (x == ("__classdict__" : Str)) = false := by decide)
    (h1 : eval (.Call (.Name x p₁) (e :: es) [] pos) c.env = (do callWith pos (← eval (.Name x p₁) c.env) [] (backTo pos (starEach (e :: es) c.env)) (backToKw pos (keywordEach [] c.env))) := by rfl)
    (h2 : starEach (e :: es) c.env = (false, eval e c.env) :: starEach es c.env := by rfl) : EvE B c (.Call (.Name x p₁) (e :: es) [] pos) σ v ⟨σ₁.loc, μ'⟩ := fun s R =>
  Call_ ((EvE.name (pos := p₁) hx hd hnm).use R fun v' s₀ g₀ q₀ => by
    obtain ⟨o, ho, hdat⟩ := D.at_
    cases q₀
    exact callWith_def hdat (K.use g₀.rel fun vs' s₁ g q => ⟨g.rel.inv.base _ _ ho, C.use hn hμ g.rel q fun v' s' g' r => ⟨(g₀.trans R g).trans R g', r⟩⟩) h2) h1
/-- what a def of the top does, all told -/
def Does (B : Base) (x : Str) (n : Nat) (args : List MV) (v : MV) : Prop := ∃ f fd body, IsFn B f fd body ∧ B.mg x = some (.ref f) ∧ CallP B n (.ref f) args .none v .none
theorem EvE.does {n : Nat} (C : Does B x n vs v) (K : EvL B c (e :: es) σ vs σ₁) (hn : n ≤ c.n) (hk : c.env.kindOf x = some .globalImplicit := by rfl) (hd : (x == ("__debug__" : Str)) = false := by decide)
    (h1 : eval (.Call (.Name x p₁) (e :: es) [] pos) c.env = (do callWith pos (← eval (.Name x p₁) c.env) [] (backTo pos (starEach (e :: es) c.env)) (backToKw pos (keywordEach [] c.env))) := by rfl)
    (h2 : starEach (e :: es) c.env = (false, eval e c.env) :: starEach es c.env := by rfl) : EvE B c (.Call (.Name x p₁) (e :: es) [] pos) σ v σ₁ :=
  let ⟨_, _, _, D, hf, P⟩ := C
  .call D hf K (P.fr _) hn (fun _ w => w) hk hd h1 h2
end
end U13
end
noncomputable section
open PySem PySem.W PySem.Spec PySem.Calls PyProof.Rows
namespace U13
theorem compLoop {prog : Program} {w : World} {A : Around} {R : Result → Shared → Prop} {s : Shared} {elt target iter : Expr} {ifs : List Expr} {scope : Scope} {pos : Pos} {it acc : Value} {env : Env} (I : Nat → Shared → Prop)
    (turn : ∀ n s, I n s → wpAny (model prog w) A (pyNext it) (fun r s₁ => match r with
      | none => R (.ok .next) s₁
      | some v => wpAny (model prog w) A (letOwnedTupleGo target it v) (fun _ s₁ => wpAny (model prog w) A (assign target env v) (fun _ s₂ =>
          wpAny (model prog w) A (forIn ifs true fun c r => if r = true then do let ok ← isTrue c env (eval c env); pure (ForInStep.yield ok) else pure (ForInStep.yield r)) (fun ok s₃ =>
            if ok = true then wpAny (model prog w) A (eval elt env) (fun x s₄ =>
              wpAny (model prog w) A (call (.builtin "list.append") [acc, x]) (fun _ s₅ => ∃ m, m < n ∧ I m s₅) (fun _ _ => False) s₄) (fun _ _ => False) s₃
            else ∃ m, m < n ∧ I m s₃) (fun _ _ => False) s₂) (fun _ _ => False) s₁) (fun _ _ => False) s₁) (fun _ _ => False) s)
    (n : Nat) (h : I n s) : codeAny (model prog w) A (.compLoop (.ListComp elt [⟨target, iter, ifs, 0⟩] scope pos) 0 it acc env) R s := by
  refine codeAny_loop rfl I (fun n s hI => ?_) n h
  show wpAny _ A ((compTurn (.ListComp elt [⟨target, iter, ifs, 0⟩] scope pos) 0 it acc env).onRaise (fun x => do noteFrame x env; theTreesLotGoes x)) _ _ s
  refine wpAny_noted ?_
  rw [compTurn_list]
  refine wpAny_bind (wpAny_standAt (wpAny_bind (wpAny_mono (turn n s hI) (fun r s₁ h₁ => ?_) fun _ _ h' => h'.elim)))
  cases r with
  | none => exact wpAny_pure h₁
  | some v =>
    refine wpAny_bind (wpAny_mono h₁ (fun _ s₁ h₁ => ?_) fun _ _ h' => h'.elim)
    refine wpAny_bind (wpAny_mono h₁ (fun _ s₂ h₂ => wpAny_bind (wpAny_mono h₂ (fun ok s₃ h₃ => ?_) fun _ _ h' => h'.elim)) fun _ _ h' => h'.elim)
    cases ok with
    | false => exact wpAny_pure ⟨rfl, h₃⟩
    | true =>
      exact wpAny_bind (wpAny_bind (wpAny_mono h₃ (fun x s₄ h₄ => wpAny_bind (wpAny_mono h₄ (fun _ s₅ h₅ => wpAny_pure (wpAny_pure ⟨rfl, h₅⟩)) fun _ _ h' => h'.elim)) fun _ _ h' => h'.elim))

/-- the tests of a comprehension: none or one -/
def EvIfs (B : Base) (c : Cx) (ifs : List Expr) (σ : St) (b : Bool) (σ' : St) : Prop :=
  ∀ s, Rel B c σ s.heap s.gens → wpAny (model B.prog B.w) c.A (forIn ifs true fun e r => if r = true then do let ok ← isTrue e c.env (eval e c.env); pure (ForInStep.yield ok) else pure (ForInStep.yield r)) (fun b' s' => Go B c σ σ' s s' ∧ b' = b) (fun _ _ => False) s
section
variable {B : Base} {c : Cx} {σ σ' σ₁ : St} {e : Expr} {b : Bool}
theorem EvIfs.nil : EvIfs B c [] σ true σ := fun _ R => by
  rw [List.forIn_nil]; exact wpAny_pure ⟨.refl R, rfl⟩
theorem EvIfs.one (H : EvT B c e σ b σ') : EvIfs B c [e] σ b σ' := fun _ R => wpAny_tests_one (H.use R fun _ g => ⟨g, rfl⟩)
end
/-- one turn of a comprehension -/
def TurnC (B : Base) (c : Cx) (target : Expr) (ifs : List Expr) (elt : Expr) (v : MV) (σ : St) : Option MV → Prop
  | none => ∃ ρ ρ', EvA B c target v σ ρ ∧ EvIfs B c ifs ρ false ρ' ∧ Sub ρ'.loc σ.loc ∧ ρ'.mu = σ.mu
  | some r => ∃ ρ ρ', EvA B c target v σ ρ ∧ EvIfs B c ifs ρ true ρ' ∧ EvE B c elt ρ' r σ
end U13
end
noncomputable section
open PySem PySem.W PySem.Spec PySem.Calls PyProof.Rows
namespace U13
/-- a block's cells are its frame's -/
def CapOk (env env' : Env) : Prop := ∀ x, env'.kindOf x = some .cell → env.kindOf x = some .cell ∧ env'.cells.lookup x = env.cells.lookup x
section
variable {B : Base} {c : Cx} {σ : St} {s : Shared} {I D C : Addr} {e' : Env} {h₀ h : Heap} {g : Array GenState} {σc : List (Str × MV)}
structure Blk (B : Base) (c : Cx) (σ : St) (s : Shared) (I D : Addr) (e' : Env) (σc : List (Str × MV)) : Prop where
  R : Rel B c σ s.heap s.gens
  nI : s.heap.get? I = none
  nD : s.heap.get? D = none
  nC : s.heap.get? e'.locals = none
  hID : I ≠ D
  hIC : I ≠ e'.locals
  hDC : D ≠ e'.locals
  cap : CapOk c.env e'
  kind : e'.scope.kind = .function
  glob : e'.globals = c.env.globals
  bi : e'.builtins = c.env.builtins
  hcap : ∀ x v, σc.lookup x = some v → σ.loc.lookup x = some v ∧ e'.kindOf x = some .cell
  hcap' : ∀ x v, e'.kindOf x = some .cell → σ.loc.lookup x = some v → σc.lookup x = some v
def bx (c : Cx) (I D : Addr) (e' : Env) : Cx := ⟨c.A, e', fun a => c.X a ∨ a = I ∨ a = D ∨ a = e'.locals, c.n⟩
theorem Blk.own (K : Blk B c σ s I D e' σc) {x : Str} {a : Addr} (w : Own e' x a) : Own c.env x a := ⟨(K.cap x w.1).1, (K.cap x w.1).2.symm.trans w.2⟩
theorem Blk.old (K : Blk B c σ s I D e' σc) {a : Addr} {o : Obj} (e : s.heap.get? a = some o) : a ≠ I ∧ a ≠ D ∧ a ≠ e'.locals := ⟨fun z => (by rw [z, K.nI] at e; cases e), fun z => (by rw [z, K.nD] at e; cases e), fun z => (by rw [z, K.nC] at e; cases e)⟩
theorem Blk.wr (K : Blk B c σ s I D e' σc) {a : Addr} (w : Wr B (bx c I D e') σ.mu a) (n : a ≠ e'.locals) : Wr B c σ.mu a := w.elim (fun e => absurd e n) fun w => .inr (w.imp (fun ⟨x, w⟩ => ⟨x, K.own w⟩) id)
theorem Blk.nY (K : Blk B c σ s I D e' σc) {a : Addr} {o : Obj} (e : s.heap.get? a = some o) (n : ¬ c.X a) : ¬ (bx c I D e').X a := fun w => by
  obtain ⟨h1, h2, h3⟩ := K.old e
  rcases w with w | w | w | w
  · exact n w
  · exact h1 w
  · exact h2 w
  · exact h3 w
theorem Blk.nb (K : Blk B c σ s I D e' σc) {a : Addr} (n : s.heap.get? a = none) : B.h₁.get? a = none := by
  cases e : B.h₁.get? a with
  | none => rfl
  | some o => rw [K.R.inv.base _ _ e] at n; cases n
theorem Blk.nW (K : Blk B c σ s I D e' σc) {a : Addr} (n : s.heap.get? a = none) (nc : a ≠ e'.locals) : ¬ Wr B (bx c I D e') σ.mu a := fun w => by
  obtain ⟨_, _, o, e⟩ := K.R.wr (K.wr w nc)
  rw [n] at e; cases e
/-- the block's frame at its start -/
theorem Blk.rel (K : Blk B c σ s I D e' σc) (kk : ∀ b o, s.heap.get? b = some o → h₀.get? b = some o) (eI : ∃ o, h₀.get? I = some o) (eD : ∃ o, h₀.get? D = some o) (hn : h₀.Ns e'.locals fun _ => none) : Rel B (bx c I D e') ⟨σc, σ.mu⟩ h₀ s.gens := by
  have R := K.R
  have kx : ∀ a o, s.heap.get? a = some o → ¬ c.X a → ¬ (bx c I D e').X a ∧ h₀.get? a = some o := fun a o e n => ⟨K.nY e n, kk a o e⟩
  refine ⟨⟨R.ok.hh, R.ok.hd, R.ok.hu, K.kind, K.glob.trans R.ok.hg, K.bi.trans R.ok.hb, ⟨K.nb K.nC, .inr (.inr (.inr rfl))⟩, fun x a w => ?_, fun x y a w w' => R.ok.hI x y a (K.own w) (K.own w'), fun x w => ?_⟩,
    R.inv.map kx (fun a o _ e => kk a o e) (fun b o _ e => kk b o e) (fun a w => .inl (R.inv.wr a w).1) R.inv.gens fun a w => ?_, ⟨_, hn, fun x v e => ?_⟩, fun x a w => ?_, fun a w => ?_⟩
  · have w := K.own w
    obtain ⟨h1, h2, h3⟩ := R.ok.hC x a w
    obtain ⟨_, o, ho, _⟩ := R.cell x a w
    exact ⟨.inl h1, (K.old ho).2.2, h3⟩
  · obtain ⟨a, ha⟩ := R.ok.hc x (K.cap x w).1
    exact ⟨a, (K.cap x w).2.trans ha⟩
  · rcases w with w | rfl | rfl | rfl
    · exact (R.inv.ex a w).imp (kk a)
    · exact eI
    · exact eD
    · obtain ⟨o, _, _, ho, _⟩ := hn; exact ⟨o, ho⟩
  · obtain ⟨e1, e2⟩ := K.hcap x v e
    obtain ⟨m, _, p⟩ := R.loc
    obtain ⟨v', w, q⟩ := p x v e1
    have hk := (K.cap x e2).1
    rcases w with ⟨w, _⟩ | ⟨a, w, o, ho, hd⟩ | ⟨w, _⟩
    · rw [hk] at w; cases w
    · exact ⟨v', .inr (.inl ⟨a, ⟨e2, (K.cap x e2).2.trans w.2⟩, o, kk _ _ ho, hd⟩), q.map kx⟩
    · rw [hk] at w; cases w
  · obtain ⟨u, o, ho, hd⟩ := R.cell x a (K.own w)
    exact ⟨u, o, kk _ _ ho, hd⟩
  · obtain ⟨_, _, o, ho⟩ := R.inv.wr a w
    exact ⟨(K.old ho).2.2, fun x z => (R.off a w).2 x (K.own z)⟩
/-- the frame when its block is done, the block's names still there -/
theorem Blk.back (K : Blk B c σ s I D e' σc) {Y : Addr → Prop} (sub : ∀ a, (c.X a ∨ a = e'.locals) → Y a) (R' : Rel B ((bx c I D e').xx Y) ⟨σc, σ.mu⟩ h g) (kp : ∀ b o, ¬ Wr B (bx c I D e') σ.mu b → s.heap.get? b = some o → h.get? b = some o) : Rel B (c.xx fun a => c.X a ∨ a = e'.locals) σ h g := by
  have R := K.R
  have k' : ∀ a o, h.get? a = some o → ¬ Y a → ¬ (c.X a ∨ a = e'.locals) ∧ h.get? a = some o := fun a o e n => ⟨fun w => n (sub a w), e⟩
  have keep : ∀ a o, s.heap.get? a = some o → ¬ c.X a → ¬ (c.X a ∨ a = e'.locals) ∧ h.get? a = some o := fun a o e n => ⟨fun w => w.elim n (K.old e).2.2, kp a o (fun w => n (R.wr (K.wr w (K.old e).2.2)).1) e⟩
  have cellk : ∀ {x : Str} {a : Addr} {u : Option Value}, Own c.env x a → e'.kindOf x ≠ some .cell → s.heap.IsCell a u → h.IsCell a u := fun {x a u} w nk ⟨o, ho, hd⟩ => ⟨o, kp a o (fun z => by
    rcases z with z | ⟨y, z⟩ | z
    · exact (K.old ho).2.2 z
    · exact nk (R.ok.hI _ _ _ (K.own z) w ▸ z.1)
    · exact (R.off a z).2 x w) ho, hd⟩
  refine ⟨⟨R.ok.hh, R.ok.hd, R.ok.hu, R.ok.hk, R.ok.hg, R.ok.hb, ⟨R.ok.hL.1, .inl R.ok.hL.2⟩, fun x a w => ⟨.inl (R.ok.hC x a w).1, (R.ok.hC x a w).2⟩, R.ok.hI, R.ok.hc⟩,
    R'.inv.map k' (fun _ _ _ e => e) (fun _ _ _ e => e) (fun a w => .inl (R.inv.wr a w).1) R'.inv.gens fun a w => R'.inv.ex a (sub a w), ?_, fun x a w => ?_, R.off⟩
  · obtain ⟨m, ⟨o, es, ep, ho, hr⟩, p⟩ := R.loc
    refine ⟨m, ⟨o, es, ep, kp _ _ (fun z => ?_) ho, hr⟩, fun y v e => ?_⟩
    · rcases z with z | ⟨y, z⟩ | z
      · exact (K.old ho).2.2 z
      · exact (R.ok.hC y _ (K.own z)).2.1 rfl
      · exact (R.off _ z).1 rfl
    · obtain ⟨v', w, q⟩ := p y v e
      rcases w with w | ⟨a, w, hc⟩ | w
      · exact ⟨v', .inl w, q.map keep⟩
      · by_cases hk : e'.kindOf y = some .cell
        · obtain ⟨_, _, p'⟩ := R'.loc
          obtain ⟨v₂, w₂, q₂⟩ := p' y v (K.hcap' y v hk e)
          rcases w₂ with ⟨w₂, _⟩ | ⟨a₂, w₂, hc₂⟩ | ⟨w₂, _⟩
          · exact absurd (hk.symm.trans w₂) nofun
          · exact ⟨v₂, .inr (.inl ⟨a₂, K.own w₂, hc₂⟩), q₂.map k'⟩
          · exact absurd (hk.symm.trans w₂) nofun
        · exact ⟨v', .inr (.inl ⟨a, w, cellk w hk hc⟩), q.map keep⟩
      · exact ⟨v', .inr (.inr w), q.map keep⟩
  · by_cases hk : e'.kindOf x = some .cell
    · exact R'.cell x a ⟨hk, (K.cap x hk).2.trans w.2⟩
    · obtain ⟨u, hu⟩ := R.cell x a w
      exact ⟨u, cellk w hk hu⟩
end
end U13
end
noncomputable section
open PySem PySem.W PySem.Spec PySem.Calls PyProof.Rows
namespace U13
section
variable {B : Base} {c : Cx} {σ : St} {s : Shared} {I D : Addr} {e' : Env} {h₀ h : Heap} {g : Array GenState} {σc : List (Str × MV)} {elt target iter : Expr} {ifs : List Expr} {scope : Scope} {pos : Pos}
theorem Blk.loop (K : Blk B c σ s I D e' σc) {tk n : Nat} {fp : List Addr} {P : Nat → Value → Prop} {S : Nat → Heap → Prop} {val : Nat → MV} {res : Nat → Option MV} (kk : ∀ b o, s.heap.get? b = some o → h₀.get? b = some o) (eI : ∃ o, h₀.get? I = some o) (eD : h₀.get? D = some { cls := .type "list", data := .seq #[] }) (hn : h₀.Ns e'.locals fun _ => none)
    (W : Walks B.prog B.w c.A I fp [I] n P S) (st : S 0 h₀) (hS : ∀ i h, S i h → ∃ o, h.get? I = some o) (hfp : ∀ b ∈ fp, b ≠ I → ¬ c.X b ∧ ∃ o, s.heap.get? b = some o) (hv : ∀ i v', i < n → P i v' → VR c.X s.heap (val i) v')
    (hlet : ∀ i (s₂ : Shared) v' (Q : Unit → Shared → Prop) (E : Value → Shared → Prop), i < n → S (i + 1) s₂.heap → (∃ X h, VR X h (val i) v') → Q () s₂ → wpAny (model B.prog B.w) c.A (letOwnedTupleGo target (.ref I) v') Q E s₂)
    (T : ∀ i, i < n → TurnC B (bx c I D e') target ifs elt (val i) ⟨σc, σ.mu⟩ (res i)) (hsz : n ≤ 1000000) :
    codeAny (model B.prog B.w) c.A (.compLoop (.ListComp elt [⟨target, iter, ifs, 0⟩] scope pos) 0 (.ref I) (.ref D) e') (fun r s' => match r with
      | .ok _ => Rel B (c.xx fun a => c.X a ∨ a = e'.locals) σ s'.heap s'.gens ∧ s'.os = s.os ∧ (∀ b o, ¬ Wr B c σ.mu b → s.heap.get? b = some o → s'.heap.get? b = some o) ∧ VR (fun a => c.X a ∨ a = e'.locals) s'.heap (.list ((List.range n).filterMap res)) (.ref D) ∧ ∃ m, s'.heap.Ns e'.locals m
      | .error _ => False) { s with heap := h₀, toks := tk } := by
  have R₀ := K.rel kk eI ⟨_, eD⟩ hn
  have nWI := K.nW K.nI K.hIC
  have nWD := K.nW K.nD K.hDC
  have yI : (bx c I D e').X I := .inr (.inl rfl)
  have yD : (bx c I D e').X D := .inr (.inr (.inl rfl))
  have fpW : ∀ b ∈ fp, ¬ Wr B (bx c I D e') σ.mu b := fun b hb w => by
    by_cases e : b = I
    · exact nWI (e ▸ w)
    · obtain ⟨h1, o, h2⟩ := hfp b hb e
      exact h1 (K.R.wr (K.wr w (K.old h2).2.2)).1
  have fpD : ∀ b ∈ fp, b ≠ D := fun b hb e => by
    by_cases z : b = I
    · exact K.hID (z.symm.trans e)
    · obtain ⟨_, o, h2⟩ := hfp b hb z
      exact (K.old h2).2.1 e
  refine compLoop (fun k s' => ∃ i ws m, k = n + 1 - i ∧ i ≤ n ∧ Rel B (bx c I D e') ⟨σc, σ.mu⟩ s'.heap s'.gens ∧ S i s'.heap ∧ s'.heap.get? D = some { cls := .type "list", data := .seq ws.toArray m } ∧ VRs (bx c I D e').X s'.heap ((List.range i).filterMap res) ws ∧ ws.length ≤ i ∧ s'.os = s.os ∧
    ∀ b o, ¬ Wr B (bx c I D e') σ.mu b → s.heap.get? b = some o → s'.heap.get? b = some o) (fun k s₁ z => ?_) (n + 1) ⟨0, [], 0, rfl, Nat.zero_le _, R₀, st, eD, rfl, Nat.le_refl _, rfl, fun b o _ e => kk b o e⟩
  obtain ⟨i, ws, m, rfl, hi, R₁, st₁, hD, q, hl, os₁, k₁⟩ := z
  by_cases hin : i < n
  · refine W.item i _ _ _ hin st₁ fun v' h₂ tk₂ hP st₂ k₂ => ?_
    have k₂' : ∀ b o, b ≠ I → s₁.heap.get? b = some o → h₂.get? b = some o := fun b o hb e => k₂ b o (fun q => hb (List.mem_singleton.mp q)) e
    have R₂ : Rel B (bx c I D e') ⟨σc, σ.mu⟩ h₂ s₁.gens := R₁.sideStep (c := bx c I D e') yI nWI (K.nb K.nI) k₂' (hS _ _ st₂)
    have q₂ : VR (bx c I D e').X h₂ (val i) v' := (hv i v' hin hP).map fun a o e n => ⟨K.nY e n, k₂' a o (K.old e).1 (k₁ a o (fun w => n (K.R.wr (K.wr w (K.old e).2.2)).1) e)⟩
    have hD₂ := k₂' D _ (Ne.symm K.hID) hD
    have qs₂ : VRs (bx c I D e').X h₂ ((List.range i).filterMap res) ws := q.map fun a o e n => ⟨n, k₂' a o (fun z => n (z ▸ yI)) e⟩
    have k₃ : ∀ b o, ¬ Wr B (bx c I D e') σ.mu b → s.heap.get? b = some o → h₂.get? b = some o := fun b o n e => k₂' b o (K.old e).1 (k₁ b o n e)
    refine hlet i _ v' _ _ hin st₂ ⟨_, _, q₂⟩ ?_
    -- a turn's end, nothing taken
    have stay : ∀ {s₃ : Shared}, Go B (bx c I D e') ⟨σc, σ.mu⟩ ⟨σc, σ.mu⟩ { heap := h₂, gens := s₁.gens, drawn := s₁.drawn, toks := tk₂, os := s₁.os } s₃ → S (i + 1) s₃.heap ∧ s₃.heap.get? D = some { cls := .type "list", data := .seq ws.toArray m } ∧ VRs (bx c I D e').X s₃.heap ((List.range i).filterMap res) ws ∧ s₃.os = s.os ∧ ∀ b o, ¬ Wr B (bx c I D e') σ.mu b → s.heap.get? b = some o → s₃.heap.get? b = some o := fun G =>
      ⟨W.frame _ _ _ st₂ fun b hb o e => G.kp b o (fpW b hb) e, G.kp D _ nWD hD₂, G.vrs R₂ qs₂, G.os.trans os₁, fun b o n e => G.kp b o n (k₃ b o n e)⟩
    have rg : (List.range (i + 1)).filterMap res = (List.range i).filterMap res ++ (res i).toList := by
      rw [List.range_succ, List.filterMap_append]; congr 1
    have T := T i hin
    cases e : res i with
    | none =>
      rw [e] at T rg
      obtain ⟨ρ, ρ', T1, T2, T3, T4⟩ := T
      refine wpAny_mono (T1 { heap := h₂, gens := s₁.gens, drawn := s₁.drawn, toks := tk₂, os := s₁.os } v' R₂ q₂) (fun _ s₃ g₃ => wpAny_mono (T2 s₃ g₃.rel) (fun b s₄ z => ?_) fun _ _ z => z) fun _ _ z => z
      obtain ⟨g₄, rfl⟩ := z
      rw [if_neg Bool.false_ne_true]
      have G := (g₃.trans R₂ g₄).to (τ := ⟨σc, σ.mu⟩) T3 T4
      obtain ⟨x1, x2, x3, x4, x5⟩ := stay G
      exact ⟨_, by omega, i + 1, ws, m, rfl, hin, G.rel, x1, x2, by rw [rg]; simpa using x3, Nat.le_succ_of_le hl, x4, x5⟩
    | some r =>
      rw [e] at T rg
      obtain ⟨ρ, ρ', T1, T2, T3⟩ := T
      refine wpAny_mono (T1 { heap := h₂, gens := s₁.gens, drawn := s₁.drawn, toks := tk₂, os := s₁.os } v' R₂ q₂) (fun _ s₃ g₃ => wpAny_mono (T2 s₃ g₃.rel) (fun b s₄ z => ?_) fun _ _ z => z) fun _ _ z => z
      obtain ⟨g₄, rfl⟩ := z
      rw [if_pos rfl]
      refine T3.use (c := bx c I D e') g₄.rel fun y s₅ g₅ q₅ => ?_
      have G := (g₃.trans R₂ g₄).trans R₂ g₅
      obtain ⟨x1, x2, x3, x4, x5⟩ := stay G
      refine append_at (x := y) x2 (fun h₆ hs hD₆ => ?_) (line (by rw [List.size_toArray]; omega))
      have k₆ : ∀ b o, b ≠ D → s₅.heap.get? b = some o → h₆.get? b = some o := fun b o n e => (hs.2 b n).trans e
      refine ⟨_, by omega, i + 1, ws ++ [y], m + 1, rfl, hin, G.rel.sideStep (c := bx c I D e') yD nWD (K.nb K.nD) k₆ ⟨_, hD₆⟩, W.frame _ _ _ x1 fun b hb o e => k₆ b o (fpD b hb) e, by simpa using hD₆, ?_, by rw [List.length_append]; exact Nat.succ_le_succ hl, x4, fun b o n e => k₆ b o (K.old e).2.1 (x5 b o n e)⟩
      rw [rg]
      exact ((VRs.one q₅).app x3).map fun a o e n => ⟨n, k₆ a o (fun z => n (z ▸ yD)) e⟩
  · have e : i = n := Nat.le_antisymm hi (Nat.le_of_not_lt hin)
    subst e
    refine W.done _ _ _ st₁ fun h₂ tk₂ k₂ => ?_
    have k₂' : ∀ b o, b ≠ I → s₁.heap.get? b = some o → h₂.get? b = some o := fun b o hb e => k₂ b o (fun q => hb (List.mem_singleton.mp q)) e
    have k₃ : ∀ b o, ¬ Wr B (bx c I D e') σ.mu b → s.heap.get? b = some o → h₂.get? b = some o := fun b o n e => k₂' b o (K.old e).1 (k₁ b o n e)
    have nXI : ¬ c.X I := fun w => by obtain ⟨o, e⟩ := K.R.inv.ex I w; rw [K.nI] at e; cases e
    have sub : ∀ a, (c.X a ∨ a = e'.locals) → (bx c I D e').X a ∧ a ≠ I := fun a w => ⟨w.imp id fun w => .inr (.inr w), fun e => w.elim (fun w => nXI (e ▸ w)) fun w => K.hIC (e.symm.trans w)⟩
    have kq : ∀ a o, s₁.heap.get? a = some o → ¬ (bx c I D e').X a → ¬ ((bx c I D e').X a ∧ a ≠ I) ∧ h₂.get? a = some o := fun a o e n => ⟨fun w => n w.1, k₂' a o (fun z => n (z ▸ yI)) e⟩
    have nI : ∀ a, Wr B (bx c I D e') σ.mu a → a ≠ I := fun a w e => nWI (e ▸ w)
    have R₂ : Rel B ((bx c I D e').xx fun a => (bx c I D e').X a ∧ a ≠ I) ⟨σc, σ.mu⟩ h₂ s₁.gens := R₁.move (c := bx c I D e') ⟨R₁.ok.hh, R₁.ok.hd, R₁.ok.hu, R₁.ok.hk, R₁.ok.hg, R₁.ok.hb, ⟨R₁.ok.hL.1, R₁.ok.hL.2, Ne.symm K.hIC⟩, fun x a w => ⟨⟨(R₁.ok.hC x a w).1, nI a (.inr (.inl ⟨x, w⟩))⟩, (R₁.ok.hC x a w).2⟩, R₁.ok.hI, R₁.ok.hc⟩
      kq (fun a o w e => k₂' a o (nI a w) e) (fun b o w e => k₂' b o (fun z => by rw [z, K.nb K.nI] at w; cases w) e) (fun a w => ⟨(R₁.inv.wr a w).1, nI a (.inr (.inr w))⟩) fun a w => (R₁.inv.ex a w.1).imp fun o e => k₂' a o w.2 e
    refine ⟨K.back sub R₂ k₃, os₁, fun b o n e => k₃ b o (fun w => n (K.wr w (K.old e).2.2)) e, ⟨D, ws, rfl, fun w => w.elim (fun w => ?_) K.hDC, ⟨_, k₂' D _ (Ne.symm K.hID) hD, rfl, m, rfl⟩, q.map fun a o e n => ⟨fun w => n (sub a w).1, k₂' a o (fun z => n (z ▸ yI)) e⟩⟩, ?_⟩
    · obtain ⟨o, e⟩ := K.R.inv.ex D w
      rw [K.nD] at e; cases e
    · obtain ⟨m', hm, _⟩ := R₂.loc
      exact ⟨m', hm⟩
end
end U13
end
noncomputable section
open PySem PySem.W PySem.Spec PySem.Calls PyProof.Rows
namespace U13
section
variable {B : Base} {c : Cx} {σ σ₁ σ' : St} {s s' : Shared} {C : Addr} {h' : Heap} {iv : MV} {n : Nat} {val : Nat → MV} {elt target iter : Expr} {ifs : List Expr} {scope : Scope} {pos : Pos} {cl : List (Str × Addr)} {σc : List (Str × MV)} {res : Nat → Option MV}
/-- the block's names are let go -/
theorem blkFin (R : Rel B c σ s.heap s.gens) (nC : s.heap.get? C = none) (R' : Rel B (c.xx fun a => c.X a ∨ a = C) σ' s'.heap s'.gens) (os : s'.os = s.os) (kp : ∀ b o, ¬ Wr B c σ.mu b → s.heap.get? b = some o → s'.heap.get? b = some o) (hμ : ∀ a, σ'.mu.on a → σ.mu.on a) (hs : Heap.SameBut C s'.heap h') :
    Go B c σ σ' s { s' with heap := h' } := by
  have up : ∀ a, Wr B c σ'.mu a → Wr B c σ.mu a := fun a w => w.imp id (Or.imp id (Or.imp (hμ a) id))
  have nW : ¬ Wr B c σ.mu C := fun w => by obtain ⟨_, _, o, e⟩ := R.wr w; rw [nC] at e; cases e
  have nX : ¬ c.X C := fun w => by obtain ⟨o, e⟩ := R.inv.ex C w; rw [nC] at e; cases e
  have nB : B.h₁.get? C = none := by
    cases e : B.h₁.get? C with
    | none => rfl
    | some o => rw [R.inv.base _ _ e] at nC; cases nC
  have k : ∀ b o, b ≠ C → s'.heap.get? b = some o → h'.get? b = some o := fun b o n e => (hs.2 b n).trans e
  exact ⟨fun b o n e => k b o (fun z => by rw [z, nC] at e; cases e) (kp b o n e), os, fun a w => .inl (hμ a w),
    R'.sideOut R.ok (fun _ w => .inl w) (.inr rfl) nX (fun a w => (R.inv.wr a (w.imp (hμ a) id)).1) (fun w => nW (up _ w)) nB k⟩
/-- what a block asks of its frame and its turns -/
structure Comp (B : Base) (c : Cx) (σ : St) (target : Expr) (iv : MV) (n : Nat) (val : Nat → MV) (ifs : List Expr) (elt : Expr) (scope : Scope) (cl : List (Str × Addr)) (σc : List (Str × MV)) (res : Nat → Option MV) : Prop where
  clos : closureFor scope c.env = pure cl
  kind : scope.kind = .function
  cell : ∀ x ∈ scope.names, x.2 ≠ .cell
  names : ∀ x ∈ scope.names, x.2 = .local → scope.names.lookup x.1 = some .local
  cap : ∀ C, CapOk c.env (compEnvC scope cl C c.env)
  hcap : ∀ C x v, σc.lookup x = some v → σ.loc.lookup x = some v ∧ (compEnvC scope cl C c.env).kindOf x = some .cell
  hcap' : ∀ C x v, (compEnvC scope cl C c.env).kindOf x = some .cell → σ.loc.lookup x = some v → σc.lookup x = some v
  src : Src B c target iv n val
  turn : ∀ I D C i, i < n → TurnC B (bx c I D (compEnvC scope cl C c.env)) target ifs elt (val i) ⟨σc, σ.mu⟩ (res i)
  size : n ≤ 1000000
theorem blkRun {pos' : Pos} {use : Option (Value → Sem Unit)} {Q : Value → Shared → Prop} {E : Value → Shared → Prop} (H : EvE B c iter σ iv σ₁) (K₀ : Comp B c σ₁ target iv n val ifs elt scope cl σc res) (hs : ∀ x, foldedSetIterable iter c.env x = pure x) (R : Rel B c σ s.heap s.gens)
    (hQ : ∀ (s₁ s₂ : Shared) C D, Go B c σ σ₁ s s₁ → s₁.heap.get? C = none → Rel B (c.xx fun a => c.X a ∨ a = C) σ₁ s₂.heap s₂.gens → s₂.os = s₁.os → (∀ b o, ¬ Wr B c σ₁.mu b → s₁.heap.get? b = some o → s₂.heap.get? b = some o) → VR (fun a => c.X a ∨ a = C) s₂.heap (.list ((List.range n).filterMap res)) (.ref D) →
      (∃ m, s₂.heap.Ns C m) → compPost (model B.prog B.w) c.A E use Q (.ref D) C (.ok .next) s₂) :
    wpAny (model B.prog B.w) c.A (comprehension (.ListComp elt [⟨target, iter, ifs, 0⟩] scope pos) scope c.env pos' (newList []) false (eval iter c.env) use) Q E s := by
  refine wpAny_comprehension_free rfl hs K₀.clos K₀.kind K₀.names (H.use R fun v' s₁ g q => ?_)
  obtain ⟨it, fp, P, S, e1, e2, W, e3, e4, e5, e6, e7⟩ := K₀.src _ _ _ g.rel q
  refine e2 _ _ (wpAny_newObj_type (wpAny_newFunctionEnv K₀.cell (fun x h => nomatch h) (fun h' hn hsb => ?_) K₀.kind) (small (by decide : 0 ≤ 1000)))
  have eI : (s₁.heap.push it).objs.size = s₁.heap.objs.size + 1 := Heap.size_push ..
  have eD : ((s₁.heap.push it).push { cls := .type "list", data := .seq #[] }).objs.size = s₁.heap.objs.size + 1 + 1 := by rw [Heap.size_push, eI]
  rw [eD] at hn hsb
  have nn : ∀ k, s₁.heap.get? (s₁.heap.objs.size + k) = none := fun k => Heap.get?_none_of_le (Nat.le_add_right _ _)
  have at2 : ∀ b o, b ≠ s₁.heap.objs.size + 1 + 1 → ((s₁.heap.push it).push { cls := .type "list", data := .seq #[] }).get? b = some o → h'.get? b = some o := fun b o n e => (hsb.2 b n).trans (Heap.get?_push_of_some _ e)
  have K : Blk B c σ₁ s₁ s₁.heap.objs.size (s₁.heap.objs.size + 1) (compEnvC scope cl (s₁.heap.objs.size + 1 + 1) c.env) σc := ⟨g.rel, nn 0, nn 1, nn 2, Nat.ne_of_lt (Nat.lt_succ_self _), Nat.ne_of_lt (Nat.lt_succ_of_lt (Nat.lt_succ_self _)), Nat.ne_of_lt (Nat.lt_succ_self _), K₀.cap _, K₀.kind, rfl, rfl, K₀.hcap _, K₀.hcap' _⟩
  have kk : ∀ b o, s₁.heap.get? b = some o → h'.get? b = some o := fun b o e => at2 b o (Nat.ne_of_lt (Nat.lt_succ_of_lt (Nat.lt_succ_of_lt (Heap.lt_size e)))) (Heap.get?_push_of_some _ (Heap.get?_push_of_some _ e))
  have iI : h'.get? s₁.heap.objs.size = some it := at2 _ _ (Nat.ne_of_lt (Nat.lt_succ_of_lt (Nat.lt_succ_self _))) (Heap.get?_push_of_some _ (Heap.get?_push_size _ e1))
  have iD : h'.get? (s₁.heap.objs.size + 1) = some { cls := .type "list", data := .seq #[] } := at2 _ _ (Nat.ne_of_lt (Nat.lt_succ_self _)) (eI ▸ Heap.get?_push_size _ rfl)
  have st := e3 h' kk iI
  have L := K.loop (tk := s₁.toks) (elt := elt) (target := target) (iter := iter) (ifs := ifs) (scope := scope) (pos := pos) kk ⟨_, iI⟩ iD hn W st e4 e5 e6 e7 (K₀.turn _ _ _) K₀.size
  have L' := codeAny_mono (R' := compPost (model B.prog B.w) c.A E use Q (.ref (s₁.heap.objs.size + 1)) (s₁.heap.objs.size + 1 + 1)) L fun r s₂ z => by
    cases r with
    | error => exact z.elim
    | ok f =>
      obtain ⟨z1, z2, z3, z4, z5⟩ := z
      have := hQ s₁ s₂ _ _ g (nn 2) z1 z2 z3 z4 z5
      cases use <;> exact this
  rw [eI, eD]
  exact codeAny_compStart_list L' (W.self 0 _ _ _ st L')

theorem EvE.comp (H : EvE B c iter σ iv σ₁) (K : Comp B c σ₁ target iv n val ifs elt scope cl σc res) (hs : ∀ x, foldedSetIterable iter c.env x = pure x := by intro _; rfl) :
    EvE B c (.ListComp elt [⟨target, iter, ifs, 0⟩] scope pos) σ (.list ((List.range n).filterMap res)) σ₁ := fun s R => by
  rw [eval_ListComp]
  refine blkRun (use := Option.none) H K hs R fun s₁ s₂ C D g nC R₂ os kp q ⟨m, hm⟩ => ⟨m, hm, fun h' hs => ?_⟩
  have G := blkFin g.rel nC R₂ os kp (fun _ w => w) hs
  have nX : ¬ c.X C := fun w => by obtain ⟨o, e⟩ := g.rel.inv.ex C w; rw [nC] at e; cases e
  exact ⟨g.trans R G, q.map fun a o e n => ⟨fun w => n (.inl w), (hs.2 a fun z => n (.inr z)).trans e⟩⟩
theorem EvS.comp {y : Str} {py spos : Pos} (H : EvE B c iter σ iv σ₁) (K : Comp B c σ₁ target iv n val ifs elt scope cl σc res) (hk : c.env.kindOf y = some .local ∨ c.env.kindOf y = some .cell := by first | exact .inl rfl | exact .inr rfl) (hs : ∀ x, foldedSetIterable iter c.env x = pure x := by intro _; rfl)
    (hsw : swapsWith (.ListComp elt [⟨target, iter, ifs, 0⟩] scope pos) (some (.Name y py)) spos.line c.env = pure true := by rfl) :
    EvS B c (.Assign [.Name y py] (.ListComp elt [⟨target, iter, ifs, 0⟩] scope pos) spos) σ .next ⟨(y, .list ((List.range n).filterMap res)) :: σ₁.loc, σ₁.mu⟩ := fun s R => by
  rw [exec_Assign_Name_used _ _ _ _ hsw]
  refine wpAny_bind (wpAny_standAt (wpAny_bind ?_))
  show wpAny _ _ (do let _ ← comprehension (.ListComp elt [⟨target, iter, ifs, 0⟩] scope pos) scope c.env _ (newList []) false (eval iter c.env) (some (PySem.assign (.Name y py) c.env))) _ _ s
  refine wpAny_bind (wpAny_mono (blkRun (use := some (PySem.assign (.Name y py) c.env)) (Q := fun _ s' => Go B c σ ⟨(y, .list ((List.range n).filterMap res)) :: σ₁.loc, σ₁.mu⟩ s s') H K hs R fun s₁ s₂ C D g nC R₂ os kp q ⟨m, hm⟩ => ?_) (fun _ s' hq => wpAny_pure (wpAny_pure ⟨hq, rfl⟩)) fun _ _ e => e)
  refine PyProof.Rows.assign_Name (store (c := c.xx fun a => c.X a ∨ a = C) R₂ hk q fun s₃ g₃ => ?_)
  have nW : ¬ Wr B c σ₁.mu C := fun w => by obtain ⟨_, _, o, e⟩ := g.rel.wr w; rw [nC] at e; cases e
  exact ⟨m, hm.at' fun o e => g₃.kp C o nW e, fun h' hs => g.trans R (blkFin g.rel nC g₃.rel (g₃.os.trans os) (fun b o n e => g₃.kp b o n (kp b o n e)) (fun _ w => w) hs)⟩
end
end U13
end
noncomputable section
open PySem PySem.W PySem.Spec PySem.Calls PyProof.Rows
namespace U13
theorem capOk_of {env env' : Env} (L : List Str) (h : (env'.scope.names.all fun p => p.2 != .cell || L.contains p.1) = true) (h2 : ∀ x ∈ L, env.kindOf x = some .cell ∧ env'.cells.lookup x = env.cells.lookup x) : CapOk env env' := fun x e => by
  have := List.all_eq_true.mp h _ (mem_of_lookup e)
  exact h2 x (by simpa using this)
theorem cap_in {env' : Env} {x : Str} (L : List Str) (h : (env'.scope.names.all fun p => p.2 != .cell || L.contains p.1) = true) (e : env'.kindOf x = some .cell) : x ∈ L := by
  have := List.all_eq_true.mp h _ (mem_of_lookup e)
  simpa using this
section
variable {B : Base} {c : Cx} {σ : St} {x : Str} {pos : Pos} {da : Addr} {f : Str → Option Value} {k : Int} {t : Tok}
theorem GetR.dict (hm : B.h₁.MapOf (strKind B.prog B.w) da f) (hf : f x = some (.int k t)) : GetR B c (.ref da) (.str x) (.int k) := fun σ s _ _ R e ⟨u, e'⟩ => by
  cases e; subst e'
  have hm : s.heap.MapOf (strKind B.prog B.w) da f := let ⟨o, es, ep, e, r⟩ := hm; ⟨o, es, ep, R.inv.base _ _ e, r⟩
  exact ⟨⟨"dict", _, hm.typeIs, slot_dict_getitem.lookup⟩, wpAny_getItem_of (strKind_is _ _ x u) hm hf ⟨.toks R, t, rfl⟩⟩
theorem OpR.inD (hm : B.h₁.MapOf (strKind B.prog B.w) da f) (hd : (da == sysModules) = false) : OpR B c (compareOp .In) (.str x) (.ref da) (.bool (f x).isSome) := fun σ s _ _ R ⟨u, e'⟩ e => by
  cases e; subst e'
  exact wpAny_in_of (strKind_is _ _ x u) hd (let ⟨o, es, ep, e, r⟩ := hm; ⟨o, es, ep, R.inv.base _ _ e, r⟩) ⟨.toks R, rfl⟩
theorem EvE.gref {a : Addr} (hf : B.mg x = some (.ref a)) (hk : c.env.kindOf x = some .globalImplicit := by rfl) (hd : (x == ("__debug__" : Str)) = false := by decide) : EvE B c (.Name x pos) σ (.ref a) σ := fun s R =>
  Name_function_global R.ok.hk hk (loadGlobal_global (by rw [R.ok.hg]; exact B.g.keeps R.inv.base) hf ⟨.refl R, rfl⟩) hd
end
end U13
end
noncomputable section
open PySem PySem.W PySem.Spec PySem.Calls PyProof.Rows Builtin Builtin.ObjectAttr
namespace U13
section
variable {prog : Program} {w : World} {A : Around} {E : Value → Shared → Prop} {s : Shared} {K : Frag} {x C dx : Addr} {ox : Obj} {od : Option Obj} {name : Str} {v g tg : Value} {pl : Sem Bool}
theorem row_method {Q : Value × List Value → Shared → Prop} (X : K.In s.heap) (I : InstAt s.heap x ox C od) (hga : findIn K (.ref C) "__getattribute__" = some (some (.builtin "list.__getattribute__"))) (hk : findIn K (.ref C) "__getattr__" = some none)
    (hf : findIn K (.ref C) name = some (some g)) (ht : Looks (model prog w) s.heap (typeOf g) tg) (htg : (tg != .type "function" && tg != .type "method_descriptor" && tg != .type "wrapper_descriptor") = false) (hs : shadowIn od name = some false) (h : Q (g, [.ref x]) s) :
    wpAny (model prog w) A (getMethod (.ref x) name pl) Q E s := by
  have hcan := canon_list_getattribute
  unfold getMethod specialOf
  refine wpAny_bind (wpAny_bind (I.type.here ((looks_findIn X hga).here ?_)))
  dsimp only
  rw [hcan, if_neg (by decide)]
  refine wpAny_bind (wpAny_bind (I.type.here ((looks_findIn X hk).here ?_)))
  refine wpAny_bind (wpAny_bind (I.type.here ((looks_findIn X hf).here (wpAny_bind (ht.here ?_)))))
  rw [if_neg (by rw [htg]; exact Bool.false_ne_true)]
  refine wpAny_bind (wpAny_loadPart I.at_ ?_)
  have hd := I.dict
  cases e : ox.dict with
  | none => exact wpAny_bind (wpAny_rule (wpAny_pure h))
  | some dx =>
    cases od with
    | none => rw [e] at hd; exact hd.elim
    | some o =>
      rw [e] at hd
      obtain ⟨r, a, b⟩ := Option.map_eq_some_iff.mp hs
      refine wpAny_bind (wpAny_bind (wpAny_loadPart hd ?_))
      rw [nsLook_of a]
      refine wpAny_pure ?_
      rw [b]
      exact wpAny_bind (wpAny_rule (wpAny_pure h))

theorem row_list (X : K.In s.heap) (I : InstAt s.heap x ox C od) (hm : mroIn K C (.type "list") = some true) : Looks (model prog w) s.heap (isInstance (.ref x) (.type "list")) true := I.type.andThen (looks_mroIn X hm)
/-- a built-in method of list, on the row -/
theorem row_call {id n : String} {Bi : Builtin} {rest : List Value} {Q : Value → Shared → Prop} (hi : Looks (model prog w) s.heap (isInstance (.ref x) (.type "list")) true) (hp : plainId id = true) (hb : entryFor table id = some Bi)
    (hk : builtinKind id = some .slot ∨ builtinKind id = some .method) (hs : splitId id = some ("list", n)) (ha : argsOk id ⟨.ref x :: rest, []⟩)
    (hc : wpAny (model prog w) A.in1 (Bi ⟨.ref x :: rest, []⟩) (fun fin s' => ∃ v, fin = .done (.ret v) ∧ Q v s') E s) : wpAny (model prog w) A (call (.builtin id) (.ref x :: rest)) Q E s := by
  have hc' : wpAny (model prog w) A.in1 (Bi ⟨.ref x :: rest, []⟩) (fun fin s' => match fin with | .done f => wants Q E (.ok f) s' | .again c' => c'.quiet = true ∧ codeAny (model prog w) A c' (wants Q E) s') (fun e s' => wants Q E (.error e) s') s :=
    wpAny_mono hc (fun fin s' z => by obtain ⟨v, rfl, hv⟩ := z; exact hv) fun _ _ z => z
  refine wpAny_call (codeAny_call_builtin hp hb ?_)
  rcases hk with hk | hk
  · exact check_slot hk hs hi ha hc'
  · simp only [checkBuiltinCall, hk, hs]
    refine wpAny_bind (hi.here ?_)
    simp only [Bool.not_true, Bool.false_eq_true, if_false]
    cases hsig : Manifest.signature? id with
    | none => exact wpAny_pure hc'
    | some sig =>
      simp only [argsOk, hsig] at ha
      have h2 : Bind.checkArgs id sig ⟨.ref x :: rest, []⟩ = pure () := ha
      show wpAny _ _ (Bind.checkArgs id sig ⟨.ref x :: rest, []⟩) _ _ s
      rw [h2]; exact wpAny_pure hc'
theorem row_special {id : String} {args : List Value} {Q : Option Value → Shared → Prop} (S : Slot "list" name id) (X : K.In s.heap) (I : InstAt s.heap x ox C od) (hf : findIn K (.ref C) name = some (some (.builtin id)))
    (h : wpAny (model prog w) A (call (.builtin id) (.ref x :: args)) (fun v => Q (some v)) E s) : wpAny (model prog w) A (callSpecial? (.ref x) name args) Q E s :=
  wpAny_bind (wpAny_bind (I.type.here ((looks_findIn X hf).here (wpAny_holding (by rw [S.bind]; exact wpAny_bind (wpAny_pure (wpAny_bind (wpAny_mono h (fun _ _ z => wpAny_pure z) fun _ _ z => z))))))))
theorem row_key {k : Value} {nm : Str} {Q : Value → Shared → Prop} (X : K.In s.heap) (I : InstAt s.heap x ox C od) (hq : noSeq K C = true) (h : Q k s) : wpAny (model prog w) A (sequenceKey (.ref x) k nm) Q E s := by
  unfold sequenceKey
  refine wpAny_bind (I.type.here (wpAny_bind ((anyM_none X hq).here ?_)))
  rw [if_pos (show (!false) = true from rfl)]
  exact wpAny_pure h

theorem get_row {expr : Bool} {Q : Value → Shared → Prop} (X : K.In s.heap) (I : InstAt s.heap x ox C od) (hga : findIn K (.ref C) "__getattribute__" = some (some (.builtin "list.__getattribute__"))) (hk : findIn K (.ref C) "__getattr__" = some none) (hm : mroIn K C (.type "list") = some true)
    (hf : findObj K C od name = some (.value v)) (hh : handedIn v = true) (h : Q v { s with toks := s.toks + 1 }) : wpAny (model prog w) A (getAttr (.ref x) name expr) Q E s := by
  obtain ⟨hp, gg, d, t, os⟩ := s
  have L0 := I.type (M := model prog w)
  have L1 := looks_find (M := model prog w) X I hf
  have L2 := row_list (prog := prog) (w := w) X I hm
  unfold getAttr getAttrBy
  refine wpAny_bind (wpAny_mkText (wpAny_holding (wpAny_bind (L0.at (wpAny_bind ((looks_findIn X hga).at ?_))))))
  show wpAny _ _ (getAttrByItsOwn (.ref x) (.str name t) (.ref C) (.builtin "list.__getattribute__") true expr) _ _ _
  unfold getAttrByItsOwn hookBefore callGetattribute boundAndCalled
  refine wpAny_bind ((show Looks (model prog w) hp (if onTheHeap (.ref C) then typeLookup (.ref C) "__getattr__" else pure none) none from looks_findIn X hk).at ?_)
  refine wpAny_bind (wpAny_attempt (wpAny_holding ?_))
  rw [show (expr && onTheHeap (Value.builtin "list.__getattribute__")) = false from Bool.and_false _, if_neg (by decide)]
  show wpAny _ _ (bindSpecial (.builtin "list.__getattribute__") (.ref x) >>= _) _ _ _
  rw [PySem.F.slot_list_getattribute.bind]
  refine wpAny_bind (wpAny_pure ?_)
  refine row_call (s := ⟨hp, gg, d, t + 1, os⟩) (n := "__getattribute__") L2 (by decide +kernel) PySem.F.entry_list_ga (.inl (by decide +kernel)) (by decide +kernel) (PySem.F.args_list_getattribute_2 _ _) ?_
  refine wpAny_bind (wpAny_pure ?_)
  show wpAny _ _ (attrName (.str name t) >>= _) _ _ _
  refine wpAny_bind (wpAny_pure (wpAny_bind (L0.at (wpAny_bind (L1.at (wpAny_pure ⟨v, rfl, ?_⟩))))))
  show wpAny _ _ (handedOut v) _ _ _
  rw [handedOut_of hh]; exact wpAny_pure h
end
end U13
end
noncomputable section
open PySem PySem.W PySem.Spec PySem.Calls PyProof.Rows Builtin Builtin.ObjectAttr
namespace U13
section
variable {prog : Program} {w : World} {A : Around} {E : Value → Shared → Prop} {s : Shared} {K : Frag} {x C dx sl : Addr} {od : Option Obj} {name : Str} {v : Value} {its : Array Value} {ep : Nat} {odi : Option Addr}
/-- what cuts say -/
theorem row_parts {vl vu vs : Value} {lo hi st : Option Int} {Q : Value × Value × Value → Shared → Prop} (hs : s.heap.IsSliceOf sl vl vu vs) (pl : IsPart vl lo) (pu : IsPart vu hi) (ps : IsPart vs st) (h0 : st ≠ some 0) (h : Q (rawPart lo, rawPart hi, rawPart st) s) :
    wpAny (model prog w) A (Builtin.List.listSliceParts (.ref sl)) Q E s := by
  obtain ⟨os, hos, hcs, hds⟩ := id hs
  rw [listSliceParts_eq]
  have hstep : ¬ ((rawPart st == rawInt 0) = true) := by
    cases st with
    | none => exact Bool.false_ne_true
    | some c =>
      intro hh
      have : c = 0 := by simpa [rawPart, rawInt] using hh
      exact h0 (by rw [this])
  refine wpAny_bind (wpAny_field hos hds (x := vs) rfl (wpAny_bind (wpAny_listPart ps ?_)))
  rw [if_neg hstep]
  refine wpAny_bind (wpAny_field hos hds (x := vl) rfl (wpAny_bind (wpAny_listPart pl ?_)))
  exact wpAny_bind (wpAny_field hos hds (x := vu) rfl (wpAny_bind (wpAny_listPart pu (wpAny_pure h))))
theorem row_nosub {Q : Option Int → Shared → Prop} (hs : s.TypeIs (.ref sl) "slice") (h : Q none s) : wpAny (model prog w) A (Builtin.List.listSubscript? (.ref sl)) Q E s := by
  unfold Builtin.List.listSubscript?
  refine wpAny_bind (wpAny_specialOf hs slice_no_index ?_)
  simp only [Option.isNone_none, if_true]
  exact wpAny_pure h
theorem row_cut {vl vu vs : Value} {lo hi st : Option Int} {Q : Value → Shared → Prop} (X : K.In s.heap) (I : InstAt s.heap x ⟨.ref C, odi, .seq its ep, #[]⟩ C od) (hm : mroIn K C (.type "list") = some true) (hq : noSeq K C = true)
    (hg : findIn K (.ref C) "__getitem__" = some (some (.builtin "list.__getitem__"))) (hs : s.heap.IsSliceOf sl vl vu vs) (pl : IsPart vl lo) (pu : IsPart vu hi) (ps : IsPart vs st) (h0 : st ≠ some 0)
    (h : Q (.ref s.heap.objs.size) { s with heap := s.heap.push { cls := .type "list", data := .seq (slicePick its lo hi st) } }) (hsz : its.size ≤ sizeLine) : wpAny (model prog w) A (getItem (.ref x) (.ref sl)) Q E s := by
  obtain ⟨os, hos, hcs, hds⟩ := id hs
  have hTs : s.TypeIs (.ref sl) "slice" := ⟨os, hos, hcs⟩
  unfold getItem
  refine wpAny_holding (wpAny_bind (row_key X I hq (wpAny_bind (row_special slot_list_getitem X I hg (row_call (n := "__getitem__") (row_list X I hm) slot_list_getitem.plain entry_list_getitem (.inr (by decide +kernel)) (by decide +kernel) (args_list_getitem _ _) ?_)))))
  show wpAny _ _ (Builtin.List.listSubscript? (.ref sl) >>= _) _ _ s
  refine wpAny_bind (row_nosub hTs ?_)
  show wpAny _ _ (typeOf (.ref sl) >>= _) _ _ s
  refine wpAny_bind (wpAny_typeOf hTs ?_)
  rw [if_neg (by decide)]
  refine wpAny_bind (row_parts hs pl pu ps h0 (wpAny_bind (m := Builtin.List.listItems (.ref x)) ?_))
  unfold Builtin.List.listItems
  refine wpAny_bind (wpAny_seqItems I.at_ rfl (wpAny_pure ?_))
  refine wpAny_bind (wpAny_of_eq (sliceIndices_raw lo hi st its.size h0) ?_)
  exact wpAny_bind (wpAny_newObj_type (wpAny_pure ⟨_, rfl, wpAny_pure h⟩) (Nat.le_trans (slicePick_size_le its lo hi st) hsz))
/-- the tail, or the whole, is set -/
theorem row_put {vl vu vs : Value} {k : Option Nat} {l : Addr} {new : Array Value} {Q : Unit → Shared → Prop} (X : K.In s.heap) (I : InstAt s.heap x ⟨.ref C, odi, .seq its ep, #[]⟩ C od) (hm : mroIn K C (.type "list") = some true) (hq : noSeq K C = true)
    (hg : findIn K (.ref C) "__setitem__" = some (some (.builtin "list.__setitem__"))) (hs : s.heap.IsSliceOf sl vl vu vs) (pl : IsPart vl (k.map Int.ofNat)) (pu : IsPart vu none) (ps : IsPart vs none) (hl : s.heap.IsList l new) (hne : x ≠ l)
    (h : ∀ h' ep', Heap.SameBut x s.heap h' → h'.get? x = some ⟨.ref C, odi, .seq ((its.toList.take (k.getD 0)).toArray ++ new) ep', #[]⟩ → Q () { s with heap := h' }) (hsz : its.size + new.size ≤ sizeLine) : wpAny (model prog w) A (setItem (.ref x) (.ref sl) (.ref l)) Q E s := by
  obtain ⟨os, hos, hcs, hds⟩ := id hs
  obtain ⟨ol, hol, hcl, nl, hdl⟩ := id hl
  have hTs : s.TypeIs (.ref sl) "slice" := ⟨os, hos, hcs⟩
  unfold setItem
  refine wpAny_holding (wpAny_bind (row_key X I hq (wpAny_bind (row_special slot_list_setitem X I hg (row_call (n := "__setitem__") (row_list X I hm) slot_list_setitem.plain entry_list_setitem (.inl (by decide +kernel)) (by decide +kernel) (args_list_setitem _ _ _) ?_)))))
  show wpAny _ _ (Builtin.List.listSubscript? (.ref sl) >>= _) _ _ s
  refine wpAny_bind (row_nosub hTs ?_)
  show wpAny _ _ (typeOf (.ref sl) >>= _) _ _ s
  refine wpAny_bind (wpAny_typeOf hTs ?_)
  rw [if_neg (by decide)]
  refine wpAny_bind (row_parts hs pl pu ps nofun ?_)
  dsimp only
  rw [show Builtin.List.listSameRef (.ref x) (.ref l) = false from beq_eq_false_iff_ne.mpr hne, if_neg Bool.false_ne_true]
  unfold Builtin.List.listAllItems Builtin.List.listItems
  refine wpAny_bind (wpAny_bind (wpAny_typeOf ⟨ol, hol, hcl⟩ ?_))
  rw [if_pos (by decide)]
  refine wpAny_bind (wpAny_seqItems hol hdl (wpAny_pure ?_))
  refine wpAny_bind (wpAny_bind (wpAny_seqItems I.at_ rfl (wpAny_pure ?_)))
  refine wpAny_bind (wpAny_of_eq (sliceIndices_raw _ _ _ its.size nofun) ?_)
  dsimp only [sliceBounds]
  rw [if_pos (show ((none : Option Int).getD 1 == 1) = true from rfl)]
  refine wpAny_bind (wpAny_rule ?_)
  rw [if_neg (by simpa [Builtin.List.listTooLong] using hsz)]
  refine wpAny_bind (wpAny_updateSeq I.at_ rfl (wpAny_bind (wpAny_letGo (wpAny_pure ⟨.none, rfl, ?_⟩))))
  have fin : ∀ f : Array Value → Array Value, f its = (its.toList.take (k.getD 0)).toArray ++ new → Q () { s with heap := s.heap.update x (Obj.mapSeq f) } := fun f e => by
    exact h _ (if (f its).size == its.size then ep else ep + 1) (Heap.SameBut.update ..) ((Heap.get?_update_self (Obj.mapSeq f) I.at_ rfl).trans (by rw [← e]; rfl))
  refine wpAny_pure (fin _ ?_)
  have e1 : ∀ n : Nat, n ≤ its.size → its.extract 0 n = (its.toList.take n).toArray := fun n _ => by apply Array.ext'; simp
  have e2 : ∀ n : Nat, its.size ≤ n → its.extract n = #[] := fun n hn => by apply Array.ext'; simp [hn]
  cases k with
  | none =>
    dsimp only [Option.map, Option.getD]
    rw [if_pos (by decide), if_pos (by decide), e2 _ (by omega), e1 _ (by simp)]
    simp
  | some k =>
    dsimp only [Option.map, Option.getD]
    rw [if_neg (show ¬ (Int.ofNat k < 0) from Int.not_lt.mpr (Int.natCast_nonneg k)), if_pos (by decide), if_pos (by decide), e2 _ (by omega), e1 _ (by show (Max.max 0 (Min.min (k : Int) its.size)).toNat ≤ _; omega), Array.append_empty]
    congr 2
    have hl : its.toList.length = its.size := Array.length_toList
    rcases Nat.le_total k its.size with h | h
    · congr 1
      show (Max.max 0 (Min.min (k : Int) its.size)).toNat = k
      omega
    · rw [List.take_of_length_le (by show _ ≤ (Max.max 0 (Min.min (k : Int) its.size)).toNat; omega), List.take_of_length_le (by omega)]
end
end U13
end
noncomputable section
open PySem PySem.W PySem.Spec PySem.Calls PyProof.Rows Builtin Builtin.ObjectAttr
namespace U13
abbrev isz : Str := "_initial_size"
structure RowF (K : Frag) (C : Addr) : Prop where
  cd : ∃ cd, clsIn K C = some cd ∧ cd.mro = [.ref C, .type "list", .type "object"] ∧ cd.hasDict = true
  ga : findIn K (.ref C) "__getattribute__" = some (some (.builtin "list.__getattribute__"))
  gt : findIn K (.ref C) "__getattr__" = some none
  sq : noSeq K C = true
  gi : findIn K (.ref C) "__getitem__" = some (some (.builtin "list.__getitem__"))
  si : findIn K (.ref C) "__setitem__" = some (some (.builtin "list.__setitem__"))
  it : findIn K (.ref C) "__iter__" = some (some (.builtin "list.__iter__"))
  sa : findIn K (.ref C) "__setattr__" = some (some (.builtin "object.__setattr__"))
  ap : findIn K (.ref C) "append" = some (some (.builtin "list.append"))
  is : findIn K (.ref C) isz = some none
theorem RowF.mro {K : Frag} {C : Addr} (F : RowF K C) {b : Value} (h : ([.ref C, .type "list", .type "object"] : List Value).contains b = true) : mroIn K C b = some true := by
  obtain ⟨cd, h1, h2, _⟩ := F.cd
  unfold mroIn
  rw [h1, Option.bind_some, h2, if_neg (by exact Bool.false_ne_true), h]
theorem RowF.list {K : Frag} {C : Addr} (F : RowF K C) : mroIn K C (.type "list") = some true := F.mro (by simp)
theorem getL_row {h : Int} {kt t : Tok} {n : Int} : getL isz [⟨h, .str isz kt, .int n t⟩] = some (some (.int n t)) := by unfold getL; simp [Value.isStr]
theorem putL_row {h h' : Int} {kt : Tok} {k v w : Value} : putL isz h' k w [⟨h, .str isz kt, v⟩] = [⟨h, .str isz kt, w⟩] := by unfold putL; simp [Value.isStr]
theorem putN_row {h : Int} {kt : Tok} {v : Value} {n : Nat} : putN isz [⟨h, .str isz kt, v⟩] n = n := by unfold putN; simp [Value.isStr]
section
variable {prog : Program} {w : World} {A : Around} {E : Value → Shared → Prop} {s : Shared} {K : Frag} {x C dx : Addr} {ox : Obj} {v : Value}
theorem set_row {es : List DictEntry} {n : Nat} {Q : Unit → Shared → Prop} (F : RowF K C) (X : K.In s.heap) (I : InstAt s.heap x ox C (some (dictOf es n))) (hd : ox.dict = some dx) (hr : (!es.any (·.key.isStr isz) && es.any (·.refKey)) = false) (hz : es.length ≤ 1)
    (h : ∀ h' tk, Heap.SameBut dx s.heap h' → h'.get? dx = some (dictOf (putL isz (PyData.keyHash w.params isz) (.str isz tk) v es) (putN isz es n)) → Q () { s with heap := h', toks := s.toks + 2 }) : wpAny (model prog w) A (setAttr (.ref x) isz v) Q E s := by
  obtain ⟨hp, gg, d, t, os⟩ := s
  refine set_plain X I F.sa ?_
  obtain ⟨cd, hc, hmro, hhd⟩ := F.cd
  have SF := PySem.F.store_object
  have sub : Looks (model prog w) hp (isInstance (.ref x) (.type "object")) true := I.type.andThen (looks_mroIn X (F.mro (by simp)))
  refine codeAny_call_builtin (s := ⟨hp, gg, d, t + 1, os⟩) SF.slot.plain SF.entry (@check_slot (model prog w) _ _ ⟨hp, gg, d, t + 1, os⟩ "object.__setattr__" "object" "__setattr__" (.ref x) [.str isz t, v] [] _ SF.kind SF.split sub (SF.args (.ref x) (.str isz t) v) ?_)
  have hm : Looks (model prog w) hp (mroOf (.ref C)) cd.mro := (looks_clsIn X hc).andThen .now
  rw [osa_eq, refuse_eq]
  refine wpAny_bind (wpAny_bind (I.type.at (wpAny_bind (hm.at ?_))))
  rw [hmro, refuseLoop_ref, show refuseLoop (.ref x) "__setattr__" [.type "list", .type "object"] = pure () from by kernel_rfl]
  refine wpAny_pure (wpAny_bind (I.type.at (wpAny_bind ((looks_findIn X F.is).at (wpAny_bind (wpAny_pure ?_))))))
  have D := I.at_
  have hd2 := I.dict
  have hcl := I.cls
  obtain ⟨oc, odi, oda, osl⟩ := ox
  dsimp only at hcl hd hd2
  subst hcl hd
  refine wpAny_bind (wpAny_pure (wpAny_bind (wpAny_bind (wpAny_loadPart D (wpAny_bind ((looks_clsIn X hc).at ?_))))))
  rw [hhd]
  refine wpAny_pure (a := some dx) (wpAny_bind (wpAny_pure (wpAny_bind ?_)))
  unfold nsSet
  refine wpAny_bind (wpAny_bind (wpAny_askSetting (wpAny_pure (wpAny_bind (wpAny_mkText (wpAny_bind (wpAny_loadPart hd2 ?_)))))))
  dsimp only [dictOf]
  rw [aRefKeyMayBeTheName_at, ← Array.any_toList, ← Array.any_toList, hr]
  refine wpAny_updatePart hd2 ?_
  have e := putName_dict isz (PyData.keyHash w.params isz) (.str isz (t + 1)) v es n
  have at' : (Heap.update hp dx (Obj.putName isz (PyData.keyHash w.params isz) (.str isz (t + 1)) v)).get? dx = some (dictOf (putL isz (PyData.keyHash w.params isz) (.str isz (t + 1)) v es) (putN isz es n)) := by
    rw [Heap.get?_update_self _ hd2 (by rw [e]; rfl), e]
  have hz' : (putL isz (PyData.keyHash w.params isz) (.str isz (t + 1)) v es).length ≤ 2 := by
    cases es with
    | nil => exact Nat.le_of_ble_eq_true rfl
    | cons a r => cases r with
      | nil => unfold putL; split <;> simp [putL]
      | cons => simp at hz
  refine wpAny_bind (wpAny_lookBehind at' (pastItsLine_dict (by rw [List.size_toArray, sizeLine_eq]; omega)) ?_)
  exact wpAny_pure (h _ _ (Heap.SameBut.update ..) at')
end
end U13
end
noncomputable section
open PySem PySem.W PySem.Spec PySem.Calls PyProof.Rows Builtin Builtin.ObjectAttr
namespace U13
/-- the row's class, told -/
structure RowK (B : Base) (K : Frag) : Prop where
  inK : K.In B.h₁
  F : RowF K B.C
section
variable {B : Base} {K : Frag} {c : Cx} {σ σ' σ₁ σ₂ σ₃ : St} {v : MV} {vs l l' : List MV} {e o : Expr} {es : List Expr} {pos p₁ p₂ p₃ apos : Pos} {a dx : Addr} {n n' : Int} {loc : List (Str × MV)} {X : Addr → Prop} {h h' : Heap} {g : Array GenState} {s : Shared}
theorem Inv.row (I : Inv B X (.row a dx n l) h g) : a ≠ dx ∧ ∃ ws ep kt t ed, W.InstAt h a ⟨.ref B.C, some dx, .seq ws.toArray ep, #[]⟩ B.C (some (rowDict B n kt t ed)) ∧ VRs X h l ws := by
  obtain ⟨hne, ws, ep, kt, t, ed, h1, h2, q⟩ := I.mu
  exact ⟨hne, ws, ep, kt, t, ed, ⟨h1, rfl, rfl, h2⟩, q⟩
theorem Inv.frag (I : Inv B X μ h g) (R : RowK B K) : K.In h := R.inK.keeps I.base
theorem Go.row {ws : List Value} {ep : Nat} {kt t : Tok} {ed tk : Nat} (R : Rel B c ⟨loc, .row a dx n l⟩ s.heap s.gens) (k : ∀ b o, b ≠ a → b ≠ dx → s.heap.get? b = some o → h'.get? b = some o)
    (ha : h'.get? a = some ⟨.ref B.C, some dx, .seq ws.toArray ep, #[]⟩) (hd : h'.get? dx = some (rowDict B n' kt t ed)) (q : VRs c.X s.heap l' ws) : Go B c ⟨loc, .row a dx n l⟩ ⟨loc, .row a dx n' l'⟩ s { s with heap := h', toks := tk } := by
  have k' : ∀ b o, ¬ (Mut.row a dx n l).on b → s.heap.get? b = some o → h'.get? b = some o := fun b o z e => k b o (fun w => z (.inl w)) (fun w => z (.inr w)) e
  refine .touch R k' (fun b w => ?_) (fun _ w => w) ⟨R.inv.row.1, ws, ep, kt, t, ed, ha, hd, q.map fun b o e nx => ⟨nx, k' b o (fun w => nx (R.inv.wr b (.inl w)).1) e⟩⟩
  rcases w with rfl | rfl
  · exact ⟨_, ha⟩
  · exact ⟨_, hd⟩
theorem shadow_row {kt t : Tok} {ed : Nat} {nm : Str} (hn : (isz == nm) = false) : shadowIn (some (rowDict B n kt t ed)) nm = some false := by
  show (lookIn nm (rowDict B n kt t ed)).map (·.isSome) = _
  unfold lookIn rowDict
  have : (Value.str isz kt).isStr nm = false := hn
  simp [this, DictEntry.refKey]
theorem look_row {kt t : Tok} {ed : Nat} {nm : Str} (hn : (isz == nm) = false) : lookIn nm (rowDict B n kt t ed) = some none := by
  unfold lookIn rowDict
  have : (Value.str isz kt).isStr nm = false := hn
  simp [this, DictEntry.refKey]
/-- its own number -/
theorem EvE.rget (T : RowK B K) (H : EvE B c o σ (.ref a) ⟨loc, .row a dx n l⟩) (he : eval (.Attribute o isz pos) c.env = (do
      let ov ← eval o c.env
      standAt pos.atName
      let r ← holding [ov] (getAttr ov isz true)
      letTemporaryGo o ov r
      pure r) := by rfl) : EvE B c (.Attribute o isz pos) σ (.int n) ⟨loc, .row a dx n l⟩ := fun s R =>
  Attribute_any_ (H.use R fun v' s₁ g q => by
    cases q
    obtain ⟨hne, ws, ep, kt, t, ed, I, _⟩ := g.rel.inv.row
    obtain ⟨cd, hc, _, hhd⟩ := T.F.cd
    refine get_row (g.rel.inv.frag T) I T.F.ga T.F.gt T.F.list (findObj_own (attr := Option.none) (v := Value.int n t) (by unfold hasDictIn; rw [hc]; exact hhd) T.F.is rfl ?_) rfl ⟨g.trans R (.toks g.rel), t, rfl⟩
    show lookIn isz (dictOf [⟨_, .str isz kt, .int n t⟩] ed) = _
    rw [lookIn_dict, getL_row]) he
theorem EvS.rset (T : RowK B K) (V : EvE B c e σ (.int n') σ₁) (H : EvE B c o σ₁ (.ref a) ⟨loc, .row a dx n l⟩) (hs : swapsWith e (some (.Attribute o isz p₁)) pos.line c.env = pure false := by rfl) :
    EvS B c (.Assign [.Attribute o isz p₁] e pos) σ .next ⟨loc, .row a dx n' l⟩ := fun s R =>
  plainObj_wpAny_Assign_Attribute (V.use R fun v' s₁ g₁ q₁ => H.use g₁.rel fun _ s₂ g q => by
    cases q
    obtain ⟨u, rfl⟩ := q₁
    have G := g₁.trans R g
    obtain ⟨hne, ws, ep, kt, t, ed, I, q⟩ := g.rel.inv.row
    refine set_row (es := [⟨_, .str isz kt, .int n t⟩]) (n := ed) T.F (g.rel.inv.frag T) I rfl (by simp [Value.isStr]) (Nat.le_refl _) fun h' tk hs hd => ⟨G.trans R (.row (kt := kt) (t := u) (ed := ed) g.rel (fun b o n1 n2 e => (hs.2 b n2).trans e) ((hs.2 a hne).trans I.at_) (by rw [hd, putL_row, putN_row]; rfl) q), rfl⟩) hs
theorem MetR.rappend (T : RowK B K) : MetR B c ⟨loc, .row a dx n l⟩ "append" (.ref a) "list.append" := fun s x pl Q E R q h => by
  cases q
  obtain ⟨hne, ws, ep, kt, t, ed, I, _⟩ := R.inv.row
  exact row_method (R.inv.frag T) I T.F.ga T.F.gt T.F.ap (tg := .type "method_descriptor") (Looks.of_pure (by kernel_rfl)) (by decide) (shadow_row (by decide)) h
theorem CalR.rappend (T : RowK B K) (hl : l.length ≤ 1000000) : CalR B c (.builtin "list.append") [.ref a, v] ⟨loc, .row a dx n l⟩ .none ⟨loc, .row a dx n (l ++ [v])⟩ := fun s ws R q => by
  obtain ⟨_, _, rfl, rfl, y, _, rfl, q, rfl⟩ := q
  obtain ⟨hne, ws, ep, kt, t, ed, I, p⟩ := R.inv.row
  have hz : ws.toArray.size ≤ sizeLine := line (by rw [List.size_toArray, p.len]; exact hl)
  refine row_call (n := "append") (row_list (R.inv.frag T) I T.F.list) (by decide +kernel) entry_list_append (.inr (by decide +kernel)) (by decide +kernel) (args_list_append _ _) ?_
  show wpAny _ _ (updateSeq a (·.push y) >>= fun _ => ret .none) _ _ s
  refine wpAny_bind (wpAny_updateSeq I.at_ rfl (wpAny_pure ⟨.none, rfl, ?_, rfl⟩) hz (by rw [Array.size_push]; exact Nat.succ_le_succ hz))
  have hs := Heap.SameBut.update s.heap a (Obj.mapSeq (·.push y))
  have at' := Heap.get?_update_self (Obj.mapSeq (·.push y)) I.at_ rfl
  refine Go.row (ws := ws ++ [y]) (ep := if (ws.toArray.push y).size == ws.toArray.size then ep else ep + 1) (kt := kt) (t := t) (ed := ed) R (fun b o n1 _ e => (hs.2 b n1).trans e) (at'.trans ?_) ((hs.2 dx hne.symm).trans I.dict) ((VRs.one q).app p)
  exact congrArg (fun z => some (Obj.mk (.ref B.C) (some dx) (.seq z (if (ws.toArray.push y).size == ws.toArray.size then ep else ep + 1)) #[])) (show ws.toArray.push y = (ws ++ [y]).toArray by simp)
theorem subTailR {prog : Program} {w : World} {A : Around} {value slice : Expr} {o i : Value} {id : String} {ops : List Value} {Q : Value → Shared → Prop} {E : Value → Shared → Prop} (hT : Looks (model prog w) s.heap (specialOf o "__getitem__") (some (.builtin id))) (h : wpAny (model prog w) A (getItem o i) Q E s)
    (hs : subscripted slice false o i = operate ops (getItem o i)) : wpAny (model prog w) A (subscriptTail value slice o i) Q E s := by
  unfold subscriptTail getitemInPython
  refine wpAny_bind (wpAny_bind (hT.here (wpAny_pure (wpAny_bind ?_))))
  rw [hs]
  exact wpAny_operating (wpAny_mono h (fun r s₃ h₃ => wpAny_bind (wpAny_letTemporaryGo (wpAny_pure h₃))) fun _ _ x => x)
/-- its tail, read -/
theorem EvE.rcut {i : Expr} {k : Nat} (T : RowK B K) (H : EvE B c o σ (.ref a) σ₁) (L : EvO B c (some i) σ₁ (some (k : Int)) ⟨loc, .row a dx n l⟩) (hl : l.length ≤ 1000000)
    (hs : ∀ o j, subscripted (.Slice (some i) Option.none Option.none p₁) false o j = operate [j, o] (getItem o j) := by intro _ _; rfl) : EvE B c (.Subscript o (.Slice (some i) Option.none Option.none p₁) pos) σ (.list (l.drop k)) ⟨loc, .row a dx n l⟩ := fun s R =>
  Subscript_ (H.use R fun x s₁ g q => wpAny_Slice (wpAny_mono (L _ g.rel) (fun vl s₂ ⟨g₂, l'⟩ => wpAny_pure (wpAny_pure (by
    cases q
    have P := Go.push g₂.rel ⟨.type "slice", Option.none, .fields #[vl, .none, .none], #[]⟩ (t := s₂.toks)
    obtain ⟨hne, ws, ep, kt, t, ed, I, p⟩ := P.rel.inv.row
    have XX := P.rel.inv.frag T
    refine subTailR (id := "list.__getitem__") (I.type.andThen (looks_findIn XX T.F.gi)) (row_cut XX I T.F.list T.F.sq T.F.gi ⟨_, Heap.get?_push_size _ rfl, rfl, rfl⟩ l' .none .none nofun ?_ (line (by rw [List.size_toArray, p.len]; exact hl))) (hs _ _)
    rw [slicePick_from']
    exact ⟨((g.trans R g₂).trans R P).trans R (.push P.rel _ (t := s₂.toks)), VR.fresh P.rel (p.drop k)⟩))) fun _ _ z => z.elim))
/-- its tail, or all of it, set -/
theorem EvS.rput {i : Option Expr} {k : Option Nat} (T : RowK B K) (V : EvE B c e σ (.list l') σ₁) (H : EvE B c o σ₁ (.ref a) σ₂) (L : EvO B c i σ₂ (k.map Int.ofNat) ⟨loc, .row a dx n l⟩) (hl : l.length + l'.length ≤ 1000000)
    (hs : swapsWith e (some (.Subscript o (.Slice i Option.none Option.none p₁) p₂)) pos.line c.env = pure false := by rfl) : EvS B c (.Assign [.Subscript o (.Slice i Option.none Option.none p₁) p₂] e pos) σ .next ⟨loc, .row a dx n (l.take (k.getD 0) ++ l')⟩ := fun s R =>
  wpAny_Assign_Subscript (V.use R fun v' s₁ g q => H.use g.rel fun x s₂ g₂ q₂ => wpAny_Slice (wpAny_mono (L _ g₂.rel) (fun vl s₃ ⟨g₃, pl⟩ => wpAny_pure (wpAny_pure (by
    cases q₂
    have P := Go.push g₃.rel ⟨.type "slice", Option.none, .fields #[vl, .none, .none], #[]⟩ (t := s₃.toks)
    obtain ⟨al, us, rfl, nX, hls, qs⟩ := P.vr g₃.rel (g₃.vr g₂.rel (g₂.vr g.rel q))
    obtain ⟨hne, ws, ep, kt, t, ed, I, p⟩ := P.rel.inv.row
    have XX := P.rel.inv.frag T
    have hax : a ≠ al := fun z => nX (z ▸ (P.rel.inv.wr a (.inl (.inl rfl))).1)
    refine row_put (new := us.toArray) XX I T.F.list T.F.sq T.F.si ⟨_, Heap.get?_push_size _ rfl, rfl, rfl⟩ pl .none .none hls hax (fun h' ep' hs at' => ?_) (line (by rw [List.size_toArray, List.size_toArray, p.len, qs.len]; exact hl))
    refine ⟨(((g.trans R g₂).trans R g₃).trans R P).trans R (Go.row (ws := ws.take (k.getD 0) ++ us) (ep := ep') (kt := kt) (t := t) (ed := ed) P.rel (fun b o n1 _ e => (hs.2 b n1).trans e) (at'.trans ?_) ((hs.2 dx hne.symm).trans I.dict) (qs.app (p.take _))), rfl⟩
    simp))) fun _ _ z => z.elim)) hs
end
/-- a method of the row's class -/
structure MFn (B : Base) (K : Frag) (x : Str) (f : Addr) (fd : FuncData) (body : List Stmt) : Prop where
  at_ : findIn K (.ref B.C) x = some (some (.ref f))
  ty : typeIn K (.ref f) = some (.type "function")
  fn : IsFn B f fd body
section
variable {B : Base} {K : Frag} {c : Cx} {σ σ' σ₁ σ₂ σ₃ : St} {v : MV} {vs l l' : List MV} {e o : Expr} {es : List Expr} {pos p₁ p₂ p₃ apos : Pos} {a dx : Addr} {n n' : Int} {loc : List (Str × MV)} {f : Addr} {fd : FuncData} {body : List Stmt} {name : Str} {μ' : Mut} {k : Nat} {pl : Sem Bool}
theorem EvE.rmeth0 (T : RowK B K) (M : MFn B K name f fd body) (H : EvE B c o σ (.ref a) ⟨loc, .row a dx n l⟩) (C : CallP B k (.ref f) [.ref a] (.row a dx n l) v μ') (hk : k ≤ c.n) (hμ : ∀ b, μ'.on b → (Mut.row a dx n l).on b) (hn : (isz == name) = false := by decide)
    (he : eval (.Call (.Attribute o name apos) [] [] pos) c.env = (do
      let ov ← eval o c.env
      standAt apos.atName
      let (f, first) ← holding [ov] (getMethod ov name pl)
      callWith pos f first (backTo pos (starEach [] c.env)) []) := by rfl) : EvE B c (.Call (.Attribute o name apos) [] [] pos) σ v ⟨loc, μ'⟩ := fun s R =>
  MethodCall_ (H.use R fun x s₁ g q => by
    cases q
    obtain ⟨hne, ws, ep, kt, t, ed, I, _⟩ := g.rel.inv.row
    have XX := g.rel.inv.frag T
    obtain ⟨of, ho, hdat⟩ := M.fn.at_
    exact row_method XX I T.F.ga T.F.gt M.at_ (looks_typeIn XX M.ty) (by decide) (shadow_row hn) (callWith_meth0 hdat (g.rel.inv.base _ _ ho) (CallP.use (c := c) (σ := ⟨loc, .row a dx n l⟩) C (vs := [.ref a]) hk hμ g.rel ⟨_, [], rfl, rfl, rfl⟩ fun v' s' g' r => ⟨g.trans R g', r⟩))) he
theorem EvE.rmeth1 {n₁ : Int} {l₁ : List MV} (T : RowK B K) (M : MFn B K name f fd body) (H : EvE B c o σ (.ref a) ⟨loc, .row a dx n₁ l₁⟩) (A : EvL B c (e :: es) ⟨loc, .row a dx n₁ l₁⟩ vs σ₂) (C : CallP B k (.ref f) (.ref a :: vs) σ₂.mu v μ') (hk : k ≤ c.n) (hμ : ∀ b, μ'.on b → σ₂.mu.on b) (hn : (isz == name) = false := by decide)
    (he : eval (.Call (.Attribute o name apos) (e :: es) [] pos) c.env = (do
      let ov ← eval o c.env
      standAt apos.atName
      let (f, first) ← holding [ov] (getMethod ov name pl)
      callWith pos f first (backTo pos (starEach (e :: es) c.env)) []) := by rfl) (h2 : starEach (e :: es) c.env = (false, eval e c.env) :: starEach es c.env := by rfl) : EvE B c (.Call (.Attribute o name apos) (e :: es) [] pos) σ v ⟨σ₂.loc, μ'⟩ := fun s R =>
  MethodCall_ (H.use R fun x s₁ g q => by
    cases q
    obtain ⟨hne, ws, ep, kt, t, ed, I, _⟩ := g.rel.inv.row
    have XX := g.rel.inv.frag T
    obtain ⟨of, ho, hdat⟩ := M.fn.at_
    exact row_method XX I T.F.ga T.F.gt M.at_ (looks_typeIn XX M.ty) (by decide) (shadow_row hn) (callWith_meth hdat ho (A.use g.rel fun ws' s₂ g₂ q₂ => ⟨g₂.rel.inv.base, C.use hk hμ g₂.rel ⟨_, ws', rfl, rfl, q₂⟩ fun v' s' g' r => ⟨(g.trans R g₂).trans R g', r⟩⟩) h2)) he
end
end U13
end
noncomputable section
open PySem PySem.W PySem.Spec PySem.Calls PyProof.Rows Builtin Builtin.ObjectAttr
namespace U13
section
variable {prog : Program} {w : World} {A : Around} {E : Value → Shared → Prop} {s : Shared} {K : Frag} {a C it : Addr} {ox ol : Obj} {od : Option Obj} {v : Value} {its : Array Value} {nl i : Nat}
theorem row_iter {Q : Value → Shared → Prop} (X : K.In s.heap) (I : InstAt s.heap a ox C od) (F : RowF K C) (h : Q (.ref s.heap.objs.size) { s with heap := s.heap.push { cls := .type "list_iterator", data := .fields #[.ref a, .int 0 0] } }) : wpAny (model prog w) A (pyIter (.ref a)) Q E s := by
  unfold pyIter
  refine wpAny_bind (wpAny_bind (I.type.here ((looks_findIn X F.it).here ?_)))
  show wpAny _ A (callSpecialIfBoundUnlessNone? (.ref a) "__iter__" _ >>= _) Q E s
  refine wpAny_bind ?_
  unfold callSpecialIfBoundUnlessNone?
  refine wpAny_holding (wpAny_bind ?_)
  refine wpAny_mono (Q := fun r s' => r = some (.builtin "list.__iter__", [.ref a]) ∧ s' = s) (E := fun _ _ => False) ?_ (fun r s' z => ?_) fun _ _ z => z.elim
  · unfold bindSpecialIfBound?
    refine wpAny_bind (wpAny_bind (I.type.here ((looks_findIn X F.it).here ?_)))
    show wpAny _ _ (ask >>= _) _ _ s
    refine wpAny_bind (wpAny_askSetting ?_)
    have e : (do return some (← bindSpecial (.builtin "list.__iter__") (.ref a)) : Sem (Option (Value × List Value))) = pure (some (.builtin "list.__iter__", [.ref a])) := by rw [slot_list_iter.bind]; rfl
    split
    · rw [e]; exact wpAny_pure ⟨rfl, rfl⟩
    · rw [e]; exact wpAny_tryCatch (wpAny_pure ⟨rfl, rfl⟩)
  · obtain ⟨rfl, rfl⟩ := z
    dsimp only
    rw [if_neg (by exact Bool.false_ne_true)]
    refine wpAny_bind (row_call (n := "__iter__") (row_list X I F.list) slot_list_iter.plain entry_list_iter (.inl (by decide +kernel)) (by decide +kernel) (args_list_iter _) ?_)
    show wpAny _ _ (do ret (← newFields "list_iterator" [.ref a, rawInt 0])) _ _ s'
    refine wpAny_bind (wpAny_newObj_type (wpAny_pure ⟨_, rfl, wpAny_pure ?_⟩))
    exact wpAny_bind (wpAny_specialOf ⟨_, Heap.get?_push_size _ rfl, rfl⟩ slot_listiter_next.lookup (wpAny_pure h))
theorem row_next {x : Value} {Q : Option Value → Shared → Prop} (hit : s.heap.IsListIter it a i) (hol : s.heap.get? a = some ol) (hdl : ol.data = .seq its nl) (hx : its[i]? = some x)
    (hQ : ∀ h', h'.IsListIter it a (i + 1) → Heap.SameBut it s.heap h' → Q (some x) { s with heap := h' }) : wpAny (model prog w) A (pyNext (.ref it)) Q E s := by
  obtain ⟨o, ho, hc, hd⟩ := id hit
  unfold pyNext
  refine wpAny_bind (wpAny_attempt (wpAny_callSpecial?_slot (name := Str.ofString "__next__") hit.typeIs slot_listiter_next (wpAny_call_entry slot_listiter_next hit.typeIs entry_listiter_next ?_ (args_listiter_next _))))
  show wpAny _ _ (field (.ref it) 0 >>= _) _ _ s
  refine wpAny_bind (wpAny_field ho hd (x := .ref a) rfl ?_)
  show wpAny _ _ (if (Value.ref a == Value.none) = true then _ else _) _ _ s
  rw [if_neg (show ¬ ((Value.ref a == Value.none) = true) from Bool.false_ne_true)]
  show wpAny _ _ (field (.ref it) 1 >>= _) _ _ s
  refine wpAny_bind (wpAny_field ho hd (x := .int i 0) rfl ?_)
  show wpAny _ _ (seqItems? (.ref a) >>= _) _ _ s
  refine wpAny_bind (wpAny_seqItems hol hdl ?_)
  simp only [Int.toNat_natCast, hx]
  refine wpAny_bind (wpAny_setField ho hd (by simp) (wpAny_pure ⟨x, rfl, wpAny_pure (hQ _ ?_ (Heap.SameBut.update ..))⟩))
  exact ⟨_, Heap.get?_update_self _ ho (Obj.isFreed_of_fields (Obj.data_mapFields hd _)), (Obj.cls_mapFields ..).trans hc, by rw [Obj.data_mapFields hd]; simp [rawInt]⟩
theorem row_end {Q : Option Value → Shared → Prop} (hh : A.handled = none) (hit : s.heap.IsListIter it a i) (hol : s.heap.get? a = some ol) (hdl : ol.data = .seq its nl) (hx : its[i]? = none)
    (hQ : ∀ h', Heap.ExtBut it s.heap h' → Q none { s with heap := h' }) : wpAny (model prog w) A (pyNext (.ref it)) Q E s := by
  obtain ⟨o, ho, hc, hd⟩ := id hit
  unfold pyNext
  refine wpAny_bind (wpAny_attempt (wpAny_callSpecial?_slot (name := Str.ofString "__next__") hit.typeIs slot_listiter_next (wpAny_call_entry slot_listiter_next hit.typeIs entry_listiter_next ?_ (args_listiter_next _))))
  show wpAny _ _ (field (.ref it) 0 >>= _) _ _ s
  refine wpAny_bind (wpAny_field ho hd (x := .ref a) rfl ?_)
  show wpAny _ _ (if (Value.ref a == Value.none) = true then _ else _) _ _ s
  rw [if_neg (show ¬ ((Value.ref a == Value.none) = true) from Bool.false_ne_true)]
  show wpAny _ _ (field (.ref it) 1 >>= _) _ _ s
  refine wpAny_bind (wpAny_field ho hd (x := .int i 0) rfl ?_)
  show wpAny _ _ (seqItems? (.ref a) >>= _) _ _ s
  refine wpAny_bind (wpAny_seqItems hol hdl ?_)
  simp only [Int.toNat_natCast, hx]
  refine wpAny_bind (wpAny_rule (wpAny_bind (wpAny_setField ho hd (by simp) ?_)))
  show wpAny _ _ (newExc (.type "StopIteration") [] >>= _) _ _ _
  refine wpAny_bind ?_
  simp only [newExc, newTuple]
  refine wpAny_bind (wpAny_newObj_type ?_ (by size_fits))
  refine wpAny_bind (m := firstArgMember _ _) (wpAny_of_eq (a := Value.none) (by first | rfl | (simp only [firstArgMember]; rfl)) ?_)
  refine wpAny_newObj_type ?_ (by size_fits)
  simp only [raiseNew]
  refine wpAny_bind (wpAny_handled ?_)
  rw [show A.in1.handled = none from hh]
  refine wpAny_bind (wpAny_pure (wpAny_throw ?_))
  refine wpAny_bind (wpAny_isInstance (T := "StopIteration") (b := true) ⟨_, Heap.get?_push_size _ rfl, rfl⟩ isSubtype_stop ?_)
  exact wpAny_pure (hQ _ (((Heap.SameBut.update ..).extBut.push _).push _))
/-- a row of pairs, gone over -/
theorem rowWalks {ws : List Value} {Ts : List Addr} {prs : List (Value × Value)} (hh : A.handled = none) (hne : a ≠ it) (hdl : ol.data = .seq ws.toArray nl) (hT : ws = Ts.map .ref) (hp : prs.length = Ts.length) (hi : it ∉ Ts) :
    WalksU prog w A it (it :: a :: Ts) [it] ws.length (fun i vals => ∃ p, prs[i]? = some p ∧ vals = #[p.1, p.2]) (fun i h => h.IsListIter it a i ∧ h.get? a = some ol ∧ ∀ (j : Nat) T p, Ts[j]? = some T → prs[j]? = some p → h.IsTuple T #[p.1, p.2])
      (fun i T h => (h.IsListIter it a (i + 1) ∧ h.get? a = some ol ∧ ∀ (j : Nat) T p, Ts[j]? = some T → prs[j]? = some p → h.IsTuple T #[p.1, p.2]) ∧ T ∈ Ts) where
  sub := fun b hb => by rw [List.mem_singleton.mp hb]; exact .head _
  frame := fun i h h' ⟨s1, s2, s3⟩ k => ⟨s1.at fun o e => k it (.head _) o e, k a (.tail _ (.head _)) _ s2, fun j T p e1 e2 => by
    obtain ⟨o, h1, h2⟩ := s3 j T p e1 e2
    exact ⟨o, k T (.tail _ (.tail _ (List.mem_of_getElem? e1))) _ h1, h2⟩⟩
  item := fun i s Q E hi' ⟨s1, s2, s3⟩ hQ => by
    subst hT
    rw [List.length_map] at hi'
    obtain ⟨T, eT⟩ : ∃ T, Ts[i]? = some T := ⟨_, List.getElem?_eq_getElem hi'⟩
    obtain ⟨p, ep⟩ : ∃ p, prs[i]? = some p := ⟨_, List.getElem?_eq_getElem (hp ▸ hi')⟩
    refine row_next s1 s2 hdl (x := .ref T) (by simp [eT]) fun h' it' sb => ?_
    have tp : ∀ (j : Nat) T p, Ts[j]? = some T → prs[j]? = some p → h'.IsTuple T #[p.1, p.2] := fun j T p e1 e2 => by
      obtain ⟨o, h1, h2⟩ := s3 j T p e1 e2
      exact ⟨o, (sb.2 T fun z => hi (z ▸ List.mem_of_getElem? e1)).trans h1, h2⟩
    exact hQ T _ h' s.toks ⟨p, ep, rfl⟩ (tp i T p eT ep) ⟨⟨it', (sb.2 a hne).trans s2, tp⟩, List.mem_of_getElem? eT⟩ fun b o hb e => (sb.2 b fun z => hb (z ▸ .head _)).trans e
  go := fun elts k pos i T s Q E ⟨m, _⟩ hQ => wpAny_letOwnedTupleGo_listiter m.1 (hQ s.heap m fun _ _ _ e => e)
  apart := fun i T h ⟨_, m⟩ z => hi (List.mem_singleton.mp z ▸ m)
  done := fun s Q E ⟨s1, s2, s3⟩ hQ => row_end hh s1 s2 hdl (by simp) fun h' x => hQ h' s.toks fun b o hb e => x b o (fun z => hb (z ▸ .head _)) e
  self := fun i s Q E ⟨s1, _⟩ hQ => wpAny_pyIter_listiter s1 hQ
theorem fits2 {n : Int} (h : 0 ≤ n) (h2 : n < 1000000) : (decide (-(2 ^ 63) ≤ n) && decide (n < 2 ^ 63)) = true := by rw [Bool.and_eq_true, decide_eq_true_eq, decide_eq_true_eq]; omega
theorem call_sum2 {x : Value} {n₀ : Int} {t₀ : Tok} {Q : Value → Shared → Prop} (h0 : 0 ≤ n₀) (h1 : n₀ < 1000000)
    (h : wpAny (model prog w) A.in1 (pyIter x) (fun it s₂ => ∃ I fp wr G n P St val, it = .ref I ∧ WalksS prog w A.in1 I fp wr G n P St ∧ St 0 s₂ ∧ (∀ b ∈ fp, b < s₂.heap.objs.size) ∧ (∀ i v, P i v → ∃ t, v = .int (val i) t) ∧
      ∀ s' t', Moved wr G s₂ s' → Q (.int (n₀ + preSum val n) t') s') E s) : wpAny (model prog w) A (call (.builtin "sum") [x, .int n₀ t₀]) Q E s := by
  refine call_function_tree PySem.F.kind_sum PySem.F.plain_sum PySem.F.entry_sum (by unfold argsOk; kernel_rfl) ?_
  unfold Builtin.«sum»
  simp only [List.length_cons, List.length_nil]
  rw [if_neg (by decide)]
  refine wpAny_bind (wpAny_of_eq (show Builtin.Builtins.bindParams "sum" ["start"] 0 ⟨[.int n₀ t₀], []⟩ = pure [some (.int n₀ t₀)] from rfl) ?_)
  refine wpAny_bind (wpAny_mono h (fun it s₂ h₂ => ?_) fun _ _ e => e)
  obtain ⟨I, fp, wr, G, n, P, St, val, rfl, W, hst, hfp, hval, hQ⟩ := h₂
  show wpAny _ _ (if (decide (-(2 ^ 63) ≤ n₀) && decide (n₀ < 2 ^ 63)) = true then _ else _) _ _ _
  rw [if_pos (fits2 h0 h1)]
  refine wpAny_bind (wpAny_rule (wpAny_bind (wpAny_mkInt (wpAny_bind (wpAny_pure ?_)))))
  simp only [List.forIn_cons, List.forIn_nil]
  refine wpAny_bind (wpAny_bind (wpAny_bind (wpAny_isInstance (T := "int") (b := false) (typeIs_int _ _ _) PySem.sub_int_str ?_)))
  simp only [Bool.false_eq_true, if_false]
  refine wpAny_pure (wpAny_bind (wpAny_bind (wpAny_isInstance (T := "int") (b := false) (typeIs_int _ _ _) PySem.sub_int_bytes ?_)))
  simp only [Bool.false_eq_true, if_false]
  refine wpAny_pure (wpAny_bind (wpAny_bind (wpAny_isInstance (T := "int") (b := false) (typeIs_int _ _ _) PySem.sub_int_bytearray ?_)))
  simp only [Bool.false_eq_true, if_false]
  refine wpAny_pure (wpAny_pure ?_)
  refine wpAny_bind (wpAny_newObj_type ?_)
  have hSf : s₂.heap.objs.size ∉ fp := fun hm => Nat.lt_irrefl _ (hfp _ hm)
  have st' := W.frame 0 s₂ (s₂.heap.push { cls := .type "list", data := .seq #[.int n₀ s₂.toks] }) (s₂.toks + 1) hst (Nat.le_succ _) fun b _ o e => Heap.get?_push_of_some _ e
  -- the start counts as one item more
  have W' : WalksS prog w A.in1 I fp wr G (n + 1) (fun i v => ∃ j, i = j + 1 ∧ P j v) (fun i s => ∃ j, i = j + 1 ∧ St j s) := ⟨W.sub, W.grefl, W.gtrans, fun i s h' tk ⟨j, e, st⟩ l k => ⟨j, e, W.frame j s h' tk st l k⟩, fun i s Q E hi ⟨j, e, st⟩ hQ => W.item j s Q E (by omega) st fun v s' hp hs hm => hQ v s' ⟨j, e, hp⟩ ⟨j + 1, by omega, hs⟩ hm,
    fun s Q E ⟨j, e, st⟩ hQ => W.done s Q E (by cases e; exact st) hQ, fun i s Q E ⟨j, _, st⟩ hQ => W.self j s Q E st hQ⟩
  have ps : ∀ k, preSum (fun i => match i with | 0 => n₀ | i + 1 => val i) (k + 1) = n₀ + preSum val k := by
    intro k
    induction k with
    | zero => simp [preSum]
    | succ k ih => rw [preSum, ih, preSum, Int.add_assoc]
  refine wpAny_pure ⟨plainId_quiet PySem.F.plain_sum_loop _, codeAny_sum_loopAnyS W' (fun i => match i with | 0 => n₀ | i + 1 => val i) (fun i v ⟨j, e, hp⟩ => by subst e; exact hval j v hp) s₂.heap.objs.size hSf n 1 _ s₂.toks 0 0 (.inl rfl) (by omega) (by omega) ⟨0, rfl, st'⟩ ?_ fun s' t' hm => ?_⟩
  · rw [ps 0]
    show _ = some (Obj.mk (.type "list") none (.seq #[.int (n₀ + preSum val 0) s₂.toks] 0) #[])
    rw [show preSum val 0 = 0 from rfl, Int.add_zero]
    exact Heap.get?_push_size _ rfl
  · rw [ps n]
    exact hQ s' t' (hm.drop_new (Nat.le_succ _))
end
end U13
end
noncomputable section
open PySem PySem.W PySem.Spec PySem.Calls PyProof.Rows Builtin Builtin.ObjectAttr
namespace U13
/-- a row's pairs -/
def rw (ps : List (Str × Str)) : List MV := ps.map fun p => .tup [.str p.1, .str p.2]
/-- what holds when a table may have grown -/
theorem Inv.grow {B : Base} {X : Addr → Prop} {μ : Mut} {h h' : Heap} {g g' : Array GenState} {t : TabD} (I : Inv B X μ h g) (ht : t ∈ B.tabs) (hu : ∀ t' ∈ B.tabs, t'.P = t.P → t' = t) (k : ∀ b o, b ≠ t.P → h.get? b = some o → h'.get? b = some o) (hP : Tab1 X h' t) (hg : AllBare g') : Inv B X μ h' g' := by
  have wP : B.tw t.P := ⟨t, ht, rfl⟩
  have nP := (I.wr _ (.inr wP)).2.1
  have kx : ∀ a o, h.get? a = some o → ¬ X a → ¬ X a ∧ h'.get? a = some o := fun a o e n => ⟨n, k a o (fun z => n (z ▸ (I.wr _ (.inr wP)).1)) e⟩
  have km : ∀ a o, μ.on a → h.get? a = some o → h'.get? a = some o := fun a o w e => k a o (fun z => I.ot a w (z ▸ wP)) e
  have ex : ∀ a o, h.get? a = some o → ∃ o, h'.get? a = some o := fun a o e => by
    by_cases z : a = t.P
    · obtain ⟨ps, e, _⟩ := hP; exact ⟨_, z ▸ e⟩
    · exact ⟨o, k a o z e⟩
  refine ⟨fun b o e => k b o (fun z => by rw [z, nP] at e; cases e) (I.base b o e), ?_, fun t' ht' => ?_, fun a w => ⟨(I.wr a w).1, (I.wr a w).2.1, ?_⟩, hg, fun a w => ?_, I.ot⟩
  · match μ, I.mu, km with
    | .none, _, _ => trivial
    | .lst _ _, ⟨ws, m, e, q⟩, km => exact ⟨ws, m, km _ _ rfl e, q.map kx⟩
    | .row _ _ _ _, ⟨nn, ws, ep, kt, t, ed, e1, e2, q⟩, km => exact ⟨nn, ws, ep, kt, t, ed, km _ _ (.inl rfl) e1, km _ _ (.inr rfl) e2, q.map kx⟩
  · by_cases z : t'.P = t.P
    · cases hu t' ht' z; exact hP
    · exact (I.tab t' ht').map kx fun o' e => k _ o' z e
  · obtain ⟨_, _, o', e⟩ := I.wr a w; exact ex a o' e
  · obtain ⟨o', e⟩ := I.ex a w; exact ex a o' e
theorem VRs.row {X : Addr → Prop} {h : Heap} {ps : List (Str × Str)} : ∀ {ws : List Value}, VRs X h (rw ps) ws → ∃ (Ts : List Addr) (prs : List (Value × Value)), ws = Ts.map .ref ∧ prs.length = Ts.length ∧ (∀ T ∈ Ts, ∃ o, h.get? T = some o ∧ ¬ X T) ∧ (∀ (j : Nat) T p, Ts[j]? = some T → prs[j]? = some p → h.IsTuple T #[p.1, p.2]) ∧
    ∀ (j : Nat) p, prs[j]? = some p → ∃ q t u, ps[j]? = some q ∧ p = (.str q.1 t, .str q.2 u) := by
  induction ps with
  | nil =>
    intro ws e
    cases e
    exact ⟨[], [], rfl, rfl, (fun _ h => nomatch h), (fun j _ _ e _ => nomatch e), (fun _ _ e => nomatch e)⟩
  | cons p ps ih =>
    intro ws e
    obtain ⟨v, r, rfl, ⟨T, vs, rfl, nX, ht, q1⟩, q⟩ := e
    obtain ⟨va, _, rfl, ⟨ta, rfl⟩, vb, _, rfl, ⟨tb, rfl⟩, rfl⟩ := q1
    obtain ⟨Ts, prs, rfl, e2, e3, e4, e5⟩ := ih q
    have it : h.IsTuple T #[.str p.1 ta, .str p.2 tb] := by obtain ⟨o, h1, h2, m, h3⟩ := ht; exact ⟨o, h1, h2, m, h3⟩
    refine ⟨T :: Ts, (.str p.1 ta, .str p.2 tb) :: prs, rfl, by simp [e2], fun T' hT => ?_, fun j T' p' h1 h2 => ?_, fun j p' h1 => ?_⟩
    · rcases List.mem_cons.mp hT with rfl | hT
      · obtain ⟨o, h1, _⟩ := ht; exact ⟨o, h1, nX⟩
      · exact e3 T' hT
    · cases j with
      | zero => cases h1; cases h2; exact it
      | succ j => exact e4 j T' p' h1 h2
    · cases j with
      | zero => cases h1; exact ⟨p, ta, tb, rfl, rfl⟩
      | succ j => exact e5 j p' h1
theorem pass_all {n : Nat} : passing (fun _ => true) n 0 = List.range n := by simp [passing]
/-- its code, made once -/
theorem genCode {M : Model} {A : Around} {E : Value → Shared → Prop} {s : Shared} {t : TabD} {X : Addr → Prop} {env : Env} {gpos : Pos} {qn : Str} {scope : Scope} {Q : Value → Shared → Prop} (Chd : CodeHd s.heap t.c t.P) (Tb : Tab1 X s.heap t) (hX : ∀ a, X a → a < s.heap.objs.size) (hcode : env.code = .ref t.c) (hpos : t.pos = gpos) (hq : qn = t.q)
    (hQ : ∀ c' h' tk, (∀ b o, b ≠ t.P → s.heap.get? b = some o → h'.get? b = some o) → s.heap.objs.size ≤ h'.objs.size → Tab1 X h' t → Q (.ref c') { s with heap := h', toks := tk }) : wpAny M A (genexprCode env gpos qn scope) Q E s := by
  subst hpos hq
  obtain ⟨ps, hP, rfl | ⟨c', rfl, nX, hrec⟩⟩ := Tb
  · refine wpAny_genexprCodeX hcode (Chd.code hP trivial) (Chd.tab hP) rfl fun c' h' tk hx hge hlt _ hrec htab _ => ?_
    exact hQ c' h' tk (fun b o n e => hx b o n e) (Nat.le_trans hge (Nat.le_of_lt hlt)) ⟨_, htab.2, .inr ⟨c', by simp, fun w => Nat.not_lt.mpr hge (hX _ w), hrec⟩⟩
  · refine wpAny_genexprCode_hit hcode (Chd.code hP (TriplesOk_snoc _ _ _ [] trivial)) (codeAmong_snoc [] trivial rfl) ?_
    exact hQ c' s.heap s.toks (fun _ _ _ e => e) (Nat.le_refl _) ⟨_, hP, .inr ⟨c', rfl, nX, hrec⟩⟩
section
variable {B : Base} {K : Frag} {c : Cx} {σ : St} {a dx : Addr} {n : Int} {loc : List (Str × MV)} {elt iter : Expr} {xa xb : Str} {pa pb pt gpos : Pos} {kt : Nat} {scope : Scope} {cl : List (Str × Addr)} {t : TabD} {ps : List (Str × Str)} {F : Str × Str → Value → Prop} {s : Shared}
/-- a generator over the row's pairs -/
def GenP (B : Base) (c : Cx) (σ σ₁ : St) (s : Shared) (ps : List (Str × Str)) (F : Str × Str → Value → Prop) (v : Value) (s' : Shared) : Prop :=
  ∃ ga fp wr gi St, v = .ref ga ∧ WalksS B.prog B.w c.A.in4 ga fp wr (GenOnlyQ gi) ps.length (fun j y => ∃ p, ps[j]? = some p ∧ F p y) St ∧ St 0 s' ∧ (∀ i s, St i s → s.TypeIs (.ref ga) "generator") ∧ ga ∈ fp ∧ (∀ b ∈ fp, b < s'.heap.objs.size) ∧ AllBare s'.gens ∧
    ∀ s'', (∀ b o, b ∉ wr → s'.heap.get? b = some o → s''.heap.get? b = some o) → AllBare s''.gens → s''.os = s'.os → Go B c σ σ₁ s s''
theorem genRow (T : RowK B K) (ht : t ∈ B.tabs) (hu : ∀ t' ∈ B.tabs, t'.P = t.P → t' = t) (hcode : c.env.code = .ref t.c) (hpos : t.pos = gpos) (hq : c.env.qual ++ "<genexpr>" = t.q) (H : EvE B c iter σ (.ref a) ⟨loc, .row a dx n (rw ps)⟩)
    (hel : ∀ (A' : Around) E' C cc (s₂ : Shared) m₂ (p : Str × Str) u v, A'.handled = none → (∀ b o, B.h₁.get? b = some o → s₂.heap.get? b = some o) → s₂.heap.Ns C m₂ → m₂ xa = some (.str p.1 u) → m₂ xb = some (.str p.2 v) → p ∈ ps → wpAny (model B.prog B.w) A' (eval elt (genEnv scope cl C cc builtinsNs c.env)) (fun y s₃ => F p y ∧ Keeps s₂ s₃) E' s₂)
    (hco : scope.isCoroutine = false) (hclos : closureFor scope c.env = pure cl) (hcell : (scope.names.all fun x => x.2 != .cell) = true) (h0 : scope.names.lookup (".0" : Str) = some NameKind.local)
    (hxa : scope.names.lookup xa = some .local) (hxb : scope.names.lookup xb = some .local) (hab : xa ≠ xb) (hkind : scope.kind = .function) (hs : ∀ x, genFold iter c.env x = pure x) (R : Rel B c σ s.heap s.gens) :
    wpAny (model B.prog B.w) c.A (eval (.GeneratorExp elt [⟨.Tuple [.Name xa pa, .Name xb pb] kt pt, iter, [], 0⟩] scope gpos) c.env) (GenP B c σ ⟨loc, .row a dx n (rw ps)⟩ s ps F) (fun _ _ => False) s := by
  refine wpAny_GeneratorExp_walksQT R.ok.hh hco hclos (fun x hx e => absurd (List.all_eq_true.mp hcell x hx) (by rw [e]; decide)) h0 hxa hxb hab hkind (Nat.lt_of_le_of_lt (Nat.le_add_right _ _) R.ok.hd) (H.use R fun v' s₁ g q => ?_) hs
  cases q
  have R₁ := g.rel
  obtain ⟨hne, ws, ep, kt', tt, ed, I, q⟩ := R₁.inv.row
  refine row_iter (R₁.inv.frag T) I T.F ⟨(B.lim.keeps R₁.inv.base).push _, ?_⟩
  have I₁ : ∀ b o, s₁.heap.get? b = some o → (s₁.heap.push { cls := .type "list_iterator", data := .fields #[.ref a, .int 0 0] }).get? b = some o := fun b o e => Heap.get?_push_of_some _ e
  have hit : (s₁.heap.push { cls := .type "list_iterator", data := .fields #[.ref a, .int 0 0] }).get? s₁.heap.objs.size = some { cls := .type "list_iterator", data := .fields #[.ref a, .int 0 0] } := Heap.get?_push_size _ rfl
  have hsz : (s₁.heap.push { cls := .type "list_iterator", data := .fields #[.ref a, .int 0 0] }).objs.size = s₁.heap.objs.size + 1 := Heap.size_push ..
  generalize s₁.heap.push { cls := .type "list_iterator", data := .fields #[.ref a, .int 0 0] } = h₂ at I₁ hit hsz ⊢
  obtain ⟨pt', hP, hps⟩ := R₁.inv.tab t ht
  have wP : B.tw t.P := ⟨t, ht, rfl⟩
  have nP := (R₁.inv.wr _ (.inr wP)).2.1
  have neP : ∀ {b o}, B.h₁.get? b = some o → b ≠ t.P := fun e z => by rw [z, nP] at e; cases e
  have Chd := ((B.tabHd t ht).keeps R₁.inv.base).keeps I₁
  obtain ⟨Ts, prs, rfl, e2, e3, e4, e5⟩ := q.row
  have hin : ∀ a, c.X a → a < s₁.heap.objs.size := fun a w => by obtain ⟨o, e⟩ := R₁.inv.ex a w; exact Heap.lt_size e
  refine genCode Chd ((R₁.inv.tab t ht).map (fun a o e n => ⟨n, I₁ a o e⟩) fun o e => I₁ _ o e) (fun a w => by show a < h₂.objs.size; rw [hsz]; exact Nat.lt_succ_of_lt (hin a w)) hcode hpos hq fun c' h₃ tk k₃ sz₃ tb₃ => ?_
  obtain ⟨bm, ob, b1, b2, b3, b4, b5, b6, b7⟩ := B.bm
  have kb : ∀ b o, b ≠ t.P → s₁.heap.get? b = some o → h₃.get? b = some o := fun b o n e => k₃ b o n (I₁ b o e)
  have base₃ : ∀ b o, B.h₁.get? b = some o → h₃.get? b = some o := fun b o e => kb b o (neP e) (R₁.inv.base b o e)
  refine wpAny_builtinsFor (m := B.mg) (by show h₃.Ns _ _; rw [R.ok.hg]; exact B.g.keeps base₃) b1 b2 (base₃ _ _ b4) b5 b6 b7 ?_
  have sI : s₁.heap.objs.size < h₃.objs.size := Nat.lt_of_lt_of_le (by rw [hsz]; exact Nat.lt_succ_self _) sz₃
  have nIT : s₁.heap.objs.size ∉ Ts := fun m => by obtain ⟨o, e, _⟩ := e3 _ m; exact Nat.lt_irrefl _ (Heap.lt_size e)
  have aP : a ≠ t.P := fun z => R₁.inv.ot a (.inl rfl) (z ▸ wP)
  have TP : ∀ T ∈ Ts, T ≠ t.P := fun T m z => by obtain ⟨o, e, nX⟩ := e3 T m; exact nX (z ▸ (R₁.inv.wr _ (.inr wP)).1)
  have W : ∀ A' : Around, A'.handled = none → WalksU B.prog B.w A' s₁.heap.objs.size _ _ _ _ _ _ := fun A' hA => (rowWalks (prog := B.prog) (w := B.w) (ol := ⟨.ref B.C, some dx, .seq (Ts.map Value.ref).toArray ep, #[]⟩) (ws := Ts.map .ref) (prs := prs) hA (Nat.ne_of_lt (Heap.lt_size I.at_)) rfl rfl e2 nIT).bound
  have nh : ∀ b o, s₁.heap.get? b = some o → b ≠ s₁.heap.objs.size := fun b o e => Nat.ne_of_lt (Heap.lt_size e)
  have st₀ := cStatics
  have lim₃ : h₃.NoLimit := B.lim.keeps base₃
  have hcs : cStatics < s₁.heap.objs.size := by obtain ⟨_, hn, _⟩ := B.lim.keeps R₁.inv.base; exact hn.lt
  have hI₃ := k₃ _ _ (Nat.ne_of_gt (Heap.lt_size hP)) hit
  refine ⟨s₁.heap.objs.size, _, _, _, _, _, _, fun _ => true, fun i v => ∃ p, ps[i]? = some p ∧ F p v, rfl, W, fun i vals ⟨_, p, _, e⟩ => ⟨_, _, e⟩, ⟨?_, ?_, ?_⟩, ?_, lim₃, fun m => Nat.ne_of_lt hcs (List.mem_singleton.mp m), fun href hk => ⟨?_, ?_⟩, ?_⟩
  · exact ⟨_, hI₃, rfl, rfl⟩
  · exact kb a _ aP I.at_
  · intro j T p h1 h2
    obtain ⟨o, h3, h4⟩ := e4 j T p h1 h2
    exact ⟨o, kb T o (TP T (List.mem_of_getElem? h1)) h3, h4⟩
  · intro b hb
    rcases List.mem_cons.mp hb with rfl | hb
    · exact sI
    · refine Nat.lt_trans ?_ sI
      rcases List.mem_cons.mp hb with rfl | hb
      · exact Heap.lt_size I.at_
      · obtain ⟨o, e, _⟩ := e3 b hb; exact Heap.lt_size e
  · intro A' E' i va vb s₂ m₂ hA _ _ _ _ _
    rw [List.forIn_nil]; exact wpAny_pure ⟨rfl, _, _, rfl, fun _ _ e => e⟩
  · intro A' E' i va vb s₂ m₂ hA ⟨hi, p, ep, ev⟩ _ hn h1 h2 hk'
    obtain ⟨q, u, v, eq, rfl⟩ := e5 i p ep
    obtain ⟨rfl, rfl⟩ : va = .str q.1 u ∧ vb = .str q.2 v := by simpa using congrArg Array.toList ev
    exact wpAny_mono (hel A' E' _ _ s₂ m₂ q u v hA (fun b o e => hk' b (List.mem_range.mpr (Heap.lt_size (base₃ b o e))) (fun m => nh b o (R₁.inv.base b o e) (List.mem_singleton.mp m)) o (hk b o (base₃ b o e))) hn h1 h2 (List.mem_of_getElem? eq)) (fun y s₃ z => ⟨⟨q, eq, z.1⟩, z.2⟩) fun _ _ z => z
  · intro ga h₅ tk' gs hgb hag hsz₅ hk₅ W' hat
    have el : (Ts.map Value.ref).length = ps.length := q.len.trans (List.length_map ..)
    rw [pass_all, List.length_range, el] at W'
    rw [el] at hat
    have eP : (fun (j : Nat) (y : Value) => ∃ i, (List.range ps.length)[j]? = some i ∧ ∃ p, ps[i]? = some p ∧ F p y) = fun (j : Nat) (y : Value) => ∃ p, ps[j]? = some p ∧ F p y := by
      funext j y
      refine propext ⟨fun ⟨i, e, z⟩ => ?_, fun ⟨p, e, z⟩ => ⟨j, List.getElem?_range (List.getElem?_eq_some_iff.mp e).1, p, e, z⟩⟩
      obtain ⟨h1, h2⟩ := List.getElem?_eq_some_iff.mp e
      rw [List.getElem_range] at h2
      exact h2 ▸ z
    rw [eP] at W'
    refine ⟨ga, _, _, _, _, rfl, W', hat, fun i s' st => st.1.typeIs, .head _, fun b hb => ?_, R₁.inv.gens.push hgb, fun s'' k'' gb'' os'' => ?_⟩
    · show b < h₅.objs.size
      rw [hsz₅]
      rcases List.mem_cons.mp hb with rfl | hb
      · exact Nat.lt_succ_self _
      · rcases List.mem_cons.mp hb with rfl | hb
        · exact Nat.lt_succ_of_lt hag
        · exact Nat.lt_succ_of_lt (Nat.lt_trans (List.mem_range.mp hb) hag)
    · have kk : ∀ b o, b ≠ t.P → s₁.heap.get? b = some o → s''.heap.get? b = some o := fun b o n e => k'' b o (fun m => by
        have := Heap.lt_size e
        rcases List.mem_cons.mp m with z | m
        · exact absurd (z ▸ this) (Nat.not_lt.mpr (Nat.le_of_lt sI))
        · exact nh b o e (List.mem_singleton.mp m)) (hk₅ b o (kb b o n e))
      refine g.trans R (.ofInv R₁ (fun b o n e => kk b o (fun z => n (z ▸ .inr wP)) e) os'' (R₁.inv.grow ht hu kk ?_ gb'') fun _ w => w)
      obtain ⟨ps', h1, h2⟩ := tb₃
      refine ⟨ps', k'' _ _ (fun m => ?_) (hk₅ _ _ h1), h2.imp id fun ⟨c₂, e, nX, b, ob', ws', tt', r1, r2, r3, r4⟩ => ⟨c₂, e, nX, b, ob', ws', tt', r1, k'' _ _ (fun m => ?_) (hk₅ _ _ r2), r3, r4⟩⟩
      · rcases List.mem_cons.mp m with z | m
        · exact Nat.lt_irrefl _ (z ▸ Heap.lt_size h1)
        · exact Nat.ne_of_lt (Heap.lt_size hP) (List.mem_singleton.mp m)
      · rcases List.mem_cons.mp m with z | m
        · exact Nat.lt_irrefl _ (z ▸ Heap.lt_size r2)
        · rw [List.mem_singleton.mp m, hI₃] at r2
          cases r2; cases r3; cases r4
end
end U13
end
noncomputable section
open PySem PySem.W PySem.Spec PySem.Calls PyProof.Rows
namespace U13
section
variable {B : Base} {K : Frag} {c : Cx} {σ : St} {a dx f : Addr} {n m : Int} {l : List MV} {loc : List (Str × MV)} {fd : FuncData} {body : List Stmt} {o : Expr} {pos p₁ : Pos} {k : Nat} {y : Str}
theorem EvE.lenR (T : RowK B K) (M : MFn B K "__len__" f fd body) (H : EvE B c o σ (.ref a) ⟨loc, .row a dx n l⟩) (C : CallP B k (.ref f) [.ref a] (.row a dx n l) (.int m) (.row a dx n l)) (h0 : 0 ≤ m) (h1 : m < 2 ^ 63) (hk : k + 1 ≤ c.n) (hkd : c.env.kindOf "len" = some .globalImplicit := by rfl)
    (he : eval (.Call (.Name "len" p₁) [o] [] pos) c.env = (do callWith pos (← eval (.Name "len" p₁) c.env) [] (backTo pos (starEach [o] c.env)) (backToKw pos (keywordEach [] c.env))) := by rfl)
    (h2 : starEach [o] c.env = (false, eval o c.env) :: starEach [] c.env := by rfl) : EvE B c (.Call (.Name "len" p₁) [o] [] pos) σ (.int m) ⟨loc, .row a dx n l⟩ := fun s R =>
  Call_ (builtinName R (B.free _ (by decide)) boot_len (by decide) hkd (by decide) (PyProof.Rows.callWith_builtin1 (args_cons (H.use R fun v' s₁ g q => args_nil (by
    cases q
    obtain ⟨hne, ws, ep, kt, t, ed, I, _⟩ := g.rel.inv.row
    have XX := g.rel.inv.frag T
    refine Calls.call_function_entry kind_len plain_len entry_len (args_len1 _) ?_
    unfold Builtin.«len»
    refine wpAny_bind (m := oneArg "len" _) (wpAny_pure ?_)
    refine wpAny_bind (m := callSpecial? (.ref a) (Str.ofString "__len__")) (special_fn XX I M.at_ M.ty (wpAny_mono (C c.A.in1 c.X s₁ [.ref a] R.ok.hh (Nat.lt_of_le_of_lt (Nat.add_le_add_left (Nat.le_of_succ_le hk) _) R.ok.hd) (Nat.lt_of_le_of_lt (by show c.A.units + 1 + 10 * k ≤ c.A.units + 10 * c.n; omega) R.ok.hu) g.rel.inv ⟨_, [], rfl, rfl, rfl⟩) (fun r s' z => ?_) fun _ _ z => z.elim))
    obtain ⟨kp, os, I', tk, rfl⟩ := z
    refine wpAny_bind (wpAny_holding (wpAny_pure ?_))
    refine wpAny_bind (wpAny_letGo ?_)
    show wpAny _ _ (if m < 0 then _ else _) _ _ _
    rw [if_neg (by omega)]
    show wpAny _ _ (if m ≥ 2 ^ 63 then _ else _) _ _ _
    rw [if_neg (by omega)]
    have G := Go.ofInv g.rel kp os I' fun _ w => w
    exact wpAny_bind (wpAny_mkInt (wpAny_pure ⟨_, rfl, (g.trans R G).trans R (.toks G.rel), _, rfl⟩)))) h2) h2)) he
theorem EvE.strR (T : RowK B K) (M : MFn B K "__str__" f fd body) (H : EvE B c o σ (.ref a) ⟨loc, .row a dx n l⟩) (C : CallP B k (.ref f) [.ref a] (.row a dx n l) (.str y) (.row a dx n l)) (hk : k + 1 ≤ c.n) (hkd : c.env.kindOf "str" = some .globalImplicit := by rfl)
    (he : eval (.Call (.Name "str" p₁) [o] [] pos) c.env = (do callWith pos (← eval (.Name "str" p₁) c.env) [] (backTo pos (starEach [o] c.env)) (backToKw pos (keywordEach [] c.env))) := by rfl)
    (h2 : starEach [o] c.env = (false, eval o c.env) :: starEach [] c.env := by rfl) : EvE B c (.Call (.Name "str" p₁) [o] [] pos) σ (.str y) ⟨loc, .row a dx n l⟩ := fun s R =>
  Call_ (builtinName R (B.free _ (by decide)) boot_str (by decide) hkd (by decide) (PyProof.Rows.callWith_type1 (args_cons (H.use R fun v' s₁ g q => args_nil (by
    cases q
    obtain ⟨hne, ws, ep, kt, t, ed, I, _⟩ := g.rel.inv.row
    have XX := g.rel.inv.frag T
    have hu := R.ok.hu
    refine kso_call (by show c.A.units + 1 + 1 < cLine; omega) XX I M.at_ (beq_iff_eq.mpr M.ty) (wpAny_mono (C c.A.in1.in1 c.X s₁ [.ref a] R.ok.hh (Nat.lt_of_le_of_lt (Nat.add_le_add_left (Nat.le_of_succ_le hk) _) R.ok.hd) (Nat.lt_of_le_of_lt (by show c.A.units + 1 + 1 + 10 * k ≤ c.A.units + 10 * c.n; omega) R.ok.hu) g.rel.inv ⟨_, [], rfl, rfl, rfl⟩) (fun r s' z => ?_) fun _ _ z => z.elim)
    obtain ⟨kp, os, I', tk, rfl⟩ := z
    exact ⟨g.trans R (Go.ofInv g.rel kp os I' fun _ w => w), tk, rfl⟩)) h2) h2)) he
end
end U13
end
noncomputable section
open PySem PySem.W PySem.Spec PySem.Calls PyProof.Rows Builtin Builtin.ObjectAttr
namespace U13
/-- how the class makes its rows -/
structure RowMk (K : Frag) (C : Addr) : Prop where
  obj : ∃ oc od cd sl, K.lookup C = some ⟨oc, od, .cls cd, sl⟩ ∧ cd.abstract = false ∧ cd.hasDel = false ∧ cd.mro = [.ref C, .type "list", .type "object"] ∧ (sl.toList[4]?).join = some (.builtin "list.__new__")
  call : specialIn K (.ref C) "__call__" = some (some (.builtin "type.__call__"))
  typ : instIn K (.ref C) (.type "type") = some true
abbrev newRow (C dx : Addr) : Obj := ⟨.ref C, some dx, .seq #[] 0, #[]⟩
section
variable {prog : Program} {w : World} {A : Around} {K : Frag} {C : Addr} {R : Result → Shared → Prop} {h : Heap} {g : Array GenState} {d : Drawn} {t : Nat} {os : OsState} {v : Value}
theorem new_row (X : K.In h) (Y : RowMk K C) (hq : R (.ok (.ret (.ref (h.objs.size + 1)))) ⟨(h.push emptyDict).push (newRow C h.objs.size), g, d, t, os⟩) :
    codeAny (model prog w) A (.call (.builtin "list.__new__") ⟨[.ref C, v], []⟩) R ⟨h, g, d, t, os⟩ := by
  obtain ⟨⟨oc, od, cd, sl, ho, e1, e2, e4, e3⟩, call, typ⟩ := Y
  have hc : clsIn K C = some cd := by unfold clsIn; rw [ho]
  have hC := X _ _ ho
  have hm : Looks (model prog w) h (mroOf (.ref C)) cd.mro := (looks_clsIn X hc).andThen .now
  have made : Looks (model prog w) h (Bind.madeBy (.ref C)) (some "list.__new__") := by
    intro A Q E s k q
    unfold Bind.madeBy
    refine wpAny_bind (hm A _ E s k ?_)
    rw [e4, List.forIn_cons]
    refine wpAny_bind (wpAny_bind (wpAny_bind (wpAny_bind (wpAny_loadPart (k _ _ hC) (wpAny_pure ?_)))))
    dsimp only
    rw [← Array.getElem?_toList, e3]
    exact wpAny_pure (wpAny_pure (wpAny_pure q))
  have base : Looks (model prog w) h (Bind.staticBase (.ref C)) (.ref C) := by
    intro A Q E s k q
    unfold Bind.staticBase
    refine wpAny_bind (hm A _ E s k ?_)
    rw [e4, List.forIn_cons]
    exact wpAny_bind (wpAny_bind (wpAny_bind (made A _ E s k (wpAny_pure (wpAny_pure (wpAny_pure q))))))
  have sub : Looks (model prog w) h (isSubtype (.ref C) (.type "list")) true := looks_mroIn X (by unfold mroIn; rw [hc, Option.bind_some, e4, if_neg (by exact Bool.false_ne_true)]; simp)
  have isT : Looks (model prog w) h (isType (.ref C)) true := by
    intro A Q E s k q
    unfold isType loadHead
    exact wpAny_bind (wpAny_loadPart (k _ _ hC) (wpAny_pure q))
  have ha : argsOk "list.__new__" ⟨[.ref C, v], []⟩ := by unfold argsOk; kernel_rfl
  obtain ⟨sg, hsig⟩ : ∃ sg, Manifest.signature? "list.__new__" = some sg := Option.isSome_iff_exists.mp (by decide +kernel)
  have args : Bind.checkArgs "list.__new__" sg ⟨[.ref C, v], []⟩ = pure () := by simp only [argsOk, hsig] at ha; exact ha
  refine codeAny_call_builtin_code (Code.quiet_builtin _ (by decide +kernel)) ?_
  simp only [checkBuiltinCall, show builtinKind "list.__new__" = some .builtinFn from by decide +kernel, show splitId "list.__new__" = some ("list", "__new__") from by decide +kernel, hsig]
  rw [args]
  repeat (first | simp only [bne_self_eq_false, Bool.false_eq_true, if_false] | lk)
  refine codeAny_builtin_stack PySem.F.entry_list_new rfl fun p st => ?_
  rw [Around.under_plainId PySem.F.plain_list_new _]
  have hown := owner_list_new
  simp only [hown]
  refine wpAny_bind (isT.at ?_)
  rw [if_neg (by decide)]
  refine wpAny_bind (sub.at ?_)
  rw [if_neg (by decide)]
  refine wpAny_bind (wpAny_pure ?_)
  rw [if_neg (show ¬ ((!typeHasDict (.ref C)) = true) from by exact Bool.false_ne_true)]
  unfold newDict
  refine wpAny_bind (wpAny_newObj_type ?_)
  dsimp only
  unfold newObj
  refine wpAny_bind ?_
  show wpAny _ _ (newObjAsIs _ _ _) _ _ _
  unfold newObjAsIs classHasDel
  refine wpAny_bind (wpAny_alloc (wpAny_bind (wpAny_bind (wpAny_load (Heap.get?_push_of_some _ (Heap.get?_push_of_some _ hC)) (wpAny_pure ?_)))))
  rw [e2]
  refine wpAny_pure (wpAny_pure ?_)
  show R _ _
  rw [Heap.size_push]
  exact hq
theorem make_row {fI : Addr} (X : K.In h) (Y : RowMk K C) (hi : findIn K (.ref C) "__init__" = some (some (.ref fI))) (hf : typeIn K (.ref fI) = some (.type "function"))
    (hq : codeAny (model prog w) (A.under (.builtin "type.__call__" ⟨[.ref C, v], []⟩)) (.call (.ref fI) ⟨[.ref (h.objs.size + 1), v], []⟩) (InitBack (h.objs.size + 1) R) ⟨(h.push emptyDict).push (newRow C h.objs.size), g, d, t, os⟩) :
    codeAny (model prog w) A (.call (.ref C) ⟨[v], []⟩) R ⟨h, g, d, t, os⟩ := by
  have Y' := Y
  obtain ⟨⟨oc, od, cd, sl, ho, e1, e2, e4, e3⟩, call', typ'⟩ := Y
  have hc : clsIn K C = some cd := by unfold clsIn; rw [ho]
  have hC := X _ _ ho
  have call := looks_specialIn (M := model prog w) X call'
  have typ := looks_instIn (M := model prog w) X typ'
  have hi' := looks_findIn (M := model prog w) X hi
  have hm : Looks (model prog w) h (mroOf (.ref C)) cd.mro := (looks_clsIn X hc).andThen .now
  have made : Looks (model prog w) h (Bind.madeBy (.ref C)) (some "list.__new__") := by
    intro A Q E s k q
    unfold Bind.madeBy
    refine wpAny_bind (hm A _ E s k ?_)
    rw [e4, List.forIn_cons]
    refine wpAny_bind (wpAny_bind (wpAny_bind (wpAny_bind (wpAny_loadPart (k _ _ hC) (wpAny_pure ?_)))))
    dsimp only
    rw [← Array.getElem?_toList, e3]
    exact wpAny_pure (wpAny_pure (wpAny_pure q))
  have self : Looks (model prog w) h (isSubtype (.ref C) (.ref C)) true := looks_mroIn X (by unfold mroIn; rw [hc, Option.bind_some, e4, if_neg (by exact Bool.false_ne_true)]; simp)
  refine codeAny_of_tree ?_
  show wpAny _ _ (callAny (.ref C) _) _ _ _
  refine nd_load hC ?_
  show wpAny _ _ (callAny.viaDunder (.ref C) _) _ _ _
  unfold callAny.viaDunder
  refine wpAny_bind (call.at ?_)
  dsimp only
  rw [tc_bind]
  refine wpAny_bind (wpAny_pure (wpAny_bind (wpAny_pure ?_)))
  refine wpAny_pure (a := Fin.again (.call (.builtin "type.__call__") ⟨[.ref C, v], []⟩)) (And.intro rfl ?_)
  refine codeAny_call_builtin_at (Code.quiet_builtin _ (by decide +kernel)) entry_typeCall (check_slot tc_kind tc_split typ (tc_args _ _ _) ?_)
  unfold Builtin.«type.__call__»
  have ne : cd.mro.isEmpty = false := by rw [e4]; rfl
  repeat (first | simp only [ne, Bool.false_eq_true, if_false] | with_reducible refine wpAny_call ?_ | lk)
  refine new_row X Y' ?_
  have k : ∀ b o, h.get? b = some o → ((h.push emptyDict).push (newRow C h.objs.size)).get? b = some o := fun b o e => Heap.get?_push_of_some _ (Heap.get?_push_of_some _ e)
  have hx : ((h.push emptyDict).push (newRow C h.objs.size)).get? (h.objs.size + 1) = some (newRow C h.objs.size) := by
    have := Heap.get?_push_size (h.push emptyDict) (o := newRow C h.objs.size) rfl
    rwa [Heap.size_push] at this
  have t1 : Looks (model prog w) ((h.push emptyDict).push (newRow C h.objs.size)) (typeOf (.ref (h.objs.size + 1))) (.ref C) := (Looks.ld hx).andThen .now
  have s1 := self.keeps k
  have i1 := hi'.keeps k
  have b1 := (bind_fn (M := model prog w) X (.ref (h.objs.size + 1)) hf).keeps k
  unfold isInstance callSpecial? specialOf
  repeat (first | with_reducible refine wpAny_call ?_ | lk)
  refine codeAny_mono hq fun r s' z => ?_
  rcases r with e | (v | _ | _ | _) <;> first | exact z | exact z.elim | skip
  obtain ⟨rfl, z⟩ := z
  exact wpAny_pure (wpAny_pure z)
end
end U13
end
noncomputable section
open PySem PySem.W PySem.Spec PySem.Calls PyProof.Rows Builtin Builtin.ObjectAttr
namespace U13
theorem slot_wdg : Slot "wrapper_descriptor" "__get__" "wrapper_descriptor.__get__" :=
  .of (owner := "wrapper_descriptor") (n := "__get__") (by rw [typeLookup_type, builtinLookup_eq_fast]; kernel_rfl) (by decide +kernel) (by decide +kernel) (by decide +kernel) (.inl (by decide +kernel)) (by rw [isSubtype_type]; kernel_rfl)
theorem entry_wdg : entryFor table "wrapper_descriptor.__get__" = some Builtin.«wrapper_descriptor.__get__» := entryFor_of_tree (by kernel_rfl)
theorem args_wdg (a b c : Value) : argsOk "wrapper_descriptor.__get__" ⟨[a, b, c], []⟩ := by unfold argsOk; kernel_rfl
theorem ty_li : typeOf (.builtin "list.__init__") = pure (.type "wrapper_descriptor") := by kernel_rfl
abbrev wrapObj (x : Addr) : Obj := { cls := .type "method-wrapper", data := .fields #[.builtin "list.__init__", .ref x] }
section
variable {prog : Program} {w : World} {M : Model} {A : Around} {E : Value → Shared → Prop} {h : Heap} {g : Array GenState} {d : Drawn} {t : Nat} {os : OsState} {K : Frag} {so x C : Addr}
theorem wdg_run {tv : Value} {Q : Fin → Shared → Prop} (hi : Looks (model prog w) h (isInstance (.ref x) (.type "list")) true) (ht : (tv == .none) = false) (hq : Q (.done (.ret (.ref h.objs.size))) ⟨h.push (wrapObj x), g, d, t, os⟩) :
    wpAny (model prog w) A (Builtin.«wrapper_descriptor.__get__» ⟨[.builtin "list.__init__", .ref x, tv], []⟩) Q E ⟨h, g, d, t, os⟩ := by
  unfold Builtin.«wrapper_descriptor.__get__»
  refine wpAny_bind (wpAny_of_eq (a := (.builtin "list.__init__", some (.ref x), some tv)) (by cases tv <;> first | rfl | cases ht) ?_)
  refine wpAny_bind ?_
  refine wpAny_bind (wpAny_of_eq (a := (Str.ofString "__init__", .type "list")) (by kernel_rfl) (wpAny_bind (hi.at (wpAny_pure ?_))))
  exact wpAny_bind (wpAny_newObj_type (wpAny_pure hq))
theorem super_ga {name : Str} {tk : Tok} {cd : ClassData} {Q : Fin → Shared → Prop} (hso : h.get? so = some (ks_superObj C x C)) (hno : Looks (model prog w) h (opaqueClassAbove (.ref C)) none) (X : K.In h) (hc : clsIn K C = some cd) (hm : cd.mro = [.ref C, .type "list", .type "object"])
    (hi : Looks (model prog w) h (isInstance (.ref x) (.type "list")) true) (hxC : x ≠ C) (hn : (name == Str.ofString "__class__") = false) (hf : alongIn K name [.type "list", .type "object"] = some (some (.builtin "list.__init__"))) (hq : Q (.done (.ret (.ref h.objs.size))) ⟨h.push (wrapObj x), g, d, t, os⟩) :
    wpAny (model prog w) A (Builtin.«super.__getattribute__» ⟨[.ref so, .str name tk], []⟩) Q E ⟨h, g, d, t, os⟩ := by
  have hC : Looks (model prog w) h (mroOf (.ref C)) cd.mro := (looks_clsIn X hc).andThen .now
  have hne : (Value.ref x == Value.ref C) = false := by simp [hxC]
  have hdt : (ks_superObj C x C).data = .fields #[.ref C, .ref x, .ref C] := rfl
  have f0 : (#[.ref C, .ref x, .ref C] : Array Value)[0]? = some (.ref C) := rfl
  have f1 : (#[.ref C, .ref x, .ref C] : Array Value)[1]? = some (.ref x) := rfl
  have f2 : (#[.ref C, .ref x, .ref C] : Array Value)[2]? = some (.ref C) := rfl
  have hl : ((cd.mro.dropWhile (· != .ref C)).drop 1) = [.type "list", .type "object"] := by rw [hm]; simp
  have hlk2 := slot_wdg.lookup
  unfold Builtin.«super.__getattribute__»
  refine wpAny_bind (wpAny_pure ?_)
  rw [if_neg (by exact Bool.false_ne_true)]
  refine wpAny_bind (wpAny_pure ?_)
  dsimp only
  refine wpAny_bind (wpAny_field hso hdt f0 (wpAny_bind (wpAny_field hso hdt f1 (wpAny_bind (wpAny_field hso hdt f2 ?_)))))
  rw [show (Value.ref C == Value.none || name == Str.ofString "__class__") = false from by rw [hn]; rfl, if_neg Bool.false_ne_true]
  with_reducible refine wpAny_bind ?_
  with_reducible refine ks_wpAny_notOpaque hno ?_
  rw [show (Value.ref C == Value.type "module") = false from rfl, if_neg Bool.false_ne_true]
  refine wpAny_bind (hC.at ?_)
  rw [hl]
  refine wpAny_bind (ks_forIn_along X (fun _ _ => rfl) rfl ?_ hf)
  dsimp only
  with_reducible refine wpAny_bind (wpAny_of_eq ty_li (wpAny_bind (wpAny_of_eq hlk2 ?_)))
  dsimp only
  rw [hne, if_neg Bool.false_ne_true]
  with_reducible refine wpAny_bind (wpAny_holding ?_)
  refine wpAny_call_entry (self := .builtin "list.__init__") slot_wdg ty_li entry_wdg (wdg_run hi rfl ⟨_, rfl, ?_⟩) (args_wdg _ _ _)
  exact wpAny_bind (wpAny_pure (wpAny_pure (wpAny_pure hq)))
theorem super_init {pl : Sem Bool} {cd : ClassData} {Q : Value × List Value → Shared → Prop} (hso : h.get? so = some (ks_superObj C x C)) (hno : Looks (model prog w) h (opaqueClassAbove (.ref C)) none) (X : K.In h) (hc : clsIn K C = some cd) (hm : cd.mro = [.ref C, .type "list", .type "object"])
    (hi : Looks (model prog w) h (isInstance (.ref x) (.type "list")) true) (hxC : x ≠ C) (hq : Q (.ref h.objs.size, []) ⟨h.push (wrapObj x), g, d, t + 1, os⟩) : wpAny (model prog w) A (getMethod (.ref so) "__init__" pl) Q E ⟨h, g, d, t, os⟩ := by
  have hlk := PySem.F.ks_slot_super_ga.lookup
  have hcan := PySem.F.ks_canon_super_ga
  have hT : ∀ t', (⟨h, g, d, t', os⟩ : Shared).TypeIs (.ref so) "super" := fun _ => ⟨_, hso, rfl⟩
  have hf : alongIn K "__init__" [.type "list", .type "object"] = some (some (.builtin "list.__init__")) := by kernel_rfl
  unfold getMethod
  refine wpAny_bind (wpAny_specialOf (hT _) hlk ?_)
  show wpAny _ _ (if (Manifest.canonical "super.__getattribute__" != "object.__getattribute__") = true then _ else _) _ _ _
  rw [if_pos hcan]
  unfold getAttr getAttrBy
  refine wpAny_bind (wpAny_bind (wpAny_mkText (wpAny_holding (wpAny_bind (wpAny_typeOf (hT _) (wpAny_bind (wpAny_of_eq hlk ?_)))))))
  show wpAny _ _ (getAttrByItsOwn (.ref so) (.str (Str.ofString "__init__") t) (.type "super") (.builtin "super.__getattribute__") true false) _ _ _
  unfold getAttrByItsOwn hookBefore callGetattribute boundAndCalled
  refine wpAny_bind (wpAny_of_eq (show (if onTheHeap (.type "super") then typeLookup (.type "super") "__getattr__" else pure none) = pure none from rfl) ?_)
  refine wpAny_bind (wpAny_attempt (wpAny_holding ?_))
  show wpAny _ _ (bindSpecial (.builtin "super.__getattribute__") (.ref so) >>= _) _ _ _
  refine wpAny_bind (wpAny_of_eq (PySem.F.ks_slot_super_ga.bind _) ?_)
  refine wpAny_mono (Q := fun v s' => v = .ref h.objs.size ∧ s' = ⟨h.push (wrapObj x), g, d, t + 1, os⟩) (E := fun _ _ => False)
    (wpAny_call_entry PySem.F.ks_slot_super_ga (hT _) PySem.F.ks_entry_super_ga (super_ga hso hno X hc hm hi hxC (by decide) hf ⟨_, rfl, rfl, rfl⟩) (PySem.F.ks_gaArgs_super _ _)) (fun v s' hv => ?_) fun _ _ z => z.elim
  obtain ⟨rfl, rfl⟩ := hv
  exact wpAny_pure (wpAny_pure hq)
end
end U13
end
noncomputable section
open PySem PySem.W PySem.Spec PySem.Calls PyProof.Rows
namespace U13
noncomputable def pick {α : Type} (l : List α) (lo : Int) : List α :=
  (sliceRange (sliceBounds (some lo) none (some 2) l.length).1 (sliceBounds (some lo) none (some 2) l.length).2.1 (sliceBounds (some lo) none (some 2) l.length).2.2).filterMap (fun x => l[x]?)
theorem VRs.pick {X : Addr → Prop} {h : Heap} {l : List MV} {ws : List Value} (q : VRs X h l ws) : ∀ is : List Nat, VRs X h (is.filterMap (fun x => l[x]?)) (is.filterMap (fun x => ws.toArray[x]?))
  | [] => rfl
  | i :: is => by
    rw [List.filterMap_cons, List.filterMap_cons, List.getElem?_toArray]
    cases e : l[i]? with
    | none =>
      have : ws[i]? = none := List.getElem?_eq_none (by rw [q.len]; exact List.getElem?_eq_none_iff.mp e)
      rw [this]; exact q.pick is
    | some v =>
      obtain ⟨w, ew, qw⟩ := q.get e
      rw [ew]; exact ⟨w, _, rfl, qw, q.pick is⟩
theorem pick_map {α β : Type} (f : α → β) (l : List α) (lo : Int) : pick (l.map f) lo = (pick l lo).map f := by
  unfold pick
  rw [List.length_map, List.map_filterMap]
  congr 1
  funext x
  rw [List.getElem?_map]
section
variable {B : Base} {c : Cx} {σ σ' σ₁ : St} {l l' : List MV} {ns : List Int} {lo : Int} {e e₂ : Expr} {es : List Expr} {pos p₁ p₂ p₃ : Pos} {x y : Str} {f : MF} {sts : List Stmt} {loc : List (Str × MV)} {i : Int}
theorem CutR.step (hsz : ns.length ≤ 1000000) : CutR B c (.list (ns.map .int)) (Option.some lo) Option.none (Option.some 2) (.list ((pick ns lo).map .int)) :=
  .list (by rwa [List.length_map]) (by decide) fun X h ws q => by
    rw [← pick_map]
    unfold slicePick U13.pick
    have := q.len
    rw [List.size_toArray, ← this]
    exact q.pick _
/-- a fresh list and an integer, to two names -/
theorem EvSs.own2 {k k' k'' : Nat} (N : EvN B c e σ l σ₁) (h0 : σ₁.mu = .none) (H : ∀ A Y, EvSs B (c.xx Y) (sts.take k) ⟨(x, .ref A) :: (y, .int i) :: σ₁.loc, .lst A l⟩ .next ⟨(x, .ref A) :: loc, .lst A l'⟩) (K : EvSs B c (sts.drop k) ⟨(x, .list l') :: loc, .none⟩ f σ') (hm : σ'.mu = .none := by rfl)
    (hx : c.env.kindOf x = some .local := by rfl) (hy : c.env.kindOf y = some .local := by rfl)
    (hs : swapsWithSole [.Tuple [.Name x p₁, .Name y p₂] k' p₃] (.Tuple [e, .Constant (.int i) q₁ q₂] k'' q₃) pos.line c.env = pure false := by rfl) (hw : swappedStores [.Tuple [.Name x p₁, .Name y p₂] k' p₃] (.Tuple [e, .Constant (.int i) q₁ q₂] k'' q₃) c.env = pure (some [x, y]) := by rfl)
    (h2 : starEach [e, .Constant (.int i) q₁ q₂] c.env = (false, eval e c.env) :: starEach [.Constant (.int i) q₁ q₂] c.env := by rfl) : EvSs B c (.Assign [.Tuple [.Name x p₁, .Name y p₂] k' p₃] (.Tuple [e, .Constant (.int i) q₁ q₂] k'' q₃) pos :: sts) σ f σ' := fun s R =>
  wpAny_execs_cons (Assign_Tuple_swapped (names := [x, y]) (Tuple_ (args_cons (wpAny_mono (N s R) (fun v' s' z => by
    obtain ⟨s₁, ws, tk, g, q, rfl, rfl⟩ := z
    have n : s₁.heap.get? s₁.heap.objs.size = none := Heap.get?_none_of_le (Nat.le_refl _)
    have R₁ := g.rel.own h0 q
    let c₁ : Cx := c.xx fun a => c.X a ∨ a = s₁.heap.objs.size
    let s₁' : Shared := { s₁ with heap := s₁.heap.push { cls := .type "list", data := .seq ws.toArray }, toks := tk }
    have L : EvL B c₁ [.Constant (.int i) q₁ q₂] ⟨σ₁.loc, .lst s₁.heap.objs.size l⟩ [.int i] ⟨σ₁.loc, .lst s₁.heap.objs.size l⟩ := .cons .int .nil
    refine L.use (s := s₁') R₁ fun vs' s₂ g₂ q₂ => ?_
    refine wpAny_newObj_type ?_ (small (by rw [List.size_toArray, List.length_cons, q₂.len]; exact (by decide : 2 ≤ 1000)))
    have g₃ := Go.push g₂.rel { cls := .type "tuple", data := .seq (Value.ref s₁.heap.objs.size :: vs').toArray } (t := s₂.toks)
    obtain ⟨w, _, rfl, qw, rfl⟩ := q₂
    refine unpackItems_tuple (items := [Value.ref s₁.heap.objs.size, w].toArray) g₃.rel.ok.hh ⟨_, Heap.get?_push_size _ rfl, rfl, _, rfl⟩ fun h' ex => ?_
    have g₃' := Go.extBut g₃.rel ex
    have qw' : VR c₁.X h' (.int i) w := qw
    refine store2 (c := c₁) (u := .int i) (v := .ref s₁.heap.objs.size) g₃'.rel hy hx qw' rfl fun s₄ g₄' => ?_
    have g₄ := g₃'.trans g₃.rel g₄'
    show wpAny _ _ (execs sts c.env) _ _ s₄
    rw [← List.take_append_drop k sts]
    refine execs_app ((H _ _).use (c := c₁) g₄.rel fun f' s₅ g₅ q₅ => ?_)
    cases q₅
    have G := (((g₂.trans R₁ g₃).trans R₁ g₄).trans R₁ g₅)
    have R₅ := g₅.rel.freeze R.ok (fun _ w => .inl w) g.rel.fresh R.tw
    refine K.use R₅ fun f' s₆ g₆ q₆ => ⟨g.trans R ⟨fun b o nw e => ?_, (g₆.os.trans G.os).trans rfl, fun a w => ?_, g₆.rel⟩, q₆⟩
    · have hb : b ≠ s₁.heap.objs.size := Nat.ne_of_lt (Heap.lt_size e)
      exact g₆.kp b o (fun w => nw (w.imp id (Or.imp id (Or.imp (fun w => w.elim) id)))) (G.kp b o (fun w => nw (w.imp id (Or.imp id fun w => w.elim (fun w => absurd w hb) .inr))) (Heap.get?_push_of_some _ e))
    · rw [hm] at w; exact w.elim) fun _ _ z => z.elim) h2)) hs hw)
end
end U13
end
noncomputable section
namespace U13
/-- the digits of x, the least first -/
def D (n x k : Nat) : List Nat := (List.range k).map fun i => x / 2 ^ (n * i) % 2 ^ n
def V (n : Nat) : List Nat → Nat
  | [] => 0
  | d :: r => d + 2 ^ n * V n r
theorem D_len (n x k : Nat) : (D n x k).length = k := by simp [D]
theorem D_one {n x : Nat} (h : x < 2 ^ n) : D n x 1 = [x] := by simp [D, List.range_succ, Nat.mod_eq_of_lt h]
theorem D_split (n x a b : Nat) : D n x (a + b) = D n (x % 2 ^ (n * a)) a ++ D n (x / 2 ^ (n * a)) b := by
  simp only [D, List.range_add, List.map_append, List.map_map]
  congr 1
  · refine List.map_congr_left fun i hi => ?_
    have hi : i < a := List.mem_range.mp hi
    obtain ⟨j, rfl⟩ : ∃ j, a = i + (j + 1) := ⟨a - i - 1, by omega⟩
    rw [Nat.mul_add, Nat.pow_add, Nat.mod_mul_right_div_self, Nat.mod_mod_of_dvd]
    exact Nat.pow_dvd_pow 2 (Nat.le_mul_of_pos_right n (Nat.succ_pos j))
  · refine List.map_congr_left fun i _ => ?_
    simp only [Function.comp]
    rw [Nat.mul_add, Nat.pow_add, Nat.div_div_eq_div_mul]
theorem V_app (n : Nat) (b : List Nat) : ∀ a : List Nat, V n (a ++ b) = V n a + 2 ^ (n * a.length) * V n b
  | [] => by simp [V]
  | d :: a => by simp only [List.cons_append, V, V_app n b a, List.length_cons, Nat.mul_add, Nat.pow_add, Nat.mul_one]; rw [Nat.add_assoc, Nat.mul_comm (2 ^ (n * a.length)) (2 ^ n), Nat.mul_assoc]
theorem V_D (n : Nat) : ∀ (k x : Nat), x < 2 ^ (n * k) → V n (D n x k) = x
  | 0, x, h => by simp at h; subst h; rfl
  | k + 1, x, h => by
    have h' : x / 2 ^ n < 2 ^ (n * k) := by
      rw [Nat.mul_add, Nat.pow_add, Nat.mul_one] at h
      exact Nat.div_lt_of_lt_mul (by rw [Nat.mul_comm]; exact h)
    rw [Nat.add_comm k 1, D_split, V_app, D_len, Nat.mul_one, D_one (Nat.mod_lt _ (Nat.two_pow_pos n)), V_D n k _ h']
    simp only [V, Nat.mul_zero, Nat.add_zero]
    exact Nat.mod_add_div _ _
theorem V_lt (n : Nat) : ∀ l : List Nat, (∀ d ∈ l, d < 2 ^ n) → V n l < 2 ^ (n * l.length)
  | [], _ => by simp [V]
  | d :: r, h => by
    have h1 := h d (.head _)
    have h2 := V_lt n r fun x hx => h x (.tail _ hx)
    rw [V, List.length_cons, Nat.mul_add, Nat.mul_one, Nat.pow_add, Nat.mul_comm (2 ^ (n * r.length))]
    calc d + 2 ^ n * V n r < 2 ^ n + 2 ^ n * V n r := Nat.add_lt_add_right h1 _
      _ = 2 ^ n * (V n r + 1) := by rw [Nat.mul_add, Nat.mul_one, Nat.add_comm]
      _ ≤ 2 ^ n * 2 ^ (n * r.length) := Nat.mul_le_mul_left _ h2
/-- long division from the top -/
def run (n b : Nat) : List Nat → List Nat × Nat
  | [] => ([], 0)
  | d :: r => (((run n b r).2 * 2 ^ n + d) / b :: (run n b r).1, ((run n b r).2 * 2 ^ n + d) % b)
theorem run_ok (n b : Nat) (hb : 0 < b) : ∀ l : List Nat, V n (run n b l).1 = V n l / b ∧ (run n b l).2 = V n l % b
  | [] => by simp [run, V]
  | d :: r => by
    obtain ⟨h1, h2⟩ := run_ok n b hb r
    simp only [run, V, h1, h2]
    have e : d + 2 ^ n * V n r = (V n r % b * 2 ^ n + d) + b * (2 ^ n * (V n r / b)) := by
      have := Nat.mod_add_div (V n r) b
      calc d + 2 ^ n * V n r = d + 2 ^ n * (V n r % b + b * (V n r / b)) := by rw [this]
        _ = _ := by rw [Nat.mul_add, Nat.mul_comm (V n r % b), Nat.mul_left_comm, Nat.add_comm (2 ^ n * (V n r % b)) d, Nat.add_assoc]
    rw [e]
    exact ⟨(Nat.add_mul_div_left _ _ hb).symm, (Nat.add_mul_mod_self_left _ _ _).symm⟩
theorem run_len (n b : Nat) : ∀ l : List Nat, (run n b l).1.length = l.length
  | [] => rfl
  | _ :: r => congrArg (· + 1) (run_len n b r)
theorem run_lt (n b : Nat) (hb : 0 < b) : ∀ l : List Nat, (run n b l).2 < b
  | [] => hb
  | _ :: _ => Nat.mod_lt _ hb
theorem run_dig (n b : Nat) (hb : 0 < b) : ∀ l : List Nat, (∀ d ∈ l, d < 2 ^ n) → ∀ d ∈ (run n b l).1, d < 2 ^ n
  | [], _, _, h => nomatch h
  | x :: r, hl, d, h => by
    rcases List.mem_cons.mp h with rfl | h
    · have h1 := hl x (.head _)
      have h2 := run_lt n b hb r
      refine Nat.div_lt_of_lt_mul ?_
      calc (run n b r).2 * 2 ^ n + x < (run n b r).2 * 2 ^ n + 2 ^ n := Nat.add_lt_add_left h1 _
        _ = ((run n b r).2 + 1) * 2 ^ n := by rw [Nat.add_mul, Nat.one_mul]
        _ ≤ b * 2 ^ n := Nat.mul_le_mul_right _ h2
    · exact run_dig n b hb r (fun y hy => hl y (.tail _ hy)) d h
theorem D_dig (n x k : Nat) : ∀ d ∈ D n x k, d < 2 ^ n := fun d h => by
  obtain ⟨i, _, rfl⟩ := List.mem_map.mp h
  exact Nat.mod_lt _ (Nat.two_pow_pos n)
theorem and_high (x s : Nat) : x &&& (x / 2 ^ s * 2 ^ s) = x / 2 ^ s * 2 ^ s := by
  apply Nat.eq_of_testBit_eq
  intro i
  rw [Nat.testBit_and, ← Nat.shiftLeft_eq, Nat.testBit_shiftLeft, Nat.testBit_div_two_pow]
  by_cases h : s ≤ i
  · rw [decide_eq_true h, Bool.true_and, Nat.sub_add_cancel h, Bool.and_self]
  · rw [decide_eq_false h, Bool.false_and, Bool.and_false]
end U13
end
noncomputable section
open PySem PySem.W PySem.Spec PySem.Calls PyProof.Rows
namespace U13
def gI (x y : Int) : Nat → Int × Int
  | 0 => (x, y)
  | i + 1 => ((gI x y i).2, (gI x y i).1.fmod (gI x y i).2)
def gS (x y : Int) (i : Nat) (μ : Mut) : St := ⟨[("b", .int (gI x y i).2), ("a", .int (gI x y i).1)], μ⟩
theorem gI_shift (x y : Int) : ∀ i, gI x y (i + 1) = gI y (x.fmod y) i
  | 0 => rfl
  | i + 1 => by rw [gI, gI_shift x y i, gI]
theorem gcd_nat : ∀ (b a : Nat), ∃ N, (∀ i, i < N → (gI a b i).2 ≠ 0) ∧ (gI a b N).2 = 0 ∧ (gI a b N).1 = Nat.gcd a b := fun b => by
  induction b using Nat.strongRecOn with
  | _ b ih =>
    intro a
    by_cases hb : b = 0
    · subst hb; exact ⟨0, fun i h => absurd h (Nat.not_lt_zero _), rfl, by simp [gI]⟩
    · obtain ⟨N, h1, h2, h3⟩ := ih (a % b) (Nat.mod_lt _ (Nat.pos_of_ne_zero hb)) b
      have e : (a : Int).fmod b = ((a % b : Nat) : Int) := by rw [Int.fmod_eq_emod_of_nonneg _ (Int.natCast_nonneg b)]; rfl
      refine ⟨N + 1, fun i hi => ?_, ?_, ?_⟩
      · cases i with
        | zero => exact Int.natCast_ne_zero.mpr hb
        | succ i => rw [gI_shift, e]; exact h1 i (Nat.lt_of_succ_lt_succ hi)
      · rw [gI_shift, e]; exact h2
      · rw [gI_shift, e, h3, Nat.gcd_comm a b, Nat.gcd_rec b a, Nat.gcd_comm]
theorem gcd_run (x y : Int) (hx : 0 ≤ x) (hy : 0 ≤ y) : ∃ N, (∀ i, i < N → (gI x y i).2 ≠ 0) ∧ (gI x y N).2 = 0 ∧ (gI x y N).1 = Int.gcd x y := by
  obtain ⟨a, rfl⟩ := Int.eq_ofNat_of_zero_le hx
  obtain ⟨b, rfl⟩ := Int.eq_ofNat_of_zero_le hy
  exact gcd_nat b a
theorem common {B : Base} {f : Addr} {pm cd doc : Value} {μ : Mut} {x y : Int} (D : IsFn B f (fD "_law_common" pm cd doc) (tD "_law_common").2.1) (hx : 0 ≤ x) (hy : 0 ≤ y) : CallP B 1 (.ref f) [.int x, .int y] μ (.int (Int.gcd x y)) μ := by
  obtain ⟨N, h1, h2, h3⟩ := gcd_run x y hx hy
  refine .of2 (x := "a") (y := "b") (σ' := gS x y N μ) D (fun A X L => ?_) .ret
  refine' .cons (.while N (fun i => gS x y i μ) (fun i => gS x y i μ) rfl (fun i hi => ⟨?t, ?b⟩) ?e) ?r
  case r => exact .ret (.ret (.say (.name (x := "a") rfl) (congrArg MV.int h3)))
  case t => exact .cmp (.name rfl) .int (OpR.ne.say (congrArg MV.bool (bne_iff_ne.mpr (h1 i hi))))
  case e => exact .cmp (.name rfl) .int (OpR.ne.say (congrArg MV.bool (bne_eq_false_iff_eq.mpr h2)))
  case b => exact .to (.cons (.swap (.tup (.cons (.name rfl) (.cons (.bin (.name rfl) (.name rfl) (.mod (h1 i hi))) .nil)))) .nil) ⟨rfl, rfl, trivial⟩
end U13
end
noncomputable section
open PySem PySem.W PySem.Spec PySem.Calls PyProof.Rows
namespace U13
theorem iseof {B : Base} {f : Addr} {pm cd doc : Value} {μ : Mut} {x : Int} {t : Tok} (D : IsFn B f (fD "ISEOF" pm cd doc) (tD "ISEOF").2.1) (hE : B.mg "ENDMARKER" = some (.int 0 t)) : CallP B 1 (.ref f) [.int x] μ (.bool (x == 0)) μ :=
  .of1 (x := "x") D (fun A X L => .ret (.ret (.cmp (.name rfl) (.gint hE) .eq))) .ret

def pcs (ps : List (Int × Int)) : MV := .list (ps.map fun p => .list [.int p.1, .int p.2])
/-- one piece's search -/
structure Met (s t : Int) (b n : Int) (k : Nat) (s' t' : Int) : Prop where
  n0 : 0 < n
  n9 : n < 2 ^ 62
  t9 : -(2 ^ 64) < t ∧ t < 2 ^ 64
  lt : (k : Int) < n
  no : ∀ i : Nat, i < k → (s + i * t - b).fmod n ≠ 0
  yes : (s + k * t - b).fmod n = 0
  s' : s' = s + k * t
  t' : t' = t * n
def mS (ps : List (Int × Int)) (μ : Mut) (s t : Int) : St := ⟨[("spot", .int s), ("step", .int t), ("pieces", pcs ps)], μ⟩
def mI (ps : List (Int × Int)) (μ : Mut) (s t b n : Int) : St := ⟨[("spot", .int s), ("step", .int t), ("blanks", .int b), ("number", .int n), ("pieces", pcs ps)], μ⟩
theorem meet {B : Base} {f fe : Addr} {pm cd doc pm' cd' doc' : Value} {μ : Mut} {t : Tok} (D : IsFn B f (fD "_law_meet" pm cd doc) (tD "_law_meet").2.1) (D' : IsFn B fe (fD "ISEOF" pm' cd' doc') (tD "ISEOF").2.1)
    (hI : B.mg "ISEOF" = some (.ref fe)) (hE : B.mg "ENDMARKER" = some (.int 0 t)) {ps : List (Int × Int)} (s st : Nat → Int) (k : Nat → Nat) (h0 : s 0 = 0) (h1 : st 0 = 1)
    (H : ∀ i p, ps[i]? = some p → Met (s i) (st i) p.1 p.2 (k i) (s (i + 1)) (st (i + 1))) : CallP B 3 (.ref f) [pcs ps] μ (.int (s ps.length)) μ := by
  refine .of1 (x := "pieces") (σ' := mS ps μ (s ps.length) (st ps.length)) D (fun A X L => ?_) .ret
  refine' .cons (.pair (.tup (.cons .int (.cons .int .nil))) (.inl rfl)) (.cons (.forL (N := ps.length) (τ := fun i => mS ps μ (s i) (st i)) (σ' := mS ps μ (s ps.length) (st ps.length)) (.to (τ := mS ps μ 0 1) (.name rfl) (by exact ⟨rfl, rfl, rfl, trivial⟩)) (by rw [h0, h1]) (fun Y => ⟨fun i hi => ?_, .inl ⟨(List.length_map ..).symm, rfl⟩⟩) (fun _ _ _ => Iff.rfl) (fun _ => Iff.rfl) (.inr ⟨⟨_, _, _, rfl⟩, ?_⟩)) (.ret (.ret (.name rfl))))
  · obtain ⟨p, hp⟩ : ∃ p, ps[i]? = some p := ⟨_, List.getElem?_eq_getElem hi⟩
    have M := H i p hp
    have e : (ps.map fun p => MV.list [.int p.1, .int p.2]).getD i .none = .list [.int p.1, .int p.2] := by rw [List.getD_eq_getElem?_getD, List.getElem?_map, hp]; rfl
    show Turn B _ _ _ (List.getD (ps.map fun p => MV.list [.int p.1, .int p.2]) i .none) _ _ _
    rw [e]
    have n0 : p.2 ≠ 0 := Int.ne_of_gt M.n0
    have nn : ((p.2.toNat : Nat) : Int) = p.2 := Int.toNat_of_nonneg (Int.le_of_lt M.n0)
    have ts : ∀ {c : Cx} {σ : St} {b : Bool} {a : Int} {p₁ p₂ p₃ p₄ p₅ p₆ pos}, 2 ≤ c.n → c.env.kindOf "ISEOF" = some .globalImplicit → ((a - p.1).fmod p.2 == 0) = b → σ.loc.lookup (Str.ofString "spot") = some (MV.int a) → σ.loc.lookup (Str.ofString "blanks") = some (MV.int p.1) → σ.loc.lookup (Str.ofString "number") = some (MV.int p.2) →
        EvT B c (.Call (.Name "ISEOF" p₁) [.BinOp (.BinOp (.Name "spot" p₂) .Sub (.Name "blanks" p₃) p₄) .Mod (.Name "number" p₅) p₆] [] pos) σ b σ := fun hn hk e e₁ e₂ e₃ =>
      .bool (.say (.call D' hI (.cons (.bin (.bin (.name e₁) (.name e₂) .sub) (.name e₃) (.mod n0)) .nil) (iseof D' hE) (Nat.le_trans (by decide) hn) (fun _ w => w) hk) (congrArg MV.bool e))
    refine ⟨_, .pair (.inr rfl), EvSs.to (.cons (.forR (n := p.2.toNat) (N := k i) (τ := fun j => mI ps μ (s i + j * st i) (st i) p.1 p.2) (σ' := mI ps μ (s (i + 1)) (st i) p.1 p.2) (.to (τ := mI ps μ (s i) (st i) p.1 p.2) (.say (.name rfl) (congrArg MV.int nn.symm)) (by exact ⟨rfl, rfl, rfl, rfl, rfl, trivial⟩))
      (by show mI ps μ (s i + ((0 : Nat) : Int) * st i) _ _ _ = mI ps μ (s i) _ _ _; rw [Int.ofNat_zero, Int.zero_mul, Int.add_zero]) (fun Y => ⟨fun j hj => ⟨_, .name, .to (.cons (.if (b := false) (ts (Nat.le_refl _) rfl (beq_eq_false_iff_ne.mpr (M.no j hj)) rfl rfl rfl) .nil) (.cons (.assign (.bin (.name rfl) (.name rfl) .add)) .nil)) (by exact ⟨congrArg (fun x => some (MV.int x)) (by show s i + j * st i + st i = s i + ((j + 1 : Nat) : Int) * st i; rw [Int.natCast_add, Int.add_mul, Int.add_assoc]; congr 2; exact (Int.one_mul _).symm), rfl, rfl, rfl, rfl, trivial⟩)⟩, .inr ⟨by have := M.lt; omega, _, .name, .to (.brk (.if (b := true) (ts (Nat.le_refl _) rfl (beq_iff_eq.mpr M.yes) rfl rfl rfl) (.brk .brk))) (by exact ⟨congrArg (fun x => some (MV.int x)) M.s'.symm, rfl, rfl, rfl, rfl, trivial⟩)⟩⟩) (fun _ _ _ => Iff.rfl) (fun _ => Iff.rfl) (by rw [nn]; exact M.n9)) (.cons (.assign (.bin (.name rfl) (.name rfl) (.mul (small_mul M.t9.1 M.t9.2)))) .nil)) (by exact ⟨rfl, congrArg (fun x => some (MV.int x)) M.t'.symm, rfl, trivial⟩)⟩
  · intro v hv
    obtain ⟨p, _, rfl⟩ := List.mem_map.mp hv
    exact ⟨_, _, .inr rfl⟩
end U13
end
noncomputable section
open PySem PySem.W PySem.Spec PySem.Calls PyProof.Rows
namespace U13
theorem readsPcs {X : Addr → Prop} {h : Heap} : ∀ {ps : List (Int × Int)} {ws : List Value}, VRs X h (ps.map fun p => .list [.int p.1, .int p.2]) ws → ∃ as, ReadsAll h ws (ps.map fun p => PyData.list [.int p.1, .int p.2]) as
  | [], _, e => by cases e; exact ⟨_, .nil⟩
  | p :: ps, _, ⟨v, r, e, ⟨a, vs, ev, _, ⟨o, h1, h2, m, h3⟩, q1⟩, q⟩ => by
    subst e ev
    obtain ⟨va, _, rfl, ⟨ta, rfl⟩, vb, _, rfl, ⟨tb, rfl⟩, rfl⟩ := q1
    obtain ⟨as, ha⟩ := readsPcs q
    exact ⟨_, .cons (reads_list_at h1 h2 h3 (.cons (.int _ _) (.cons (.int _ _) .nil))) ha⟩
theorem lay_pcs : ∀ ps : List (Int × Int), PyData.canLayAll0 (ps.map fun p => PyData.list [.int p.1, .int p.2]) = true ∧ PyData.depthAll (ps.map fun p => PyData.list [.int p.1, .int p.2]) ≤ 3 ∧ PyData.eqvAll (ps.map fun p => PyData.list [.int p.1, .int p.2]) (ps.map fun p => PyData.list [.int p.1, .int p.2]) = true
  | [] => by simp [PyData.canLayAll0, PyData.depthAll, PyData.eqvAll]
  | p :: ps => by
    obtain ⟨h1, h2, h3⟩ := lay_pcs ps
    refine ⟨?_, ?_, ?_⟩
    · simp [PyData.canLayAll0, PyData.canLay0, h1]
    · simp only [List.map_cons, PyData.depthAll, PyData.depth]; omega
    · simp [PyData.eqvAll, PyData.eqv, h3]
section
variable {B : Base} {c : Cx} {ps : List (Int × Int)} {ns ms : List Int}
theorem OpR.pcne (hn : 7 ≤ c.n) : OpR B c (compareOp .NotEq) (pcs ps) (pcs ps) (.bool false) := fun σ s x y R ⟨a, ws, e, _, ⟨o, h1, h2, m, h3⟩, q⟩ ⟨b, us, e', _, ⟨o', h1', h2', m', h3'⟩, q'⟩ => by
  subst e e'
  obtain ⟨as, ra⟩ := readsPcs q
  obtain ⟨bs, rb⟩ := readsPcs q'
  obtain ⟨l1, l2, l3⟩ := lay_pcs ps
  have sh : SeqAt.shaped (.list (ps.map fun p => PyData.list [.int p.1, .int p.2])) = true := by
    unfold SeqAt.shaped
    rw [Bool.and_eq_true]
    exact ⟨by simp only [PyData.canLay0]; exact l1, decide_eq_true (by simp only [PyData.depth]; omega)⟩
  have hu := R.ok.hu
  refine ne_dataH (reads_list_at h1 h2 h3 (by simpa using ra)) (reads_list_at h1' h2' h3' (by simpa using rb)) sh sh (by omega) ⟨.refl R, ?_⟩
  simp only [PyData.eqv, l3]; rfl
theorem OpR.lieq (hn : 7 ≤ c.n) : OpR B c (compareOp .Eq) (.list (ns.map .int)) (.list (ms.map .int)) (.bool (decide (ns = ms))) := fun σ s x y R ⟨a, ws, e, _, hl, q⟩ ⟨b, us, e', _, hl', q'⟩ => by
  subst e e'
  have hu := R.ok.hu
  exact eq_intsK hl (carInts q) hl' (carInts q') (by omega) ⟨.refl R, rfl⟩
end
end U13
end
noncomputable section
open PySem PySem.W PySem.Spec PySem.Calls PyProof.Rows
namespace U13
section
variable {B : Base} {f : Addr} {pm cd doc : Value} {μ : Mut}
theorem div2 {a b n : Int} {t : Tok} (D : IsFn B f (fD "_div2n1n" pm cd doc) (tD "_div2n1n").2.1) (hL : B.mg "_DIV_LIMIT" = some (.int 4000 t)) (hb : b ≠ 0) (hb2 : b.natAbs.log2 < 9000) (hs : (Builtin.Int.intBits a : Int) - n ≤ 4000) :
    CallP B 1 (.ref f) [.int a, .int b, .int n] μ (.tup [.int (a.fdiv b), .int (a.fmod b)]) μ :=
  .of3 (x := "a") (y := "b") (z := "n") D (fun A X L => .ret (.if (b := true) (.cmp (.bin (.meth0 (.name rfl) .bitlen (BuiR.cal .bitlen)) (.name rfl) .sub) (.gint hL) (OpR.le.say (congrArg MV.bool (decide_eq_true hs))))
    (.ret (.ret (.bui (.cons (.name rfl) (.cons (.name rfl) .nil)) (.divmod hb hb2) boot_divmod (B.free _ (by decide))))))) .ret
end
end U13
end
noncomputable section
open PySem PySem.W PySem.Spec PySem.Calls PyProof.Rows
namespace U13
/-- the i-th statement of a def, a def within -/
def inD (x : Str) (i : Nat) : Arguments × List Stmt × Scope := match (tD x).2.1[i]? with
  | some (.FunctionDef _ ps b _ _ _ sc _ _ _) => (ps, b, sc)
  | _ => default
def inP (x : Str) (i : Nat) : Pos := match (tD x).2.1[i]? with
  | some (.FunctionDef _ _ _ _ _ _ _ _ _ p) => p
  | _ => default
def fdI (x : Str) (i : Nat) (q : Str) (clos : List (Str × Addr)) (doc pm cd ctv : Value) : FuncData := fnX "inner" q (inD x i).1 (inD x i).2.1 (inD x i).2.2 clos .none .none doc pm none cd ctv
theorem half {L k : Nat} : ((L : Int) + ((L + k : Nat) : Int)).fdiv (2 ^ (1 : Int).toNat) = ((L + k / 2 : Nat) : Int) := by
  rw [Int.fdiv_eq_ediv_of_nonneg _ (by decide)]
  show _ / (2 : Int) = _
  omega
theorem shr_nat (x s : Nat) : (x : Int).fdiv (2 ^ (s : Int).toNat) = ((x / 2 ^ s : Nat) : Int) := by
  rw [Int.toNat_natCast, Int.fdiv_eq_ediv_of_nonneg _ (Int.le_of_lt (Int.pow_pos (by decide)))]
  norm_cast
theorem xor_nat (x s : Nat) : Builtin.bitXor (x : Int) ((x / 2 ^ s : Nat) * 2 ^ (s : Int).toNat) = ((x % 2 ^ s : Nat) : Int) := by
  rw [Int.toNat_natCast, show ((x / 2 ^ s : Nat) : Int) * 2 ^ s = ((x / 2 ^ s * 2 ^ s : Nat) : Int) by norm_cast, bitXor_and, bitAnd_pp (Int.natCast_nonneg _) (Int.natCast_nonneg _), Int.toNat_natCast, Int.toNat_natCast, and_high]
  have := Nat.div_add_mod x (2 ^ s)
  rw [Nat.mul_comm] at this
  omega
theorem small64' {k : Nat} (h : k ≤ 1000) : -(2 ^ 64) < (k : Int) ∧ (k : Int) < 2 ^ 64 := by omega
section
variable {B : Base} {clos : List (Str × Addr)} {q : Str} {doc pm cd ctv : Value} {an aa ai f2 A : Addr} {t : Tok} {n : Nat}
theorem inner1 (hn : clos.lookup (Str.ofString "n") = some an) (ha : clos.lookup (Str.ofString "a_digits") = some aa) (hi : clos.lookup (Str.ofString "inner") = some ai) (cn : B.h₁.IsCell an (some (.int n t))) (ca : B.h₁.IsCell aa (some (.ref A))) (ci : B.h₁.IsCell ai (some (.ref f2)))
    (D2 : IsFn B f2 (fdI "_int2digits" 1 q clos doc pm cd ctv) (inD "_int2digits" 1).2.1) (m : Nat) : ∀ (k : Nat) (x L : Nat) (P M S : List MV) (fa : Addr), k ≤ m → IsFn B fa (fdI "_int2digits" 1 q clos doc pm cd ctv) (inD "_int2digits" 1).2.1 → 0 < k → P.length = L → M.length = k → x < 2 ^ (n * k) → n * k ≤ 1000 → x < 2 ^ 60 → (P ++ M ++ S).length ≤ 1000 →
    CallP B m (.ref fa) [.int x, .int L, .int ((L + k : Nat) : Int)] (.lst A (P ++ M ++ S)) .none (.lst A (P ++ (D n x k).map (fun d : Nat => MV.int d) ++ S)) := by
  induction m with
  | zero => intro k x L P M S fa hk _ h0; exact absurd hk (Nat.not_le.mpr h0)
  | succ m ih =>
    intro k x L P M S fa hk Df h0 hP hM hx hnk xle hl
    have fr : AllL (fun x u => (fdI "_int2digits" 1 q clos doc pm cd ctv).scope.names.lookup x = some .free ∧ (∃ a v', (fdI "_int2digits" 1 q clos doc pm cd ctv).closure.lookup x = some a ∧ B.h₁.IsCell a (some v') ∧ ∀ X h, VR X h u v')) [("n", .int n), ("a_digits", .ref A), ("inner", .ref f2)] :=
      ⟨⟨rfl, an, _, hn, cn, fun _ _ => ⟨t, rfl⟩⟩, ⟨rfl, aa, _, ha, ca, fun _ _ => rfl⟩, ⟨rfl, ai, _, hi, ci, fun _ _ => rfl⟩, trivial⟩
    have go : ∀ {fl : MF} {σ' : St}, (∀ A' X L', EvSs B (cxE A' X m (callEnv (fdI "_int2digits" 1 q clos doc pm cd ctv) L' fa)) (inD "_int2digits" 1).2.1 ⟨[("R", .int ((L + k : Nat) : Int)), ("L", .int L), ("x", .int x), ("n", .int n), ("a_digits", .ref A), ("inner", .ref f2)], .lst A (P ++ M ++ S)⟩ fl σ') → Out .none fl → CallP B (m + 1) (.ref fa) [.int x, .int L, .int ((L + k : Nat) : Int)] (.lst A (P ++ M ++ S)) .none σ'.mu := fun H hO =>
      .of (loc := [("x", .int x), ("L", .int L), ("R", .int ((L + k : Nat) : Int))]) (fr := [("n", .int n), ("a_digits", .ref A), ("inner", .ref f2)]) Df (fun X s vs _ q => by obtain ⟨u, _, rfl, q, u', _, rfl, q', u'', _, rfl, q'', rfl⟩ := q; exact ⟨[("x", u), ("L", u'), ("R", u'')], .of_eq rfl, u, _, rfl, q, u', _, rfl, q', u'', _, rfl, q'', rfl⟩)
        (List.forall_mem_cons.mpr ⟨rfl, List.forall_mem_cons.mpr ⟨rfl, List.forall_mem_cons.mpr ⟨rfl, fun _ h => nomatch h⟩⟩⟩) H hO rfl fr
    by_cases h1 : k = 1
    · subst h1
      obtain ⟨M0, rfl⟩ := List.length_eq_one_iff.mp hM
      have e : (P ++ [M0] ++ S).set L (.int x) = P ++ (D n x 1).map (fun d : Nat => MV.int d) ++ S := by
        rw [D_one (by simpa using hx), ← hP, List.append_assoc, List.set_append_right _ _ (Nat.le_refl _), Nat.sub_self, List.append_assoc]; rfl
      rw [← e]
      refine go (fun A' X L' => .ret (.if (b := true) (.cmp (.bin (.name rfl) .int .add) (.name rfl) (OpR.eq.say (congrArg MV.bool (beq_iff_eq.mpr (by norm_cast)))))
        (.cons (.setAt (A := A) (k := L) (.name rfl) (.name rfl) (.name rfl) (by simp [hP]) (by omega)) (.ret .retN)))) .ret
    · have k0 : 0 < k / 2 := Nat.div_pos (by omega) (by decide)
      have k2 : k / 2 < k := Nat.div_lt_self h0 (by decide)
      generalize hk1 : k / 2 = k1 at k0 k2
      obtain ⟨k2', rfl⟩ : ∃ k2', k = k1 + k2' := ⟨k - k1, by omega⟩
      obtain ⟨M1, M2, rfl, l1, l2⟩ : ∃ M1 M2, M = M1 ++ M2 ∧ M1.length = k1 ∧ M2.length = k2' := ⟨M.take k1, M.drop k1, (List.take_append_drop k1 M).symm, by simp [hM], by simp [hM]⟩
      have nk := Nat.mul_add n k1 k2'
      have hs : n * k1 ≤ 1000 := by omega
      have e0 : P ++ (M1 ++ M2) ++ S = P ++ M1 ++ (M2 ++ S) := by simp
      have hup : x / 2 ^ (n * k1) < 2 ^ (n * k2') := Nat.div_lt_of_lt_mul (by rwa [← Nat.pow_add, ← nk])
      have kl : k1 ≤ 1000 := by simp at hl; omega
      have small64 := small64' kl
      have c1 := ih k1 (x % 2 ^ (n * k1)) L P M1 (M2 ++ S) f2 (by omega) D2 k0 hP l1 (Nat.mod_lt _ (Nat.two_pow_pos _)) hs (Nat.lt_of_le_of_lt (Nat.mod_le _ _) xle) (e0 ▸ hl)
      have c2 := ih k2' (x / 2 ^ (n * k1)) (L + k1) (P ++ (D n (x % 2 ^ (n * k1)) k1).map (fun d : Nat => MV.int d)) M2 S f2 (by omega) D2 (by omega) (by simp [hP, D_len]) l2 hup (by omega) (Nat.lt_of_le_of_lt (Nat.div_le_self _ _) xle) (by simp [D_len] at hl ⊢; omega)
      rw [← e0, ← List.append_assoc _ M2 S] at c1
      rw [Nat.add_assoc] at c2
      rw [show P ++ (D n x (k1 + k2')).map (fun d : Nat => MV.int d) ++ S = P ++ (D n (x % 2 ^ (n * k1)) k1).map (fun d : Nat => MV.int d) ++ (D n (x / 2 ^ (n * k1)) k2').map (fun d : Nat => MV.int d) ++ S by rw [D_split, List.map_append]; simp only [List.append_assoc]]
      refine go (fl := .next) (σ' := ⟨[], .lst A (P ++ (D n (x % 2 ^ (n * k1)) k1).map (fun d : Nat => MV.int d) ++ (D n (x / 2 ^ (n * k1)) k2').map (fun d : Nat => MV.int d) ++ S)⟩) (fun A' X L' => ?_) .next
      refine' EvSs.to (.cons (.if (b := false) (.cmp (.bin (.name rfl) .int .add) (.name rfl) (OpR.eq.say (congrArg MV.bool (beq_eq_false_iff_ne.mpr ?_)))) .nil) (.cons (.assign (v := .int ((L + k1 : Nat) : Int)) (.say (.bin (.bin (.name rfl) (.name rfl) .add) .int (.shr (by decide))) ?_))
        (.cons (.assign (v := .int ((n * k1 : Nat) : Int)) (.say (.bin (.say (v₁ := .int _) (v := .int k1) (.bin (.name rfl) (.name rfl) .sub) ?_) (.name rfl) (.mul (small_mul small64.1 small64.2))) ?_)) (.cons (.assign (v := .int ((x / 2 ^ (n * k1) : Nat) : Int)) (.say (.bin (.name rfl) (.name rfl) (.shr (Int.natCast_nonneg _))) (congrArg MV.int (shr_nat _ _))))
          (.cons (.assign (v := .int ((x % 2 ^ (n * k1) : Nat) : Int)) (.say (.bin (.name rfl) (.bin (.name rfl) (.name rfl) (.shl (Int.natCast_nonneg _) ?_ ?_)) .xor) (congrArg MV.int (xor_nat _ _))))
            (.cons (.expr (.callR (x := "inner") rfl D2 (.cons (.name rfl) (.cons (.name rfl) (.cons (.name rfl) .nil))) c1 (Nat.le_refl _) fun _ w => w)) (.cons (.expr (.callR (x := "inner") rfl D2 (.cons (.name rfl) (.cons (.name rfl) (.cons (.name rfl) .nil))) c2 (Nat.le_refl _) fun _ w => w)) .nil))))))) trivial
      · omega
      · exact congrArg MV.int (by rw [half, hk1])
      · exact congrArg MV.int (by omega)
      · exact congrArg MV.int (by rw [Nat.mul_comm, Int.natCast_mul])
      · omega
      · exact Nat.lt_of_le_of_lt (Nat.div_le_self _ _) (Nat.lt_trans xle (by decide))
end
end U13
end
noncomputable section
open PySem PySem.W PySem.Spec PySem.Calls PyProof.Rows
namespace U13
section
variable {B : Base} {f : Addr} {pm cd doc : Value} {μ : Mut}
theorem stF {x q : Str} {i : Nat} {clos : List (Str × Addr)} {doc pm cd ctv : Value} (h : (inD x i).2.2.isCoroutine = false := by rfl) (h' : (inD x i).2.2.isGenerator = false := by rfl) (k : (inD x i).2.2.kind = .function := by rfl) : FdOk (fdI x i q clos doc pm cd ctv) (inD x i).2.1 := ⟨rfl, rfl, rfl, h, h', k⟩
/-- the code table of a def that holds one def within -/
def tabI (x : Str) (i : Nat) (q : Str) (c P : Addr) : TabD := ⟨c, P, inP x i, q⟩
theorem int2dig {a n k : Nat} {c P : Addr} (D : IsFn B f (fD "_int2digits" pm cd doc) (tD "_int2digits").2.1) (ht : tabI "_int2digits" 1 "_int2digits.<locals>.inner" c P ∈ B.tabs) (hu : ∀ t' ∈ B.tabs, t'.P = P → t' = tabI "_int2digits" 1 "_int2digits.<locals>.inner" c P) (hcd : cd = .ref c)
    (hn : 0 < n) (hn2 : n ≤ 64) (hk : ((Builtin.Int.intBits a : Int) + n - 1).fdiv n = k) (hk2 : k ≤ 69) (hnk : n * k ≤ 1000) (hx : a < 2 ^ (n * k)) (ha : a < 2 ^ 60) (hz : 0 < a ↔ 0 < k) : CallP B 70 (.ref f) [.int a, .int n] .none (.list ((U13.D n a k).map fun d : Nat => .int d)) .none := by
  subst hcd
  refine .ofC (n := 69) (la := [("a", .int a)]) (ca := [("n", .int n)]) (fl := .ret _) (σ' := ⟨[], .none⟩) D (fun X s vs _ q => by
    obtain ⟨u, _, rfl, q, u', _, rfl, q', rfl⟩ := q
    exact ⟨[("a", u), ("n", u')], .of_eq rfl, List.forall_mem_cons.mpr ⟨.inl rfl, List.forall_mem_cons.mpr ⟨.inr rfl, fun _ h => nomatch h⟩⟩, fun L => ⟨⟨⟨u, rfl, rfl, q⟩, trivial⟩, ⟨u', rfl, rfl, q'⟩, trivial⟩⟩) (fun A X L => ?_) .ret rfl
  refine EvSs.to (.own (k := 2) (loc := []) (l' := (U13.D n a k).map fun d : Nat => .int d) (.rep (k := k) .int (.say (.bin (.bin (.bin (.meth0 (.name rfl) .bitlen (BuiR.cal .bitlen)) (.name rfl) .add) .int .sub) (.name rfl) (.fdiv (by omega) (by omega))) (congrArg MV.int hk)) (by omega)) rfl (fun Al Y => ?_) (.ret (.ret (.name rfl))) rfl) trivial
  refine .defn (t := tabI "_int2digits" 1 "_int2digits.<locals>.inner" c P) ht rfl rfl rfl rfl hu (fun doc pm cd ctv => ?_)
  refine EvSs.to (.cons (.if (b := decide (0 < a)) (.say (.int (.name (v := .int a) rfl)) ?_) (σ₂ := ⟨[("a_digits", .ref Al)], .lst Al ((U13.D n a k).map fun d : Nat => .int d)⟩) (f := .next) ?_) .nil) ⟨rfl, trivial⟩
  · by_cases h : 0 < a
    · rw [decide_eq_true h]; exact bne_iff_ne.mpr (by omega)
    · rw [decide_eq_false h]; exact bne_eq_false_iff_eq.mpr (by omega)
  · by_cases h : 0 < a
    · rw [decide_eq_true h, if_pos rfl]
      refine EvSs.to (.cons (.expr (.callN (x := "inner") (n := 69) (v := .none) (μ' := .lst Al ((U13.D n a k).map fun d : Nat => .int d)) (fd := fdI "_int2digits" 1 "_int2digits.<locals>.inner" _ doc pm cd ctv) rfl (.cons (.name rfl) (.cons .int (.cons (.cal (.cons (.name rfl) .nil) (.len (by rw [List.length_replicate]; omega)) boot_len (B.free _ (by decide))) .nil))) stF (fun h g fa R D' => ?_) (Nat.le_refl _) fun _ w => w)) .nil) ⟨rfl, trivial⟩
      obtain ⟨an, v1, l1, c1, t1, rfl⟩ := R.cells (y := "n") rfl rfl
      obtain ⟨aa, v2, l2, c2, rfl⟩ := R.cells (y := "a_digits") rfl rfl
      obtain ⟨ai, v3, l3, c3, q3⟩ := R.cells (y := "inner") rfl rfl
      obtain ⟨f2, rfl, D2⟩ := R.inv.fn (fd := fdI "_int2digits" 1 "_int2digits.<locals>.inner" _ doc pm cd ctv) q3 stF
      have := inner1 (B := B.re (now B (.lst Al (List.replicate k (.int 0))) h) R.inv.now) (clos := [("n", L + 1), ("inner", L + 1 + 1 + 1), ("a_digits", L + 1 + 1)]) l1 l2 l3 c1 c2 c3 D2 69 k a 0 [] (List.replicate k (.int 0)) [] fa hk2 D' (hz.mp ‹_›) rfl (by simp) hx hnk ha (by simp; omega)
      simpa using this
    · rw [decide_eq_false h, if_neg Bool.false_ne_true]
      have hk0 : k = 0 := by have := mt hz.mpr h; omega
      subst hk0
      exact .to .nil ⟨rfl, trivial⟩
end
end U13
end
noncomputable section
open PySem PySem.W PySem.Spec PySem.Calls PyProof.Rows
namespace U13
section
variable {B : Base} {clos : List (Str × Addr)} {q : Str} {doc pm cd ctv : Value} {an ad ai f2 dl : Addr} {t : Tok} {n : Nat} {ds : List Nat} {ws : List Value}
theorem inner2 (hn : clos.lookup (Str.ofString "n") = some an) (ha : clos.lookup (Str.ofString "digits") = some ad) (hi : clos.lookup (Str.ofString "inner") = some ai) (cn : B.h₁.IsCell an (some (.int n t))) (ca : B.h₁.IsCell ad (some (.ref dl))) (ci : B.h₁.IsCell ai (some (.ref f2)))
    (hl : B.h₁.IsList dl ws.toArray) (hw : ∀ (i d : Nat), ds[i]? = some d → ∃ t : Tok, ws[i]? = some (Value.int d t)) (hd : ∀ d ∈ ds, d < 2 ^ n) (hs : ds.length ≤ 1000)
    (D2 : IsFn B f2 (fdI "_digits2int" 0 q clos doc pm cd ctv) (inD "_digits2int" 0).2.1) (hnk : n * (ds.length - 1) ≤ 63) (m : Nat) : ∀ (k L : Nat) (fa : Addr), k ≤ m → IsFn B fa (fdI "_digits2int" 0 q clos doc pm cd ctv) (inD "_digits2int" 0).2.1 → 0 < k → L + k ≤ ds.length →
    CallP B m (.ref fa) [.int L, .int ((L + k : Nat) : Int)] .none (.int ((V n ((ds.drop L).take k) : Nat) : Int)) .none := by
  induction m with
  | zero => intro k L fa hk _ h0; exact absurd hk (Nat.not_le.mpr h0)
  | succ m ih =>
    intro k L fa hk Df h0 hL
    have go : ∀ {v : MV} {σ' : St}, (∀ A' X L', EvSs B (cxE A' X m (callEnv (fdI "_digits2int" 0 q clos doc pm cd ctv) L' fa)) (inD "_digits2int" 0).2.1 ⟨[("R", .int ((L + k : Nat) : Int)), ("L", .int L), ("digits", .ref dl), ("n", .int n), ("inner", .ref f2)], .none⟩ (.ret v) σ') → CallP B (m + 1) (.ref fa) [.int L, .int ((L + k : Nat) : Int)] .none v σ'.mu := fun H =>
      .of (loc := [("L", .int L), ("R", .int ((L + k : Nat) : Int))]) (fr := [("digits", .ref dl), ("n", .int n), ("inner", .ref f2)]) Df (fun X s vs _ q => by obtain ⟨u, _, rfl, q, u', _, rfl, q', rfl⟩ := q; exact ⟨[("L", u), ("R", u')], .of_eq rfl, u, _, rfl, q, u', _, rfl, q', rfl⟩)
        (List.forall_mem_cons.mpr ⟨rfl, List.forall_mem_cons.mpr ⟨rfl, fun _ h => nomatch h⟩⟩) H .ret rfl ⟨⟨rfl, ad, _, ha, ca, fun _ _ => rfl⟩, ⟨rfl, an, _, hn, cn, fun _ _ => ⟨t, rfl⟩⟩, ⟨rfl, ai, _, hi, ci, fun _ _ => rfl⟩, trivial⟩
    by_cases h1 : k = 1
    · subst h1
      obtain ⟨d, hd'⟩ : ∃ d, ds[L]? = some d := ⟨_, List.getElem?_eq_getElem hL⟩
      have e : (ds.drop L).take 1 = [d] := by rw [List.take_one, List.head?_drop, hd']; rfl
      rw [e]
      refine go (σ' := ⟨[], .none⟩) (fun A' X L' => EvSs.to (.ret (.if (b := true) (.cmp (.bin (.name rfl) .int .add) (.name rfl) (OpR.eq.say (congrArg MV.bool (beq_iff_eq.mpr (by norm_cast)))))
        (.ret (.ret (.say (.sub (.name rfl) (.name rfl) (.base (k := (d : Nat)) hl (Int.natCast_nonneg L) (by omega) (hw _ _ hd'))) ?_))))) trivial)
      exact congrArg (fun x : Nat => MV.int x) (by simp [V])
    · have k0 : 0 < k / 2 := Nat.div_pos (by omega) (by decide)
      have k2 : k / 2 < k := Nat.div_lt_self h0 (by decide)
      generalize hk1 : k / 2 = k1 at k0 k2
      obtain ⟨k2', rfl⟩ : ∃ k2', k = k1 + k2' := ⟨k - k1, by omega⟩
      have c1 := ih k2' (L + k1) f2 (by omega) D2 (by omega) (by omega)
      have c2 := ih k1 L f2 (by omega) D2 k0 (by omega)
      rw [Nat.add_assoc] at c1
      have e : (ds.drop L).take (k1 + k2') = (ds.drop L).take k1 ++ (ds.drop (L + k1)).take k2' := by rw [List.take_add, List.drop_drop]
      have l1 : ((ds.drop L).take k1).length = k1 := by simp; omega
      rw [e, V_app, l1]
      have b1 : n * k1 ≤ 63 := Nat.le_trans (Nat.mul_le_mul_left n (by omega)) hnk
      have b2 : V n ((ds.drop (L + k1)).take k2') < 2 ^ 64 := Nat.lt_of_lt_of_le (V_lt n _ fun d h => hd d (List.mem_of_mem_drop (List.mem_of_mem_take h))) (Nat.pow_le_pow_right (by decide) (Nat.le_trans (Nat.mul_le_mul_left n (by simp; omega)) (Nat.le_trans hnk (by decide))))
      refine go (σ' := ⟨[], .none⟩) (fun A' X L' => ?_)
      refine' EvSs.to (.cons (.if (b := false) (.cmp (.bin (.name rfl) .int .add) (.name rfl) (OpR.eq.say (congrArg MV.bool (beq_eq_false_iff_ne.mpr ?_)))) .nil) (.cons (.assign (v := .int ((L + k1 : Nat) : Int)) (.say (.bin (.bin (.name rfl) (.name rfl) .add) .int (.shr (by decide))) ?_))
        (.cons (.assign (v := .int ((n * k1 : Nat) : Int)) (.say (.bin (.say (v₁ := .int _) (v := .int k1) (.bin (.name rfl) (.name rfl) .sub) ?_) (.name rfl) (.mul (small_mul (small64' ?_).1 (small64' ?_).2))) ?_))
          (.ret (.ret (.say (.bin (.bin (.callR (x := "inner") rfl D2 (.cons (.name rfl) (.cons (.name rfl) .nil)) c1 (Nat.le_refl _) fun _ w => w) (.name rfl) (.shl (Int.natCast_nonneg _) ?_ ?_)) (.callR (x := "inner") rfl D2 (.cons (.name rfl) (.cons (.name rfl) .nil)) c2 (Nat.le_refl _) fun _ w => w) .add) ?_)))))) trivial
      · omega
      · exact congrArg MV.int (by rw [half, hk1])
      · exact congrArg MV.int (by omega)
      · omega
      · omega
      · exact congrArg MV.int (by rw [Nat.mul_comm, Int.natCast_mul])
      · omega
      · exact b2
      · exact congrArg MV.int (by rw [Int.toNat_natCast]; push_cast; rw [Int.add_comm, Int.mul_comm])
end
end U13
end
noncomputable section
open PySem PySem.W PySem.Spec PySem.Calls PyProof.Rows
namespace U13
section
variable {B : Base} {f : Addr} {pm cd doc : Value} {μ : Mut}
theorem dig2int {ds : List Nat} {n : Nat} {c P : Addr} (D : IsFn B f (fD "_digits2int" pm cd doc) (tD "_digits2int").2.1) (ht : tabI "_digits2int" 0 "_digits2int.<locals>.inner" c P ∈ B.tabs) (hu : ∀ t' ∈ B.tabs, t'.P = P → t' = tabI "_digits2int" 0 "_digits2int.<locals>.inner" c P) (hcd : cd = .ref c)
    (hd : ∀ d ∈ ds, d < 2 ^ n) (hs : ds.length ≤ 69) (hnk : n * (ds.length - 1) ≤ 63) : CallP B 70 (.ref f) [.list (ds.map fun d : Nat => .int d), .int n] .none (.int (V n ds : Nat)) .none := by
  subst hcd
  refine .ofC (n := 69) (la := []) (ca := [("n", .int n), ("digits", .list (ds.map fun d : Nat => .int d))]) (fl := .ret _) (σ' := ⟨[], .none⟩) D (fun X s vs _ q => by
    obtain ⟨u, _, rfl, q, u', _, rfl, q', rfl⟩ := q
    exact ⟨[("digits", u), ("n", u')], .of_eq rfl, List.forall_mem_cons.mpr ⟨.inr rfl, List.forall_mem_cons.mpr ⟨.inr rfl, fun _ h => nomatch h⟩⟩, fun L => ⟨trivial, ⟨u', rfl, rfl, q'⟩, ⟨u, rfl, rfl, q⟩, trivial⟩⟩) (fun A X L => ?_) .ret rfl
  refine EvSs.to (.defn (t := tabI "_digits2int" 0 "_digits2int.<locals>.inner" c P) ht rfl rfl rfl rfl hu (fun doc pm cd ctv => .ret (.ret (.ite (.list (.name rfl) (by rw [List.length_map]; omega)) (σ₂ := ⟨[("n", .int n)], .none⟩) ?_)))) trivial
  by_cases h : ds = []
  · subst h
    exact .to .int ⟨rfl, trivial⟩
  · have hp : 0 < ds.length := List.length_pos_iff.mpr h
    have e : ds.isEmpty = false := by cases ds with | nil => exact absurd rfl h | cons => rfl
    rw [show (ds.map fun d : Nat => MV.int d).isEmpty = false by simpa using h]
    refine EvE.to (.callN (x := "inner") (n := 69) (μ' := .none) (fd := fdI "_digits2int" 0 "_digits2int.<locals>.inner" _ doc pm cd ctv) rfl (.cons .int (.cons (.bui (.cons (.name rfl) .nil) (.lenL (by rw [List.length_map]; omega)) boot_len (B.free _ (by decide))) .nil)) stF (fun h g fa R D' => ?_) (Nat.le_refl _) fun _ w => w) ⟨rfl, trivial⟩
    obtain ⟨an, v1, l1, c1, t1, rfl⟩ := R.cells (y := "n") rfl rfl
    obtain ⟨ad, v2, l2, c2, dl, ws, rfl, nX, ⟨o, ho, r⟩, q⟩ := R.cells (y := "digits") rfl rfl
    obtain ⟨ai, v3, l3, c3, q3⟩ := R.cells (y := "inner") rfl rfl
    obtain ⟨f2, rfl, D2⟩ := R.inv.fn (fd := fdI "_digits2int" 0 "_digits2int.<locals>.inner" _ doc pm cd ctv) q3 stF
    have := inner2 (B := B.re (now B .none h) R.inv.now) (clos := [("n", L + 1 + 1), ("inner", L + 1 + 1 + 1), ("digits", L + 1)]) l1 l2 l3 c1 c2 c3 ⟨o, R.inv.stay ho nX, r⟩ (fun i d e => by obtain ⟨v', e', t, rfl⟩ := q.get (v := .int d) (by rw [List.getElem?_map, e]; rfl); exact ⟨t, e'⟩) hd (by omega) D2 hnk 69 ds.length 0 fa hs D' hp (by omega)
    simpa using this
end
end U13
end
noncomputable section
open PySem PySem.W PySem.Spec PySem.Calls PyProof.Rows
namespace U13
section
variable {B : Base} {f : Addr} {pm cd doc : Value} {μ : Mut}
abbrev nats (l : List Nat) : List MV := l.map fun d => .int (d : Nat)
def dS (ls : List Nat) (b n : Nat) (Al : Addr) (i : Nat) : St := ⟨[("q_digits", .ref Al), ("r", .int ((run n b (ls.take i).reverse).2 : Nat)), ("n", .int n), ("b", .int b)], .lst Al (nats (run n b (ls.take i).reverse).1.reverse)⟩
theorem divpos {a b n k : Nat} (Df : IsFn B f (fD "_divmod_pos" pm cd doc) (tD "_divmod_pos").2.1)
    (C1 : Does B "_int2digits" 70 [.int a, .int n] (.list (nats (D n a k)))) (C2 : ∀ ds : List Nat, (∀ d ∈ ds, d < 2 ^ n) → ds.length = k → Does B "_digits2int" 70 [.list (nats ds), .int n] (.int (V n ds : Nat)))
    (C3 : ∀ x : Nat, x < 2 ^ 200 → Does B "_div2n1n" 1 [.int x, .int b, .int n] (.tup [.int (x / b : Nat), .int (x % b : Nat)])) (hb : 0 < b) (hb2 : b < 2 ^ 60) (hbits : Builtin.Int.intBits b = n) (hn2 : n ≤ 64) (hk2 : k ≤ 69) (hx : a < 2 ^ (n * k)) :
    CallP B 71 (.ref f) [.int a, .int b] .none (.tup [.int (a / b : Nat), .int (a % b : Nat)]) .none := by
  obtain ⟨ls, hls⟩ : ∃ ls, ls = (D n a k).reverse := ⟨_, rfl⟩
  have hlen : ls.length = k := by rw [hls, List.length_reverse, D_len]
  have htk : ls.take k = ls := by rw [← hlen, List.take_length]
  have hr : ls.reverse = D n a k := by rw [hls, List.reverse_reverse]
  have hdig : ∀ d ∈ ls, d < 2 ^ n := fun d h => D_dig n a k d (by rw [hls] at h; exact List.mem_reverse.mp h)
  obtain ⟨e1, e2⟩ := run_ok n b hb (D n a k)
  rw [V_D n k a hx] at e1 e2
  refine .of2 (x := "a") (y := "b") (σ' := ⟨[], .none⟩) Df (fun A X L => EvSs.to (.cons (.assign (v := .int n) (.say (.meth0 (.name rfl) .bitlen (BuiR.cal .bitlen)) (congrArg (fun x : Nat => MV.int x) hbits))) (.cons (.assign (.does C1 (.cons (.name rfl) (.cons (.name rfl) .nil)) (by exact Nat.le_refl _)))
    (.cons (.assign .int) (.own (k := 2) (loc := [("r", .int (a % b : Nat)), ("n", .int n)]) (l' := nats (run n b (D n a k)).1) (.list .nil) rfl (fun Al Y => ?_) (.cons (.assign (.does (C2 _ (run_dig n b hb _ (D_dig n a k)) (by rw [run_len, D_len])) (.cons (.name rfl) (.cons (.name rfl) .nil)) (by exact Nat.le_refl _)))
      (.ret (.ret (.tup (.cons (.say (.name rfl) (congrArg (fun x : Nat => MV.int x) e1)) (.cons (.name rfl) .nil)))))) rfl)))) trivial) .ret
  refine .cons (.forRev (N := k) (τ := dS ls b n Al) (σ' := dS ls b n Al k) (.to (τ := dS ls b n Al 0) (.name (v := .list (nats (D n a k))) rfl) ⟨rfl, rfl, rfl, rfl, trivial⟩) rfl (fun Y => ⟨fun i hi => ?_, .inl ⟨by rw [List.length_map, D_len], rfl⟩⟩) (fun _ _ _ => Iff.rfl) (fun _ => Iff.rfl)) (.cons (.to (τ := ⟨[("q_digits", .ref Al), ("r", .int (a % b : Nat)), ("n", .int n)], _⟩) (.expr (.meth0 (.name rfl) .reverse (.reverse ?_))) ⟨rfl, ?_, rfl, trivial⟩ ?_) .nil)
  · obtain ⟨d, hd⟩ : ∃ d, ls[i]? = some d := ⟨_, List.getElem?_eq_getElem (hlen ▸ hi)⟩
    have hv : (nats (D n a k)).reverse.getD i .none = .int (d : Nat) := by rw [← List.map_reverse, ← hls, List.getD_eq_getElem?_getD, List.getElem?_map, hd]; rfl
    have hrun : run n b (ls.take (i + 1)).reverse = (((run n b (ls.take i).reverse).2 * 2 ^ n + d) / b :: (run n b (ls.take i).reverse).1, ((run n b (ls.take i).reverse).2 * 2 ^ n + d) % b) := by
      rw [List.take_add_one, hd]
      simp only [Option.toList, List.reverse_append, List.reverse_cons, List.reverse_nil, List.nil_append, List.singleton_append, run]
    have hrl := run_lt n b hb (ls.take i).reverse
    have hql : (run n b (ls.take i).reverse).1.length ≤ k := by rw [run_len, List.length_reverse, List.length_take]; omega
    have hdl := hdig d (List.mem_of_getElem? hd)
    have pn : 2 ^ n ≤ 2 ^ 64 := Nat.pow_le_pow_right (by decide) hn2
    have bd : (run n b (ls.take i).reverse).2 * 2 ^ n + d < 2 ^ 200 := by
      have h1 : (run n b (ls.take i).reverse).2 * 2 ^ n ≤ 2 ^ 60 * 2 ^ 64 := Nat.mul_le_mul (Nat.le_of_lt (Nat.lt_trans hrl hb2)) pn
      have h2 : d < 2 ^ 64 := Nat.lt_of_lt_of_le hdl pn
      omega
    show Turn B _ _ _ ((nats (D n a k)).reverse.getD i .none) _ _ _
    rw [hv]
    refine ⟨_, .name, EvSs.to (.cons (.pair (.does (C3 _ bd) (.cons (.say (.bin (.bin (.name rfl) (.name rfl) (.shl (Int.natCast_nonneg n) (by omega) (by rw [Int.natAbs_natCast]; omega))) (.name rfl) .add) (congrArg MV.int (by rw [Int.toNat_natCast]; push_cast; rfl))) (.cons (.name rfl) (.cons (.name rfl) .nil))) (by exact Nat.le_add_left 1 69)) (.inl rfl))
      (.cons (.expr (.meth1 (.name rfl) (.cons (.name rfl) .nil) .append (.append (by rw [List.length_map, List.length_reverse]; omega)))) .nil)) ⟨rfl, ?_, rfl, rfl, trivial⟩ ?_⟩
    · show _ = some (MV.int ((run n b (ls.take (i + 1)).reverse).2 : Nat))
      rw [hrun]; rfl
    · show _ = Mut.lst Al (nats (run n b (ls.take (i + 1)).reverse).1.reverse)
      rw [hrun]
      exact congrArg (Mut.lst Al) (by rw [List.reverse_cons]; exact (List.map_append (f := fun d : Nat => MV.int d) (l₂ := [_])).symm)
  · rw [List.length_map, List.length_reverse, run_len, List.length_reverse, List.length_take]; omega
  · show some (MV.int ((run n b (ls.take k).reverse).2 : Nat)) = _
    rw [htk, hr, e2]
  · show Mut.lst Al (nats (run n b (ls.take k).reverse).1.reverse).reverse = _
    rw [htk, hr, ← List.map_reverse, List.reverse_reverse]
end
end U13
end
noncomputable section
open PySem PySem.W PySem.Spec PySem.Calls PyProof.Rows
namespace U13
theorem CallP.mono {B : Base} {m n : Nat} {f : Value} {args : List MV} {μ μ' : Mut} {v : MV} (C : CallP B m f args μ v μ') (h : m ≤ n) : CallP B n f args μ v μ' := fun A X s vs hh hd hu => C A X s vs hh (Nat.lt_of_le_of_lt (Nat.add_le_add_left h _) hd) (Nat.lt_of_le_of_lt (Nat.add_le_add_left (Nat.mul_le_mul_left 10 h) _) hu)
section
variable {B : Base} {f : Addr} {pm cd doc : Value} {μ : Mut}
theorem dm_neg (a : Int) {b : Int} (hb : 0 < b) : Builtin.bitNot ((Builtin.bitNot a).fdiv b) = a.fdiv b ∧ b + Builtin.bitNot ((Builtin.bitNot a).fmod b) = a.fmod b := by
  have h0 := Int.le_of_lt hb
  rw [Int.fdiv_eq_ediv_of_nonneg _ h0, Int.fdiv_eq_ediv_of_nonneg _ h0, Int.fmod_eq_emod_of_nonneg _ h0, Int.fmod_eq_emod_of_nonneg _ h0]
  unfold Builtin.bitNot
  have h1 := Int.emod_nonneg (-a - 1) (Int.ne_of_gt hb)
  have h2 := Int.emod_lt_of_pos (-a - 1) hb
  have h3 := Int.mul_ediv_add_emod (-a - 1) b
  have := (Int.ediv_emod_unique (a := a) (b := b) (q := -((-a - 1) / b) - 1) (r := b + (-((-a - 1) % b) - 1)) hb).mpr ⟨by rw [Int.mul_sub, Int.mul_neg]; omega, by omega, by omega⟩
  exact ⟨this.1.symm, this.2.symm⟩
/-- what int_divmod gives -/
def dmR (a b : Int) : MV := .tup [.int (a.fdiv b), .int (a.fmod b)]
theorem dm0 {a b : Int} (D : IsFn B f (fD "int_divmod" pm cd doc) (tD "int_divmod").2.1) (ha : 0 ≤ a) (hb : 0 < b) (C : Does B "_divmod_pos" 71 [.int a, .int b] (dmR a b)) : CallP B 72 (.ref f) [.int a, .int b] .none (dmR a b) .none :=
  .of2 (x := "a") (y := "b") (σ' := ⟨[], .none⟩) D (fun A X L => EvSs.to (.ret (.if (b := false) (.cmp (.name rfl) .int (OpR.eq.say (congrArg MV.bool (beq_eq_false_iff_ne.mpr (by omega))))) (.ret (.if (b := false) (.cmp (.name rfl) .int (OpR.lt.say (congrArg MV.bool (decide_eq_false (by omega)))))
    (.ret (.if (b := false) (.cmp (.name rfl) .int (OpR.lt.say (congrArg MV.bool (decide_eq_false (by omega))))) (.ret (.ret (.does C (.cons (.name rfl) (.cons (.name rfl) .nil)) (by exact Nat.le_refl _)))))))))) trivial) .ret
theorem dm1 {a b : Int} (D : IsFn B f (fD "int_divmod" pm cd doc) (tD "int_divmod").2.1) (m : B.mg "int_divmod" = some (.ref f)) (ha : a < 0) (hb : 0 < b) (C : CallP B 72 (.ref f) [.int (Builtin.bitNot a), .int b] .none (dmR (Builtin.bitNot a) b) .none) : CallP B 73 (.ref f) [.int a, .int b] .none (dmR a b) .none :=
  .of2 (x := "a") (y := "b") (σ' := ⟨[], .none⟩) D (fun A X L => EvSs.to (.ret (.if (b := false) (.cmp (.name rfl) .int (OpR.eq.say (congrArg MV.bool (beq_eq_false_iff_ne.mpr (by omega))))) (.ret (.if (b := false) (.cmp (.name rfl) .int (OpR.lt.say (congrArg MV.bool (decide_eq_false (by omega)))))
    (.ret (.if (b := true) (.cmp (.name rfl) .int (OpR.lt.say (congrArg MV.bool (decide_eq_true ha)))) (.cons (.pair (.does ⟨f, _, _, D, m, C⟩ (.cons (.inv (.name rfl)) (.cons (.name rfl) .nil)) (by exact Nat.le_refl _)) (.inl rfl))
      (.ret (.ret (.say (.tup (.cons (.inv (.name rfl)) (.cons (.bin (.name rfl) (.inv (.name rfl)) .add) .nil))) (by
        have h := dm_neg a hb
        exact congrArg MV.tup (by rw [h.1, h.2])))))))))))) trivial) .ret
theorem dm2 {a b : Int} (D : IsFn B f (fD "int_divmod" pm cd doc) (tD "int_divmod").2.1) (m : B.mg "int_divmod" = some (.ref f)) (hb : b < 0) (C : CallP B 73 (.ref f) [.int (-a), .int (-b)] .none (dmR (-a) (-b)) .none) : CallP B 74 (.ref f) [.int a, .int b] .none (dmR a b) .none :=
  .of2 (x := "a") (y := "b") (σ' := ⟨[], .none⟩) D (fun A X L => EvSs.to (.ret (.if (b := false) (.cmp (.name rfl) .int (OpR.eq.say (congrArg MV.bool (beq_eq_false_iff_ne.mpr (by omega))))) (.ret (.if (b := true) (.cmp (.name rfl) .int (OpR.lt.say (congrArg MV.bool (decide_eq_true hb))))
    (.cons (.pair (.does ⟨f, _, _, D, m, C⟩ (.cons (.neg (.name rfl)) (.cons (.neg (.name rfl)) .nil)) (by exact Nat.le_refl _)) (.inl rfl)) (.ret (.ret (.say (.tup (.cons (.name rfl) (.cons (.neg (.name rfl)) .nil))) (by
        exact congrArg MV.tup (by rw [Int.neg_fdiv_neg, Int.neg_fmod_neg, Int.neg_neg])))))))))) trivial) .ret
end
end U13
end
noncomputable section
open PySem PySem.W PySem.Spec PySem.Calls PyProof.Rows
namespace U13
/-- a def of the top, where the ground says -/
def TF (B : Base) (x : Str) (f : Addr) (cd : Value) : Prop := ∃ pm doc, IsFn B f (fD x pm cd doc) (tD x).2.1 ∧ B.mg x = some (.ref f)
def TN (B : Base) (x : Str) (i : Nat) (q : Str) : Prop := ∃ f c P, TF B x f (.ref c) ∧ tabI x i q c P ∈ B.tabs ∧ ∀ t' ∈ B.tabs, t'.P = P → t' = tabI x i q c P
structure FnsA (B : Base) : Prop where
  div2 : ∃ f cd, TF B "_div2n1n" f cd
  i2d : TN B "_int2digits" 1 "_int2digits.<locals>.inner"
  d2i : TN B "_digits2int" 0 "_digits2int.<locals>.inner"
  dpos : ∃ f cd, TF B "_divmod_pos" f cd
  idiv : ∃ f cd, TF B "int_divmod" f cd
  lim : ∃ t, B.mg "_DIV_LIMIT" = some (.int 4000 t)
theorem TF.re {B : Base} {x : Str} {f : Addr} {cd : Value} {h₁ : Heap} {k : ∀ b o, B.h₁.get? b = some o → h₁.get? b = some o} : TF B x f cd → TF (B.re h₁ k) x f cd := fun ⟨pm, doc, D, m⟩ => ⟨pm, doc, D.re, m⟩
theorem bits_nat (x : Nat) : x < 2 ^ Builtin.Int.intBits x := by simpa using (intBits_le_iff (x := (x : Int))).mp (Nat.le_refl _)
theorem intdm0 {B : Base} (F : FnsA B) {a b : Nat} (hb : 0 < b) (ha : a < 2 ^ 60) (hb2 : b < 2 ^ 60) : Does B "_divmod_pos" 71 [.int a, .int b] (dmR a b) := by
  obtain ⟨f4, cd4, pm4, doc4, D4, m4⟩ := F.dpos
  obtain ⟨f1, cd1, pm1, doc1, D1, m1⟩ := F.div2
  obtain ⟨f2, c2, P2, ⟨pm2, doc2, D2, m2⟩, t2, u2⟩ := F.i2d
  obtain ⟨f3, c3, P3, ⟨pm3, doc3, D3, m3⟩, t3, u3⟩ := F.d2i
  obtain ⟨t, hL⟩ := F.lim
  have na := bits_nat a
  have nb := bits_nat b
  have p60 : Builtin.Int.intBits a ≤ 60 := intBits_le_iff.mpr (by simpa using ha)
  have n60 : Builtin.Int.intBits b ≤ 60 := intBits_le_iff.mpr (by simpa using hb2)
  have hp : Builtin.Int.intBits a = 0 → a = 0 := fun e => by rw [e] at na; omega
  have hp' : a = 0 → Builtin.Int.intBits a = 0 := fun e => by subst e; rfl
  have hn : Builtin.Int.intBits b ≠ 0 := fun e => by rw [e] at nb; omega
  generalize hp0 : Builtin.Int.intBits a = p at na p60 hp hp'
  generalize hbits : Builtin.Int.intBits b = n at nb n60 hn
  have n0 : 0 < n := Nat.pos_of_ne_zero hn
  obtain ⟨k, hk⟩ : ∃ k, k = (p + n - 1) / n := ⟨_, rfl⟩
  have dv := Nat.div_add_mod (p + n - 1) n
  have md := Nat.mod_lt (p + n - 1) n0
  rw [← hk] at dv
  have kp : k ≤ p := by
    rw [hk]
    exact Nat.le_of_lt_succ (Nat.div_lt_of_lt_mul (by rw [Nat.mul_succ]; have := Nat.le_mul_of_pos_left p n0; omega))
  have k1 : n * (k - 1) ≤ 63 := by
    cases k with
    | zero => exact Nat.zero_le _
    | succ k => rw [Nat.mul_succ] at dv; show n * k ≤ 63; omega
  have hx : a < 2 ^ (n * k) := Nat.lt_of_lt_of_le na (Nat.pow_le_pow_right (by decide) (by omega))
  have hki : ((p : Int) + n - 1).fdiv n = k := by
    rw [Int.fdiv_eq_ediv_of_nonneg _ (Int.natCast_nonneg n), show ((p : Int) + n - 1) = ((p + n - 1 : Nat) : Int) by omega, hk]
    rfl
  have hz : 0 < a ↔ 0 < k := by
    refine ⟨fun h => ?_, fun h => Nat.pos_of_ne_zero fun e => ?_⟩
    · rw [hk]; exact Nat.div_pos (by have : p ≠ 0 := fun e => by have := hp e; omega
                                     omega) n0
    · have := hp' e; omega
  refine ⟨f4, _, _, D4, m4, ?_⟩
  rw [show dmR (a : Int) (b : Int) = .tup [.int ((a / b : Nat) : Int), .int ((a % b : Nat) : Int)] by rw [dmR, Int.fdiv_eq_ediv_of_nonneg _ (Int.natCast_nonneg b), Int.fmod_eq_emod_of_nonneg _ (Int.natCast_nonneg b)]; rfl]
  refine divpos (n := n) (k := k) D4 ⟨f2, _, _, D2, m2, int2dig D2 t2 u2 rfl n0 (by omega) (by rw [hp0]; exact hki) (by omega) (by omega) hx ha hz⟩ (fun ds hd hl => ⟨f3, _, _, D3, m3, dig2int D3 t3 u3 rfl hd (by omega) (by rw [hl]; exact k1)⟩) (fun x hx => ⟨f1, _, _, D1, m1, ?_⟩) hb hb2 hbits (by omega) (by omega) hx
  have e : MV.tup [.int ((x / b : Nat) : Int), .int ((x % b : Nat) : Int)] = .tup [.int ((x : Int).fdiv b), .int ((x : Int).fmod b)] := by rw [Int.fdiv_eq_ediv_of_nonneg _ (Int.natCast_nonneg b), Int.fmod_eq_emod_of_nonneg _ (Int.natCast_nonneg b)]; rfl
  rw [e]
  have hx2 : Builtin.Int.intBits x ≤ 200 := intBits_le_iff.mpr (by simpa using hx)
  exact div2 D1 hL (by omega) (by rw [Int.natAbs_natCast]; exact Nat.lt_trans ((Nat.log2_lt (Nat.ne_of_gt hb)).mpr hb2) (by decide)) (by omega)
theorem intdm {B : Base} (F : FnsA B) {a b : Int} (hb : b ≠ 0) (ha : a.natAbs < 2 ^ 59) (hb2 : b.natAbs < 2 ^ 59) : Does B "int_divmod" 74 [.int a, .int b] (dmR a b) := by
  obtain ⟨f, cd, pm, doc, D, m⟩ := F.idiv
  have pos : ∀ {a b : Int}, 0 ≤ a → 0 < b → a.natAbs < 2 ^ 60 → b.natAbs < 2 ^ 60 → CallP B 72 (.ref f) [.int a, .int b] .none (dmR a b) .none := fun {a b} h1 h2 h3 h4 => by
    obtain ⟨a, rfl⟩ := Int.eq_ofNat_of_zero_le h1
    obtain ⟨b, rfl⟩ := Int.eq_ofNat_of_zero_le (Int.le_of_lt h2)
    exact dm0 D h1 h2 (intdm0 F (by omega) h3 h4)
  have any : ∀ {a b : Int}, 0 < b → a.natAbs < 2 ^ 59 → b.natAbs < 2 ^ 59 → CallP B 73 (.ref f) [.int a, .int b] .none (dmR a b) .none := fun {a b} h2 h3 h4 => by
    by_cases h : a < 0
    · exact dm1 D m h h2 (pos (by unfold Builtin.bitNot; omega) h2 (by unfold Builtin.bitNot; omega) (by omega))
    · exact (pos (by omega) h2 (by omega) (by omega)).mono (by decide)
  refine ⟨f, _, _, D, m, ?_⟩
  by_cases h : b < 0
  · exact dm2 D m h (any (by omega) (by omega) (by omega))
  · exact (any (by omega) ha hb2).mono (by decide)
end U13
end
noncomputable section
open PySem PySem.W PySem.Spec PySem.Calls PyProof.Rows
namespace U13
section
variable {B : Base} {f : Addr} {pm cd doc : Value} {μ : Mut}
def signs : Str := "( ) [ ] : , ; + - * / | & < > = . % { } == != <= >= ~ ^ << >> ** += -= *= /= %= &= |= ^= <<= >>= **= // //= @ @= -> ... := !"
def sg (n : Int) : Str := (Txt.split signs " ").getD (n - 7).toNat (Str.ofString "")
theorem sg_len : (Txt.split signs " ").length = 48 := by decide +kernel
theorem sign {n : Int} (D : IsFn B f (fD "_law_sign" pm cd doc) (tD "_law_sign").2.1) (h7 : 7 ≤ n) (h54 : n < 55) : CallP B 1 (.ref f) [.int n] μ (.str (sg n)) μ := by
  have hi : (n - 7).toNat < (Txt.split signs " ").length := by rw [sg_len]; omega
  refine .of1 (x := "number") (σ' := ⟨_, μ⟩) D (fun A X L => .cons (.assign .str) (.ret (.ret (.sub (.meth1 (.name rfl) (.cons .str .nil) .split (BuiR.cal (.split (x := signs) (y := " ") (by decide +kernel) (by decide +kernel) (by decide +kernel) (by decide +kernel) (by decide +kernel) rfl))) (.bin (.name rfl) .int .sub)
    (.list (v := .str (sg n)) (by omega) (by omega) ?_))))) .ret
  rw [List.getElem?_map, List.getElem?_eq_getElem hi, sg, List.getD_eq_getElem?_getD, List.getElem?_eq_getElem hi]; rfl
end
end U13
end
noncomputable section
open PySem PySem.W PySem.Spec PySem.Calls PyProof.Rows
open Builtin.Str (tooLong)
namespace U13
/-- a block that takes no name of its frame's cells -/
theorem Comp.noCell {B : Base} {c : Cx} {σ : St} {iv : MV} {n : Nat} {val : Nat → MV} {elt target : Expr} {ifs : List Expr} {scope : Scope} {res : Nat → Option MV} (hcl : closureFor scope c.env = pure [])
    (hn : ∀ C, ((compEnvC scope [] C c.env).scope.names.all fun p => p.2 != .cell || ([] : List Str).contains p.1) = true) (hk : scope.kind = .function) (hcell : (scope.names.all fun x => x.2 != .cell) = true) (hloc : (scope.names.all fun x => x.2 != .local || scope.names.lookup x.1 == some .local) = true)
    (src : Src B c target iv n val) (hz : n ≤ 1000000) (turn : ∀ I D C i, i < n → TurnC B (bx c I D (compEnvC scope [] C c.env)) target ifs elt (val i) ⟨[], σ.mu⟩ (res i)) : Comp B c σ target iv n val ifs elt scope [] [] res where
  clos := hcl
  kind := hk
  cell := fun x hx e => absurd (List.all_eq_true.mp hcell x hx) (by rw [e]; decide)
  names := fun x hx e => by have := List.all_eq_true.mp hloc x hx; rw [e] at this; exact beq_iff_eq.mp (by simpa using this)
  cap := fun C => capOk_of [] (hn C) fun x h => nomatch h
  hcap := fun _ _ _ e => nomatch e
  hcap' := fun C x v e => nomatch cap_in [] (hn C) e
  src := src
  turn := turn
  size := hz
def pc (b : Int) (n : Int) : Str := Txt.mul " " b ++ sg n
def txt (ps : List (Int × Int)) : Str := Txt.join "" (ps.map fun p => pc p.1 p.2)
theorem mulOk {b : Int} (h : 0 ≤ b) (h2 : b ≤ 1000) : MulOk " " b := by
  refine ⟨by simp; omega, fun _ _ => ?_, fun _ _ => ?_⟩
  · have : ((Str.ofString " ").length : Int) = 1 := by decide +kernel
    rw [this]
    have h0 : 0 < b := by omega
    rw [gt_iff_lt, Int.not_lt]
    exact (Int.le_ediv_iff_mul_le h0).mpr (by omega)
  · have : (Str.ofString " ").length = 1 := by decide +kernel
    rw [this, tooLong]
    rw [decide_eq_false_iff_not, sizeLine_eq]; omega
theorem mul_len {b : Int} (h : 0 ≤ b) : (Txt.mul " " b).length = b.toNat := by
  have h1 : (Str.ofString " ").length = 1 := by decide +kernel
  unfold Txt.mul
  split
  · have : b = 0 := by omega
    subst this; rfl
  · split
    · rename_i _ q
      rw [h1] at q ⊢
      simp at q; omega
    · have : ∀ (n : Nat) (a : Array Nat), ((List.replicate n (Str.ofString " ").cps).foldl (· ++ ·) a).size = a.size + n := by
        intro n
        induction n with
        | zero => intro a; rfl
        | succ n ih => intro a; rw [List.replicate_succ, List.foldl_cons, ih, Array.size_append, show (Str.ofString " ").cps.size = 1 from h1]; omega
      show Array.size _ = _
      rw [this]; simp
theorem sg_le (n : Int) : (sg n).length ≤ 3 := by
  have : ∀ x ∈ Txt.split signs " ", x.length ≤ 3 := by decide +kernel
  rw [sg, List.getD_eq_getElem?_getD]
  cases e : (Txt.split signs " ")[(n - 7).toNat]? with
  | none => exact Nat.le_of_ble_eq_true rfl
  | some x => exact this x (List.mem_of_getElem? e)
/-- the pieces as they should be -/
def PcOk (p : Int × Int) : Prop := 0 ≤ p.1 ∧ p.1 ≤ 60 ∧ 7 ≤ p.2 ∧ p.2 < 55
theorem pc_len {b n : Int} (h : 0 ≤ b) (h2 : b ≤ 60) : (pc b n).length ≤ 63 := by
  have h1 := mul_len h
  have h3 := sg_le n
  rw [pc, Str.length_append, h1]; omega
section
variable {B : Base} {f fs : Addr} {pm cd doc pm' cd' doc' : Value}
theorem textS {ps : List (Int × Int)} (D : IsFn B f (fD "_law_text" pm cd doc) (tD "_law_text").2.1) (D' : IsFn B fs (fD "_law_sign" pm' cd' doc') (tD "_law_sign").2.1) (hS : B.mg "_law_sign" = some (.ref fs))
    (hp : ∀ p ∈ ps, PcOk p) (hl : ps.length ≤ 100) : CallP B 2 (.ref f) [pcs ps] .none (.str (txt ps)) .none := by
  have hlen : ((ps.map fun p => MV.list [.int p.1, .int p.2])).length = ps.length := List.length_map ..
  refine .of1 (x := "pieces") (σ' := ⟨_, .none⟩) D (fun A X L => .ret (.ret (.meth1 (vs := [.list ((ps.map fun p => pc p.1 p.2).map .str)]) .str (.cons (.say (.comp (res := fun i => some (.str (pc (ps.getD i (0, 0)).1 (ps.getD i (0, 0)).2))) (.name rfl)
    (.noCell rfl (fun _ => rfl) rfl rfl rfl (.list (.inr ⟨⟨_, _, _, rfl⟩, ?_⟩)) (by rw [hlen]; omega) (fun I D C i hi => ?_))) ?_) .nil) .join (BuiR.cal (.join ?_))))) .ret
  · intro v hv
    obtain ⟨p, _, rfl⟩ := List.mem_map.mp hv
    exact ⟨_, _, .inr rfl⟩
  · rw [hlen] at hi
    obtain ⟨p, hp'⟩ : ∃ p, ps[i]? = some p := ⟨_, List.getElem?_eq_getElem hi⟩
    obtain ⟨h1, h2, h3, h4⟩ := hp p (List.mem_of_getElem? hp')
    have e : (ps.map fun p => MV.list [.int p.1, .int p.2]).getD i .none = .list [.int p.1, .int p.2] := by rw [List.getD_eq_getElem?_getD, List.getElem?_map, hp']; rfl
    have e' : ps.getD i (0, 0) = p := by rw [List.getD_eq_getElem?_getD, hp']; rfl
    rw [e, e']
    have := sg_le p.2
    have hm := mul_len h1
    exact ⟨_, _, .pair (.inr rfl), .nil, .to (.bin (.bin .str (.name rfl) (.smul (mulOk h1 (by omega)))) (.call D' hS (.cons (.name rfl) .nil) (sign D' h3 h4) (Nat.le_refl _) fun _ w => w) (.sadd (by omega))) trivial⟩
  · rw [hlen]
    refine congrArg MV.list ?_
    rw [List.map_map]
    apply List.ext_getElem?
    intro i
    by_cases hi : i < ps.length
    · rw [show List.filterMap (fun i => some (MV.str (pc (ps.getD i (0, 0)).1 (ps.getD i (0, 0)).2))) (List.range ps.length) = (List.range ps.length).map (fun i => MV.str (pc (ps.getD i (0, 0)).1 (ps.getD i (0, 0)).2)) from congrFun List.filterMap_eq_map _, List.getElem?_map, List.getElem?_map, List.getElem?_range hi, List.getElem?_eq_getElem hi]
      simp [List.getD_eq_getElem?_getD, hi]
    · rw [List.getElem?_eq_none, List.getElem?_eq_none]
      · simpa using Nat.le_of_not_lt hi
      · have := List.length_filterMap_le (fun i => some (MV.str (pc (ps.getD i (0, 0)).1 (ps.getD i (0, 0)).2))) (List.range ps.length)
        rw [List.length_range] at this; omega
  · have : ((ps.map fun p => pc p.1 p.2).map (·.length)).sum ≤ 63 * ps.length := by
      clear hlen hl
      induction ps with
      | nil => exact Nat.le_refl _
      | cons p r ih =>
        have h0 := hp p (.head _)
        have := pc_len (n := p.2) h0.1 h0.2.1
        have := ih fun q hq => hp q (.tail _ hq)
        simp only [List.map_cons, List.sum_cons, List.length_cons] at *
        omega
    have h0 : ("" : Str).length = 0 := rfl
    rw [h0]; omega
end
end U13
end
noncomputable section
open PySem PySem.W PySem.Spec PySem.Calls PyProof.Rows
namespace U13
section
variable {B : Base} {c : Cx} {σ σ₁ : St} {v : MV} {e : Expr} {pos p₁ : Pos} {k : Nat} {l : List MV}
theorem OpR.is0 : OpR B c (compareOp .Is) .none .none (.bool true) := fun _ _ x y R e e' => by
  cases e; cases e'; exact wpAny_is_self rfl ⟨.refl R, rfl⟩
theorem OpR.is1 : OpR B c (compareOp .Is) (.list l) .none (.bool false) := fun _ _ x y R ⟨_, _, e, _⟩ e' => by
  subst e; cases e'; exact wpAny_is_other rfl nofun ⟨.refl R, rfl⟩
end
/-- the class's own defs -/
def cB : List Stmt := match PySem.Challenge.pw_ul0013_01.main.body.find? (fun st => match st with | .ClassDef .. => true | _ => false) with
  | some (.ClassDef _ _ _ b _ _ _ _ _ _ _) => b
  | _ => []
def cM (x : Str) : Arguments × List Stmt × Scope := match cB.find? (fun st => match st with | .FunctionDef n .. => n == x | _ => false) with
  | some (.FunctionDef _ ps b _ _ _ sc _ _ _) => (ps, b, sc)
  | _ => default
def fM (x : Str) (cl : List (Str × Addr)) (dV kV doc pm : Value) (an : Option Addr) (cd ct : Value) : FuncData := fnX x ("_Accumulator." ++ x) (cM x).1 (cM x).2.1 (cM x).2.2 cl dV kV doc pm an cd ct
def Dfl (B : Base) (dV d : Value) : Prop := ∃ T o m, dV = .ref T ∧ B.h₁.get? T = some o ∧ o.data = .seq #[d] m
section
variable {B : Base} {K : Frag} {f a dx : Addr} {kV doc pm cd ct dV d : Value} {an : Option Addr} {n : Int} {l l' : List MV} {t : Tok} {u v b : MV} {x y : Str} {fd : FuncData} {body : List Stmt} {μ : Mut} {σ' : St} {fl : MF} {k : Nat}
theorem CallP.of2d (D : IsFn B f fd body) (hD : Dfl B fd.defaults d) (H : ∀ A X L, EvSs B (cxE A X k (callEnv fd L f)) body ⟨[(y, b), (x, u)], μ⟩ fl σ') (hO : Out v fl)
    (hb : ∀ u u', ∃ k, bindArgs fd ⟨[u, u'], []⟩ = seqItems? fd.defaults >>= k ∧ k (some #[d]) = pure [(x, u), (y, u')] := by intro _ _; exact ⟨_, rfl, rfl⟩) (hl : fd.scope.names.lookup x = some .local := by rfl) (hl' : fd.scope.names.lookup y = some .local := by rfl) (hc : (fd.scope.names.all fun x => x.2 != .cell) = true := by rfl) : CallP B (k + 1) (.ref f) [u, b] μ v σ'.mu :=
  .of (loc := [(x, u), (y, b)]) (fr := []) D (fun X s vs hk q => by
    obtain ⟨u, _, rfl, q, u', _, rfl, q', rfl⟩ := q
    obtain ⟨T, o, m, e1, e2, e3⟩ := hD
    obtain ⟨k, h1, h2⟩ := hb u u'
    exact ⟨_, .of_defaults e1 (hk _ _ e2) e3 h1 h2, u, _, rfl, q, u', _, rfl, q', rfl⟩) (List.forall_mem_cons.mpr ⟨hl, List.forall_mem_cons.mpr ⟨hl', fun _ h => nomatch h⟩⟩) H hO hc trivial
theorem CallP.of1d (D : IsFn B f fd body) (hD : Dfl B fd.defaults d) (hd : ∀ X h, VR X h b d) (H : ∀ A X L, EvSs B (cxE A X k (callEnv fd L f)) body ⟨[(y, b), (x, u)], μ⟩ fl σ') (hO : Out v fl)
    (hb : ∀ u, ∃ k, bindArgs fd ⟨[u], []⟩ = seqItems? fd.defaults >>= k ∧ k (some #[d]) = pure [(x, u), (y, d)] := by intro _; exact ⟨_, rfl, rfl⟩) (hl : fd.scope.names.lookup x = some .local := by rfl) (hl' : fd.scope.names.lookup y = some .local := by rfl) (hc : (fd.scope.names.all fun x => x.2 != .cell) = true := by rfl) : CallP B (k + 1) (.ref f) [u] μ v σ'.mu :=
  .of (loc := [(x, u), (y, b)]) (fr := []) D (fun X s vs hk q => by
    obtain ⟨u, _, rfl, q, rfl⟩ := q
    obtain ⟨T, o, m, e1, e2, e3⟩ := hD
    obtain ⟨k, h1, h2⟩ := hb u
    exact ⟨_, .of_defaults e1 (hk _ _ e2) e3 h1 h2, u, _, rfl, q, d, _, rfl, hd _ _, rfl⟩) (List.forall_mem_cons.mpr ⟨hl, List.forall_mem_cons.mpr ⟨hl', fun _ h => nomatch h⟩⟩) H hO hc trivial
theorem rpush (T : RowK B K) (D : IsFn B f (fM "push" [] .none kV doc pm an cd ct) (cM "push").2.1) (hl : l.length ≤ 1000000) : CallP B 1 (.ref f) [.ref a, u, b] (.row a dx n l) .none (.row a dx n (l ++ [.tup [u, b]])) :=
  .of3 (x := "self") (y := "fws") (z := "string") (σ' := ⟨_, .row a dx n (l ++ [.tup [u, b]])⟩) D (fun A X L => .cons (.expr (.meth1 (.name rfl) (.cons (.tup (.cons (.name rfl) (.cons (.name rfl) .nil))) .nil) (.rappend T) (.rappend T hl))) .nil) .next
theorem popB (T : RowK B K) (hl : l.length ≤ 1000000) : ∀ A X L, EvSs B (cxE A X 0 (callEnv (fM "pop_from" [] dV kV doc pm an cd ct) L f)) (cM "pop_from").2.1 ⟨[("i", .int k), ("self", .ref a)], .row a dx n l⟩ (.ret (.list (l.drop k))) ⟨[("popped", .list (l.drop k)), ("i", .int k), ("self", .ref a)], .row a dx n (l.take k)⟩ := fun A X L =>
  .cons (.assign (.rcut (k := k) T (.name rfl) (.some (.name rfl)) hl)) (.cons (.to (τ := ⟨[("popped", .list (l.drop k)), ("i", .int k), ("self", .ref a)], .row a dx n (l.take k)⟩) (.rput (k := some k) T (.list .nil) (.name rfl) (.some (.name rfl)) hl) ⟨rfl, rfl, rfl, trivial⟩ (congrArg (Mut.row a dx n) (List.append_nil _))) (.ret (.ret (.name rfl))))
theorem rpop (T : RowK B K) (D : IsFn B f (fM "pop_from" [] dV kV doc pm an cd ct) (cM "pop_from").2.1) (hD : Dfl B dV d) (hl : l.length ≤ 1000000) : CallP B 1 (.ref f) [.ref a, .int k] (.row a dx n l) (.list (l.drop k)) (.row a dx n (l.take k)) :=
  .of2d (x := "self") (y := "i") D hD (popB T hl) .ret
theorem rpop0 (T : RowK B K) (D : IsFn B f (fM "pop_from" [] dV kV doc pm an cd ct) (cM "pop_from").2.1) (hD : Dfl B dV (.int 0 t)) (hl : l.length ≤ 1000000) : CallP B 1 (.ref f) [.ref a] (.row a dx n l) (.list l) (.row a dx n []) :=
  .of1d (x := "self") (y := "i") (b := .int (0 : Nat)) D hD (fun _ _ => ⟨t, rfl⟩) (popB (k := 0) T hl) .ret
theorem resetB (T : RowK B K) (hl : l.length + l'.length ≤ 1000000) (H : ∀ A X L, EvS B (cxE A X 0 (callEnv (fM "reset" [] dV kV doc pm an cd ct) L f)) ((cM "reset").2.1.getD 0 (.Pass default)) ⟨[("startval", u), ("self", .ref a)], .row a dx n l⟩ .next ⟨[("startval", .list l'), ("self", .ref a)], .row a dx n l⟩) : ∀ A X L, EvSs B (cxE A X 0 (callEnv (fM "reset" [] dV kV doc pm an cd ct) L f)) (cM "reset").2.1 ⟨[("startval", u), ("self", .ref a)], .row a dx n l⟩ .next ⟨[], .row a dx 0 l'⟩ := fun A X L =>
  .to (.cons (H A X L) (.cons (.rput (k := none) T (.name rfl) (.name rfl) .none hl) (.cons (.rset T .int (.name rfl)) .nil))) trivial
theorem rreset (T : RowK B K) (D : IsFn B f (fM "reset" [] dV kV doc pm an cd ct) (cM "reset").2.1) (hD : Dfl B dV d) (hl : l.length + l'.length ≤ 1000000) : CallP B 1 (.ref f) [.ref a, .list l'] (.row a dx n l) .none (.row a dx 0 l') :=
  .of2d (x := "self") (y := "startval") D hD (resetB T hl fun A X L => .to (.if (b := false) (.cmp (.name rfl) .none .is1) .nil) ⟨rfl, rfl, trivial⟩) .next
theorem rreset0 (T : RowK B K) (D : IsFn B f (fM "reset" [] dV kV doc pm an cd ct) (cM "reset").2.1) (hD : Dfl B dV .none) (hl : l.length ≤ 1000000) : CallP B 1 (.ref f) [.ref a] (.row a dx n l) .none (.row a dx 0 []) :=
  .of1d (x := "self") (y := "startval") (b := .none) D hD (fun _ _ => rfl) (resetB (l := l) (l' := []) T (by simpa using hl) fun A X L => .to (.if (b := true) (.cmp (.name rfl) .none .is0) (.cons (.assign (.list .nil)) .nil)) ⟨rfl, rfl, trivial⟩) .next
end
end U13
end
noncomputable section
open PySem PySem.W PySem.Spec PySem.Calls PyProof.Rows Builtin Builtin.Str
namespace U13
theorem qualL {A : Around} {X : Addr → Prop} {k : Nat} {x : Str} {cl : List (Str × Addr)} {dV kV doc pm cd ct : Value} {an : Option Addr} {L f : Addr} : (cxE A X k (callEnv (fM x cl dV kV doc pm an cd ct) L f)).env.qual = (Str.ofString "_Accumulator." ++ x) ++ Str.ofString ".<locals>." := rfl
theorem qual2 : (Str.ofString "_Accumulator." ++ Str.ofString "__len__") ++ Str.ofString ".<locals>." ++ Str.ofString "<genexpr>" = Str.ofString "_Accumulator.__len__.<locals>.<genexpr>" := by decide +kernel
section
variable {B : Base} {K : Frag} {c : Cx} {σ : St} {a dx f : Addr} {n : Int} {loc : List (Str × MV)} {t : TabD} {ps : List (Str × Str)} {s : Shared} {x : Str} {v : MV} {pos : Pos} {kV doc pm ct dV : Value} {an : Option Addr}
theorem nameRaw {Q : Value → Shared → Prop} {E : Value → Shared → Prop} (R : Rel B c σ s.heap s.gens) (hv : σ.loc.lookup x = some v) (hd : (x == ("__debug__" : Str)) = false) (hn : (x == ("__classdict__" : Str)) = false) (h : ∀ v', VR c.X s.heap v v' → Q v' s) : wpAny (model B.prog B.w) c.A (eval (.Name x pos) c.env) Q E s := by
  obtain ⟨m, hm, q⟩ := R.loc
  obtain ⟨v', w, r⟩ := q x v hv
  refine wpAny_Name ?_ hd
  rcases w with ⟨hk, z⟩ | ⟨a, ⟨hk, ha⟩, hc⟩ | ⟨hk, a, ha, hc⟩
  · exact wpAny_loadName_local R.ok.hk hk hm z (h _ r)
  · exact wpAny_loadName_cell R.ok.hk hk ha hc (h _ r)
  · exact wpAny_loadName_free R.ok.hk hk ha (hc.keeps R.inv.base) (h _ r) hn
theorem lenG {A : Around} {E : Value → Shared → Prop} {env : Env} {m₂ : Str → Option Value} {w : Str} {tk : Tok} {p₁ p₂ : Pos} {Q : Value → Shared → Prop} (hw : w.length ≤ 1000) (hb : ∀ b o, B.h₁.get? b = some o → s.heap.get? b = some o) (hn : s.heap.Ns env.locals m₂) (hm : m₂ x = some (.str w tk)) (hd : (x == ("__debug__" : Str)) = false)
    (hk : env.kindOf x = some .local) (hl : env.kindOf "len" = some .globalImplicit) (hf : env.scope.kind = .function) (hg : env.globals = mainGlobals) (hbi : env.builtins = builtinsNs) (hQ : ∀ tk' k, Q (.int w.length tk') { s with toks := k })
    (h1 : eval (.Call (.Name "len" p₁) [.Name x p₂] [] pos) env = (do callWith pos (← eval (.Name "len" p₁) env) [] (backTo pos (starEach [.Name x p₂] env)) (backToKw pos (keywordEach [] env))) := by rfl)
    (h2 : starEach [.Name x p₂] env = (false, eval (.Name x p₂) env) :: starEach [] env := by rfl) : wpAny (model B.prog B.w) A (eval (.Call (.Name "len" p₁) [.Name x p₂] [] pos) env) Q E s :=
  Call_ (Name_function_global hf hl (loadGlobal_builtin (by rw [hg]; exact B.g.keeps hb) (B.free _ (by decide)) (by rw [hbi]; exact B.b.keeps hb) ((B.bi _ (by decide)).trans boot_len) (PyProof.Rows.callWith_builtin1 (args_cons (wpAny_Name (wpAny_loadName_local hf hk hn hm (args_nil (P.len_str (Int.not_le.mpr (small63 (by omega))) (hQ _ _)))) hd) h2) h2)) (by decide)) h1
def szs (ps : List (Str × Str)) : List Int := ps.map fun p => ((p.1.length : Int) + p.2.length)
theorem strs_row {F : Str × Str → Str} {vs : List (Str × Tok)} (hl : vs.length = ps.length) (h : ∀ (j : Nat) (v : Value), (strValues vs).toArray[j]? = some v → ∃ p : Str × Str, ps[j]? = some p ∧ ∃ u, v = .str (F p) u) : vs.map (·.1) = ps.map F := by
  apply List.ext_getElem?
  intro j
  by_cases hj : j < vs.length
  · obtain ⟨p, e, u, hv⟩ := h j (.str vs[j].1 vs[j].2) (by simp [strValues, List.getElem?_eq_getElem hj])
    injection hv with h1 _
    simp [List.getElem?_eq_getElem hj, e, h1]
  · rw [List.getElem?_eq_none (by simpa using Nat.le_of_not_lt hj), List.getElem?_eq_none (by rw [List.length_map]; omega)]
/-- a def with one generator within -/
def tabM (x : Str) (q : Str) (gp : Pos) (c P : Addr) : TabD := ⟨c, P, gp, q⟩
def gpL : Pos := match (cM "__len__").2.1 with
  | [.Return (some (.Call _ [.GeneratorExp _ _ _ p, _] _ _)) _] => p
  | _ => default
def gpS : Pos := match (cM "__str__").2.1 with
  | [.Return (some (.Call _ [.GeneratorExp _ _ _ p] _ _)) _] => p
  | _ => default
theorem rlen {cc P : Addr} (T : RowK B K) (D : IsFn B f (fM "__len__" [] .none kV doc pm an (.ref cc) ct) (cM "__len__").2.1) (ht : (⟨cc, P, gpL, "_Accumulator.__len__.<locals>.<genexpr>"⟩ : TabD) ∈ B.tabs) (hu : ∀ t' ∈ B.tabs, t'.P = P → t' = ⟨cc, P, gpL, "_Accumulator.__len__.<locals>.<genexpr>"⟩)
    (h0 : 0 ≤ n) (h1 : n < 1000000) (hp : ∀ p ∈ ps, p.1.length ≤ 1000 ∧ p.2.length ≤ 1000) : CallP B 1 (.ref f) [.ref a] (.row a dx n (rw ps)) (.int (n + (szs ps).sum)) (.row a dx n (rw ps)) := by
  refine .of1 (x := "self") (σ' := ⟨[("self", .ref a)], .row a dx n (rw ps)⟩) D (fun A X L => .ret (.ret fun s R => ?_)) .ret
  refine Call_ (builtinName R (B.free _ (by decide)) boot_sum (by decide) rfl (by decide) (PyProof.Rows.callWith_builtin1 (args_cons (wpAny_mono (genRow (t := ⟨cc, P, gpL, "_Accumulator.__len__.<locals>.<genexpr>"⟩) (ps := ps) (F := fun p y => ∃ u, y = .int ((p.1.length : Int) + p.2.length) u) (cl := []) (loc := [("self", .ref a)]) T ht hu rfl rfl (by rw [qualL]; exact qual2) (.name rfl) (fun A' E' C cc' s₂ m₂ p u v hA hb hn h1 h2 hp' => ?_) rfl rfl rfl rfl rfl rfl (by decide) rfl (by intro _; rfl) R) (fun v' s' z => ?_) fun _ _ z => z.elim))))
  · obtain ⟨l1, l2⟩ := hp p hp'
    exact wpAny_BinOp (lenG l1 hb hn h1 (by decide) rfl rfl rfl rfl rfl fun t1 k1 => lenG (s := { s₂ with toks := k1 }) l2 hb hn h2 (by decide) rfl rfl rfl rfl rfl fun t2 k2 => add_int ⟨⟨_, rfl⟩, _, _, rfl, fun _ _ e => e⟩)
  · obtain ⟨ga, fp, wr, gi, St, rfl, W, hst, hT, hga, hfp, gb, fin⟩ := z
    have R' := (fin s' (fun _ _ _ e => e) gb rfl).rel
    refine args_cons (Attribute_any_ (nameRaw R' rfl (by decide) (by decide) fun w hw => ?_))
    cases hw
    obtain ⟨hne, ws, ep, kt, tt, ed, I, _⟩ := R'.inv.row
    obtain ⟨cd, hc, _, hhd⟩ := T.F.cd
    refine get_row (R'.inv.frag T) I T.F.ga T.F.gt T.F.list (findObj_own (attr := Option.none) (v := Value.int n tt) (by unfold hasDictIn; rw [hc]; exact hhd) T.F.is rfl ?_) rfl (args_nil ?_)
    · show lookIn isz (dictOf [⟨_, .str isz kt, .int n tt⟩] ed) = _
      rw [lookIn_dict, getL_row]
    have st' := W.frame 0 s' s'.heap (s'.toks + 1) hst (Nat.le_succ _) fun _ _ _ e => e
    have W1 := W.in4_1
    refine call_sum2 h0 h1 (W1.self 0 _ _ _ st' ⟨ga, _, _, _, _, _, _, fun j => (szs ps).getD j 0, rfl, W1, st', hfp, fun j v ⟨p, e, u, hv⟩ => ⟨u, ?_⟩, fun s'' t'' hm => ⟨fin s'' (fun b o hb e => hm.heap b o hb e) (AllBare.movedS (s := { s' with toks := s'.toks + 1 }) gb hm) hm.os, t'', ?_⟩⟩)
    · rw [hv]; show _ = Value.int ((szs ps).getD j 0) u; rw [List.getD_eq_getElem?_getD, szs, List.getElem?_map, e]; rfl
    · rw [preSum_getD, List.take_of_length_le (by simp [szs])]
theorem qual3 : (Str.ofString "_Accumulator." ++ Str.ofString "__str__") ++ Str.ofString ".<locals>." ++ Str.ofString "<genexpr>" = Str.ofString "_Accumulator.__str__.<locals>.<genexpr>" := by decide +kernel
/-- a row's text -/
def rtx (ps : List (Str × Str)) : Str := Txt.join "" (ps.map fun p => Txt.join "" [p.1, p.2])
theorem rstr {cc P : Addr} {te : Tok} (T : RowK B K) (D : IsFn B f (fM "__str__" [] .none kV doc pm an (.ref cc) ct) (cM "__str__").2.1) (ht : (⟨cc, P, gpS, "_Accumulator.__str__.<locals>.<genexpr>"⟩ : TabD) ∈ B.tabs) (hu : ∀ t' ∈ B.tabs, t'.P = P → t' = ⟨cc, P, gpS, "_Accumulator.__str__.<locals>.<genexpr>"⟩)
    (hE : B.mg "EMPTYSTRING" = some (.str "" te)) (hp : ∀ p ∈ ps, p.1.length ≤ 1000 ∧ p.2.length ≤ 1000) (hl : ps.length ≤ 1000) : CallP B 1 (.ref f) [.ref a] (.row a dx n (rw ps)) (.str (rtx ps)) (.row a dx n (rw ps)) := by
  have e0 : (Str.ofString "").length = 0 := rfl
  refine .of1 (x := "self") (σ' := ⟨[("self", .ref a)], .row a dx n (rw ps)⟩) D (fun A X L => .ret (.ret fun s R => ?_)) .ret
  refine MethodCall_ (Name_function_global R.ok.hk rfl (loadGlobal_global (by rw [R.ok.hg]; exact B.g.keeps R.inv.base) hE (GM.join (PyProof.Rows.callWith_method1 (args_cons (wpAny_mono (genRow (t := ⟨cc, P, gpS, "_Accumulator.__str__.<locals>.<genexpr>"⟩) (ps := ps) (F := fun p y => ∃ u, y = .str (Txt.join "" [p.1, p.2]) u) (cl := []) (loc := [("self", .ref a)]) T ht hu rfl rfl (by rw [qualL]; exact qual3) (.name rfl) (fun A' E' C cc' s₂ m₂ p u v hA hb hn h1 h2 hp' => ?_) rfl rfl rfl rfl rfl rfl (by decide) rfl (by intro _; rfl) R) (fun v' s' z => ?_) fun _ _ z => z.elim))))) (by decide))
  · obtain ⟨l1, l2⟩ := hp p hp'
    refine MethodCall_ (Name_function_global rfl rfl (loadGlobal_global (B.g.keeps hb) hE (GM.join (PyProof.Rows.callWith_method1 (args_cons (Tuple_ (args_cons (wpAny_Name (wpAny_loadName_local rfl rfl hn h1 (args_cons (wpAny_Name (wpAny_loadName_local rfl rfl hn h2 (args_nil (wpAny_newObj_type (args_nil ?_) (small (by decide : 2 ≤ 1000))))) (by decide)))) (by decide)))))))) (by decide))
    refine join_tuple (items := #[.str p.1 u, .str p.2 v]) ⟨_, Heap.get?_push_size _ rfl, rfl, _, rfl⟩ (.cons _ _ (.cons _ _ .nil)) ?_ fun t' k => ⟨⟨_, rfl⟩, _, _, rfl, fun b o e => Heap.get?_push_of_some _ e⟩
    rw [e0]; simp only [List.map_cons, List.map_nil, List.sum_cons, List.sum_nil, Nat.mul_zero]; omega
  · obtain ⟨ga, fp, wr, gi, St, rfl, W, hst, hT, hga, hfp, gb, fin⟩ := z
    refine args_nil ?_
    refine SC.joinGen W.in4_2 hT hst hfp hga (fun j v ⟨p, _, u, e⟩ => ⟨_, u, e⟩) (fun s'' lt hm hacc => ?_) (Nat.le_trans hl (by rw [sizeLine_eq]; decide))
    have hlt : lt.length = ps.length := by simpa [strValues] using hacc.1
    rw [strs_row hlt hacc.2]
    have jl : ∀ l : List (Str × Str), (∀ p ∈ l, p ∈ ps) → ((l.map fun p => Txt.join "" [p.1, p.2]).map (·.length)).sum ≤ 2000 * l.length := by
      intro l
      induction l with
      | nil => intro _; exact Nat.le_refl _
      | cons p r ih =>
        intro hm'
        have h1 := ih fun q hq => hm' q (.tail _ hq)
        obtain ⟨l1, l2⟩ := hp p (hm' p (.head _))
        have h2 := StrLaws.join_length_le "" [p.1, p.2]
        rw [← StrLaws.glued_eq_join] at h2
        replace h2 : (Txt.join "" [p.1, p.2]).length ≤ _ := h2
        simp only [List.map_cons, List.map_nil, List.sum_cons, List.sum_nil, e0, Nat.mul_zero, List.length_cons] at h1 h2 ⊢
        omega
    refine ⟨joinOk_of ?_, fun t' k => ⟨fin _ (fun b o hb e => hm.heap b o hb e) (show AllBare s''.gens from gb.movedS hm) hm.os, t', rfl⟩⟩
    have := jl ps fun _ h => h
    rw [e0]; omega
end
end U13
end
noncomputable section
open PySem PySem.W PySem.Spec PySem.Calls PyProof.Rows Builtin Builtin.ObjectAttr
namespace U13
theorem bound_li (x : Addr) : checkBoundCall "list.__init__" ⟨[.ref x], []⟩ = pure () := by kernel_rfl
section
variable {prog : Program} {w : World} {A : Around} {E : Value → Shared → Prop} {s : Shared} {K : Frag} {x C q dx : Addr} {its : Array Value} {ep : Nat}
theorem call_wrap {Q : Value → Shared → Prop} (hq : s.heap.get? q = some (wrapObj x)) (hx : s.heap.get? x = some ⟨.ref C, some dx, .seq #[] ep, #[]⟩) (h : ∀ h' ep', Heap.SameBut x s.heap h' → h'.get? x = some ⟨.ref C, some dx, .seq #[] ep', #[]⟩ → Q .none { s with heap := h' }) : wpAny (model prog w) A (call (.ref q) []) Q E s := by
  refine wpAny_call (codeAny_of_tree ?_)
  show wpAny _ A.in1 (callAny (.ref q) ⟨[], []⟩) _ _ s
  simp only [callAny]
  refine wpAny_bind (wpAny_load hq ?_)
  simp only [show (Value.type "method-wrapper" == Value.type "method" || Value.type "method-wrapper" == Value.type "builtin_function_or_method" || Value.type "method-wrapper" == Value.type "method-wrapper") = true by decide, if_true]
  show wpAny _ _ (if (Value.type "method-wrapper" != Value.type "method") = true then _ else _) _ _ s
  rw [if_pos (by decide)]
  refine wpAny_bind (wpAny_of_eq (a := ()) (bound_li x) ?_)
  refine wpAny_bind (wpAny_pure (wpAny_pure ?_))
  refine ⟨Code.quiet_builtin _ (by decide +kernel), codeAny_builtin PySem.F.entry_list_init ?_⟩
  show wpAny _ _ (Builtin.List.listItems (.ref x) >>= _) _ _ s
  unfold Builtin.List.listItems
  refine wpAny_bind (wpAny_bind (wpAny_seqItems hx rfl (wpAny_pure ?_)))
  refine wpAny_bind (wpAny_updateSeq hx rfl (wpAny_bind (wpAny_letGo (wpAny_pure (h _ _ (Heap.SameBut.update ..) ((Heap.get?_update_self (Obj.mapSeq fun _ => #[]) hx rfl).trans rfl))))))
theorem callWith_wrap {env : Env} {pos : Pos} {Q : Value → Shared → Prop} (hq : s.heap.get? q = some (wrapObj x)) (h : wpAny (model prog w) A (call (.ref q) []) Q E s) : wpAny (model prog w) A (callWith pos (.ref q) [] (backTo pos (starEach [] env)) []) Q E s := by
  unfold callWith
  refine wpAny_bind (wpAny_holding (evalArgs_nil3 (wpAny_bind (wpAny_standAt ?_))))
  refine wpAny_bind (m := keeperOf (.ref q)) ?_
  unfold keeperOf
  refine wpAny_bind (wpAny_load hq ?_)
  simp only [show (Value.type "method-wrapper" != Value.type "method") = true by decide, show (Value.type "method-wrapper" == Value.type "builtin_function_or_method" || Value.type "method-wrapper" == Value.type "method-wrapper") = true by decide, if_true]
  refine wpAny_pure ?_
  exact wpAny_bind (wpAny_mono h (fun r s₂ hr => wpAny_bind (wpAny_holding (wpAny_point (wpAny_pure hr)))) fun _ _ x => x)
end
/-- what the making of a row asks of the ground -/
structure InitOk (B : Base) (fI cl : Addr) (dV kV doc pm ct : Value) (an : Option Addr) (cc : Addr) : Prop where
  fn : IsFn B fI (fM "__init__" [("__class__", cl)] dV kV doc pm an (.ref cc) ct) (cM "__init__").2.1
  dfl : ∃ d, Dfl B dV d
  cell : B.h₁.IsCell cl (some (.ref B.C))
  code : ∃ oc vs file tf, B.h₁.get? cc = some oc ∧ oc.data = .fields vs ∧ vs[2]? = some (.str file tf) ∧ ((B.prog.main.file : Str) == file) = true
  top : (B.prog.main.scope.names.lookup ("super" : Str)).isSome = false
section
variable {B : Base} {K : Frag} {fI cl : Addr} {dV kV doc pm ct : Value} {an : Option Addr} {cc x dx : Addr} {A : Around} {R : Result → Shared → Prop} {s : Shared} {n : Int} {t : Tok}
theorem initRun (T : RowK B K) (O : InitOk B fI cl dV kV doc pm ct an cc) (hno : nsIn K cStatics "thirdparty.any" = some none) (hd : A.depth < recursionLimit) (base : ∀ b o, B.h₁.get? b = some o → s.heap.get? b = some o) (hx : s.heap.get? x = some (newRow B.C dx)) (hdx : s.heap.get? dx = some emptyDict) (hne : x ≠ dx) (nx : B.h₁.get? x = none) (ndx : B.h₁.get? dx = none)
    (hR : ∀ h' tk ep kt t' ed, (∀ b o, b ≠ x → b ≠ dx → s.heap.get? b = some o → h'.get? b = some o) → h'.get? x = some ⟨.ref B.C, some dx, .seq #[] ep, #[]⟩ → h'.get? dx = some (rowDict B n kt t' ed) → R (.ok (.ret .none)) { s with heap := h', toks := tk }) :
    codeAny (model B.prog B.w) A (.call (.ref fI) ⟨[.ref x, .int n t], []⟩) R s := by
  obtain ⟨o, ho, hdat⟩ := O.fn.at_
  obtain ⟨d, Tt, od, m, e1, e2, e3⟩ := O.dfl
  refine ks_codeAny_call_defAt (fd := fM "__init__" [("__class__", cl)] dV kV doc pm an (.ref cc) ct) (body := (cM "__init__").2.1) (binds := [("self", .ref x), ("initial_size", .int n t)]) hd (base _ _ ho) hdat (B.lim.keeps base) (let ⟨b, ob, ws, t, e1, e2, e3, e4⟩ := O.fn.code; ⟨b, ob, ws, t, e1, base _ _ e2, e3, e4⟩) rfl (.of_defaults e1 (base _ _ e2) e3 rfl rfl) (fun x hx e => absurd (List.all_eq_true.mp (show ((cM "__init__").2.2.names.all fun x => x.2 != .cell) = true from rfl) x hx) (by rw [e]; decide)) (List.forall_mem_cons.mpr ⟨rfl, List.forall_mem_cons.mpr ⟨rfl, fun _ h => nomatch h⟩⟩) (fun h₀ hn hk => ?_)
  have base₀ : ∀ b o, B.h₁.get? b = some o → h₀.get? b = some o := fun b o e => hk b o (base b o e)
  have X₀ := T.inK.keeps base₀
  have I₀ : W.InstAt h₀ x (newRow B.C dx) B.C (some (dictOf [] 0)) := ⟨hk _ _ hx, rfl, rfl, hk _ _ hdx⟩
  have eenv : (callEnv (fM "__init__" [("__class__", cl)] dV kV doc pm an (.ref cc) ct) s.heap.objs.size fI).locals = s.heap.objs.size := rfl
  refine ks_wpAt_execs_cons (ks_wpAt_Assign_Attr (wpAt_of_wpAny (wpAny_Name (wpAny_loadName_local rfl rfl hn rfl (wpAny_Name (wpAny_loadName_local rfl rfl hn rfl (set_row (es := []) (n := 0) T.F X₀ I₀ rfl rfl (Nat.zero_le _) fun h₁ tk₁ sb₁ at₁ => ?_)) (by decide))) (by decide))))
  have k₁ : ∀ b o, b ≠ dx → h₀.get? b = some o → h₁.get? b = some o := fun b o n e => (sb₁.2 b n).trans e
  have nB : ∀ b o, B.h₁.get? b = some o → b ≠ dx := fun b o e z => by rw [z, ndx] at e; cases e
  have base₁ : ∀ b o, B.h₁.get? b = some o → h₁.get? b = some o := fun b o e => k₁ b o (nB b o e) (base₀ b o e)
  have X₁ := T.inK.keeps base₁
  obtain ⟨cd, hc, hm, hhd⟩ := T.F.cd
  obtain ⟨ocl, hC, hCd⟩ : ∃ ocl, B.h₁.get? B.C = some ocl ∧ ocl.data = .cls cd := by
    unfold clsIn at hc
    split at hc
    · rename_i ho'; cases hc; exact ⟨_, T.inK _ _ ho', rfl⟩
    · cases hc
  have hxC : x ≠ B.C := fun z => by rw [z, hC] at nx; cases nx
  obtain ⟨oc, vs, file, tf, c1, c2, c3, c4⟩ := O.code
  have hx₁ := k₁ _ _ hne (hk _ _ hx)
  have hL : s.heap.objs.size ≠ dx := fun z => Nat.ne_of_lt (Heap.lt_size hdx) z.symm
  have hn₁ := hn.at' fun o e => k₁ _ o hL e
  refine ks_wpAt_execs_cons (ks_wpAt_Expr_any (ks_wpAt_MethodCall (ks_wpAt_super_base rfl rfl (by decide) rfl (base₁ _ _ ho) hdat rfl rfl (base₁ _ _ c1) c2 c3 c4 O.top ?_)))
  refine ks_loadName_global rfl rfl (loadGlobal_builtin (B.g.keeps base₁) (B.free _ (by decide)) (B.b.keeps base₁) ((B.bi _ (by decide)).trans (show _ = some (.type "super") by decide +kernel)) ⟨rfl, ?_⟩)
  refine wpAny_loadName_free rfl rfl rfl (O.cell.keeps base₁) ?_
  refine wpAny_loadName_local rfl rfl hn₁ rfl ?_
  refine ks_wpAny_isType_cls (base₁ _ _ hC) hCd ⟨rfl, ?_⟩
  refine ks_wpAny_call_super (base₁ _ _ hC) hCd hx₁ rfl (fun c e => by cases e) (looks_mroIn X₁ (T.F.mro (by simp))) (fun h₂ hso k₂ => ?_)
  have X₂ := X₁.keeps k₂
  have I₂ : W.InstAt h₂ x (newRow B.C dx) B.C (some _) := ⟨k₂ _ _ hx₁, rfl, rfl, k₂ _ _ at₁⟩
  refine super_init hso (looks_opaque X₂ hno) X₂ hc hm (row_list (s := ⟨h₂, s.gens, s.drawn, 0, s.os⟩) X₂ I₂ T.F.list) hxC ?_
  have hq : (h₂.push (wrapObj x)).get? h₂.objs.size = some (wrapObj x) := Heap.get?_push_size _ rfl
  refine callWith_wrap hq (call_wrap hq (Heap.get?_push_of_some _ (k₂ _ _ hx₁)) fun h₃ ep sb₃ at₃ => ?_)
  refine wpAt_of_wpAny (wpAny_execs_nil (hR h₃ _ ep _ _ _ (fun b o n1 n2 e => (sb₃.2 b n1).trans (Heap.get?_push_of_some _ (k₂ _ _ (k₁ b o n2 (hk b o e))))) at₃ ((sb₃.2 dx hne.symm).trans (Heap.get?_push_of_some _ (k₂ _ _ at₁)))))
end
end U13
end
noncomputable section
open PySem PySem.W PySem.Spec PySem.Calls PyProof.Rows
namespace U13
section
variable {B : Base} {K : Frag} {c : Cx} {σ σ₁ σ' : St} {s : Shared} {h' : Heap} {l : List MV} {n n' : Int} {x : Str} {a dx : Addr} {e : Expr} {loc : List (Str × MV)} {v : MV} {sts : List Stmt} {p₁ p₂ p₃ pos : Pos}
theorem Rel.ownRow {ep : Nat} {kt t : Tok} {ed : Nat} (R : Rel B c σ s.heap s.gens) (hne : a ≠ dx) (na : s.heap.get? a = none) (nd : s.heap.get? dx = none) (k : ∀ b o, s.heap.get? b = some o → h'.get? b = some o) (ha : h'.get? a = some ⟨.ref B.C, some dx, .seq #[] ep, #[]⟩) (hd : h'.get? dx = some (rowDict B n kt t ed)) :
    Rel B (c.xx fun b => (c.X b ∨ b = a) ∨ b = dx) ⟨σ.loc, .row a dx n []⟩ h' s.gens := by
  have ex : ∀ b, Wr B c σ.mu b → b ≠ a ∧ b ≠ dx := fun b w => by
    obtain ⟨_, _, o, e⟩ := R.wr w
    exact ⟨fun z => (by rw [z, na] at e; cases e), fun z => (by rw [z, nd] at e; cases e)⟩
  have nb : ∀ b, s.heap.get? b = none → B.h₁.get? b = none := fun b n => by
    cases e : B.h₁.get? b with
    | none => rfl
    | some o => rw [R.inv.base _ _ e] at n; cases n
  have R' : Rel B (c.xx fun b => (c.X b ∨ b = a) ∨ b = dx) σ h' s.gens :=
    R.move ⟨R.ok.hh, R.ok.hd, R.ok.hu, R.ok.hk, R.ok.hg, R.ok.hb, ⟨R.ok.hL.1, .inl (.inl R.ok.hL.2)⟩, fun x b q => ⟨.inl (.inl (R.ok.hC x b q).1), (R.ok.hC x b q).2⟩, R.ok.hI, R.ok.hc⟩
      (fun b o q nx => ⟨fun w => (by
        rcases w with (w | rfl) | rfl
        · exact nx w
        · rw [na] at q; cases q
        · rw [nd] at q; cases q), k b o q⟩) (fun b o _ q => k b o q) (fun b o _ q => k b o q) (fun b w => .inl (.inl (R.inv.wr b w).1)) fun b w => (by
        rcases w with (w | rfl) | rfl
        · exact (R.inv.ex b w).imp (k b)
        · exact ⟨_, ha⟩
        · exact ⟨_, hd⟩)
  refine ⟨R'.ok, ⟨R'.inv.base, ⟨hne, [], ep, kt, t, ed, ha, hd, rfl⟩, R'.inv.tab, fun b w => (by
    rcases w with (rfl | rfl) | w
    · exact ⟨.inl (.inr rfl), nb _ na, _, ha⟩
    · exact ⟨.inr rfl, nb _ nd, _, hd⟩
    · exact R'.inv.wr b (.inr w)), R'.inv.gens, R'.inv.ex, fun b w z => ?_⟩, R'.loc, R'.cell, fun b w => w.elim (fun w => ?_) fun w => R'.off b (.inr w)⟩
  · have := ex b (.inr (.inr (.inr z)))
    exact w.elim this.1 this.2
  · refine ⟨fun z => ?_, fun x z => ?_⟩
    · have := ex b (.inl z); exact w.elim this.1 this.2
    · have := ex b (.inr (.inl ⟨x, z⟩)); exact w.elim this.1 this.2
theorem EvSs.ownRow {fI cl : Addr} {dV kV doc pm ct : Value} {an : Option Addr} {cc : Addr} (T : RowK B K) (Y : RowMk K B.C) (hi : findIn K (.ref B.C) "__init__" = some (some (.ref fI))) (hf : typeIn K (.ref fI) = some (.type "function")) (O : InitOk B fI cl dV kV doc pm ct an cc) (hno : nsIn K cStatics "thirdparty.any" = some none) (hkp : keepIn K (.ref B.C) = true) (hC : B.mg "_Accumulator" = some (.ref B.C))
    (N : EvE B c e σ (.int n) σ₁) (h0 : σ₁.mu = .none) (hn : 2 ≤ c.n) (H : ∀ a dx Z, EvSs B (c.xx Z) sts ⟨(x, .ref a) :: σ₁.loc, .row a dx n []⟩ (.ret v) ⟨loc, .row a dx n' l⟩)
    (hk : c.env.kindOf x = some .local ∨ c.env.kindOf x = some .cell := by first | exact .inl rfl | exact .inr rfl) (hkg : c.env.kindOf "_Accumulator" = some .globalImplicit := by rfl) (hs : swapsWith (.Call (.Name "_Accumulator" p₂) [e] [] p₃) (some (.Name x p₁)) pos.line c.env = pure false := by rfl)
    (h1 : eval (.Call (.Name "_Accumulator" p₂) [e] [] p₃) c.env = (do callWith p₃ (← eval (.Name "_Accumulator" p₂) c.env) [] (backTo p₃ (starEach [e] c.env)) (backToKw p₃ (keywordEach [] c.env))) := by rfl) (h2 : starEach [e] c.env = (false, eval e c.env) :: starEach [] c.env := by rfl) :
    EvSs B c (.Assign [.Name x p₁] (.Call (.Name "_Accumulator" p₂) [e] [] p₃) pos :: sts) σ (.ret v) ⟨[], .none⟩ := fun s R => by
  refine wpAny_execs_cons (wpAny_Assign_Name (Call_ (Name_function_global R.ok.hk hkg (loadGlobal_global (by rw [R.ok.hg]; exact B.g.keeps R.inv.base) hC (callWith_K (T.inK.keeps R.inv.base) hkp (args_cons (N.use R fun v' s₁ g q => args_nil ⟨T.inK.keeps g.rel.inv.base, ?_⟩) h2) h2)) (by decide)) h1) hs)
  obtain ⟨t, rfl⟩ := q
  obtain ⟨hp, gg, dd, tk, os⟩ := s₁
  have R₁ := g.rel
  have n0 : hp.get? hp.objs.size = none := Heap.get?_none_of_le (Nat.le_refl _)
  have n1 : hp.get? (hp.objs.size + 1) = none := Heap.get?_none_of_le (Nat.le_succ _)
  have kk : ∀ b o, hp.get? b = some o → ((hp.push emptyDict).push (newRow B.C hp.objs.size)).get? b = some o := fun b o e => Heap.get?_push_of_some _ (Heap.get?_push_of_some _ e)
  have nb : ∀ b, hp.get? b = none → B.h₁.get? b = none := fun b n => by
    cases e : B.h₁.get? b with
    | none => rfl
    | some o => rw [R₁.inv.base _ _ e] at n; cases n
  have hx : ((hp.push emptyDict).push (newRow B.C hp.objs.size)).get? (hp.objs.size + 1) = some (newRow B.C hp.objs.size) := by
    have := Heap.get?_push_size (hp.push emptyDict) (o := newRow B.C hp.objs.size) rfl
    rwa [Heap.size_push] at this
  have hd := R.ok.hd
  refine wpAny_call (make_row (T.inK.keeps R₁.inv.base) Y hi hf (initRun T O hno (?_) (fun b o e => kk b o (R₁.inv.base b o e)) hx (Heap.get?_push_of_some _ (Heap.get?_push_size _ rfl)) (Nat.succ_ne_self _) (nb _ n1) (nb _ n0) fun h' tk' ep kt t' ed k' ha hd' => ?_))
  · have hw : (Code.builtin "type.__call__" ⟨[.ref B.C, .int n t], []⟩).weight = 1 := rfl
    show c.A.depth + (Code.builtin "type.__call__" ⟨[.ref B.C, .int n t], []⟩).weight < recursionLimit
    rw [hw]; omega
  have kf : ∀ b o, hp.get? b = some o → h'.get? b = some o := fun b o e => k' b o (fun z => by rw [z, n1] at e; cases e) (fun z => by rw [z, n0] at e; cases e) (kk b o e)
  have R₂ := Rel.ownRow (s := ⟨hp, gg, dd, tk, os⟩) R₁ (Nat.succ_ne_self _) n1 n0 kf ha hd'
  refine ⟨rfl, ?_⟩
  refine store (c := c.xx fun b => (c.X b ∨ b = hp.objs.size + 1) ∨ b = hp.objs.size) (s := ⟨h', gg, dd, tk', os⟩) (v := .ref (hp.objs.size + 1)) R₂ hk rfl fun s₂ g₂ => ?_
  show wpAny _ _ (execs sts c.env) _ _ s₂
  refine (H _ _ _).use (c := c.xx fun b => (c.X b ∨ b = hp.objs.size + 1) ∨ b = hp.objs.size) g₂.rel fun f' s₃ g₃ q₃ => ?_
  have G := g₂.trans R₂ g₃
  have R₃ := g₃.rel
  have kx : ∀ a o, s₃.heap.get? a = some o → ¬ ((c.X a ∨ a = hp.objs.size + 1) ∨ a = hp.objs.size) → ¬ c.X a ∧ s₃.heap.get? a = some o := fun a o e nx => ⟨fun w => nx (.inl (.inl w)), e⟩
  refine ⟨g.trans R ⟨fun b o nw e => G.kp b o (fun w => ?_) (kf b o e), (G.os).trans rfl, fun a w => w.elim, R.ok, ⟨R₃.inv.base, trivial, B.tabOk _ _ _ _ kx (fun _ _ _ e => e) R₃.inv.tab, fun a w => w.elim (fun w => w.elim) fun w => ⟨(R₁.inv.wr a (.inr w)).1, (R₃.inv.wr a (.inr w)).2⟩, R₃.inv.gens, fun a w => R₃.inv.ex a (.inl (.inl w)), fun a w => w.elim⟩, ?_, R₃.cell, fun a w => w.elim (fun w => w.elim) fun w => R₃.off a (.inr w)⟩, ?_⟩
  · rcases w with w | w | w | w
    · exact nw (.inl w)
    · exact nw (.inr (.inl w))
    · rcases w with rfl | rfl
      · rw [n1] at e; cases e
      · rw [n0] at e; cases e
    · exact nw (.inr (.inr (.inr w)))
  · obtain ⟨m, hm, _⟩ := R₃.loc
    exact ⟨m, hm, fun _ _ e => nomatch e⟩
  · obtain ⟨v', e, r⟩ := q₃
    exact ⟨v', e, r.map kx⟩
end
end U13
end
noncomputable section
open PySem PySem.W PySem.Spec PySem.Calls PyProof.Rows
namespace U13
/-- the row that stands for pieces -/
def prt (p : Int × Int) : Str × Str := (Txt.mul " " p.1, sg p.2)
abbrev rp (ps : List (Int × Int)) : List MV := rw (ps.map prt)
def putAt (ps : List (Int × Int)) (k : Nat) (p : Int × Int) : List (Int × Int) := ps.take k ++ [p] ++ ps.drop (k + 1)
section
variable {B : Base} {K : Frag} {f fp fq a dx : Addr} {pm cd doc kV doc' pm' cd' ct' dV kV2 doc2 pm2 cd2 ct2 d2 : Value} {an' an2 : Option Addr} {n : Int} {ps : List (Int × Int)} {code : Int} {k : Nat} {p : Int × Int}
/-- the state in the loop of _law_spoil -/
def spS (a dx : Addr) (n : Int) (ps : List (Int × Int)) (k : Nat) (q : Int × Int) (i : Nat) : St := ⟨[("blanks", .int q.1), ("number", .int q.2), ("place", .int k), ("pieces", pcs ps), ("row", .ref a)], .row a dx n (rp (ps.take k ++ [q]) ++ (rp (ps.drop (k + 1))).take i)⟩
theorem spoil (T : RowK B K) (D : IsFn B f (fD "_law_spoil" pm cd doc) (tD "_law_spoil").2.1) (Mp : MFn B K "push" fp (fM "push" [] .none kV doc' pm' an' cd' ct') (cM "push").2.1) (Mq : MFn B K "pop_from" fq (fM "pop_from" [] dV kV2 doc2 pm2 an2 cd2 ct2) (cM "pop_from").2.1) (hD : Dfl B dV d2)
    (hk : code.fmod 7 = k) (hp : ps[k]? = some p) (hl : ps.length ≤ 100) (ok : PcOk p) {b : Int} (hb : ((code.fdiv 7).fmod p.2) + 1 = b) : CallP B 3 (.ref f) [.ref a, pcs ps, .int code] (.row a dx n (rp ps)) (pcs (putAt ps k (b, p.2))) (.row a dx n (rp (putAt ps k (b, p.2)))) := by
  obtain ⟨h1, h2, h3, h4⟩ := ok
  have hkl : k < ps.length := (List.getElem?_eq_some_iff.mp hp).1
  have hb0 : 0 < b ∧ b ≤ 60 := by
    have := Int.fmod_nonneg_of_pos (code.fdiv 7) (b := p.2) (by omega)
    have := Int.fmod_lt_of_pos (code.fdiv 7) (b := p.2) (by omega)
    omega
  have hdr : (rp ps).drop k = .tup [.str (prt p).1, .str (prt p).2] :: rp (ps.drop (k + 1)) := by
    rw [rp, rw, List.map_map, ← List.map_drop, List.drop_eq_getElem_cons hkl, List.map_cons, (List.getElem?_eq_some_iff.mp hp).2, rp, rw, List.map_map]; rfl
  have htk : (rp ps).take k = rp (ps.take k) := by rw [rp, rw, List.map_map, ← List.map_take, rp, rw, List.map_map]
  have hlr : ∀ l : List (Int × Int), (rp l).length = l.length := fun l => by rw [rp, rw, List.length_map, List.length_map]
  have m1 := ps.length_drop (i := k + 1)
  have e1 : rp (putAt ps k (b, p.2)) = rp (ps.take k ++ [(b, p.2)]) ++ (rp (ps.drop (k + 1))).take (rp (ps.drop (k + 1))).length := by
    rw [List.take_length, putAt]; simp only [rp, rw, List.map_append]
  rw [e1]
  refine .of3 (x := "row") (y := "pieces") (z := "code") (σ' := spS a dx n ps k (b, p.2) (rp (ps.drop (k + 1))).length) D (fun A X L => ?_) .ret
  refine .cons (.assign (v := .int k) (.say (.bin (.name rfl) .int (.mod (by decide))) (congrArg MV.int hk))) ?_
  refine .cons (.assign (.rmeth1 (loc := [("place", .int k), ("code", .int code), ("pieces", pcs ps), ("row", .ref a)]) T Mq (.name rfl) (.cons (.name rfl) .nil) (rpop T Mq.fn hD (by rw [hlr]; omega)) (by exact (by decide : 1 ≤ 2)) fun _ w => w)) ?_
  refine .cons (.assign (v := .int p.2) (.sub (.sub (.name rfl) (.name rfl) (.list (v := .list [.int p.1, .int p.2]) (Int.natCast_nonneg k) (by omega) (by rw [Int.toNat_natCast, List.getElem?_map, hp]; rfl))) .int (.list (by decide) (by decide) rfl))) ?_
  refine .cons (.assign (v := .int b) (.say (.bin (.bin (.bin (.name rfl) .int (.fdiv (by decide) (by decide))) (.name rfl) (.mod (by omega))) .int .add) (congrArg MV.int hb))) ?_
  refine .cons (.expr (.rmeth1 (loc := [("blanks", .int b), ("number", .int p.2), ("rest", .list ((rp ps).drop k)), ("place", .int k), ("code", .int code), ("pieces", pcs ps), ("row", .ref a)]) (l₁ := (rp ps).take k) (n₁ := n) T Mp (.name rfl) (.cons (.bin .str (.name rfl) (.smul (mulOk (by omega) (by omega)))) (.cons (.sub (.sub (.name rfl) .int (.list (v := .tup [.str (prt p).1, .str (prt p).2]) (by decide) (by decide) (by rw [hdr]; rfl))) .int (.tup (k := 1) (by decide) rfl)) .nil)) (rpush T Mp.fn (by rw [List.length_take, hlr]; omega)) (by exact (by decide : 1 ≤ 2)) fun _ w => w)) ?_
  refine .cons (.forL (N := (rp (ps.drop (k + 1))).length) (τ := spS a dx n ps k (b, p.2)) (vs := rp (ps.drop (k + 1))) (σ' := spS a dx n ps k (b, p.2) (rp (ps.drop (k + 1))).length) (.to (τ := spS a dx n ps k (b, p.2) 0) (.say (.cut (.name rfl) (.some .int) .none .none (.from (k := 1) (by rw [List.length_drop, hlr]; omega)) (fun o i => [i, o])) (congrArg MV.list (by rw [hdr]; rfl))) ⟨rfl, rfl, rfl, rfl, rfl, trivial⟩ ?_) rfl (fun Y => ⟨fun i hi => ?_, .inl ⟨rfl, rfl⟩⟩) (fun _ _ _ => Iff.rfl) (fun _ => Iff.rfl) (.inr ⟨⟨_, _, _, rfl⟩, ?_⟩)) ?_
  · exact congrArg (Mut.row a dx n) (by rw [htk]; simp only [rp, rw, List.map_append, List.take_zero, List.append_nil]; rfl)
  · obtain ⟨r, hr⟩ : ∃ r, (ps.drop (k + 1))[i]? = some r := ⟨_, List.getElem?_eq_getElem (by rwa [hlr] at hi)⟩
    have hv : (rp (ps.drop (k + 1)))[i]? = some (.tup [.str (prt r).1, .str (prt r).2]) := by rw [rp, rw, List.map_map, List.getElem?_map, hr]; rfl
    show Turn B _ _ _ ((rp (ps.drop (k + 1))).getD i .none) _ _ _
    rw [List.getD_eq_getElem?_getD, hv]
    refine ⟨_, .pair (.inl rfl), .to (.cons (.expr (.rmeth1 (loc := [("sign", .str (prt r).2), ("fws", .str (prt r).1), ("blanks", .int b), ("number", .int p.2), ("place", .int k), ("pieces", pcs ps), ("row", .ref a)]) (l₁ := rp (ps.take k ++ [(b, p.2)]) ++ (rp (ps.drop (k + 1))).take i) (n₁ := n) T Mp (.name rfl) (.cons (.name rfl) (.cons (.name rfl) .nil)) (rpush T Mp.fn (by rw [List.length_append, List.length_take, hlr, hlr, List.length_append, List.length_take]; simp; omega)) (by exact (by decide : 1 ≤ 2)) fun _ w => w)) .nil) ⟨rfl, rfl, rfl, rfl, rfl, trivial⟩ (congrArg (Mut.row a dx n) ?_)⟩
    rw [List.take_add_one, hv, List.append_assoc]; rfl
  · intro v hv
    obtain ⟨q, _, rfl⟩ := List.mem_map.mp hv
    exact ⟨_, _, .inl rfl⟩
  · refine .ret (.ret (.say (.bin (.bin (.cut (.name (v := pcs ps) rfl) .none (.some (.name rfl)) .none (.upto (by rw [List.length_map]; omega)) (fun o i => [i, o])) (.list (.cons (.list (.cons (.name rfl) (.cons (.name rfl) .nil))) .nil)) (.lcat (by simp; omega))) (.cut (.name (v := pcs ps) rfl) (.some (.say (.bin (.name rfl) .int .add) (congrArg MV.int (show (k : Int) + 1 = ((k + 1 : Nat) : Int) from rfl)))) .none .none (.from (by rw [List.length_map]; omega)) (fun o i => [i, o])) (.lcat (by simp; omega))) ?_))
    simp only [pcs, putAt, List.map_append, List.map_take, List.map_drop]; rfl
theorem turn {fr : Addr} {kV3 doc3 pm3 cd3 ct3 dV3 d3 : Value} {an3 : Option Addr} {t0 : Tok} {l : List MV} (T : RowK B K) (D : IsFn B f (fD "_law_turn" pm cd doc) (tD "_law_turn").2.1) (Mq : MFn B K "pop_from" fq (fM "pop_from" [] dV kV2 doc2 pm2 an2 cd2 ct2) (cM "pop_from").2.1) (hD : Dfl B dV (.int 0 t0))
    (Mr : MFn B K "reset" fr (fM "reset" [] dV3 kV3 doc3 pm3 an3 cd3 ct3) (cM "reset").2.1) (hD3 : Dfl B dV3 d3) (hl : l.length ≤ 100) : CallP B 3 (.ref f) [.ref a, .int k] (.row a dx n l) .none (.row a dx 0 (l.drop k ++ l.take k)) := by
  refine .of2 (x := "row") (y := "count") (σ' := ⟨[], .row a dx 0 (l.drop k ++ l.take k)⟩) D (fun A X L => EvSs.to (σ' := ⟨[("rest", .list (l.drop k)), ("count", .int k), ("row", .ref a)], .row a dx 0 (l.drop k ++ l.take k)⟩) ?_ trivial) .next
  refine .cons (.assign (.rmeth1 (loc := [("count", .int k), ("row", .ref a)]) T Mq (.name rfl) (.cons (.name rfl) .nil) (rpop T Mq.fn hD (by omega)) (by exact (by decide : 1 ≤ 2)) fun _ w => w)) ?_
  refine .cons (.expr (.rmeth1 (σ₂ := ⟨[("rest", .list (l.drop k)), ("count", .int k), ("row", .ref a)], .row a dx n []⟩) (loc := [("rest", .list (l.drop k)), ("count", .int k), ("row", .ref a)]) (l₁ := l.take k) (n₁ := n) T Mr (.name rfl) (.cons (.bin (.name rfl) (.rmeth0 (loc := [("rest", .list (l.drop k)), ("count", .int k), ("row", .ref a)]) T Mq (.name rfl) (rpop0 T Mq.fn hD (by simp; omega)) (by exact (by decide : 1 ≤ 2)) fun _ w => w) (.lcat (by simp; omega))) .nil) (rreset (l := []) T Mr.fn hD3 (by simp; omega)) (by exact (by decide : 1 ≤ 2)) fun _ w => w)) .nil
end
end U13
end
noncomputable section
open PySem PySem.W PySem.Spec PySem.Calls PyProof.Rows
namespace U13
/-- a block that takes one name of its frame's cells -/
theorem Comp.oneCell {B : Base} {c : Cx} {σ : St} {iv : MV} {n : Nat} {val : Nat → MV} {elt target : Expr} {ifs : List Expr} {scope : Scope} {res : Nat → Option MV} {cl : List (Str × Addr)} {y : Str} {v : MV} (hv : σ.loc.lookup y = some v) (hcl : closureFor scope c.env = pure cl)
    (hn : ∀ C, ((compEnvC scope cl C c.env).scope.names.all fun p => p.2 != .cell || ([y] : List Str).contains p.1) = true) (hy : ∀ C, c.env.kindOf y = some .cell ∧ (compEnvC scope cl C c.env).cells.lookup y = c.env.cells.lookup y) (hyk : ∀ C, (compEnvC scope cl C c.env).kindOf y = some .cell)
    (hk : scope.kind = .function) (hcell : (scope.names.all fun x => x.2 != .cell) = true) (hloc : (scope.names.all fun x => x.2 != .local || scope.names.lookup x.1 == some .local) = true)
    (src : Src B c target iv n val) (hz : n ≤ 1000000) (turn : ∀ I D C i, i < n → TurnC B (bx c I D (compEnvC scope cl C c.env)) target ifs elt (val i) ⟨[(y, v)], σ.mu⟩ (res i)) : Comp B c σ target iv n val ifs elt scope cl [(y, v)] res where
  clos := hcl
  kind := hk
  cell := fun x hx e => absurd (List.all_eq_true.mp hcell x hx) (by rw [e]; decide)
  names := fun x hx e => by have := List.all_eq_true.mp hloc x hx; rw [e] at this; exact beq_iff_eq.mp (by simpa using this)
  cap := fun C => capOk_of [y] (hn C) fun x h => by cases List.mem_singleton.mp h; exact hy C
  hcap := fun C x u e => by
    rw [List.lookup_cons] at e
    cases hx : x == y with
    | true => rw [hx] at e; cases e; rw [beq_iff_eq.mp hx]; exact ⟨hv, hyk C⟩
    | false => rw [hx] at e; cases e
  hcap' := fun C x u e q => by
    cases List.mem_singleton.mp (cap_in [y] (hn C) e)
    rw [hv] at q; cases q; simp
  src := src
  turn := turn
  size := hz
abbrev pcl (ps : List (Int × Int)) : List MV := ps.map fun p => .list [.int p.1, .int p.2]
/-- which sizes are in the table -/
def szs3 (f : Str → Option Value) (r : Str) : List Int := [3, 2, 1].filter fun k => (f (Txt.slice r none (some k))).isSome
theorem szs3_eq {f : Str → Option Value} {r : Str} : (List.range 3).filterMap (fun j : Nat => if (f (Txt.slice r none (some ((3 : Int) - j)))).isSome then some (MV.int (3 - j)) else none) = (szs3 f r).map MV.int := by
  have e : List.range 3 = [0, 1, 2] := rfl
  rw [e, szs3]
  simp only [List.filterMap_cons, List.filterMap_nil, List.filter_cons, List.filter_nil]
  have e0 : (3 : Int) - (0 : Nat) = 3 := rfl
  have e1 : (3 : Int) - (1 : Nat) = 2 := rfl
  have e2 : (3 : Int) - (2 : Nat) = 1 := rfl
  rw [e0, e1, e2]
  cases (f (Txt.slice r none (some 3))).isSome <;> cases (f (Txt.slice r none (some 2))).isSome <;> cases (f (Txt.slice r none (some 1))).isSome <;> rfl
/-- one piece read -/
structure Rd (f : Str → Option Value) (t r : Str) (p : Int × Int) (t' : Str) : Prop where
  ne : t ≠ Str.ofString ""
  rest : Txt.lstripChars t (Str.ofString " ") = r
  tl : t.length ≤ 10000
  rl : r.length ≤ 10000
  got : ∃ k ks u, szs3 f r = k :: ks ∧ f (Txt.slice r none (some k)) = some (.int p.2 u) ∧ Txt.slice r (some k) none = t'
  bl : (t.length : Int) - r.length = p.1
section
variable {B : Base} {f da : Addr} {pm cd doc : Value} {g : Str → Option Value} {ps : List (Int × Int)} {t r : Nat → Str}
def rdS (t : Nat → Str) (ps : List (Int × Int)) (Al : Addr) (i : Nat) : St := ⟨[("found", .ref Al), ("text", .str (t i))], .lst Al (pcl (ps.take i))⟩
theorem readS (D : IsFn B f (fD "_law_read" pm cd doc) (tD "_law_read").2.1) (hE : B.mg "EXACT_TOKEN_TYPES" = some (.ref da)) (hm : B.h₁.MapOf (strKind B.prog B.w) da g) (hds : (da == sysModules) = false)
    (H : ∀ i p, ps[i]? = some p → Rd g (t i) (r i) p (t (i + 1))) (hl : ps.length ≤ 100) (hN : t ps.length = Str.ofString "") : CallP B 9 (.ref f) [.str (t 0)] .none (pcs ps) .none := by
  refine .ofC (n := 8) (la := [("text", .str (t 0))]) (ca := []) (fl := .ret _) (σ' := ⟨[], .none⟩) D (fun X s vs _ q => by
    obtain ⟨u, _, rfl, q, rfl⟩ := q
    exact ⟨[("text", u)], .of_eq rfl, List.forall_mem_cons.mpr ⟨.inl rfl, fun _ h => nomatch h⟩, fun L => ⟨⟨⟨u, rfl, rfl, q⟩, trivial⟩, trivial⟩⟩) (fun A X L => ?_) .ret rfl
  refine EvSs.to (.own (k := 1) (loc := [("text", .str (t ps.length))]) (l' := pcl ps) (.list .nil) rfl (fun Al Y => ?_) (.ret (.ret (.name rfl))) rfl) trivial
  refine .cons (.to (.while ps.length (rdS t ps Al) (rdS t ps Al) rfl (fun i hi => ⟨?_, ?_⟩) (.cmp (.name rfl) .str (OpR.sne.say (congrArg MV.bool (bne_eq_false_iff_eq.mpr hN))))) (τ := ⟨[("found", .ref Al), ("text", .str (t ps.length))], .lst Al (pcl ps)⟩) ⟨rfl, rfl, trivial⟩ (by rw [rdS, List.take_length])) .nil
  · obtain ⟨p, hp⟩ : ∃ p, ps[i]? = some p := ⟨_, List.getElem?_eq_getElem hi⟩
    exact .cmp (.name rfl) .str (OpR.sne.say (congrArg MV.bool (bne_iff_ne.mpr (H i p hp).ne)))
  · obtain ⟨p, hp⟩ : ∃ p, ps[i]? = some p := ⟨_, List.getElem?_eq_getElem hi⟩
    obtain ⟨h1, h2, h3, h4, ⟨k, ks, u, h5, h6, h7⟩, h8⟩ := H i p hp
    refine .cons (.assign (.say (.meth1 (.name rfl) (.cons .str .nil) .lstrip (BuiR.cal (.lstripC (by omega)))) (congrArg MV.str h2))) ?_
    refine .cons (.comp (n := 3) (res := fun j => if (g (Txt.slice (r i) none (some ((3 : Int) - j)))).isSome then some (.int (3 - j)) else none) (cl := [("rest", L + 1)]) (σc := [("rest", .str (r i))]) (iv := .tup [.int 3, .int 2, .int 1]) (.tup (.cons .int (.cons .int (.cons .int .nil)))) (.oneCell rfl rfl (fun _ => rfl) (fun _ => ⟨rfl, rfl⟩) (fun _ => rfl) rfl rfl rfl .tup (by decide) fun I D' C j hj => ?_)) ?_
    · have hv : ([.int 3, .int 2, .int 1] : List MV).getD j .none = .int (3 - j) := by
        rcases j with _ | _ | _ | j <;> first | rfl | omega
      rw [hv]
      by_cases e : (g (Txt.slice (r i) none (some ((3 : Int) - j)))).isSome = true
      · rw [if_pos e]
        exact ⟨_, _, .name, (.one (.cmp (.cut (.name rfl) .none (.some (.name rfl)) .none (.supto (by omega)) (fun o i => [i, o])) (.gref hE) ((OpR.inD hm hds).say (congrArg MV.bool e)))), .to (.name rfl) ⟨rfl, trivial⟩⟩
      · rw [if_neg e]
        exact ⟨_, _, .name, (.one (.cmp (.cut (.name rfl) .none (.some (.name rfl)) .none (.supto (by omega)) (fun o i => [i, o])) (.gref hE) ((OpR.inD hm hds).say (congrArg MV.bool (Bool.not_eq_true _ ▸ e))))), ⟨rfl, trivial⟩, rfl⟩
    · have es : (List.range 3).filterMap (fun j : Nat => if (g (Txt.slice (r i) none (some ((3 : Int) - j)))).isSome then some (MV.int (3 - j)) else none) = (k :: ks).map MV.int := by rw [szs3_eq, h5]
      refine .of (σ := ⟨[("sizes", .list ((k :: ks).map MV.int)), ("rest", .str (r i)), ("found", .ref Al), ("text", .str (t i))], _⟩) (by exact ⟨congrArg (fun x => some (MV.list x)) es, rfl, rfl, rfl, trivial⟩) ?_
      have gk : GetR B (cxE A X 8 (callEnvC (fD "_law_read" pm cd doc) L f) |>.xx Y) (.list ((k :: ks).map MV.int)) (.int 0) (.int k) := .list (by decide) (by decide) rfl
      refine .to (.cons (.if (b := false) (.cmp (.name rfl) (.list .nil) ((OpR.lieq (ns := k :: ks) (ms := []) (by exact (by decide : 7 ≤ 8))).say (congrArg MV.bool (decide_eq_false nofun)))) .nil)
        (.cons (.expr (.meth1 (.name rfl) (.cons (.list (.cons (.bin (.bui (.cons (.name rfl) .nil) (.lenS (by omega)) boot_len (B.free _ (by decide))) (.bui (.cons (.name rfl) .nil) (.lenS (by omega)) boot_len (B.free _ (by decide))) .sub) (.cons (.sub (.gref hE) (.cut (.name rfl) .none (.some (.sub (.name rfl) .int gk)) .none (.supto (by omega)) (fun o i => [i, o])) (.dict hm h6)) .nil))) .nil) .append (.append (by rw [List.length_map, List.length_take]; omega))))
          (.cons (.assign (.cut (.name rfl) (.some (.sub (.name rfl) .int gk)) .none .none (.sfrom (by omega)) (fun o i => [i, o]))) .nil))) ⟨rfl, ?_, trivial⟩ ?_
      · exact congrArg (fun x => some (MV.str x)) h7
      · refine congrArg (Mut.lst Al) ?_
        rw [pcl, pcl, List.take_add_one, hp, List.map_append, h8]; rfl
end
end U13
end
noncomputable section
open PySem PySem.W PySem.Spec PySem.Calls PyProof.Rows
namespace U13
section
variable {B : Base} {c : Cx} {σ σ₁ : St} {v₁ v₂ v₃ v₄ : MV} {e : Expr} {pos p₁ p₂ p₃ p₄ p₅ : Pos} {x y z u : Str} {k : Nat}
theorem EvS.quad (H : EvE B c e σ (.tup [v₁, v₂, v₃, v₄]) σ₁) (hx : c.env.kindOf x = some .local := by rfl) (hy : c.env.kindOf y = some .local := by rfl) (hz : c.env.kindOf z = some .local := by rfl) (hu : c.env.kindOf u = some .local := by rfl)
    (hs : swapsWithSole [.Tuple [.Name x p₁, .Name y p₂, .Name z p₃, .Name u p₄] k p₅] e pos.line c.env = pure false := by rfl) (hw : swappedStores [.Tuple [.Name x p₁, .Name y p₂, .Name z p₃, .Name u p₄] k p₅] e c.env = pure none := by rfl) :
    EvS B c (.Assign [.Tuple [.Name x p₁, .Name y p₂, .Name z p₃, .Name u p₄] k p₅] e pos) σ .next ⟨(u, v₄) :: (z, v₃) :: (y, v₂) :: (x, v₁) :: σ₁.loc, σ₁.mu⟩ := fun s R =>
  Assign_Tuple (H.use R fun v' s₁ g q => by
    obtain ⟨a, _, rfl, _, ht, w₁, _, rfl, q₁, w₂, _, rfl, q₂, w₃, _, rfl, q₃, w₄, _, rfl, q₄, rfl⟩ := q
    rw [assign_Tuple]
    refine wpAny_bind (wpAny_standAt (unpack_tuple g.rel.ok.hh ht rfl rfl fun h' ex => ?_))
    have g₁ := Go.extBut g.rel ex
    have G := fun {v : MV} {w : Value} (q : VR c.X s₁.heap v w) => g₁.vr g.rel q
    exact assignInOrder_cons (assign_Name (store g₁.rel (.inl hx) (G q₁) fun _ a1 => assignInOrder_cons (assign_Name (store a1.rel (.inl hy) (a1.vr g₁.rel (G q₂)) fun _ a2 => assignInOrder_cons (assign_Name (store a2.rel (.inl hz) (a2.vr a1.rel (a1.vr g₁.rel (G q₃))) fun _ a3 => assignInOrder_cons (assign_Name (store a3.rel (.inl hu) (a3.vr a2.rel (a2.vr a1.rel (a1.vr g₁.rel (G q₄)))) fun _ a4 => assignInOrder_nil ⟨((((g.trans R g₁).trans R a1).trans R a2).trans R a3).trans R a4, rfl⟩)))))))) ) hs hw
end
section
variable {B : Base} {f : Addr} {pm cd doc : Value} {hi lo ba fa : Nat → Int} {bd : Int} {N : Nat}
def hS (hi lo ba fa : Nat → Int) (bd : Int) (i : Nat) : St := ⟨[("factor", .int (fa i)), ("back", .int (ba i)), ("low", .int (lo i)), ("high", .int (hi i)), ("border", .int bd)], .none⟩
structure Half (hi lo ba fa : Nat → Int) (bd : Int) (i : Nat) : Prop where
  le : ¬ lo i < bd
  p1 : 0 ≤ hi i
  p2 : 0 < lo i
  l1 : (hi i).natAbs < 2 ^ 59
  l2 : (lo i).natAbs < 2 ^ 59
  h1 : hi (i + 1) = lo i
  h2 : lo (i + 1) = (hi i).fmod (lo i)
  h3 : ba (i + 1) = fa i
  h4 : fa (i + 1) = ba i - (hi i).fdiv (lo i) * fa i
theorem euc (D : IsFn B f (fD "_law_half" pm cd doc) (tD "_law_half").2.1) (F : FnsA B) (h1 : ba 0 = 0) (h2 : fa 0 = 1) (H : ∀ i, i < N → Half hi lo ba fa bd i) (hN : N < 60) (hlt : lo N < bd) : CallP B 76 (.ref f) [.int (hi 0), .int (lo 0), .int bd] .none (.tup [.int (lo N), .int (fa N)]) .none := by
  refine .of3 (x := "whole") (y := "spot") (z := "border") (σ' := hS hi lo ba fa bd N) D (fun A X L => ?_) .ret
  refine .cons (.to (τ := hS hi lo ba fa bd 0) (.quad (.tup (.cons (.name rfl) (.cons (.name rfl) (.cons .int (.cons .int .nil)))))) (by rw [hS, h1, h2]; exact ⟨rfl, rfl, rfl, rfl, rfl, trivial⟩)) ?_
  refine .cons (.forR (n := 60) (N := N) (τ := hS hi lo ba fa bd) (σ' := hS hi lo ba fa bd N) .int rfl (fun Y => ⟨fun i hi' => ?_, .inr ⟨hN, ?_⟩⟩) (fun _ _ _ => Iff.rfl) (fun _ => Iff.rfl) (by decide)) (.ret (.ret (.tup (.cons (.name rfl) (.cons (.name rfl) .nil)))))
  · obtain ⟨a1, p1, p2, a3, a4, a5, a6, a7, a8⟩ := H i hi'
    have a2 := Int.ne_of_gt p2
    have q : ((hi i).fdiv (lo i)).natAbs ≤ (hi i).natAbs := by
      rw [Int.fdiv_eq_ediv_of_nonneg _ (Int.le_of_lt p2)]
      have := Int.ediv_le_self (lo i) p1
      have := Int.ediv_nonneg p1 (Int.le_of_lt p2)
      omega
    refine ⟨_, .name, .to (.cons (.if (b := false) (.cmp (.name rfl) (.name rfl) (OpR.lt.say (congrArg MV.bool (decide_eq_false a1)))) .nil) (.cons (.pair (.does (intdm F a2 a3 a4) (.cons (.name rfl) (.cons (.name rfl) .nil)) (by exact (by decide : 74 ≤ 75))) (.inl rfl))
      (.cons (.quad (.tup (.cons (.name rfl) (.cons (.name rfl) (.cons (.name rfl) (.cons (.bin (.name rfl) (.bin (.name rfl) (.name rfl) (.mul (small_mul (by omega) (by omega)))) .sub) .nil)))))) .nil))) ?_⟩
    have cg := fun {a b : Int} (h : a = b) => congrArg (fun x => some (MV.int x)) h.symm
    exact ⟨cg a8, cg a7, cg a6, cg a5, rfl, trivial⟩
  · exact ⟨_, .name, .to (.brk (.if (b := true) (.cmp (.name rfl) (.name rfl) (OpR.lt.say (congrArg MV.bool (decide_eq_true hlt)))) (.brk .brk))) ⟨rfl, rfl, rfl, rfl, rfl, trivial⟩⟩
end
end U13
end
noncomputable section
open PySem PySem.W PySem.Spec PySem.Calls PyProof.Rows
namespace U13
/-- what the law asks of the ground -/
structure FnsB (B : Base) (K : Frag) : Prop where
  A : FnsA B
  fn : ∀ x ∈ ([Str.ofString "_law_common", Str.ofString "_law_sign", Str.ofString "_law_text", Str.ofString "_law_spoil", Str.ofString "_law_turn", Str.ofString "_law_read", Str.ofString "_law_meet", Str.ofString "_law_half", Str.ofString "ISEOF"] : List Str), ∃ f cd, TF B x f cd
  endm : ∃ t, B.mg "ENDMARKER" = some (.int 0 t)
  est : ∃ t, B.mg "EMPTYSTRING" = some (.str "" t)
  T : RowK B K
  push : ∃ f kV doc pm an cd ct, MFn B K "push" f (fM "push" [] .none kV doc pm an cd ct) (cM "push").2.1
  pop : ∃ f dV kV doc pm an cd ct t, MFn B K "pop_from" f (fM "pop_from" [] dV kV doc pm an cd ct) (cM "pop_from").2.1 ∧ Dfl B dV (.int 0 t)
  reset : ∃ f dV kV doc pm an cd ct, MFn B K "reset" f (fM "reset" [] dV kV doc pm an cd ct) (cM "reset").2.1 ∧ Dfl B dV .none
  len : ∃ f kV doc pm an cc ct P, MFn B K "__len__" f (fM "__len__" [] .none kV doc pm an (.ref cc) ct) (cM "__len__").2.1 ∧ (⟨cc, P, gpL, "_Accumulator.__len__.<locals>.<genexpr>"⟩ : TabD) ∈ B.tabs ∧ ∀ t' ∈ B.tabs, t'.P = P → t' = ⟨cc, P, gpL, "_Accumulator.__len__.<locals>.<genexpr>"⟩
  str : ∃ f kV doc pm an cc ct P, MFn B K "__str__" f (fM "__str__" [] .none kV doc pm an (.ref cc) ct) (cM "__str__").2.1 ∧ (⟨cc, P, gpS, "_Accumulator.__str__.<locals>.<genexpr>"⟩ : TabD) ∈ B.tabs ∧ ∀ t' ∈ B.tabs, t'.P = P → t' = ⟨cc, P, gpS, "_Accumulator.__str__.<locals>.<genexpr>"⟩
  mkr : RowMk K B.C
  init : ∃ fI cl dV kV doc pm ct an cc, findIn K (.ref B.C) "__init__" = some (some (.ref fI)) ∧ typeIn K (.ref fI) = some (.type "function") ∧ InitOk B fI cl dV kV doc pm ct an cc
  no : nsIn K cStatics "thirdparty.any" = some none
  keep : keepIn K (.ref B.C) = true
  cls : B.mg "_Accumulator" = some (.ref B.C)
  tok : ∃ da g, B.mg "EXACT_TOKEN_TYPES" = some (.ref da) ∧ B.h₁.MapOf (strKind B.prog B.w) da g ∧ (da == sysModules) = false ∧ (∀ n : Int, 7 ≤ n → n < 55 → ∃ u, g (sg n) = some (.int n u)) ∧ ∀ x : Str, 32 ∈ x.cps → g x = none
theorem FnsB.get {B : Base} {K : Frag} (F : FnsB B K) {x : Str} (h : x ∈ ([Str.ofString "_law_common", Str.ofString "_law_sign", Str.ofString "_law_text", Str.ofString "_law_spoil", Str.ofString "_law_turn", Str.ofString "_law_read", Str.ofString "_law_meet", Str.ofString "_law_half", Str.ofString "ISEOF"] : List Str)) : ∃ f pm cd doc, IsFn B f (fD x pm cd doc) (tD x).2.1 ∧ B.mg x = some (.ref f) :=
  let ⟨f, cd, pm, doc, D, m⟩ := F.fn x h
  ⟨f, pm, cd, doc, D, m⟩
def prt1 (xs : List Int) : List Int := xs.take 60
def sieve (s : List Int × Int) (x : Int) : List Int × Int := if s.1.length < 7 ∧ (Int.gcd (7 + x.fmod 48) s.2 : Int) = 1 then (s.1 ++ [7 + x.fmod 48], s.2 * (7 + x.fmod 48)) else s
def cand (xs : List Int) : List Int := (prt1 xs).take 7 ++ [46, 40, 36, 34, 30, 24, 22]
def sv (xs : List Int) (i : Nat) : List Int × Int := ((cand xs).take i).foldl sieve ([], 1)
def again (dr : Int) (ns : List Int) : List (Int × Int) := ns.map fun n => ((dr - 1).fmod n + 1, n)
def dues (dr : Int) (l : List (Int × Int)) : Int := l.foldl (fun a p => a * p.2.fdiv (Int.gcd p.2 ((p.1 - dr).fmod p.2))) 1
/-- the plain facts of one run -/
structure LawF (xs ns ms : List Int) (M a5 a6 lim dr : Int) (p1 p2 : Int × Int) (k1 k2 cnt : Nat) (b1 b2 : Int) (once tw tu : List (Int × Int)) (s st : Nat → Int) (k : Nat → Nat) (hi lo ba fa : Nat → Int) (N : Nat) (t r : Nat → Str) (g : Str → Option Value) : Prop where
  sv : ∀ i, 0 < (sv xs i).2 ∧ (sv xs i).2 < 2 ^ 50 ∧ (sv xs i).1.length ≤ 7
  fin : U13.sv xs (cand xs).length = (ns, M)
  perm : ms.Perm ns
  srt : ms.Pairwise (· ≤ ·)
  n7 : ns.length = 7
  m5 : ms[5]? = some a5
  m6 : ms[6]? = some a6
  mo : 0 < a5 * a6 ∧ a5 * a6 < 4096
  lm : M.fdiv (4 * (a5 * a6) * (a5 * a6)) = lim
  l0 : 0 < lim ∧ lim < 2 ^ 50
  hdr : (7919 * (prt1 xs).sum + 1000).fmod (2 * lim - 1) - (lim - 1) = dr
  ok : ∀ n ∈ ns, 7 ≤ n ∧ n < 55
  hk1 : (100 + (pick (prt1 xs) 0).sum).fmod 7 = k1
  hp1 : (again dr ns)[k1]? = some p1
  hb1 : ((100 + (pick (prt1 xs) 0).sum).fdiv 7).fmod p1.2 + 1 = b1
  honce : putAt (again dr ns) k1 (b1, p1.2) = once
  okO : ∀ p ∈ once, PcOk p
  lenO : once.length = 7
  hk2 : (333 + (pick (prt1 xs) 1).sum).fmod 7 = k2
  hp2 : once[k2]? = some p2
  hb2 : ((333 + (pick (prt1 xs) 1).sum).fdiv 7).fmod p2.2 + 1 = b2
  htw : putAt once k2 (b2, p2.2) = tw
  lenT : tw.length = 7
  hcnt : ((prt1 xs).sum + 3).fmod 7 = cnt
  c7 : cnt < 7
  htu : tw.drop cnt ++ tw.take cnt = tu
  okU : ∀ p ∈ tu, PcOk p
  rd : ∀ i p, tu[i]? = some p → Rd g (t i) (r i) p (t (i + 1))
  t0 : t 0 = txt tu
  tN : t tu.length = Str.ofString ""
  s0 : s 0 = 0
  st0 : st 0 = 1
  mt : ∀ i p, tu[i]? = some p → Met (s i) (st i) p.1 p.2 (k i) (s (i + 1)) (st (i + 1))
  h0 : hi 0 = M
  lo0 : lo 0 = s tu.length
  ba0 : ba 0 = 0
  fa0 : fa 0 = 1
  hf : ∀ i, i < N → Half hi lo ba fa (2 * lim * (a5 * a6)) i
  hN : N < 60
  lt : lo N < 2 * lim * (a5 * a6)
  f0 : fa N ≠ 0
  fl : (fa N).natAbs < 2 ^ 59
  ll : (lo N).natAbs < 2 ^ 59
  told : (lo N).fdiv (fa N) = dr
  rest : (lo N).fmod (fa N) = 0
  due : (if fa N < 0 then - fa N else fa N) = dues dr tu
  dl : ∀ i, 0 ≤ dues dr (tu.take i) ∧ dues dr (tu.take i) < 2 ^ 50
  back : (again dr (tu.map (·.2))).drop (7 - cnt) ++ (again dr (tu.map (·.2))).take (7 - cnt) = again dr ns
section
variable {B : Base} {K : Frag} {f : Addr} {pm cd doc : Value} {xs ns ms : List Int} {M a5 a6 lim dr : Int} {p1 p2 : Int × Int} {k1 k2 cnt : Nat} {b1 b2 : Int} {once tw tu : List (Int × Int)} {s st : Nat → Int} {k : Nat → Nat} {hi lo ba fa : Nat → Int} {N : Nat} {t r : Nat → Str} {g : Str → Option Value}
abbrev liI (l : List Int) : MV := .list (l.map .int)
theorem put_len {ps : List (Int × Int)} {k : Nat} {p : Int × Int} (h : k < ps.length) : (putAt ps k p).length = ps.length := by
  rw [putAt]; simp; omega
theorem rowTxt {ps : List (Int × Int)} : rtx (ps.map prt) = txt ps := by
  rw [rtx, txt, List.map_map]; congr 1
def lS (xs : List Int) (A : Addr) (i : Nat) : St := ⟨[("whole", .int (sv xs i).2), ("numbers", .ref A), ("total", .int (prt1 xs).sum), ("part", liI (prt1 xs)), ("script", liI xs)], .lst A ((sv xs i).1.map .int)⟩
theorem fm48 (x : Int) : 0 ≤ x.fmod 48 ∧ x.fmod 48 < 48 := ⟨Int.fmod_nonneg_of_pos _ (by decide), Int.fmod_lt_of_pos _ (by decide)⟩
/-- the first loop -/
theorem loop1 {A : Around} {X : Addr → Prop} {L : Addr} (F : FnsB B K) (hv : ∀ i, 0 < (sv xs i).2 ∧ (sv xs i).2 < 2 ^ 50 ∧ (sv xs i).1.length ≤ 7) (Al : Addr) (Y : Addr → Prop) :
    EvSs B ((cxE A X 78 (callEnvC (fD "law" pm cd doc) L f)).xx Y) (((tD "law").2.1.drop 3).take 1) ⟨("numbers", .ref Al) :: ("whole", .int 1) :: [("total", .int (prt1 xs).sum), ("part", liI (prt1 xs)), ("script", liI xs)], .lst Al []⟩ .next ⟨("numbers", .ref Al) :: [("whole", .int (sv xs (cand xs).length).2), ("total", .int (prt1 xs).sum), ("part", liI (prt1 xs)), ("script", liI xs)], .lst Al ((sv xs (cand xs).length).1.map .int)⟩ := by
  obtain ⟨fc, pmc, cdc, docc, Dc, mc⟩ := F.get (x := "_law_common") (by simp)
  have hl : ((cand xs).map MV.int).length = (cand xs).length := List.length_map ..
  have hl14 : (prt1 xs).length ≤ 60 := by rw [prt1, List.length_take]; omega
  refine EvSs.to (.cons (.forL (N := (cand xs).length) (τ := lS xs Al) (vs := (cand xs).map .int) (σ' := lS xs Al (cand xs).length) (.to (τ := lS xs Al 0) (.say (.bin (.cut (.name (v := liI (prt1 xs)) rfl) .none (.some .int) .none (.upto (k := 7) (by rw [List.length_map]; omega)) (fun o i => [i, o])) (.list (vs := [.int 46, .int 40, .int 36, .int 34, .int 30, .int 24, .int 22]) (.cons .int (.cons .int (.cons .int (.cons .int (.cons .int (.cons .int (.cons .int .nil)))))))) (.lcat (by rw [List.length_take, List.length_map]; simp; omega))) ?_) ⟨rfl, rfl, rfl, rfl, rfl, trivial⟩) rfl (fun Z => ⟨fun i hi => ?_, .inl ⟨hl.symm, rfl⟩⟩) (fun _ _ _ => Iff.rfl) (fun _ => Iff.rfl) (.inl ⟨_, _, rfl⟩)) .nil) ⟨rfl, rfl, rfl, rfl, rfl, trivial⟩
  · rw [cand, List.map_append, List.map_take]; rfl
  · obtain ⟨x, hx⟩ : ∃ x, (cand xs)[i]? = some x := ⟨_, List.getElem?_eq_getElem hi⟩
    show Turn B _ _ _ (((cand xs).map MV.int).getD i .none) _ _ _
    rw [List.getD_eq_getElem?_getD, List.getElem?_map, hx]
    have es : sv xs (i + 1) = sieve (sv xs i) x := by rw [sv, List.take_add_one, hx, List.foldl_append]; rfl
    obtain ⟨w0, w1, w2⟩ := hv i
    obtain ⟨f0, f1⟩ := fm48 x
    refine ⟨_, .name, ?_⟩
    have e7 : ∀ {c : Cx} {σ : St} {p₁ p₂ p₃ p₄ p₅ : Pos} {k₁ k₂ : Nat}, σ.loc.lookup (Str.ofString "x") = some (.int x) → EvE B c (.BinOp (.Constant (.int 7) k₁ p₁) .Add (.BinOp (.Name "x" p₂) .Mod (.Constant (.int 48) k₂ p₃) p₄) p₅) σ (.int (7 + x.fmod 48)) σ := fun h => .bin .int (.bin (.name h) .int (.mod (by decide))) .add
    by_cases h1 : (sv xs i).1.length < 7
    · by_cases h2 : (Int.gcd (7 + x.fmod 48) (sv xs i).2 : Int) = 1
      · refine .to (.cons (.if (b := true) (.and_t (.cmp (.cal (.cons (.name rfl) .nil) (.len (by rw [List.length_map]; omega)) boot_len (B.free _ (by decide))) .int (OpR.lt.say (congrArg MV.bool (decide_eq_true (by rw [List.length_map]; omega)))))
          (.and_t (.cmp (.call Dc mc (.cons (e7 rfl) (.cons (.name rfl) .nil)) (common Dc (by omega) (Int.le_of_lt w0)) (by exact (by decide : 1 ≤ 78)) fun _ w => w) .int (OpR.eq.say (congrArg MV.bool (beq_iff_eq.mpr h2)))) .and_nil))
          (.cons (.expr (.meth1 (.name rfl) (.cons (e7 rfl) .nil) .append (.append (by rw [List.length_map]; omega)))) (.cons (.assign (.bin (.name rfl) (e7 rfl) (.mul (small_mul (by omega) (by omega))))) .nil))) .nil) ⟨?_, rfl, rfl, rfl, rfl, trivial⟩ ?_
        · exact congrArg (fun y => some (MV.int y)) (show (sv xs i).2 * (7 + x.fmod 48) = (sv xs (i + 1)).2 by rw [es, sieve, if_pos ⟨h1, h2⟩])
        · refine congrArg (Mut.lst Al) ?_
          rw [es, sieve, if_pos ⟨h1, h2⟩, List.map_append]; rfl
      · have e : sv xs (i + 1) = sv xs i := by rw [es, sieve, if_neg fun h => h2 h.2]
        have e' : lS xs Al (i + 1) = lS xs Al i := by rw [lS, e]; rfl
        rw [e']
        refine .to (.cons (.if (b := false) (.and_t (.cmp (.cal (.cons (.name rfl) .nil) (.len (by rw [List.length_map]; omega)) boot_len (B.free _ (by decide))) .int (OpR.lt.say (congrArg MV.bool (decide_eq_true (by rw [List.length_map]; omega)))))
          (.and_f (.cmp (.call Dc mc (.cons (e7 rfl) (.cons (.name rfl) .nil)) (common Dc (by omega) (Int.le_of_lt w0)) (by exact (by decide : 1 ≤ 78)) fun _ w => w) .int (OpR.eq.say (congrArg MV.bool (beq_eq_false_iff_ne.mpr h2)))))) .nil) .nil) ⟨rfl, rfl, rfl, rfl, rfl, trivial⟩
    · have e : sv xs (i + 1) = sv xs i := by rw [es, sieve, if_neg fun h => h1 h.1]
      have e' : lS xs Al (i + 1) = lS xs Al i := by rw [lS, e]; rfl
      rw [e']
      refine .to (.cons (.if (b := false) (.and_f (.cmp (.cal (.cons (.name rfl) .nil) (.len (by rw [List.length_map]; omega)) boot_len (B.free _ (by decide))) .int (OpR.lt.say (congrArg MV.bool (decide_eq_false (by rw [List.length_map]; omega)))))) .nil) .nil) ⟨rfl, rfl, rfl, rfl, rfl, trivial⟩
end
end U13
end
noncomputable section
open PySem PySem.W PySem.Spec PySem.Calls PyProof.Rows
namespace U13
section
variable {B : Base} {K : Frag} {f : Addr} {pm cd doc : Value} {xs ns ms : List Int} {M a5 a6 lim dr : Int} {p1 p2 : Int × Int} {k1 k2 cnt : Nat} {b1 b2 : Int} {once tw tu : List (Int × Int)} {s st : Nat → Int} {k : Nat → Nat} {hi lo ba fa : Nat → Int} {N : Nat} {t r : Nat → Str} {g : Str → Option Value}
theorem again_ok (h : ∀ n ∈ ns, 7 ≤ n ∧ n < 55) : ∀ p ∈ again dr ns, PcOk p := fun p hp => by
  obtain ⟨n, hn, rfl⟩ := List.mem_map.mp hp
  obtain ⟨h1, h2⟩ := h n hn
  have := Int.fmod_nonneg_of_pos (dr - 1) (b := n) (by omega)
  have := Int.fmod_lt_of_pos (dr - 1) (b := n) (by omega)
  exact ⟨by show 0 ≤ _ + 1; omega, by show _ + 1 ≤ 60; omega, h1, h2⟩
abbrev cl (x : Str) : List Nat := x.cps.toList
theorem str_ext {x y : Str} (h : cl x = cl y) : x = y := by
  obtain ⟨⟨x⟩⟩ := x; obtain ⟨⟨y⟩⟩ := y; cases h; rfl
theorem len_cl (x : Str) : x.length = (cl x).length := Array.length_toList.symm
theorem cl_app (x y : Str) : cl (x ++ y) = cl x ++ cl y := Array.toList_append ..
theorem cl_join : ∀ l : List Str, cl (Txt.join "" l) = (l.map cl).flatten
  | [] => rfl
  | x :: l => by
    have : ∀ (l : List Str) (a : Array Nat), (l.foldl (fun acc p => acc ++ (Str.ofString "").cps ++ p.cps) a).toList = a.toList ++ (l.map cl).flatten := by
      intro l
      induction l with
      | nil => intro a; simp
      | cons p l ih => intro a; rw [List.foldl_cons, ih, Array.toList_append, Array.toList_append, show (Str.ofString "").cps.toList = [] from rfl, List.append_nil, List.append_assoc]; rfl
    exact this l x.cps
theorem glue2 (ps : List Str) : (Txt.join "" ps).length = (ps.map (·.length)).sum := by
  rw [len_cl, cl_join, List.length_flatten, List.map_map]
  exact congrArg List.sum (List.map_congr_left fun x _ => (len_cl x).symm)
theorem rowLen {ps : List (Int × Int)} (h : ∀ p ∈ ps, PcOk p) : (szs (ps.map prt)).sum = ((txt ps).length : Int) := by
  rw [txt, glue2, szs, List.map_map, List.map_map]
  induction ps with
  | nil => rfl
  | cons p r ih =>
    rw [List.map_cons, List.sum_cons, List.map_cons, List.sum_cons, ih fun q hq => h q (.tail _ hq)]
    show ((prt p).1.length : Int) + (prt p).2.length + _ = (((pc p.1 p.2).length + _ : Nat) : Int)
    rw [pc, Str.length_append]
    show ((Txt.mul (Str.ofString " ") p.1).length : Int) + (sg p.2).length + _ = _
    omega
theorem prt_ok {ps : List (Int × Int)} (h : ∀ p ∈ ps, PcOk p) : ∀ q ∈ ps.map prt, q.1.length ≤ 1000 ∧ q.2.length ≤ 1000 := fun q hq => by
  obtain ⟨p, hp, rfl⟩ := List.mem_map.mp hq
  obtain ⟨h1, h2, _⟩ := h p hp
  have := sg_le p.2
  have := mul_len h1
  exact ⟨by show (Txt.mul " " p.1).length ≤ _; omega, by show (sg p.2).length ≤ _; omega⟩
theorem txt_len {ps : List (Int × Int)} (h : ∀ p ∈ ps, PcOk p) (hl : ps.length ≤ 100) : (txt ps).length ≤ 100000 := by
  rw [txt, glue2, List.map_map]
  have : (ps.map ((·.length) ∘ fun p => pc p.1 p.2)).sum ≤ 63 * ps.length := by
    clear hl
    induction ps with
    | nil => exact Nat.le_refl _
    | cons p r ih =>
      have h0 := h p (.head _)
      have := pc_len (n := p.2) h0.1 h0.2.1
      have := ih fun q hq => h q (.tail _ hq)
      rw [List.map_cons, List.sum_cons, List.length_cons]
      show (pc p.1 p.2).length + _ ≤ _
      omega
  omega
/-- str(row), len(row) -/
theorem FnsB.rowS (F : FnsB B K) {c : Cx} {σ : St} {ps : List (Int × Int)} {n : Int} {a dx : Addr} {p₁ pos p₂ : Pos} {x : Str} (hx : σ.loc.lookup x = some (.ref a)) (hmu : σ.mu = .row a dx n (rp ps)) (h : ∀ p ∈ ps, PcOk p) (hl : ps.length ≤ 100) (hn : 2 ≤ c.n) (hkd : c.env.kindOf "str" = some .globalImplicit) (hd : (x == ("__debug__" : Str)) = false := by decide) (hn' : (x == ("__classdict__" : Str)) = false := by decide)
    (he : eval (.Call (.Name "str" p₁) [.Name x p₂] [] pos) c.env = (do callWith pos (← eval (.Name "str" p₁) c.env) [] (backTo pos (starEach [.Name x p₂] c.env)) (backToKw pos (keywordEach [] c.env))) := by rfl)
    (h2 : starEach [.Name x p₂] c.env = (false, eval (.Name x p₂) c.env) :: starEach [] c.env := by rfl) : EvE B c (.Call (.Name "str" p₁) [.Name x p₂] [] pos) σ (.str (txt ps)) σ := by
  obtain ⟨f, kV, doc, pm, an, cc, ct, P, M, ht, hu⟩ := F.str
  obtain ⟨te, hE⟩ := F.est
  obtain ⟨loc, mu⟩ := σ
  cases hmu
  rw [← rowTxt]
  exact .strR F.T M (.name hx hd hn') (rstr F.T M.fn ht hu hE (prt_ok h) (by rw [List.length_map]; omega)) hn hkd he h2
theorem FnsB.rowL (F : FnsB B K) {c : Cx} {σ : St} {ps : List (Int × Int)} {n : Int} {a dx : Addr} {p₁ pos p₂ : Pos} {x : Str} (hx : σ.loc.lookup x = some (.ref a)) (hmu : σ.mu = .row a dx n (rp ps)) (h : ∀ p ∈ ps, PcOk p) (hl : ps.length ≤ 100) (h0 : 0 ≤ n) (h1 : n < 1000000) (hn : 2 ≤ c.n) (hkd : c.env.kindOf "len" = some .globalImplicit) (hd : (x == ("__debug__" : Str)) = false := by decide) (hn' : (x == ("__classdict__" : Str)) = false := by decide)
    (he : eval (.Call (.Name "len" p₁) [.Name x p₂] [] pos) c.env = (do callWith pos (← eval (.Name "len" p₁) c.env) [] (backTo pos (starEach [.Name x p₂] c.env)) (backToKw pos (keywordEach [] c.env))) := by rfl)
    (h2 : starEach [.Name x p₂] c.env = (false, eval (.Name x p₂) c.env) :: starEach [] c.env := by rfl) : EvE B c (.Call (.Name "len" p₁) [.Name x p₂] [] pos) σ (.int (n + (txt ps).length)) σ := by
  obtain ⟨f, kV, doc, pm, an, cc, ct, P, M, ht, hu⟩ := F.len
  obtain ⟨loc, mu⟩ := σ
  cases hmu
  rw [← rowLen h]
  have := rowLen h
  have := txt_len h hl
  exact .lenR F.T M (.name hx hd hn') (rlen F.T M.fn ht hu h0 h1 (prt_ok h)) (by omega) (by omega) hn hkd he h2
/-- a loop of pushes -/
theorem pushLoop {c : Cx} {a dx : Addr} {n : Int} {us vs : List (Int × Int)} {loc : List (Str × MV)} {body : List Stmt} {e : Expr} {pos p₁ p₂ p₃ : Pos} {k' : Nat} (hl : us.length = vs.length) (hz : us.length ≤ 100)
    (H : EvE B c e ⟨loc, .row a dx n []⟩ (pcs us) ⟨loc, .row a dx n []⟩)
    (T : ∀ (Y : Addr → Prop) (l : List MV) (i : Nat) (u v : Int × Int), us[i]? = some u → vs[i]? = some v → l.length ≤ 100 → EvSs B (c.xx Y) body ⟨("number", .int u.2) :: ("blanks", .int u.1) :: loc, .row a dx n l⟩ .next ⟨loc, .row a dx n (l ++ [.tup [.str (prt v).1, .str (prt v).2]])⟩)
    (hb : c.env.kindOf "blanks" = some .local := by rfl) (hn : c.env.kindOf "number" = some .local := by rfl) (hs : ∀ x, foldedSetIterable e c.env x = pure x := by intro _; rfl) :
    EvS B c (.For (.Tuple [.Name "blanks" p₁, .Name "number" p₂] k' p₃) e body [] pos) ⟨loc, .row a dx n []⟩ .next ⟨loc, .row a dx n (rp vs)⟩ := by
  have hlu : (us.map fun p => MV.list [.int p.1, .int p.2]).length = us.length := List.length_map ..
  refine .forL (σ₁ := ⟨loc, .row a dx n []⟩) (N := us.length) (τ := fun i => ⟨loc, .row a dx n ((rp vs).take i)⟩) (vs := us.map fun p => .list [.int p.1, .int p.2]) (σ' := ⟨loc, .row a dx n (rp vs)⟩) (by exact H) (by rw [List.take_zero]) (fun Y => ⟨fun i hi => ?_, .inl ⟨hlu.symm, ?_⟩⟩) (fun _ _ _ => Iff.rfl) (fun _ => Iff.rfl) (.inr ⟨⟨_, _, _, rfl⟩, ?_⟩) (hs := hs)
  · obtain ⟨u, hu⟩ : ∃ u, us[i]? = some u := ⟨_, List.getElem?_eq_getElem hi⟩
    obtain ⟨v, hv⟩ : ∃ v, vs[i]? = some v := ⟨_, List.getElem?_eq_getElem (hl ▸ hi)⟩
    show Turn B _ _ _ ((us.map fun p => MV.list [.int p.1, .int p.2]).getD i .none) _ _ _
    rw [List.getD_eq_getElem?_getD, List.getElem?_map, hu]
    refine ⟨_, .pair (.inr rfl) hb hn, ?_⟩
    have e : (rp vs).take (i + 1) = (rp vs).take i ++ [.tup [.str (prt v).1, .str (prt v).2]] := by
      rw [List.take_add_one, rp, rw, List.map_map, List.getElem?_map, hv]; rfl
    show EvSs B _ body _ _ ⟨loc, .row a dx n ((rp vs).take (i + 1))⟩
    rw [e]
    exact T Y _ i u v hu hv (by rw [List.length_take, rp, rw, List.length_map, List.length_map]; omega)
  · show (⟨loc, .row a dx n (rp vs)⟩ : St) = ⟨loc, .row a dx n ((rp vs).take us.length)⟩
    rw [List.take_of_length_le (by rw [rp, rw, List.length_map, List.length_map]; omega)]
  · intro v hv
    obtain ⟨p, _, rfl⟩ := List.mem_map.mp hv
    exact ⟨_, _, .inr rfl⟩
end
end U13
end
noncomputable section
open PySem PySem.W PySem.Spec PySem.Calls PyProof.Rows
namespace U13
section
variable {B : Base} {K : Frag} {f : Addr} {pm cd doc : Value} {xs ns ms : List Int} {M a5 a6 lim dr : Int} {p1 p2 : Int × Int} {k1 k2 cnt : Nat} {b1 b2 : Int} {once tw tu : List (Int × Int)} {s st : Nat → Int} {k : Nat → Nat} {hi lo ba fa : Nat → Int} {N : Nat} {t r : Nat → Str} {g : Str → Option Value}
def lA (xs ns : List Int) (M : Int) : List (Str × MV) := [("numbers", liI ns), ("whole", .int M), ("total", .int (prt1 xs).sum), ("part", liI (prt1 xs)), ("script", liI xs)]
def lB (xs ns : List Int) (M mo lim dr : Int) : List (Str × MV) := [("pieces", pcs (again dr ns)), ("drawn", .int dr), ("limit", .int lim), ("most", .int mo), ("numbers", liI ns), ("whole", .int M), ("total", .int (prt1 xs).sum), ("part", liI (prt1 xs)), ("script", liI xs)]
/-- the rest of the law, from the row on -/
theorem lawTail (F : FnsB B K) (H : LawF xs ns ms M a5 a6 lim dr p1 p2 k1 k2 cnt b1 b2 once tw tu s st k hi lo ba fa N t r g) (ht : ∃ da, B.mg "EXACT_TOKEN_TYPES" = some (.ref da) ∧ B.h₁.MapOf (strKind B.prog B.w) da g ∧ (da == sysModules) = false) {A : Around} {X : Addr → Prop} {L a dx : Addr} {Z : Addr → Prop} :
    EvSs B ((cxE A X 78 (callEnvC (fD "law" pm cd doc) L f)).xx Z) ((tD "law").2.1.drop 9) ⟨("row", .ref a) :: lB xs ns M (a5 * a6) lim dr, .row a dx ((prt1 xs).sum.fmod 5) []⟩ (.ret (.bool true)) ⟨[], .row a dx 0 (rp (again dr ns))⟩ := by
  obtain ⟨fs, pms, cds, docs, Ds, ms'⟩ := F.get (x := "_law_sign") (by simp)
  obtain ⟨fx, pmx, cdx, docx, Dx, mx⟩ := F.get (x := "_law_text") (by simp)
  obtain ⟨fp, pmp, cdp, docp, Dp, mp⟩ := F.get (x := "_law_spoil") (by simp)
  obtain ⟨ft, pmt, cdt, doct, Dt, mt⟩ := F.get (x := "_law_turn") (by simp)
  obtain ⟨fr, pmr, cdr, docr, Dr, mr⟩ := F.get (x := "_law_read") (by simp)
  obtain ⟨fm, pmm, cdm, docm, Dm, mm⟩ := F.get (x := "_law_meet") (by simp)
  obtain ⟨fh, pmh, cdh, doch, Dh, mh⟩ := F.get (x := "_law_half") (by simp)
  obtain ⟨fc, pmc, cdc, docc, Dc, mc⟩ := F.get (x := "_law_common") (by simp)
  obtain ⟨fe, pme, cde, doce, De, me⟩ := F.get (x := "ISEOF") (by simp)
  obtain ⟨te, hE⟩ := F.endm
  obtain ⟨g1, kV1, doc1, pm1, an1, cd1, ct1, Mp⟩ := F.push
  obtain ⟨g2, dV2, kV2, doc2, pm2, an2, cd2, ct2, t2, Mq, hD2⟩ := F.pop
  obtain ⟨g3, dV3, kV3, doc3, pm3, an3, cd3, ct3, Mr, hD3⟩ := F.reset
  obtain ⟨da, h1, h2, h3⟩ := ht
  have T := F.T
  have oa := again_ok (dr := dr) H.ok
  have la : (again dr ns).length = 7 := by rw [again, List.length_map]; exact H.n7
  have lO := H.lenO
  have lw := H.lenT
  have hu := H.htu
  have lu : tu.length = 7 := by rw [← hu, List.length_append, List.length_drop, List.length_take]; have := H.c7; omega
  have f5 : 0 ≤ (prt1 xs).sum.fmod 5 ∧ (prt1 xs).sum.fmod 5 < 5 := ⟨Int.fmod_nonneg_of_pos _ (by decide), Int.fmod_lt_of_pos _ (by decide)⟩
  have ta := txt_len oa (by omega)
  have tt := txt_len H.okU (by omega)
  refine .cons (pushLoop (us := again dr ns) (vs := again dr ns) rfl (by omega) (.name rfl) fun Y l i u v hu hv hl => ?_) ?_
  · cases hu.symm.trans hv
    obtain ⟨o1, o2, o3, o4⟩ := oa u (List.mem_of_getElem? hu)
    exact .to (.cons (.expr (.rmeth1 (loc := ("number", .int u.2) :: ("blanks", .int u.1) :: ("row", .ref a) :: lB xs ns M (a5 * a6) lim dr) (l₁ := l) (n₁ := (prt1 xs).sum.fmod 5) T Mp (.name rfl) (.cons (.bin .str (.name rfl) (.smul (mulOk o1 (by omega)))) (.cons (.call Ds ms' (.cons (.name rfl) .nil) (sign Ds o3 o4) (by exact (by decide : 1 ≤ 78)) fun _ w => w) .nil)) (rpush T Mp.fn (by omega)) (by exact (by decide : 1 ≤ 78)) fun _ w => w)) .nil) ⟨rfl, rfl, rfl, rfl, rfl, rfl, rfl, rfl, rfl, rfl, trivial⟩
  refine .cons (.assign (.call Dx mx (.cons (.name rfl) .nil) ((textS Dx Ds ms' oa (by omega)).fr _) (by exact (by decide : 2 ≤ 78)) fun _ w => w)) ?_
  refine .cons (.if (b := false) (.or_f (.cmp (F.rowS rfl rfl oa (by omega) (by exact (by decide : 2 ≤ 78)) rfl) (.name rfl) (OpR.sne.say (congrArg MV.bool (bne_self_eq_false _)))) (.or_f (.cmp (F.rowL rfl rfl oa (by omega) f5.1 (by omega) (by exact (by decide : 2 ≤ 78)) rfl) (.bin (.bin (.name rfl) .int (.mod (by decide))) (.bui (.cons (.name rfl) .nil) (.lenS (by omega)) boot_len (B.free _ (by decide))) .add) (OpR.ne.say (congrArg MV.bool (bne_self_eq_false _)))) .or_nil)) .nil) ?_
  have n7 : ∀ {p : Int × Int}, PcOk p → p.2 ≠ 0 := fun h => by have := h.2.2.1; omega
  have C1 : CallP B 3 (.ref fp) [.ref a, pcs (again dr ns), .int (100 + (pick (prt1 xs) 0).sum)] (.row a dx ((prt1 xs).sum.fmod 5) (rp (again dr ns))) (pcs once) (.row a dx ((prt1 xs).sum.fmod 5) (rp once)) := by
    rw [← H.honce]; exact spoil T Dp Mp Mq hD2 H.hk1 H.hp1 (by omega) (oa _ (List.mem_of_getElem? H.hp1)) H.hb1
  have C2 : CallP B 3 (.ref fp) [.ref a, pcs once, .int (333 + (pick (prt1 xs) 1).sum)] (.row a dx ((prt1 xs).sum.fmod 5) (rp once)) (pcs tw) (.row a dx ((prt1 xs).sum.fmod 5) (rp tw)) := by
    rw [← H.htw]; exact spoil T Dp Mp Mq hD2 H.hk2 H.hp2 (by omega) (H.okO _ (List.mem_of_getElem? H.hp2)) H.hb2
  have rl : ∀ l : List (Int × Int), (rp l).length = l.length := fun l => by rw [rp, rw, List.length_map, List.length_map]
  have C3 : CallP B 3 (.ref ft) [.ref a, .int cnt] (.row a dx ((prt1 xs).sum.fmod 5) (rp tw)) .none (.row a dx 0 (rp tu)) := by
    have e : rp tu = (rp tw).drop cnt ++ (rp tw).take cnt := by rw [← hu]; simp only [rp, rw, List.map_append, List.map_drop, List.map_take]
    rw [e]; exact turn T Dt Mq hD2 Mr hD3 (by rw [rl]; omega)
  have C4 : CallP B 76 (.ref fh) [.int M, .int (s tu.length), .int (2 * lim * (a5 * a6))] .none (.tup [.int (lo N), .int (fa N)]) .none := by
    rw [← H.h0, ← H.lo0]; exact euc Dh F.A H.ba0 H.fa0 H.hf H.hN H.lt
  have C5 : CallP B 9 (.ref fr) [.str (txt tu)] .none (pcs tu) .none := by
    rw [← H.t0]; exact readS Dr h1 h2 h3 H.rd (by omega) H.tN
  have C6 : CallP B 3 (.ref ft) [.ref a, .int ((7 - cnt : Nat) : Int)] (.row a dx 0 (rp (again dr (tu.map (·.2))))) .none (.row a dx 0 (rp (again dr ns))) := by
    have e : rp (again dr ns) = (rp (again dr (tu.map (·.2)))).drop (7 - cnt) ++ (rp (again dr (tu.map (·.2)))).take (7 - cnt) := by rw [← H.back]; simp only [rp, rw, List.map_append, List.map_drop, List.map_take]
    rw [e]; exact turn T Dt Mq hD2 Mr hD3 (by rw [rl, again, List.length_map, List.length_map]; omega)
  have p60 : (prt1 xs).length ≤ 60 := by rw [prt1, List.length_take]; omega
  have sz : ∀ {lo' : Int}, CutR B ((cxE A X 78 (callEnvC (fD "law" pm cd doc) L f)).xx Z) (liI (prt1 xs)) (some lo') none (some 2) (liI (pick (prt1 xs) lo')) := .step (by omega)
  have pl : ∀ l : List (Int × Int), (l.map fun p => MV.list [.int p.1, .int p.2]).length = l.length := fun l => List.length_map ..
  refine .cons (.assign (.call Dp mp (.cons (.name rfl) (.cons (.name rfl) (.cons (.bin .int (.bui (.cons (.cut (.name rfl) (.some .int) .none (.some .int) sz (fun o i => [o, i])) .nil) .sum boot_sum (B.free _ (by decide))) .add) .nil))) C1 (by exact (by decide : 3 ≤ 78)) fun _ w => w)) ?_
  refine .cons (.assign (.call Dp mp (.cons (.name rfl) (.cons (.name rfl) (.cons (.bin .int (.bui (.cons (.cut (.name rfl) (.some .int) .none (.some .int) sz (fun o i => [o, i])) .nil) .sum boot_sum (B.free _ (by decide))) .add) .nil))) C2 (by exact (by decide : 3 ≤ 78)) fun _ w => w)) ?_
  refine .cons (.assign (v := .int cnt) (.say (.bin (.bin (.name rfl) .int .add) .int (.mod (by decide))) (congrArg MV.int H.hcnt))) ?_
  refine .cons (.expr (.call Dt mt (.cons (.name rfl) (.cons (.name rfl) .nil)) C3 (by exact (by decide : 3 ≤ 78)) fun _ w => w)) ?_
  refine .cons (.assign (v := pcs tu) (.say (.bin (.cut (.name (v := pcs tw) rfl) (.some (.name rfl)) .none .none (.from (by rw [pl]; omega)) (fun o i => [i, o])) (.cut (.name (v := pcs tw) rfl) .none (.some (.name rfl)) .none (.upto (by rw [pl]; omega)) (fun o i => [i, o])) (.lcat (by rw [List.length_drop, List.length_take, pl]; omega))) (by rw [← hu]; simp only [pcs, List.map_append, List.map_drop, List.map_take]))) ?_
  refine .cons (.if (b := false) (.or_f (.cmp (F.rowS rfl rfl H.okU (by omega) (by exact (by decide : 2 ≤ 78)) rfl) (.call Dx mx (.cons (.name rfl) .nil) ((textS Dx Ds ms' H.okU (by omega)).fr _) (by exact (by decide : 2 ≤ 78)) fun _ w => w) (OpR.sne.say (congrArg MV.bool (bne_self_eq_false _))))
    (.or_f (.cmp (F.rowL rfl rfl H.okU (by omega) (by decide) (by decide) (by exact (by decide : 2 ≤ 78)) rfl) (.bui (.cons (.call Dx mx (.cons (.name rfl) .nil) ((textS Dx Ds ms' H.okU (by omega)).fr _) (by exact (by decide : 2 ≤ 78)) fun _ w => w) .nil) (.lenS (by omega)) boot_len (B.free _ (by decide))) (OpR.ne.say (congrArg MV.bool (by rw [Int.zero_add]; exact bne_self_eq_false _)))) .or_nil)) .nil) ?_
  refine .cons (.assign (.call Dr mr (.cons (F.rowS rfl rfl H.okU (by omega) (by exact (by decide : 2 ≤ 78)) rfl) .nil) (C5.fr _) (by exact (by decide : 9 ≤ 78)) fun _ w => w)) ?_
  refine .cons (.if (b := false) (.cmp (.name (v := pcs tu) rfl) (.name (v := pcs tu) rfl) (.pcne (by exact (by decide : 7 ≤ 78)))) .nil) ?_
  have q0 := H.l0
  have q1 := H.mo
  have CM : CallP B 3 (.ref fm) [pcs tu] (.row a dx 0 (rp tu)) (.int (s tu.length)) (.row a dx 0 (rp tu)) := meet Dm De me hE s st k H.s0 H.st0 H.mt
  have e0 : dmR (lo N) (fa N) = .tup [.int dr, .int 0] := by rw [dmR, H.told, H.rest]
  refine .cons (.pair (.call Dh mh (.cons (.name rfl) (.cons (.call Dm mm (.cons (.name rfl) .nil) CM (by exact (by decide : 3 ≤ 78)) fun _ w => w) (.cons (.bin (.bin .int (.name rfl) (.mul (small_mul (by decide) (by decide)))) (.name rfl) (.mul (small_mul (by omega) (by omega)))) .nil))) (C4.fr _) (by exact (by decide : 76 ≤ 78)) fun _ w => w) (.inl rfl)) ?_
  refine .cons (.pair (.say (.does (intdm F.A H.f0 H.ll H.fl) (.cons (.name rfl) (.cons (.name rfl) .nil)) (by exact (by decide : 74 ≤ 78))) e0) (.inl rfl)) ?_
  refine .cons (.if (b := false) (.or_f (.cmp (.name (v := .int dr) rfl) (.name (v := .int dr) rfl) (OpR.ne.say (congrArg MV.bool (bne_self_eq_false _)))) (.or_f (.not (b := true) (.bool (.say (.call De me (.cons (.name (v := .int 0) rfl) .nil) (iseof De hE) (by exact (by decide : 1 ≤ 78)) fun _ w => w) rfl))) .or_nil)) .nil) ?_
  refine .cons (.assign .int) ?_
  refine .of (σ := ⟨[("due", .int (dues dr [])), ("read", pcs tu), ("told", .int dr), ("factor", .int (fa N)), ("drawn", .int dr), ("count", .int cnt), ("first", .str (txt (again dr ns))), ("row", .ref a)], .row a dx 0 (rp tu)⟩) ⟨rfl, rfl, rfl, rfl, rfl, rfl, rfl, rfl, trivial⟩ ?_
  refine .cons (.forL (N := tu.length) (τ := fun i => ⟨[("due", .int (dues dr (tu.take i))), ("read", pcs tu), ("told", .int dr), ("factor", .int (fa N)), ("drawn", .int dr), ("count", .int cnt), ("first", .str (txt (again dr ns))), ("row", .ref a)], .row a dx 0 (rp tu)⟩) (vs := tu.map fun p => .list [.int p.1, .int p.2]) (σ' := ⟨[("due", .int (dues dr tu)), ("read", pcs tu), ("told", .int dr), ("factor", .int (fa N)), ("drawn", .int dr), ("count", .int cnt), ("first", .str (txt (again dr ns))), ("row", .ref a)], .row a dx 0 (rp tu)⟩) (.name rfl) rfl (fun Y => ⟨fun i hi => ?_, .inl ⟨(pl tu).symm, ?_⟩⟩) (fun _ _ _ => Iff.rfl) (fun _ => Iff.rfl) (.inr ⟨⟨_, _, _, rfl⟩, ?_⟩)) ?_
  · obtain ⟨u, hu'⟩ : ∃ u, tu[i]? = some u := ⟨_, List.getElem?_eq_getElem hi⟩
    show Turn B _ _ _ ((tu.map fun p => MV.list [.int p.1, .int p.2]).getD i .none) _ _ _
    rw [List.getD_eq_getElem?_getD, List.getElem?_map, hu']
    obtain ⟨o1, o2, o3, o4⟩ := H.okU u (List.mem_of_getElem? hu')
    obtain ⟨d0, d1⟩ := H.dl i
    have m0 := Int.fmod_nonneg_of_pos (u.1 - dr) (b := u.2) (by omega)
    have gb : (Int.gcd u.2 ((u.1 - dr).fmod u.2) : Int) ≠ 0 ∧ (Int.gcd u.2 ((u.1 - dr).fmod u.2) : Int) ≤ u.2 := by
      refine ⟨fun e => ?_, Int.le_of_dvd (by omega) (Int.gcd_dvd_left ..)⟩
      have := Int.gcd_eq_zero_iff.mp (Int.ofNat_eq_zero.mp e)
      omega
    refine ⟨_, .pair (.inr rfl), .to (.cons (.assign (.bin (.name rfl) (.bin (.name rfl) (.call Dc mc (.cons (.name rfl) (.cons (.bin (.bin (.name rfl) (.name rfl) .sub) (.name rfl) (.mod (by show u.2 ≠ 0; omega))) .nil)) (common Dc (by show 0 ≤ u.2; omega) m0) (by exact (by decide : 1 ≤ 78)) fun _ w => w) (.fdiv gb.1 (by omega))) (.mul (small_mul (by omega) (by omega))))) .nil) ⟨?_, rfl, rfl, rfl, rfl, rfl, rfl, rfl, trivial⟩⟩
    refine congrArg (fun y => some (MV.int y)) ?_
    rw [List.take_add_one, hu', dues, dues, List.foldl_append]; rfl
  · show _ = (⟨("due", .int (dues dr (tu.take tu.length))) :: _, _⟩ : St)
    rw [List.take_length]
  · intro v hv
    obtain ⟨p, _, rfl⟩ := List.mem_map.mp hv
    exact ⟨_, _, .inr rfl⟩
  refine .cons (.if (b := false) (.cmp (.bui (.cons (.name rfl) .nil) .abs boot_abs (B.free _ (by decide))) (.name rfl) (OpR.ne.say (congrArg MV.bool (bne_eq_false_iff_eq.mpr H.due)))) .nil) ?_
  let lE : List (Str × MV) := [("due", .int (dues dr tu)), ("read", pcs tu), ("told", .int dr), ("factor", .int (fa N)), ("drawn", .int dr), ("count", .int cnt), ("first", .str (txt (again dr ns))), ("row", .ref a)]
  refine .cons (.expr (.rmeth0 (loc := lE) T Mr (.name rfl) (rreset0 T Mr.fn hD3 (by rw [rl]; omega)) (by exact (by decide : 1 ≤ 78)) fun _ w => w)) ?_
  refine .cons (pushLoop (us := tu) (vs := again dr (tu.map (·.2))) (by rw [again, List.length_map, List.length_map]) (by omega) (.name rfl) fun Y l i u v hu' hv hl => ?_) ?_
  · rw [again, List.map_map, List.getElem?_map, hu'] at hv
    cases hv
    obtain ⟨o1, o2, o3, o4⟩ := H.okU u (List.mem_of_getElem? hu')
    have m0 := Int.fmod_nonneg_of_pos (dr - 1) (b := u.2) (by omega)
    have m1 := Int.fmod_lt_of_pos (dr - 1) (b := u.2) (by omega)
    exact .to (.cons (.expr (.rmeth1 (loc := ("number", .int u.2) :: ("blanks", .int u.1) :: lE) (l₁ := l) (n₁ := 0) T Mp (.name rfl) (.cons (.bin .str (.bin (.bin (.bin (.name rfl) .int .sub) (.name rfl) (.mod (by show u.2 ≠ 0; omega))) .int .add) (.smul (mulOk (by omega) (by omega)))) (.cons (.call Ds ms' (.cons (.name rfl) .nil) (sign Ds o3 o4) (by exact (by decide : 1 ≤ 78)) fun _ w => w) .nil)) (rpush T Mp.fn (by omega)) (by exact (by decide : 1 ≤ 78)) fun _ w => w)) .nil) ⟨rfl, rfl, rfl, rfl, rfl, rfl, rfl, rfl, trivial⟩
  have c7 := H.c7
  refine .cons (.expr (.call Dt mt (.cons (.name rfl) (.cons (.say (.bin .int (.name rfl) .sub) (congrArg MV.int (by omega : (7 : Int) - cnt = ((7 - cnt : Nat) : Int)))) .nil)) C6 (by exact (by decide : 3 ≤ 78)) fun _ w => w)) ?_
  refine .to (.ret (.ret (.and (.cmp (F.rowS rfl rfl oa (by omega) (by exact (by decide : 2 ≤ 78)) rfl) (.name rfl) (OpR.seq.say (congrArg MV.bool (beq_self_eq_true _)))) (.one (.cmp (F.rowL rfl rfl oa (by omega) (by decide) (by decide) (by exact (by decide : 2 ≤ 78)) rfl) (.bui (.cons (.name rfl) .nil) (.lenS (by omega)) boot_len (B.free _ (by decide))) (OpR.eq.say (congrArg MV.bool (by rw [Int.zero_add]; exact beq_self_eq_true _)))))))) trivial
theorem lawRun (D : IsFn B f (fD "law" pm cd doc) (tD "law").2.1) (F : FnsB B K) (H : LawF xs ns ms M a5 a6 lim dr p1 p2 k1 k2 cnt b1 b2 once tw tu s st k hi lo ba fa N t r g) (ht : ∃ da, B.mg "EXACT_TOKEN_TYPES" = some (.ref da) ∧ B.h₁.MapOf (strKind B.prog B.w) da g ∧ (da == sysModules) = false) (hx : xs.length ≤ 1000000) : CallP B 79 (.ref f) [liI xs] .none (.bool true) .none := by
  refine .ofC (n := 78) (la := [("script", liI xs)]) (ca := []) (fl := .ret (.bool true)) (σ' := ⟨[], .none⟩) D (fun X s vs _ q => by
    obtain ⟨u, _, rfl, q, rfl⟩ := q
    exact ⟨[("script", u)], .of_eq rfl, List.forall_mem_cons.mpr ⟨.inl rfl, fun _ h => nomatch h⟩, fun L => ⟨⟨⟨u, rfl, rfl, q⟩, trivial⟩, trivial⟩⟩) (fun A X L => ?_) .ret rfl
  have hf := H.fin
  have e1 : (sv xs (cand xs).length).1 = ns := congrArg (·.1) hf
  have e2 : (sv xs (cand xs).length).2 = M := congrArg (·.2) hf
  have h54 : ∀ n ∈ ns, n < 55 := fun n hn => (H.ok n hn).2
  refine .cons (.assign (v := liI (prt1 xs)) (.say (.cut (.name (v := liI xs) rfl) .none (.some .int) .none (.upto (k := 60) (by rwa [List.length_map])) (fun o i => [i, o])) (congrArg MV.list (List.map_take).symm))) ?_
  refine .cons (.assign (.bui (.cons (.name (v := liI (prt1 xs)) rfl) .nil) .sum boot_sum (B.free _ (by decide)))) ?_
  refine .own2 (k := 1) (loc := [("whole", .int M), ("total", .int (prt1 xs).sum), ("part", liI (prt1 xs)), ("script", liI xs)]) (l' := ns.map .int) (.list .nil) rfl (fun Al Y => ?_) ?_
  · have := loop1 (pm := pm) (cd := cd) (doc := doc) (f := f) (A := A) (X := X) (L := L) F H.sv Al Y
    rw [e1, e2] at this
    exact this
  have mm := H.mo
  have n64 : ns.length < 64 := by rw [H.n7]; decide
  have q5 : (ms.map MV.int)[(5 : Int).toNat]? = some (.int a5) := by rw [List.getElem?_map, show (5 : Int).toNat = 5 from rfl, H.m5]; rfl
  have q6 : (ms.map MV.int)[(6 : Int).toNat]? = some (.int a6) := by rw [List.getElem?_map, show (6 : Int).toNat = 6 from rfl, H.m6]; rfl
  have q0 := H.l0
  have q1 : 0 < 4 * (a5 * a6) * (a5 * a6) := Int.mul_pos (by omega) mm.1
  have q2 : 4 * (a5 * a6) * (a5 * a6) < 4 * 4096 * 4096 := Int.lt_of_lt_of_le (Int.mul_lt_mul_of_pos_left mm.2 (by omega)) (Int.mul_le_mul_of_nonneg_right (by omega) (by decide))
  have a5s : -(2 ^ 64) < a5 ∧ a5 < 2 ^ 64 := by
    have := H.perm.mem_iff.mp (List.mem_of_getElem? H.m5)
    have := H.ok _ this
    omega
  refine .cons (.assign (.bin (.sub (.bui (.cons (.name (v := liI ns) rfl) .nil) (.sorted n64 H.perm H.srt) boot_sorted (B.free _ (by decide))) .int (.list (by decide) (by decide) q5)) (.sub (.bui (.cons (.name (v := liI ns) rfl) .nil) (.sorted n64 H.perm H.srt) boot_sorted (B.free _ (by decide))) .int (.list (by decide) (by decide) q6)) (.mul (small_mul a5s.1 a5s.2)))) ?_
  refine .cons (.assign (v := .int lim) (.say (.bin (.name rfl) (.bin (.bin .int (.name rfl) (.mul (small_mul (by decide) (by decide)))) (.name rfl) (.mul (small_mul (by omega) (by omega)))) (.fdiv (Int.ne_of_gt q1) (by omega))) (congrArg MV.int H.lm))) ?_
  refine .cons (.assign (v := .int dr) (.say (.bin (.bin (.bin (.bin .int (.name rfl) (.mul (small_mul (by decide) (by decide)))) .int .add) (.bin (.bin .int (.name rfl) (.mul (small_mul (by decide) (by decide)))) .int .sub) (.mod (by omega))) (.bin (.name rfl) .int .sub) .sub) (congrArg MV.int H.hdr))) ?_
  have hln : (ns.map MV.int).length = ns.length := List.length_map ..
  refine .cons (.comp (n := (ns.map MV.int).length) (iv := liI ns) (res := fun j => some (.list [.int ((dr - 1).fmod (ns.getD j 1) + 1), .int (ns.getD j 1)])) (cl := [("drawn", L + 1)]) (σc := [("drawn", .int dr)]) (.name rfl) (.oneCell rfl rfl (fun _ => rfl) (fun _ => ⟨rfl, rfl⟩) (fun _ => rfl) rfl rfl rfl (.list (.inl ⟨_, _, rfl⟩)) (by rw [hln, H.n7]; decide) fun I D' C j hj => ?_)) ?_
  · rw [hln] at hj
    obtain ⟨n, hn⟩ : ∃ n, ns[j]? = some n := ⟨_, List.getElem?_eq_getElem hj⟩
    have h7 := H.ok n (List.mem_of_getElem? hn)
    rw [List.getD_eq_getElem?_getD, List.getElem?_map, hn, List.getD_eq_getElem?_getD, hn]
    exact ⟨_, _, .name, .nil, .to (.list (.cons (.bin (.bin (.bin (.name rfl) .int .sub) (.name rfl) (.mod (by show n ≠ 0; omega))) .int .add) (.cons (.name rfl) .nil))) ⟨rfl, trivial⟩⟩
  have ep : (List.range (ns.map MV.int).length).filterMap (fun j => some (MV.list [.int ((dr - 1).fmod (ns.getD j 1) + 1), .int (ns.getD j 1)])) = (again dr ns).map fun p => .list [.int p.1, .int p.2] := by
    rw [hln, again, List.map_map, show List.filterMap (fun j => some (MV.list [.int ((dr - 1).fmod (ns.getD j 1) + 1), .int (ns.getD j 1)])) (List.range ns.length) = (List.range ns.length).map (fun j => MV.list [.int ((dr - 1).fmod (ns.getD j 1) + 1), .int (ns.getD j 1)]) from congrFun List.filterMap_eq_map _]
    apply List.ext_getElem?
    intro i
    by_cases hi : i < ns.length
    · rw [List.getElem?_map, List.getElem?_map, List.getElem?_range hi, List.getElem?_eq_getElem hi]
      simp [List.getD_eq_getElem?_getD, hi]
    · rw [List.getElem?_eq_none, List.getElem?_eq_none] <;> simpa using Nat.le_of_not_lt hi
  refine .of (σ := ⟨lB xs ns M (a5 * a6) lim dr, _⟩) (by exact ⟨congrArg (fun x => some (MV.list x)) ep, rfl, rfl, rfl, rfl, rfl, rfl, rfl, rfl, trivial⟩) ?_
  obtain ⟨fI, cl, dV, kV, doc', pm', ct, an, cc, i1, i2, i3⟩ := F.init
  exact .ownRow (n := (prt1 xs).sum.fmod 5) F.T F.mkr i1 i2 i3 F.no F.keep F.cls (.bin (.name rfl) .int (.mod (by decide))) rfl (by exact (by decide : 2 ≤ 78)) fun a dx Z => lawTail F H ht
end
end U13
end
noncomputable section
namespace U13
noncomputable def pr : List Int → Int
  | [] => 1
  | n :: l => n * pr l
theorem pr_app : ∀ l m : List Int, pr (l ++ m) = pr l * pr m
  | [], _ => (Int.one_mul _).symm
  | n :: l, m => by rw [List.cons_append, pr, pr, pr_app l m, Int.mul_assoc]
theorem pr_one (n : Int) : pr [n] = n := Int.mul_one n
theorem pr_perm {l m : List Int} (h : l.Perm m) : pr l = pr m := by
  induction h with
  | nil => rfl
  | cons x _ ih => rw [pr, pr, ih]
  | swap x y l => rw [pr, pr, pr, pr, ← Int.mul_assoc, Int.mul_comm y x, Int.mul_assoc]
  | trans _ _ a b => exact a.trans b
theorem pr_pos : ∀ {l : List Int}, (∀ n ∈ l, 0 < n) → 0 < pr l
  | [], _ => by decide
  | n :: l, h => Int.mul_pos (h n (.head _)) (pr_pos fun m hm => h m (.tail _ hm))
theorem gcd1_mul {a b c : Int} (h : Int.gcd a b = 1) (k : Int.gcd a c = 1) : Int.gcd a (b * c) = 1 := by
  unfold Int.gcd at *
  rw [Int.natAbs_mul]
  exact Nat.Coprime.mul_right h k
theorem gcd1_of_mul {a b c : Int} (h : Int.gcd a (b * c) = 1) : Int.gcd a b = 1 ∧ Int.gcd a c = 1 := by
  unfold Int.gcd at *
  rw [Int.natAbs_mul] at h
  exact ⟨Nat.Coprime.coprime_mul_right_right h, Nat.Coprime.coprime_mul_left_right h⟩
theorem gcd1_pr {a : Int} : ∀ {l : List Int}, Int.gcd a (pr l) = 1 → ∀ n ∈ l, Int.gcd a n = 1
  | m :: _, h, n, hn => by
    obtain ⟨h1, h2⟩ := gcd1_of_mul h
    cases hn with
    | head => exact h1
    | tail _ hn => exact gcd1_pr h2 n hn
theorem pr_gcd1 {a : Int} : ∀ {l : List Int}, (∀ n ∈ l, Int.gcd a n = 1) → Int.gcd a (pr l) = 1
  | [], _ => Int.gcd_one_right a
  | m :: l, h => gcd1_mul (h m (.head _)) (pr_gcd1 fun n hn => h n (.tail _ hn))
/-- what the sieve keeps -/
structure SInv (s : List Int × Int) : Prop where
  prod : s.2 = pr s.1
  rng : ∀ n ∈ s.1, 7 ≤ n ∧ n < 55
  cop : s.1.Pairwise fun a b => Int.gcd a b = 1
  len : s.1.length ≤ 7
theorem SInv.init : SInv ([], 1) := ⟨rfl, (fun _ h => nomatch h), .nil, Nat.zero_le _⟩
theorem SInv.step {s : List Int × Int} (h : SInv s) (x : Int) : SInv (sieve s x) := by
  unfold sieve
  split
  · rename_i k
    obtain ⟨f0, f1⟩ := fm48 x
    refine ⟨?_, ?_, ?_, ?_⟩
    · rw [pr_app, pr_one, h.prod]
    · intro n hn
      rcases List.mem_append.mp hn with hn | hn
      · exact h.rng n hn
      · cases List.mem_singleton.mp hn; omega
    · refine List.pairwise_append.mpr ⟨h.cop, List.pairwise_singleton .., fun a ha b hb => ?_⟩
      cases List.mem_singleton.mp hb
      have k2 : Int.gcd (7 + x.fmod 48) (pr s.1) = 1 := by rw [← h.prod]; exact Int.ofNat.inj k.2
      rw [Int.gcd_comm]
      exact gcd1_pr k2 a ha
    · have := k.1
      rw [List.length_append, List.length_singleton]; omega
  · exact h
theorem SInv.fold : ∀ (l : List Int) {s : List Int × Int}, SInv s → SInv (l.foldl sieve s)
  | [], _, h => h
  | x :: l, _, h => SInv.fold l (h.step x)
theorem SInv.at (xs : List Int) (i : Nat) : SInv (sv xs i) := .fold _ .init
theorem pr_le : ∀ {l : List Int}, (∀ n ∈ l, 7 ≤ n ∧ n < 55) → pr l ≤ 54 ^ l.length ∧ 7 ^ l.length ≤ pr l
  | [], _ => by decide
  | n :: l, h => by
    obtain ⟨h1, h2⟩ := h n (.head _)
    obtain ⟨h3, h4⟩ := pr_le (l := l) fun m hm => h m (.tail _ hm)
    have p0 : 0 < pr l := pr_pos fun m hm => by have := (h m (.tail _ hm)).1; omega
    have p7 : (0 : Int) ≤ 7 ^ l.length := Int.le_of_lt (Int.pow_pos (by decide))
    rw [pr, List.length_cons, Int.pow_succ, Int.pow_succ, Int.mul_comm n]
    exact ⟨Int.mul_le_mul h3 (by omega) (by omega) (Int.le_trans (Int.le_of_lt p0) h3), Int.mul_le_mul h4 h1 (by decide) (Int.le_of_lt p0)⟩
theorem pow_le54 {k : Nat} (h : k ≤ 7) : (54 : Int) ^ k ≤ 54 ^ 7 := by
  rcases k with _ | _ | _ | _ | _ | _ | _ | _ | k <;> first | decide | omega
theorem SInv.bnd {s : List Int × Int} (h : SInv s) : 0 < s.2 ∧ s.2 < 2 ^ 50 := by
  rw [h.prod]
  refine ⟨pr_pos fun m hm => by have := (h.rng m hm).1; omega, ?_⟩
  have := (pr_le h.rng).1
  have := pow_le54 h.len
  have : (54 : Int) ^ 7 < 2 ^ 50 := by decide
  omega
/-- how many of P are free of w -/
noncomputable def cnt1 (P : List Int) (w : Int) : Nat := P.countP fun p => decide (Int.gcd p w = 1)
theorem cnt_step {n : Int} : ∀ {P : List Int} {w : Int}, cnt1 P w ≤ cnt1 P (w * n) + P.countP fun p => decide (Int.gcd p n ≠ 1)
  | [], _ => Nat.le_refl _
  | p :: P, w => by
    have ih := cnt_step (n := n) (P := P) (w := w)
    unfold cnt1 at *
    rw [List.countP_cons, List.countP_cons, List.countP_cons]
    by_cases h1 : Int.gcd p w = 1
    · by_cases h2 : Int.gcd p n = 1
      · rw [if_pos (decide_eq_true h1), if_pos (decide_eq_true (gcd1_mul h1 h2)), if_neg (fun e => absurd h2 (of_decide_eq_true e))]; omega
      · rw [if_pos (decide_eq_true h1), if_pos (decide_eq_true h2)]; omega
    · rw [if_neg (fun e => h1 (of_decide_eq_true e))]; omega
def backs : List Int := [53, 47, 43, 41, 37, 31, 29]
theorem kill1 {n : Int} (h : 7 ≤ n) (h' : n < 55) : (backs.countP fun p => decide (Int.gcd p n ≠ 1)) ≤ 1 := by
  obtain ⟨k, rfl⟩ := Int.eq_ofNat_of_zero_le (by omega : 0 ≤ n)
  have : ∀ k : Fin 55, 7 ≤ k.val → (backs.countP fun p => decide (Int.gcd p (k.val : Int) ≠ 1)) ≤ 1 := by decide +kernel
  exact this ⟨k, by omega⟩ (by show 7 ≤ k; omega)
theorem phi1 {s : List Int × Int} (x : Int) (h : 7 ≤ s.1.length + cnt1 backs s.2) : 7 ≤ (sieve s x).1.length + cnt1 backs (sieve s x).2 := by
  unfold sieve
  split
  · obtain ⟨f0, f1⟩ := fm48 x
    have := kill1 (n := 7 + x.fmod 48) (by omega) (by omega)
    have := cnt_step (n := 7 + x.fmod 48) (P := backs) (w := s.2)
    show 7 ≤ (s.1 ++ [7 + x.fmod 48]).length + cnt1 backs (s.2 * (7 + x.fmod 48))
    rw [List.length_append, List.length_singleton]; omega
  · exact h
theorem phi_fold : ∀ (l : List Int) {s : List Int × Int}, 7 ≤ s.1.length + cnt1 backs s.2 → 7 ≤ (l.foldl sieve s).1.length + cnt1 backs (l.foldl sieve s).2
  | [], _, h => h
  | x :: l, _, h => phi_fold l (phi1 x h)
theorem phi2 {s : List Int × Int} {x p : Int} {P : List Int} (hp : 7 + x.fmod 48 = p) (hP : (P.countP fun q => decide (Int.gcd q p ≠ 1)) = 0) (hl : s.1.length ≤ 7) (h : 7 ≤ s.1.length + cnt1 (p :: P) s.2) : 7 ≤ (sieve s x).1.length + cnt1 P (sieve s x).2 := by
  subst hp
  unfold sieve
  split
  · rename_i k
    have e : Int.gcd (7 + x.fmod 48) s.2 = 1 := Int.ofNat.inj k.2
    have := cnt_step (n := 7 + x.fmod 48) (P := P) (w := s.2)
    show 7 ≤ (s.1 ++ [7 + x.fmod 48]).length + cnt1 P (s.2 * (7 + x.fmod 48))
    rw [List.length_append, List.length_singleton]
    unfold cnt1 at *
    rw [List.countP_cons, if_pos (decide_eq_true e)] at h
    omega
  · rename_i k
    unfold cnt1 at *
    by_cases h7 : s.1.length < 7
    · have e : ¬ Int.gcd (7 + x.fmod 48) s.2 = 1 := fun e => k ⟨h7, congrArg Int.ofNat e⟩
      rw [List.countP_cons, if_neg (fun e' => e (of_decide_eq_true e'))] at h
      exact h
    · omega
theorem phi0 : cnt1 backs 1 = 7 := by unfold cnt1; decide +kernel
theorem sv_len (xs : List Int) : (sv xs (cand xs).length).1.length = 7 := by
  have i7 := (SInv.at xs (cand xs).length).len
  have a := phi_fold ((prt1 xs).take 7) (s := ([], 1)) (by show 7 ≤ 0 + cnt1 backs 1; rw [phi0]; decide)
  have b : SInv (((prt1 xs).take 7).foldl sieve ([], 1)) := .fold _ .init
  have e : sv xs (cand xs).length = sieve (sieve (sieve (sieve (sieve (sieve (sieve (((prt1 xs).take 7).foldl sieve ([], 1)) 46) 40) 36) 34) 30) 24) 22 := by
    rw [sv, List.take_length, cand, List.foldl_append]
    simp only [List.foldl_cons, List.foldl_nil]
  rw [e] at i7 ⊢
  generalize ((prt1 xs).take 7).foldl sieve ([], 1) = s at a b i7 ⊢
  have c1 := phi2 (x := 46) (p := 53) (P := [47, 43, 41, 37, 31, 29]) (by rfl) (by decide +kernel) b.len a
  have c2 := phi2 (x := 40) (p := 47) (P := [43, 41, 37, 31, 29]) (by rfl) (by decide +kernel) (b.step 46).len c1
  have c3 := phi2 (x := 36) (p := 43) (P := [41, 37, 31, 29]) (by rfl) (by decide +kernel) ((b.step 46).step 40).len c2
  have c4 := phi2 (x := 34) (p := 41) (P := [37, 31, 29]) (by rfl) (by decide +kernel) (((b.step 46).step 40).step 36).len c3
  have c5 := phi2 (x := 30) (p := 37) (P := [31, 29]) (by rfl) (by decide +kernel) ((((b.step 46).step 40).step 36).step 34).len c4
  have c6 := phi2 (x := 24) (p := 31) (P := [29]) (by rfl) (by decide +kernel) (((((b.step 46).step 40).step 36).step 34).step 30).len c5
  have c7 := phi2 (x := 22) (p := 29) (P := []) (by rfl) (by decide +kernel) ((((((b.step 46).step 40).step 36).step 34).step 30).step 24).len c6
  have z : ∀ w, cnt1 [] w = 0 := fun _ => rfl
  rw [z, Nat.add_zero] at c7
  exact Nat.le_antisymm i7 c7
end U13
end
noncomputable section
namespace U13
theorem bez (a b : Nat) : ∃ x y : Int, x * a + y * b = Nat.gcd a b := by
  induction a, b using Nat.gcd.induction with
  | H0 n => exact ⟨0, 1, by simp⟩
  | H1 m n hm ih =>
    obtain ⟨x, y, h⟩ := ih
    refine ⟨y - x * (n / m : Nat), x, ?_⟩
    rw [Nat.gcd_rec, ← h]
    have e : (n : Int) = (m : Int) * (n / m : Nat) + (n % m : Nat) := by
      have := Nat.div_add_mod n m
      exact_mod_cast this.symm
    generalize ((n / m : Nat) : Int) = q at *
    generalize ((n % m : Nat) : Int) = r at *
    rw [e, Int.sub_mul, Int.mul_add]
    have : x * q * (m : Int) = x * ((m : Int) * q) := by rw [Int.mul_assoc, Int.mul_comm q]
    omega
theorem bezI {a b : Int} (ha : 0 ≤ a) (hb : 0 ≤ b) (h : Int.gcd a b = 1) : ∃ x y : Int, x * a + y * b = 1 := by
  obtain ⟨a, rfl⟩ := Int.eq_ofNat_of_zero_le ha
  obtain ⟨b, rfl⟩ := Int.eq_ofNat_of_zero_le hb
  obtain ⟨x, y, e⟩ := bez a b
  refine ⟨x, y, e.trans ?_⟩
  have : Nat.gcd a b = 1 := h
  rw [this]; rfl
/-- n divides m * k, coprime to m -/
theorem dvd_of_gcd1 {n m k : Int} (hn : 0 ≤ n) (hm : 0 ≤ m) (h : Int.gcd n m = 1) (d : n ∣ m * k) : n ∣ k := by
  obtain ⟨x, y, e⟩ := bezI hn hm h
  obtain ⟨q, d⟩ := d
  have : k = (x * n + y * m) * k := by rw [e, Int.one_mul]
  rw [Int.add_mul, Int.mul_assoc y, d] at this
  refine ⟨x * k + y * q, this.trans ?_⟩
  rw [Int.mul_add, ← Int.mul_assoc n x, Int.mul_comm n x, Int.mul_left_comm n y q]
theorem dvd_pr {q : Int} : ∀ {l : List Int}, q ∈ l → q ∣ pr l
  | x :: l, h => by
    cases h with
    | head => exact Int.dvd_mul_right ..
    | tail _ z => exact Int.dvd_trans (dvd_pr z) (Int.dvd_mul_left ..)
theorem solve {s t b n : Int} (hn : 0 < n) (ht : 0 ≤ t) (h : Int.gcd n t = 1) : ∃ k : Nat, (k : Int) < n ∧ (s + k * t - b).fmod n = 0 := by
  obtain ⟨x, y, e⟩ := bezI (Int.le_of_lt hn) ht h
  have h0 := Int.emod_nonneg ((b - s) * y) (Int.ne_of_gt hn)
  have h1 := Int.emod_lt_of_pos ((b - s) * y) hn
  refine ⟨(((b - s) * y) % n).toNat, by omega, ?_⟩
  rw [Int.toNat_of_nonneg h0, Int.fmod_eq_emod_of_nonneg _ (Int.le_of_lt hn)]
  apply Int.emod_eq_zero_of_dvd
  have e1 : (b - s) * y % n = (b - s) * y - n * ((b - s) * y / n) := by have := Int.emod_add_mul_ediv ((b - s) * y) n; omega
  refine ⟨-((b - s) * x) - ((b - s) * y / n) * t, ?_⟩
  rw [e1]
  generalize (b - s) * y / n = q
  have e2 : (b - s) * (x * n + y * t) = b - s := by rw [e, Int.mul_one]
  have e3 : (b - s) * (x * n + y * t) = n * ((b - s) * x) + (b - s) * y * t := by rw [Int.mul_add, ← Int.mul_assoc, ← Int.mul_assoc, Int.mul_comm n]
  rw [Int.sub_mul, Int.mul_sub, Int.mul_neg, Int.mul_assoc n q t]
  omega
noncomputable def kf (s t b n : Int) : Nat := ((List.range n.toNat).find? fun k => (s + (k : Nat) * t - b).fmod n == 0).getD 0
theorem kf_spec {s t b n : Int} (hn : 0 < n) (ht : 0 ≤ t) (h : Int.gcd n t = 1) : (kf s t b n : Int) < n ∧ (∀ i : Nat, i < kf s t b n → (s + i * t - b).fmod n ≠ 0) ∧ (s + (kf s t b n : Nat) * t - b).fmod n = 0 := by
  obtain ⟨k, k1, k2⟩ := solve (s := s) (b := b) hn ht h
  have hk : k ∈ List.range n.toNat := List.mem_range.mpr (by omega)
  unfold kf
  cases e : (List.range n.toNat).find? fun k => (s + (k : Nat) * t - b).fmod n == 0 with
  | none =>
    have := List.find?_eq_none.mp e k hk
    rw [k2] at this; exact absurd rfl this
  | some j =>
    obtain ⟨h1, h2, h3⟩ := List.find?_range_eq_some.mp e
    refine ⟨?_, fun i hi he => ?_, beq_iff_eq.mp h1⟩
    · have := List.mem_range.mp h2
      show (j : Int) < n; omega
    · have := h3 i hi
      rw [he] at this; exact absurd this (by decide)
noncomputable def crt (tu : List (Int × Int)) : Nat → Int × Int
  | 0 => (0, 1)
  | i + 1 => ((crt tu i).1 + kf (crt tu i).1 (crt tu i).2 (tu.getD i (0, 1)).1 (tu.getD i (0, 1)).2 * (crt tu i).2, (crt tu i).2 * (tu.getD i (0, 1)).2)
structure NOk (l : List Int) : Prop where
  rng : ∀ n ∈ l, 7 ≤ n ∧ n < 55
  cop : l.Pairwise fun a b => Int.gcd a b = 1
theorem NOk.take {l : List Int} (h : NOk l) (i : Nat) : NOk (l.take i) := ⟨fun n hn => h.rng n (List.mem_of_mem_take hn), h.cop.sublist (List.take_sublist ..)⟩
theorem NOk.pos {l : List Int} (h : NOk l) : 0 < pr l := pr_pos fun n hn => by have := (h.rng n hn).1; omega
theorem crt_inv {tu : List (Int × Int)} (h : NOk (tu.map (·.2))) : ∀ {i : Nat}, i ≤ tu.length → (crt tu i).2 = pr ((tu.map (·.2)).take i) ∧ 0 ≤ (crt tu i).1 ∧ (crt tu i).1 < (crt tu i).2 ∧ ∀ j p, j < i → tu[j]? = some p → p.2 ∣ (crt tu i).1 - p.1
  | 0, _ => ⟨rfl, Int.le_refl _, (by decide : (0 : Int) < 1), fun j _ hj => absurd hj (Nat.not_lt_zero j)⟩
  | i + 1, hi => by
    obtain ⟨h1, h2, h3, h4⟩ := crt_inv h (i := i) (by omega)
    obtain ⟨p, hp⟩ : ∃ p, tu[i]? = some p := ⟨_, List.getElem?_eq_getElem (by omega)⟩
    have hm : (tu.map (·.2))[i]? = some p.2 := by rw [List.getElem?_map, hp]; rfl
    obtain ⟨r1, r2⟩ := h.rng p.2 (List.mem_of_getElem? hm)
    have hg : Int.gcd p.2 (crt tu i).2 = 1 := by
      rw [h1]
      refine pr_gcd1 fun n hn => ?_
      obtain ⟨j, hj, e⟩ := List.mem_take_iff_getElem.mp hn
      rw [Int.gcd_comm]
      have hl : i < (tu.map (·.2)).length := by rw [List.length_map]; omega
      have := List.pairwise_iff_getElem.mp h.cop j i (by omega) hl (by omega)
      rw [e, (List.getElem?_eq_some_iff.mp hm).2] at this
      exact this
    have gd : tu.getD i (0, 1) = p := by rw [List.getD_eq_getElem?_getD, hp]; rfl
    have t0 : 0 ≤ (crt tu i).2 := by omega
    obtain ⟨k1, k2, k3⟩ := kf_spec (s := (crt tu i).1) (b := p.1) (by omega) t0 hg
    rw [crt, gd]
    show _ ∧ _ ∧ _ ∧ _
    generalize hk : kf (crt tu i).1 (crt tu i).2 p.1 p.2 = k at *
    refine ⟨?_, ?_, ?_, fun j q hj hq => ?_⟩
    · show (crt tu i).2 * p.2 = _
      rw [List.take_add_one, hm, pr_app, h1]; rw [show (some p.2).toList = [p.2] from rfl, pr_one]
    · have := Int.mul_nonneg (Int.natCast_nonneg k) t0
      show 0 ≤ (crt tu i).1 + k * (crt tu i).2; omega
    · show (crt tu i).1 + k * (crt tu i).2 < (crt tu i).2 * p.2
      have a1 : ((k : Int) + 1) * (crt tu i).2 ≤ p.2 * (crt tu i).2 := Int.mul_le_mul_of_nonneg_right (by omega) t0
      rw [Int.add_mul, Int.one_mul] at a1
      rw [Int.mul_comm _ p.2]; omega
    · show q.2 ∣ (crt tu i).1 + k * (crt tu i).2 - q.1
      by_cases e : j = i
      · subst e
        rw [hp] at hq; cases hq
        rw [Int.fmod_eq_emod_of_nonneg _ (by omega)] at k3
        exact Int.dvd_of_emod_eq_zero k3
      · have d1 := h4 j q (by omega) hq
        have d2 : q.2 ∣ (crt tu i).2 := by
          rw [h1]
          have hq' : q.2 ∈ (tu.map (·.2)).take i := List.mem_take_iff_getElem.mpr ⟨j, by rw [List.length_map]; have := (List.getElem?_eq_some_iff.mp hq).1; omega, by
            rw [List.getElem_map]; rw [(List.getElem?_eq_some_iff.mp hq).2]⟩
          exact dvd_pr hq'
        have : (crt tu i).1 + k * (crt tu i).2 - q.1 = ((crt tu i).1 - q.1) + k * (crt tu i).2 := by omega
        rw [this]
        exact Int.dvd_add d1 (Int.dvd_mul_of_dvd_right d2)
theorem crt_met {tu : List (Int × Int)} (h : NOk (tu.map (·.2))) (hl : tu.length ≤ 7) (i : Nat) (p : Int × Int) (hp : tu[i]? = some p) :
    Met (crt tu i).1 (crt tu i).2 p.1 p.2 (kf (crt tu i).1 (crt tu i).2 p.1 p.2) (crt tu (i + 1)).1 (crt tu (i + 1)).2 := by
  have hi := (List.getElem?_eq_some_iff.mp hp).1
  obtain ⟨h1, h2, h3, h4⟩ := crt_inv h (i := i) (by omega)
  have hm : (tu.map (·.2))[i]? = some p.2 := by rw [List.getElem?_map, hp]; rfl
  obtain ⟨r1, r2⟩ := h.rng p.2 (List.mem_of_getElem? hm)
  have hg : Int.gcd p.2 (crt tu i).2 = 1 := by
    rw [h1]
    refine pr_gcd1 fun n hn => ?_
    obtain ⟨j, hj, e⟩ := List.mem_take_iff_getElem.mp hn
    rw [Int.gcd_comm]
    have hl : i < (tu.map (·.2)).length := by rw [List.length_map]; omega
    have := List.pairwise_iff_getElem.mp h.cop j i (by omega) hl (by omega)
    rw [e, (List.getElem?_eq_some_iff.mp hm).2] at this
    exact this
  have gd : tu.getD i (0, 1) = p := by rw [List.getD_eq_getElem?_getD, hp]; rfl
  obtain ⟨k1, k2, k3⟩ := kf_spec (s := (crt tu i).1) (b := p.1) (by omega : 0 < p.2) (by omega) hg
  have hb := (pr_le (h.take i).rng).1
  have := pow_le54 (k := ((tu.map (·.2)).take i).length) (by rw [List.length_take, List.length_map]; omega)
  have : (54 : Int) ^ 7 < 2 ^ 64 := by decide
  exact ⟨by omega, by omega, ⟨by omega, by omega⟩, k1, k2, k3, by rw [crt, gd], by rw [crt, gd]⟩
end U13
end
noncomputable section
namespace U13
/-- one state of Euclid's run, with both cofactors -/
structure ES where
  h : Int
  l : Int
  b : Int
  f : Int
  bu : Int
  fu : Int
noncomputable def ES.next (s : ES) : ES := ⟨s.l, s.h.fmod s.l, s.f, s.b - s.h.fdiv s.l * s.f, s.fu, s.bu - s.h.fdiv s.l * s.fu⟩
noncomputable def es (M v : Int) : Nat → ES
  | 0 => ⟨M, v, 0, 1, 1, 0⟩
  | i + 1 => (es M v i).next
structure EI (M v : Int) (s : ES) : Prop where
  l0 : 0 ≤ s.l
  lh : s.l < s.h
  hE : s.h = M * s.bu + v * s.b
  lE : s.l = M * s.fu + v * s.f
  det : s.b * s.fu - s.f * s.bu = 1 ∨ s.b * s.fu - s.f * s.bu = -1
  sg : (0 ≤ s.f ∧ s.b ≤ 0 ∧ s.f * s.h - s.b * s.l = M) ∨ (s.f ≤ 0 ∧ 0 ≤ s.b ∧ s.b * s.l - s.f * s.h = M)
theorem EI.init {M v : Int} (h0 : 0 ≤ v) (h1 : v < M) : EI M v ⟨M, v, 0, 1, 1, 0⟩ := ⟨h0, h1, by simp, by simp, .inr (by simp), .inl ⟨Int.zero_le_ofNat 1, Int.le_refl _, by simp⟩⟩
theorem EI.next {M v : Int} {s : ES} (e : EI M v s) (hl : 0 < s.l) : EI M v s.next := by
  obtain ⟨h, l, b, f, bu, fu⟩ := s
  obtain ⟨l0, lh, hE, lE, det, sg⟩ := e
  dsimp only at *
  have m0 := Int.fmod_nonneg_of_pos h hl
  have m1 := Int.fmod_lt_of_pos h hl
  have q0 : 0 ≤ h.fdiv l := by rw [Int.fdiv_eq_ediv_of_nonneg _ l0]; exact Int.ediv_nonneg (by omega) l0
  have em : h.fmod l = h - h.fdiv l * l := by have := Int.fmod_add_mul_fdiv h l; rw [Int.mul_comm] at this; omega
  refine ⟨m0, m1, lE, ?_, ?_, ?_⟩
  all_goals unfold ES.next; dsimp only; try rw [em]
  all_goals clear m0 m1; clear em; generalize h.fdiv l = q at *
  · grind
  · rcases det with d | d
    · right; grind
    · left; grind
  · rcases sg with ⟨s1, s2, s3⟩ | ⟨s1, s2, s3⟩
    · right
      have := Int.mul_nonneg q0 s1
      exact ⟨by omega, s1, by grind⟩
    · left
      have := Int.mul_nonneg q0 (Int.neg_nonneg_of_nonpos s1)
      rw [Int.mul_neg] at this
      exact ⟨by omega, s1, by grind⟩
theorem EI.fB {M v B : Int} {s : ES} (e : EI M v s) (hB : 0 ≤ B) (h : B ≤ s.h) : (if s.f < 0 then -s.f else s.f) * B ≤ M ∧ (if s.b < 0 then -s.b else s.b) * s.l ≤ M := by
  obtain ⟨h', l, b, f, bu, fu⟩ := s
  obtain ⟨l0, lh, hE, lE, det, sg⟩ := e
  dsimp only at *
  rcases sg with ⟨s1, s2, s3⟩ | ⟨s1, s2, s3⟩
  · have a1 := Int.mul_le_mul_of_nonneg_left h s1
    have a2 := Int.mul_nonneg (Int.neg_nonneg_of_nonpos s2) l0
    rw [Int.neg_mul] at a2
    rw [if_neg (by omega)]
    refine ⟨by omega, ?_⟩
    have a3 := Int.mul_nonneg s1 (by omega : 0 ≤ h')
    split
    · rw [Int.neg_mul]; omega
    · have : b = 0 := by omega
      subst this; rw [Int.zero_mul] at *; omega
  · have a1 := Int.mul_le_mul_of_nonneg_left h (Int.neg_nonneg_of_nonpos s1)
    have a2 := Int.mul_nonneg s2 l0
    have a3 := Int.mul_nonneg (Int.neg_nonneg_of_nonpos s1) (by omega : 0 ≤ h')
    rw [Int.neg_mul] at a3
    rw [Int.neg_mul, Int.neg_mul] at a1
    rw [if_neg (by omega : ¬ b < 0)]
    refine ⟨?_, by omega⟩
    split
    · rw [Int.neg_mul]; omega
    · have : f = 0 := by omega
      subst this; rw [Int.zero_mul] at *; omega
/-- where the run breaks off -/
theorem euclid {M v E D dr lim : Int} {s : ES} (e : EI M v s) (hE0 : 0 < E) (hED : E ≤ D) (hd1 : 1 - lim ≤ dr) (hd2 : dr ≤ lim - 1) (hM : 4 * D * D * lim ≤ M) (hlim : 0 < lim)
    (d1 : M ∣ E * (v - dr)) (d2 : ∀ w, M ∣ w * (v - dr) → E ∣ w) (hl : s.l < 2 * lim * D) (hh : 2 * lim * D ≤ s.h) : s.l = s.f * dr ∧ (if s.f < 0 then -s.f else s.f) = E := by
  have hB := (e.fB (B := 2 * lim * D) (Int.mul_nonneg (by omega) (by omega)) hh).1
  obtain ⟨h, l, b, f, bu, fu⟩ := s
  obtain ⟨l0, lh, hE, lE, det, sg⟩ := e
  dsimp only at *
  obtain ⟨m, hm⟩ := d1
  have hD : 0 < D := by omega
  have hM0 : 0 < M := by
    have := Int.mul_pos (Int.mul_pos (Int.mul_pos (by decide : (0 : Int) < 4) hD) hD) hlim
    omega
  -- X = E * (l - f * dr) = M * k
  have hX : E * (l - f * dr) = M * (E * fu + f * m) := by grind
  have hk : E * fu + f * m = 0 := by
    generalize E * fu + f * m = k at *
    have b1 : E * l ≤ D * (2 * lim * D) := Int.mul_le_mul hED (Int.le_of_lt hl) l0 (Int.le_of_lt hD)
    have b2 : 0 ≤ E * l := Int.mul_nonneg (Int.le_of_lt hE0) l0
    have b1' : E * l < D * (2 * lim * D) := Int.lt_of_lt_of_le (Int.mul_lt_mul_of_pos_left hl hE0) (Int.mul_le_mul_of_nonneg_right hED (by omega))
    generalize ha : (if f < 0 then -f else f) = a at hB
    have fa : 0 ≤ a ∧ -a ≤ f ∧ f ≤ a := by split at ha <;> omega
    -- |E * f * dr| ≤ a * D * lim
    have c1 : -(a * (D * lim)) ≤ f * (E * dr) ∧ f * (E * dr) ≤ a * (D * lim) := by
      have u1 : E * dr ≤ D * lim := by
        by_cases z : 0 ≤ dr
        · exact Int.mul_le_mul hED (by omega) z (Int.le_of_lt hD)
        · have := Int.mul_nonneg (Int.le_of_lt hE0) (by omega : 0 ≤ -dr)
          rw [Int.mul_neg] at this
          have := Int.mul_nonneg (Int.le_of_lt hD) (Int.le_of_lt hlim); omega
      have u2 : -(D * lim) ≤ E * dr := by
        by_cases z : 0 ≤ dr
        · have := Int.mul_nonneg (Int.le_of_lt hE0) z
          have := Int.mul_nonneg (Int.le_of_lt hD) (Int.le_of_lt hlim); omega
        · have := Int.mul_le_mul hED (by omega : -dr ≤ lim) (by omega) (Int.le_of_lt hD)
          rw [Int.mul_neg] at this; omega
      generalize E * dr = y at *
      generalize D * lim = z at *
      have z0 : 0 ≤ z := by omega
      have p1 := Int.mul_le_mul_of_nonneg_left u1 fa.1
      have p2 := Int.mul_le_mul_of_nonneg_left u2 fa.1
      rw [Int.mul_neg] at p2
      by_cases z : 0 ≤ f
      · have : f = a := by split at ha <;> omega
        subst this; exact ⟨p2, p1⟩
      · have : f = -a := by split at ha <;> omega
        subst this; rw [Int.neg_mul]; omega
    have e1 : D * (2 * lim * D) * 2 = 4 * D * D * lim := by grind
    have e2 : a * (D * lim) * 2 = a * (2 * lim * D) := by grind
    have e3 : E * (l - f * dr) = E * l - f * (E * dr) := by grind
    have : -M < M * k ∧ M * k < M := by omega
    rcases Int.lt_trichotomy k 0 with z | z | z
    · have := Int.mul_le_mul_of_nonneg_left (by omega : k ≤ -1) (Int.le_of_lt hM0); omega
    · exact z
    · have := Int.mul_le_mul_of_nonneg_left (by omega : 1 ≤ k) (Int.le_of_lt hM0); omega
  rw [hk, Int.mul_zero] at hX
  have hl' : l = f * dr := by
    rcases Int.mul_eq_zero.mp hX with z | z <;> omega
  refine ⟨hl', ?_⟩
  have hf : f * (v - dr) = M * (-fu) := by grind
  obtain ⟨c, hc⟩ := d2 f ⟨_, hf⟩
  have hfu : fu = -(c * m) := by
    have : E * (fu + c * m) = 0 := by grind
    rcases Int.mul_eq_zero.mp this with z | z <;> omega
  have hc1 : c ∣ 1 := by
    rcases det with d | d
    · exact ⟨-(b * m) - E * bu, by grind⟩
    · exact ⟨b * m + E * bu, by grind⟩
  have hn : c.natAbs = 1 := Nat.dvd_one.mp (Int.natAbs_dvd_natAbs.mpr hc1)
  have : c = 1 ∨ c = -1 := by omega
  rcases this with rfl | rfl
  · rw [hc]; split <;> omega
  · rw [hc]; split <;> omega
end U13
end
noncomputable section
namespace U13
noncomputable def e1 (dr : Int) (p : Int × Int) : Int := p.2.fdiv (Int.gcd p.2 ((p.1 - dr).fmod p.2))
theorem dues_pr (dr : Int) (l : List (Int × Int)) : dues dr l = pr (l.map (e1 dr)) := by
  have : ∀ (l : List (Int × Int)) (a : Int), l.foldl (fun a p => a * p.2.fdiv (Int.gcd p.2 ((p.1 - dr).fmod p.2))) a = a * pr (l.map (e1 dr)) := by
    intro l
    induction l with
    | nil => exact fun a => (Int.mul_one a).symm
    | cons p r ih => exact fun a => (ih _).trans (Int.mul_assoc ..)
  exact (this l 1).trans (Int.one_mul _)
structure EO (n d e : Int) : Prop where
  pos : 0 < e
  le : e ≤ n
  dvd : e ∣ n
  up : n ∣ e * d
  min : ∀ w, n ∣ w * d → e ∣ w
theorem EO.of {n d g e x q s t y : Int} (hn : 0 < n) (hg : 0 < g) (ne : n = g * e) (xe : x = g * y) (de : d = x + n * q) (bz : s * n + t * x = g) : EO n d e := by
  have he : 0 < e := by
    rcases Int.lt_trichotomy e 0 with z | z | z
    · have := Int.mul_neg_of_pos_of_neg hg z; lia
    · subst z; lia
    · exact z
  refine ⟨he, ?_, ⟨g, by rw [ne, Int.mul_comm]⟩, ⟨y + e * q, by grind⟩, fun w ⟨k, hk⟩ => ⟨s * w + t * (k - w * q), ?_⟩⟩
  · have := Int.mul_le_mul_of_nonneg_right (show 1 ≤ g from hg) (Int.le_of_lt he)
    rwa [Int.one_mul, ← ne] at this
  · have h1 : g * (w - e * (s * w + t * (k - w * q))) = 0 := by grind
    rcases Int.mul_eq_zero.mp h1 with z | z
    · exact absurd z (Int.ne_of_gt hg)
    · exact Int.eq_of_sub_eq_zero z
theorem eo {dr : Int} {p : Int × Int} (hn : 0 < p.2) : EO p.2 (p.1 - dr) (e1 dr p) := by
  obtain ⟨b, n⟩ := p
  show EO n (b - dr) (n.fdiv (Int.gcd n ((b - dr).fmod n)))
  replace hn : 0 < n := hn
  have x0 := Int.fmod_nonneg_of_pos (b - dr) hn
  have xe := Int.fmod_add_mul_fdiv (b - dr) n
  generalize (b - dr).fdiv n = q at xe
  generalize (b - dr).fmod n = x at x0 xe
  have g0 : (0 : Int) < Int.gcd n x := Int.natCast_pos.mpr (Int.gcd_pos_of_ne_zero_left _ (Int.ne_of_gt hn))
  obtain ⟨y, hy⟩ := Int.gcd_dvd_right n x
  have ne : n = Int.gcd n x * n.fdiv (Int.gcd n x) := by
    rw [Int.fdiv_eq_ediv_of_nonneg _ (Int.le_of_lt g0), Int.mul_ediv_cancel' (Int.gcd_dvd_left n x)]
  obtain ⟨a, rfl⟩ := Int.eq_ofNat_of_zero_le (Int.le_of_lt hn)
  obtain ⟨c, rfl⟩ := Int.eq_ofNat_of_zero_le x0
  obtain ⟨s, t, bz⟩ := bez a c
  exact .of hn g0 ne hy xe.symm bz
theorem e1_one {dr : Int} {p : Int × Int} (hn : 0 < p.2) (h : p.2 ∣ p.1 - dr) : e1 dr p = 1 := by
  rw [e1, Int.fmod_eq_emod_of_nonneg _ (Int.le_of_lt hn), Int.emod_eq_zero_of_dvd h, Int.gcd_zero_right, Int.natAbs_of_nonneg (Int.le_of_lt hn), Int.fdiv_eq_ediv_of_nonneg _ (Int.le_of_lt hn)]
  exact Int.ediv_self (Int.ne_of_gt hn)
theorem pr_dvd {x : Int} : ∀ {l : List Int}, (∀ n ∈ l, 0 < n) → (l.Pairwise fun a b => Int.gcd a b = 1) → (∀ n ∈ l, n ∣ x) → pr l ∣ x
  | [], _, _, _ => Int.one_dvd x
  | n :: l, h, c, d => by
    obtain ⟨c1, c2⟩ := List.pairwise_cons.mp c
    obtain ⟨k, hk⟩ := pr_dvd (fun m hm => h m (.tail _ hm)) c2 fun m hm => d m (.tail _ hm)
    have hn := d n (.head _)
    rw [hk] at hn
    obtain ⟨j, rfl⟩ := dvd_of_gcd1 (Int.le_of_lt (h n (.head _))) (Int.le_of_lt (pr_pos fun m hm => h m (.tail _ hm))) (pr_gcd1 c1) hn
    exact ⟨j, by rw [hk, pr, Int.mul_left_comm, ← Int.mul_assoc]⟩
theorem gcd_sub {e f n m : Int} (he : e ∣ n) (hf : f ∣ m) (h : Int.gcd n m = 1) : Int.gcd e f = 1 :=
  Nat.Coprime.coprime_dvd_left (Int.natAbs_dvd_natAbs.mpr he) (Nat.Coprime.coprime_dvd_right (Int.natAbs_dvd_natAbs.mpr hf) h)
section
variable {tu : List (Int × Int)} {v dr : Int}
theorem NOk.p0 (h : NOk (tu.map (·.2))) {p : Int × Int} (hp : p ∈ tu) : 0 < p.2 := Int.lt_of_lt_of_le (by decide) (h.rng p.2 (List.mem_map_of_mem hp)).1
theorem due_up (h : NOk (tu.map (·.2))) (hv : ∀ p ∈ tu, p.2 ∣ v - p.1) : pr (tu.map (·.2)) ∣ dues dr tu * (v - dr) := by
  refine pr_dvd (fun n hn => Int.lt_of_lt_of_le (by decide) (h.rng n hn).1) h.cop fun n hn => ?_
  obtain ⟨p, hp, rfl⟩ := List.mem_map.mp hn
  have hd : e1 dr p ∣ dues dr tu := dues_pr dr tu ▸ dvd_pr (List.mem_map_of_mem hp)
  rw [show v - dr = (v - p.1) + (p.1 - dr) by lia, Int.mul_add]
  exact Int.dvd_add (Int.dvd_mul_of_dvd_right (hv p hp)) (Int.dvd_trans (eo (h.p0 hp)).up (Int.mul_dvd_mul_right _ hd))
theorem due_min (h : NOk (tu.map (·.2))) (hv : ∀ p ∈ tu, p.2 ∣ v - p.1) (w : Int) (hw : pr (tu.map (·.2)) ∣ w * (v - dr)) : dues dr tu ∣ w := by
  rw [dues_pr]
  refine pr_dvd (fun n hn => ?_) (List.pairwise_map.mpr ?_) fun n hn => ?_
  · obtain ⟨p, hp, rfl⟩ := List.mem_map.mp hn; exact (eo (h.p0 hp)).pos
  · exact (List.pairwise_map.mp h.cop).imp_of_mem fun ha hb c => gcd_sub (eo (h.p0 ha)).dvd (eo (h.p0 hb)).dvd c
  · obtain ⟨p, hp, rfl⟩ := List.mem_map.mp hn
    refine (eo (h.p0 hp)).min w ?_
    have h1 := Int.dvd_trans (dvd_pr (List.mem_map_of_mem (f := (·.2)) hp)) hw
    rw [show w * (p.1 - dr) = w * (v - dr) - w * (v - p.1) by rw [← Int.mul_sub]; congr 1; lia]
    exact Int.dvd_sub h1 (Int.dvd_mul_of_dvd_right (hv p hp))
end
end U13
end
noncomputable section
open PySem PySem.W PySem.Spec PySem.Calls PyProof.Rows
open PySem.Builtin.Str (glued strSub strSliceIndices)
namespace U13
theorem cl_mul {b : Int} (_ : 0 ≤ b) : cl (Txt.mul " " b) = List.replicate b.toNat 32 := by
  have e1 : cl (Str.ofString " ") = [32] := rfl
  unfold Txt.mul
  split
  · rw [show b = 0 by lia]; rfl
  · split
    · rename_i _ q
      have : b = 1 := by simpa [show (Str.ofString " ").length = 1 from rfl] using q
      subst this; exact e1
    · have : ∀ (n : Nat) (a : Array Nat), ((List.replicate n (Str.ofString " ").cps).foldl (· ++ ·) a).toList = a.toList ++ List.replicate n 32 := by
        intro n
        induction n with
        | zero => intro a; simp
        | succ n ih => intro a; rw [List.replicate_succ, List.foldl_cons, ih, Array.toList_append, show (Str.ofString " ").cps.toList = [32] from rfl, List.append_assoc]; rfl
      exact this _ _
theorem txt_nil : txt [] = Str.ofString "" := rfl
theorem cl_txt (ps : List (Int × Int)) : cl (txt ps) = (ps.map fun p => cl (pc p.1 p.2)).flatten := by rw [txt, cl_join, List.map_map]; rfl
theorem txt_cons (p : Int × Int) (ps : List (Int × Int)) : txt (p :: ps) = pc p.1 p.2 ++ txt ps := str_ext (by rw [cl_app, cl_txt, cl_txt, List.map_cons, List.flatten_cons])
theorem sg_fact {n : Int} (h : 7 ≤ n) (h' : n < 55) : 0 < (sg n).length ∧ (32 ∉ cl (sg n)) := by
  have k : ∀ x ∈ Txt.split signs " ", 0 < x.length ∧ (32 ∉ cl x) := by decide +kernel
  have hi : (n - 7).toNat < (Txt.split signs " ").length := by rw [sg_len]; lia
  rw [sg, List.getD_eq_getElem?_getD, List.getElem?_eq_getElem hi]
  exact k _ (List.getElem_mem hi)
theorem lstrip {t r : Str} {b : Nat} (ht : cl t = List.replicate b 32 ++ cl r) (h : ∀ c ∈ (cl r).head?, c ≠ 32) : Txt.lstripChars t " " = r := by
  have hg : ∀ c, (Str.ofString " ").cps.contains c = (c == 32) := fun c => by
    rw [Bool.eq_iff_iff, Array.contains_iff_mem, beq_iff_eq, ← Array.mem_toList_iff]
    exact List.mem_singleton
  have tw : ((cl t).takeWhile (Str.ofString " ").cps.contains).length = b := by
    rw [ht, List.takeWhile_append_of_pos (by intro c hc; rw [hg, (List.mem_replicate.mp hc).2]; rfl), List.length_append, List.length_replicate]
    cases e : cl r with
    | nil => rfl
    | cons c l =>
      rw [e] at h
      rw [List.takeWhile_cons, hg, beq_eq_false_iff_ne.mpr (h c rfl)]; rfl
  rw [Txt.lstripChars, PyProof.Rows.stripBy_eq]
  refine str_ext ?_
  show (t.cps.extract (stripLo _ true t) (stripHi _ false t _)).toList = _
  rw [show stripLo (Str.ofString " ").cps.contains true t = b from tw, show stripHi (Str.ofString " ").cps.contains false t b = t.length from rfl, Array.toList_extract, List.extract_eq_take_drop, show t.cps.toList = cl t from rfl, ht, List.drop_left' (List.length_replicate ..), len_cl, ht, List.length_append, List.length_replicate, Nat.add_sub_cancel_left, List.take_length]
theorem cut_to {x a c : Str} (h : cl x = cl a ++ cl c) {k : Int} (hk : k = a.length) : Txt.slice x none (some k) = a := by
  have hl : a.length ≤ x.length := by rw [len_cl x, h, List.length_append, len_cl]; exact Nat.le_add_right ..
  rw [beq_iff_eq.mp (slice_closes_toL (x := x) (j := k) (by lia) (by lia))]
  refine str_ext ?_
  show ((cl x).drop (0 : Int).toNat).take (k - 0).toNat = _
  rw [h, hk, show (0 : Int).toNat = 0 from rfl, List.drop_zero, Int.sub_zero, Int.toNat_natCast, len_cl, List.take_left]
theorem cut_from {x a c : Str} (h : cl x = cl a ++ cl c) {k : Int} (hk : k = a.length) : Txt.slice x (some k) none = c := by
  have hl : a.length ≤ x.length := by rw [len_cl x, h, List.length_append, len_cl]; exact Nat.le_add_right ..
  rw [slice_from_eq (b := x.length) (by lia) (by lia) rfl]
  refine str_ext ?_
  show ((cl x).drop k.toNat).take ((x.length : Int) - k).toNat = _
  rw [h, hk, Int.toNat_natCast, len_cl a, List.drop_left, len_cl x, h, List.length_append, show (((cl a).length + (cl c).length : Nat) - ((cl a).length : Int)).toNat = (cl c).length by lia, List.take_length]
theorem cut_all {x : Str} {k : Int} (h : (x.length : Int) ≤ k) : Txt.slice x none (some k) = x := by
  unfold Txt.slice
  refine if_pos ?_
  unfold strSliceIndices sliceRange
  simp only [show (1 : Int) > 0 by decide, if_true, List.length_map, List.length_range, beq_self_eq_true, Bool.true_and, beq_iff_eq]
  rw [if_neg (by lia : ¬ k < 0), Int.min_eq_right h, Int.max_eq_right (by lia)]
  split <;> simp <;> lia
end U13
end
noncomputable section
open PySem PySem.W PySem.Spec PySem.Calls PyProof.Rows
namespace U13
theorem txt63 : ∀ {ps : List (Int × Int)}, (∀ p ∈ ps, PcOk p) → (txt ps).length ≤ 63 * ps.length
  | [], _ => Nat.le_refl 0
  | p :: ps, h => by
    have h0 := h p (.head _)
    rw [txt_cons, Str.length_append, List.length_cons, Nat.mul_succ, Nat.add_comm]
    exact Nat.add_le_add (txt63 fun q hq => h q (.tail _ hq)) (pc_len h0.1 h0.2.1)
theorem first3 {P : Int → Bool} : ∀ {k : Nat}, 0 < k → k ≤ 3 → P k = true → (∀ j : Nat, k < j → j ≤ 3 → P j = false) → ∃ ks, [3, 2, 1].filter P = (k : Int) :: ks
  | 1, _, _, h, f => ⟨_, (List.filter_cons_of_neg (Bool.eq_false_iff.mp (f 3 (by decide) (by decide)))).trans ((List.filter_cons_of_neg (Bool.eq_false_iff.mp (f 2 (by decide) (by decide)))).trans (List.filter_cons_of_pos h))⟩
  | 2, _, _, h, f => ⟨_, (List.filter_cons_of_neg (Bool.eq_false_iff.mp (f 3 (by decide) (by decide)))).trans (List.filter_cons_of_pos h)⟩
  | 3, _, _, h, _ => ⟨_, List.filter_cons_of_pos h⟩
theorem has32 {r a : Str} {l : List Nat} (h : cl r = cl a ++ 32 :: l) {j : Nat} (hj : a.length < j) : 32 ∈ (Txt.slice r none (some (j : Int))).cps := by
  by_cases hk : j ≤ r.length
  · have e : Txt.slice r none (some (j : Int)) = ⟨((cl r).take j).toArray⟩ := cut_to (c := ⟨((cl r).drop j).toArray⟩) (List.take_append_drop ..).symm (by show (j : Int) = (((cl r).take j).toArray.size : Nat); rw [List.size_toArray, List.length_take, ← len_cl, Nat.min_eq_left hk])
    rw [e, ← Array.mem_toList_iff]
    show 32 ∈ (cl r).take j
    rw [h, List.take_append, List.mem_append]
    right
    rw [len_cl] at hj
    obtain ⟨m, hm⟩ : ∃ m, j - (cl a).length = m + 1 := ⟨j - (cl a).length - 1, by lia⟩
    rw [hm]; exact .head _
  · rw [cut_all (by lia), ← Array.mem_toList_iff]
    show 32 ∈ cl r
    rw [h]; exact List.mem_append_right _ (.head _)
theorem rd {g : Str → Option Value} (hg : ∀ n : Int, 7 ≤ n → n < 55 → ∃ u, g (sg n) = some (.int n u)) (hb : ∀ x : Str, 32 ∈ x.cps → g x = none) {p : Int × Int} {ps : List (Int × Int)} (h : ∀ q ∈ p :: ps, PcOk q ∧ 1 ≤ q.1) (hl : ps.length < 100) :
    Rd g (txt (p :: ps)) (sg p.2 ++ txt ps) p (txt ps) := by
  obtain ⟨⟨p0, p1, p2, p3⟩, p4⟩ := h p (.head _)
  obtain ⟨f1, f2⟩ := sg_fact p2 p3
  have f3 := sg_le p.2
  have e1 : cl (txt (p :: ps)) = List.replicate p.1.toNat 32 ++ cl (sg p.2 ++ txt ps) := by rw [txt_cons, pc, cl_app, cl_app, cl_app, cl_mul p0, List.append_assoc]
  have e2 := cl_app (sg p.2) (txt ps)
  have el : (txt (p :: ps)).length = p.1.toNat + (sg p.2 ++ txt ps).length := by rw [len_cl, e1, List.length_append, List.length_replicate, ← len_cl]
  have l1 := txt63 fun q hq => (h q hq).1
  rw [List.length_cons] at l1
  obtain ⟨u, hu⟩ := hg p.2 p2 p3
  refine ⟨fun z => ?_, lstrip e1 fun c hc => ?_, by lia, by lia, ?_, by lia⟩
  · rw [z] at el
    have : (Str.ofString "").length = 0 := rfl
    lia
  · rw [e2] at hc
    intro z
    subst z
    refine f2 ?_
    rw [len_cl] at f1
    cases e : cl (sg p.2) with
    | nil => rw [e] at f1; cases f1
    | cons d l => rw [e] at hc; cases hc; exact .head _
  · cases ps with
    | nil =>
      have er : sg p.2 ++ txt [] = sg p.2 := str_ext (by rw [cl_app, txt_nil]; exact List.append_nil _)
      rw [er]
      have es : Txt.slice (sg p.2) none (some ((3 : Nat) : Int)) = sg p.2 := cut_all (by lia)
      obtain ⟨ks, hk⟩ := first3 (P := fun k => (g (Txt.slice (sg p.2) none (some k))).isSome) (k := 3) (by decide) (by decide) (by show (g (Txt.slice (sg p.2) none (some ((3 : Nat) : Int)))).isSome = true; rw [es, hu]; rfl) (fun j a b => absurd a (Nat.not_lt.mpr b))
      exact ⟨_, ks, u, hk, by rw [es, hu], slice_beyond (by lia)⟩
    | cons q ps =>
      obtain ⟨⟨q0, _⟩, q4⟩ := h q (.tail _ (.head _))
      have eq : ∃ l, cl (txt (q :: ps)) = 32 :: l := by
        rw [txt_cons, pc, cl_app, cl_app, cl_mul q0]
        obtain ⟨m, hm⟩ : ∃ m, q.1.toNat = m + 1 := ⟨q.1.toNat - 1, by lia⟩
        rw [hm]; exact ⟨_, rfl⟩
      obtain ⟨l, el'⟩ := eq
      have es : Txt.slice (sg p.2 ++ txt (q :: ps)) none (some ((sg p.2).length : Int)) = sg p.2 := cut_to e2 rfl
      obtain ⟨ks, hk⟩ := first3 (P := fun k => (g (Txt.slice (sg p.2 ++ txt (q :: ps)) none (some k))).isSome) f1 f3 (by show (g (Txt.slice (sg p.2 ++ txt (q :: ps)) none (some ((sg p.2).length : Int)))).isSome = true; rw [es, hu]; rfl) (fun j a _ => by
        show (g (Txt.slice (sg p.2 ++ txt (q :: ps)) none (some (j : Int)))).isSome = false
        rw [hb _ (has32 (a := sg p.2) (l := l) (by rw [e2, el']) a)]; rfl)
      exact ⟨_, ks, u, hk, by rw [es, hu], cut_from e2 rfl⟩
end U13
end
noncomputable section
namespace U13
theorem pair_ne {ns : List Int} (h : NOk ns) {i j : Nat} {x y : Int} (hi : ns[i]? = some x) (hj : ns[j]? = some y) (ij : i < j) : x ≠ y := fun e => by
  obtain ⟨h1, e1⟩ := List.getElem?_eq_some_iff.mp hi
  obtain ⟨h2, e2⟩ := List.getElem?_eq_some_iff.mp hj
  have := List.pairwise_iff_getElem.mp h.cop i j h1 h2 ij
  rw [e1, e2, ← e, Int.gcd_self] at this
  have := (h.rng x (List.mem_of_getElem? hi)).1
  lia
/-- the two greatest -/
structure Two (ns : List Int) (D : Int) : Prop where
  lo : 0 < D
  hi : D < 4096
  le : 4 * D * D ≤ pr ns
  pair : ∀ (i j : Nat) (x y : Int), i ≠ j → ns[i]? = some x → ns[j]? = some y → x * y ≤ D
  one : ∀ x ∈ ns, x ≤ D
theorem two {ns : List Int} (h : NOk ns) (n7 : ns.length = 7) : ∃ (ms : List Int) (a5 a6 : Int), ms.Perm ns ∧ ms.Pairwise (· ≤ ·) ∧ ms[5]? = some a5 ∧ ms[6]? = some a6 ∧ Two ns (a5 * a6) := by
  obtain ⟨ms, hp, hs⟩ : ∃ ms : List Int, ms.Perm ns ∧ ms.Pairwise (· ≤ ·) := by
    have hs := List.pairwise_mergeSort (le := fun a b : Int => decide (a ≤ b)) (fun a b c h1 h2 => decide_eq_true (Int.le_trans (of_decide_eq_true h1) (of_decide_eq_true h2))) (fun a b => by simpa using Int.le_total a b) ns
    exact ⟨_, List.mergeSort_perm .., hs.imp fun h => of_decide_eq_true h⟩
  have hl : ms.length = 7 := hp.length_eq.trans n7
  obtain ⟨a5, h5⟩ : ∃ a, ms[5]? = some a := ⟨_, List.getElem?_eq_getElem (by lia)⟩
  obtain ⟨a6, h6⟩ : ∃ a, ms[6]? = some a := ⟨_, List.getElem?_eq_getElem (by lia)⟩
  have rg : ∀ n ∈ ms, 7 ≤ n ∧ n < 55 := fun n hn => h.rng n (hp.mem_iff.mp hn)
  have r5 := rg a5 (List.mem_of_getElem? h5)
  have r6 := rg a6 (List.mem_of_getElem? h6)
  have ord : ∀ {p q : Nat} {x y : Int}, ms[p]? = some x → ms[q]? = some y → p ≤ q → x ≤ y := fun {p q x y} hx hy pq => by
    obtain ⟨h1, rfl⟩ := List.getElem?_eq_some_iff.mp hx
    obtain ⟨h2, rfl⟩ := List.getElem?_eq_some_iff.mp hy
    rcases Nat.lt_or_eq_of_le pq with z | rfl
    · exact List.pairwise_iff_getElem.mp hs p q h1 h2 z
    · exact Int.le_refl _
  have at' : ∀ {x : Int}, x ∈ ns → ∃ p, p ≤ 6 ∧ ms[p]? = some x := fun hx => by
    obtain ⟨p, hp⟩ := List.getElem?_of_mem (hp.mem_iff.mpr hx)
    exact ⟨p, by have := (List.getElem?_eq_some_iff.mp hp).1; lia, hp⟩
  have D0 : 0 < a5 * a6 := Int.mul_pos (by lia) (by lia)
  have D1 : a5 * a6 ≤ 54 * 54 := Int.mul_le_mul (by lia) (by lia) (by lia) (by decide)
  refine ⟨ms, a5, a6, hp, hs, h5, h6, D0, by lia, ?_, ?_, ?_⟩
  · rw [← pr_perm hp, ← List.take_append_drop 5 ms, pr_app]
    have e : ms.drop 5 = [a5, a6] := by
      obtain ⟨_, e5⟩ := List.getElem?_eq_some_iff.mp h5
      obtain ⟨_, e6⟩ := List.getElem?_eq_some_iff.mp h6
      rw [List.drop_eq_getElem_cons (by lia), List.drop_eq_getElem_cons (by lia), List.drop_of_length_le (by lia), e5, e6]
    have l5 := (pr_le (l := ms.take 5) fun n hn => rg n (List.mem_of_mem_take hn)).2
    rw [List.length_take, hl, show min 5 7 = 5 from rfl] at l5
    rw [e, pr, pr_one]
    exact Int.mul_le_mul_of_nonneg_right (Int.le_trans (by lia) l5) (Int.le_of_lt D0)
  · have key : ∀ (i j : Nat) (x y : Int), i < j → ns[i]? = some x → ns[j]? = some y → x * y ≤ a5 * a6 := fun i j x y ij hx hy => by
      have ne := pair_ne h hx hy ij
      obtain ⟨p, p6, ep⟩ := at' (List.mem_of_getElem? hx)
      obtain ⟨q, q6, eq⟩ := at' (List.mem_of_getElem? hy)
      have x0 := (rg x (List.mem_of_getElem? ep)).1
      have y0 := (rg y (List.mem_of_getElem? eq)).1
      rcases Nat.lt_trichotomy p q with z | z | z
      · exact Int.mul_le_mul (ord ep h5 (by lia)) (ord eq h6 (by lia)) (by lia) (by lia)
      · subst z; rw [ep] at eq; exact absurd (Option.some.inj eq) ne
      · rw [Int.mul_comm]; exact Int.mul_le_mul (ord eq h5 (by lia)) (ord ep h6 (by lia)) (by lia) (by lia)
    intro i j x y ij hx hy
    rcases Nat.lt_or_gt_of_ne ij with z | z
    · exact key i j x y z hx hy
    · rw [Int.mul_comm]; exact key j i y x z hy hx
  · intro x hx
    obtain ⟨p, p6, ep⟩ := at' hx
    have := ord ep h6 p6
    have := Int.mul_le_mul_of_nonneg_right (show 1 ≤ a5 by lia) (show 0 ≤ a6 by lia)
    lia
abbrev Good (ps : List (Int × Int)) : Prop := ∀ q ∈ ps, PcOk q ∧ 1 ≤ q.1
section
variable {ps : List (Int × Int)} {k : Nat} {p p' : Int × Int} {dr : Int}
theorem split_at (h : ps[k]? = some p) : ps = ps.take k ++ p :: ps.drop (k + 1) := by
  obtain ⟨hk, e⟩ := List.getElem?_eq_some_iff.mp h
  rw [← e, List.getElem_cons_drop, List.take_append_drop]
theorem put_eq : putAt ps k p' = ps.take k ++ p' :: ps.drop (k + 1) := by rw [putAt, List.append_assoc]; rfl
theorem put_map (h : ps[k]? = some p) (e : p'.2 = p.2) : (putAt ps k p').map (·.2) = ps.map (·.2) := by
  conv => rhs; rw [split_at h]
  rw [put_eq, List.map_append, List.map_append, List.map_cons, List.map_cons, e]
theorem put_pr (f : Int × Int → Int) (h : ps[k]? = some p) : pr ((putAt ps k p').map f) * f p = f p' * pr (ps.map f) := by
  conv => rhs; rw [split_at h]
  rw [put_eq, List.map_append, List.map_append, List.map_cons, List.map_cons, pr_app, pr_app, pr, pr]
  grind
theorem put_get (h : ps[k]? = some p) {j : Nat} (hj : j ≠ k) : (putAt ps k p')[j]? = ps[j]? := by
  have hk : (ps.take k).length = k := by rw [List.length_take]; have := (List.getElem?_eq_some_iff.mp h).1; lia
  conv => rhs; rw [split_at h]
  rw [put_eq]
  rcases Nat.lt_or_gt_of_ne hj with z | z
  · rw [List.getElem?_append_left (by lia), List.getElem?_append_left (by lia)]
  · rw [List.getElem?_append_right (by lia), List.getElem?_append_right (by lia), hk]
    obtain ⟨m, hm⟩ : ∃ m, j - k = m + 1 := ⟨j - k - 1, by lia⟩
    rw [hm]; rfl
theorem put_at (h : ps[k]? = some p) : (putAt ps k p')[k]? = some p' := by
  have hk : (ps.take k).length = k := by rw [List.length_take]; have := (List.getElem?_eq_some_iff.mp h).1; lia
  rw [put_eq, List.getElem?_append_right (by lia), hk, Nat.sub_self]; rfl
theorem put_good (G : Good ps) (h : ps[k]? = some p) (z : Int) : Good (putAt ps k (z.fmod p.2 + 1, p.2)) := fun q hq => by
  rw [put_eq] at hq
  rcases List.mem_append.mp hq with m | m
  · exact G q (List.mem_of_mem_take m)
  · cases m with
    | head =>
      obtain ⟨⟨_, _, g3, g4⟩, _⟩ := G p (List.mem_of_getElem? h)
      have f0 := Int.fmod_nonneg_of_pos z (b := p.2) (by lia)
      have f1 := Int.fmod_lt_of_pos z (b := p.2) (by lia)
      exact ⟨⟨show 0 ≤ z.fmod p.2 + 1 by lia, show z.fmod p.2 + 1 ≤ 60 by lia, g3, g4⟩, show 1 ≤ z.fmod p.2 + 1 by lia⟩
    | tail _ m => exact G q (List.mem_of_mem_drop m)
end
theorem again_good {ns : List Int} (h : ∀ n ∈ ns, 7 ≤ n ∧ n < 55) (dr : Int) : Good (again dr ns) := fun q hq => by
  refine ⟨again_ok h q hq, ?_⟩
  obtain ⟨n, hn, rfl⟩ := List.mem_map.mp hq
  have := Int.fmod_nonneg_of_pos (dr - 1) (b := n) (by have := (h n hn).1; lia)
  show 1 ≤ (dr - 1).fmod n + 1; lia
theorem again_one {ns : List Int} (h : ∀ n ∈ ns, 7 ≤ n ∧ n < 55) {dr : Int} : ∀ p ∈ again dr ns, e1 dr p = 1 := fun p hp => by
  obtain ⟨n, hn, rfl⟩ := List.mem_map.mp hp
  have h7 := (h n hn).1
  refine e1_one (show 0 < n by lia) ?_
  show n ∣ (dr - 1).fmod n + 1 - dr
  have := Int.fmod_add_mul_fdiv (dr - 1) n
  exact ⟨-((dr - 1).fdiv n), by rw [Int.mul_neg]; lia⟩
theorem pr_ones {l : List Int} (h : ∀ x ∈ l, x = 1) : pr l = 1 := by
  induction l with
  | nil => rfl
  | cons x l ih => rw [pr, h x (.head _), ih fun y hy => h y (.tail _ hy)]; rfl
theorem again_map (dr : Int) (ns : List Int) : (again dr ns).map (·.2) = ns := by rw [again, List.map_map]; exact List.map_id _
/-- two places spoilt: the due product is small -/
theorem due_le {ns : List Int} {D dr z1 z2 : Int} (h : NOk ns) (T : Two ns D) {k1 k2 : Nat} {p1 p2 : Int × Int} (h1 : (again dr ns)[k1]? = some p1) (h2 : (putAt (again dr ns) k1 (z1, p1.2))[k2]? = some p2) :
    0 < pr ((putAt (putAt (again dr ns) k1 (z1, p1.2)) k2 (z2, p2.2)).map (e1 dr)) ∧ pr ((putAt (putAt (again dr ns) k1 (z1, p1.2)) k2 (z2, p2.2)).map (e1 dr)) ≤ D := by
  have m2 : (putAt (again dr ns) k1 (z1, p1.2)).map (·.2) = ns := (put_map (p' := (z1, p1.2)) h1 rfl).trans (again_map dr ns)
  have n1 : ns[k1]? = some p1.2 := by rw [← again_map dr ns, List.getElem?_map, h1]; rfl
  have n2 : ns[k2]? = some p2.2 := by rw [← m2, List.getElem?_map, h2]; rfl
  have q1 := h.rng _ (List.mem_of_getElem? n1)
  have q2 := h.rng _ (List.mem_of_getElem? n2)
  have o1 := put_pr (p' := (z1, p1.2)) (e1 dr) h1
  rw [again_one h.rng p1 (List.mem_of_getElem? h1), Int.mul_one, pr_ones (l := (again dr ns).map (e1 dr)) fun x hx => by obtain ⟨p, hp, rfl⟩ := List.mem_map.mp hx; exact again_one h.rng p hp, Int.mul_one] at o1
  have o2 := put_pr (p' := (z2, p2.2)) (e1 dr) h2
  rw [o1] at o2
  have E1 := eo (dr := dr) (p := (z1, p1.2)) (show 0 < p1.2 by lia)
  have E2 := eo (dr := dr) (p := (z2, p2.2)) (show 0 < p2.2 by lia)
  have b1 := E1.pos
  have b2 := E2.pos
  have c1 : e1 dr (z1, p1.2) ≤ p1.2 := E1.le
  have c2 : e1 dr (z2, p2.2) ≤ p2.2 := E2.le
  by_cases e : k2 = k1
  · subst e
    rw [put_at h1] at h2
    cases h2
    have := Int.eq_of_mul_eq_mul_right (Int.ne_of_gt b1) o2
    rw [this]
    exact ⟨b2, Int.le_trans c2 (T.one _ (List.mem_of_getElem? n2))⟩
  · rw [put_get h1 e] at h2
    rw [again_one h.rng p2 (List.mem_of_getElem? h2), Int.mul_one] at o2
    rw [o2]
    exact ⟨Int.mul_pos b2 b1, Int.le_trans (Int.mul_le_mul c2 c1 (Int.le_of_lt b1) (by lia)) (T.pair k2 k1 _ _ e n2 n1)⟩
end U13
end
noncomputable section
open PySem PySem.W PySem.Spec PySem.Calls PyProof.Rows
namespace U13
theorem least {P : Nat → Prop} (n : Nat) (h : P n) : ∃ m, m ≤ n ∧ P m ∧ ∀ i, i < m → ¬ P i := by
  induction n using Nat.strongRecOn with
  | ind n ih =>
    by_cases e : ∃ i, i < n ∧ P i
    · obtain ⟨i, hi, hp⟩ := e
      obtain ⟨m, h1, h2⟩ := ih i hi hp
      exact ⟨m, Nat.le_trans h1 (Nat.le_of_lt hi), h2⟩
    · exact ⟨n, Nat.le_refl n, h, fun i hi hp => e ⟨i, hi, hp⟩⟩
section
variable {M v B : Int}
theorem ei_at (h0 : 0 ≤ v) (h1 : v < M) (hB : 0 < B) : ∀ i, (∀ j, j < i → B ≤ (es M v j).l) → EI M v (es M v i) ∧ (es M v i).h ≤ M
  | 0, _ => ⟨.init h0 h1, Int.le_refl M⟩
  | i + 1, H => by
    obtain ⟨e, l⟩ := ei_at h0 h1 hB i fun j hj => H j (Nat.lt_succ_of_lt hj)
    have := H i (Nat.lt_succ_self i)
    exact ⟨e.next (by lia), Int.le_trans (Int.le_of_lt e.lh) l⟩
theorem half_le {a b : Int} (hb : 0 < b) (ab : b < a) : 2 * a.fmod b ≤ a := by
  have e := Int.fmod_add_mul_fdiv a b
  have r1 := Int.fmod_lt_of_pos a hb
  have r0 := Int.fmod_nonneg_of_pos a hb
  have q : 1 ≤ a.fdiv b := by
    rw [Int.fdiv_eq_ediv_of_nonneg _ (Int.le_of_lt hb)]
    exact (Int.le_ediv_iff_mul_le hb).mpr (by lia)
  have := Int.mul_le_mul_of_nonneg_left q (Int.le_of_lt hb)
  lia
theorem halves (h0 : 0 ≤ v) (h1 : v < M) (hB : 0 < B) : ∀ k : Nat, (∀ j, j < 2 * k + 1 → B ≤ (es M v j).l) → 2 ^ k * (es M v (2 * k)).l ≤ M
  | 0, _ => by show 2 ^ 0 * v ≤ M; lia
  | k + 1, H => by
    have ih := halves h0 h1 hB k fun j hj => H j (by lia)
    have e1 := (ei_at h0 h1 hB (2 * k) fun j hj => H j (by lia)).1
    have e2 := (ei_at h0 h1 hB (2 * k + 1) fun j hj => H j (by lia)).1
    have b2 := H (2 * k + 1) (by lia)
    have := half_le (a := (es M v (2 * k)).l) (b := (es M v (2 * k + 1)).l) (by lia) e2.lh
    have p : (0 : Int) ≤ 2 ^ k := Int.le_of_lt (Int.pow_pos (by decide))
    have := Int.mul_le_mul_of_nonneg_left this p
    rw [Int.pow_succ, Int.mul_assoc]
    exact Int.le_trans this ih
theorem stops (h0 : 0 ≤ v) (h1 : v < M) (hB : 0 < B) (hM : M < 2 ^ 14 * B) : ∃ N, N < 60 ∧ (es M v N).l < B ∧ ∀ i, i < N → ¬ (es M v i).l < B := by
  have : ∃ j, j < 29 ∧ (es M v j).l < B := Classical.byContradiction fun c => by
    have H : ∀ j, j < 2 * 14 + 1 → B ≤ (es M v j).l := fun j hj => Int.not_lt.mp fun z => c ⟨j, hj, z⟩
    have a := halves h0 h1 hB 14 H
    have b := H 28 (by decide)
    have := Int.mul_le_mul_of_nonneg_left b (by decide : (0 : Int) ≤ 2 ^ 14)
    exact absurd hM (Int.not_lt.mpr (Int.le_trans this a))
  obtain ⟨j, hj, z⟩ := this
  obtain ⟨N, h1, h2, h3⟩ := least (P := fun j => (es M v j).l < B) j z
  exact ⟨N, by lia, h2, h3⟩
theorem halfs (h0 : 0 ≤ v) (h1 : v < M) (hB : 0 < B) (hM : M < 2 ^ 50) {N : Nat} (H : ∀ i, i < N → ¬ (es M v i).l < B) : ∀ i, i < N → Half (fun i => (es M v i).h) (fun i => (es M v i).l) (fun i => (es M v i).b) (fun i => (es M v i).f) B i := fun i hi => by
  obtain ⟨e, l⟩ := ei_at h0 h1 hB i fun j hj => Int.not_lt.mp (H j (Nat.lt_trans hj hi))
  have b := Int.not_lt.mp (H i hi)
  have lh := e.lh
  exact ⟨H i hi, show 0 ≤ (es M v i).h by lia, show 0 < (es M v i).l by lia, show (es M v i).h.natAbs < 2 ^ 59 by lia, show (es M v i).l.natAbs < 2 ^ 59 by lia, rfl, rfl, rfl, rfl⟩
end
theorem pr_le1 : ∀ {l : List Int}, (∀ n ∈ l, 0 < n ∧ n < 55) → 0 < pr l ∧ pr l ≤ 54 ^ l.length
  | [], _ => by decide
  | n :: l, h => by
    obtain ⟨h1, h2⟩ := h n (.head _)
    obtain ⟨h3, h4⟩ := pr_le1 (l := l) fun m hm => h m (.tail _ hm)
    rw [pr, List.length_cons, Int.pow_succ, Int.mul_comm n]
    exact ⟨Int.mul_pos h3 h1, Int.mul_le_mul h4 (by lia) (Int.le_of_lt h1) (Int.le_trans (Int.le_of_lt h3) h4)⟩
noncomputable def rT (tu : List (Int × Int)) (i : Nat) : Str := match tu.drop i with
  | p :: ps => sg p.2 ++ txt ps
  | [] => Str.ofString ""
theorem rds {g : Str → Option Value} (hg : ∀ n : Int, 7 ≤ n → n < 55 → ∃ u, g (sg n) = some (.int n u)) (hb : ∀ x : Str, 32 ∈ x.cps → g x = none) {tu : List (Int × Int)} (G : Good tu) (hl : tu.length ≤ 100) (i : Nat) (p : Int × Int) (hp : tu[i]? = some p) :
    Rd g (txt (tu.drop i)) (rT tu i) p (txt (tu.drop (i + 1))) := by
  obtain ⟨hi, e⟩ := List.getElem?_eq_some_iff.mp hp
  have hd : tu.drop i = p :: tu.drop (i + 1) := by rw [List.drop_eq_getElem_cons hi, e]
  rw [rT, hd]
  exact rd hg hb (fun q hq => G q (List.mem_of_mem_drop (hd ▸ hq))) (by rw [List.length_drop]; lia)
theorem again_app (dr : Int) (a b : List Int) : again dr (a ++ b) = again dr a ++ again dr b := List.map_append ..
theorem turn_back {ns : List Int} (dr : Int) {c : Nat} (n7 : ns.length = 7) : (again dr (ns.drop c ++ ns.take c)).drop (7 - c) ++ (again dr (ns.drop c ++ ns.take c)).take (7 - c) = again dr ns := by
  have l : (again dr (ns.drop c)).length = 7 - c := by rw [again, List.length_map, List.length_drop, n7]
  rw [again_app, List.drop_left' l, List.take_left' l, ← again_app, List.take_append_drop]
theorem lims {M D : Int} (D0 : 0 < D) (D1 : D < 4096) (h : 4 * D * D ≤ M) : 0 < M.fdiv (4 * D * D) ∧ M.fdiv (4 * D * D) ≤ M ∧ 4 * D * D * M.fdiv (4 * D * D) ≤ M ∧ M < 2 ^ 14 * (2 * M.fdiv (4 * D * D) * D) := by
  have p : 0 < 4 * D * D := Int.mul_pos (by lia) D0
  have e := Int.fmod_add_mul_fdiv M (4 * D * D)
  have r0 := Int.fmod_nonneg_of_pos M p
  have r1 := Int.fmod_lt_of_pos M p
  have hq : 1 ≤ M.fdiv (4 * D * D) := by
    rw [Int.fdiv_eq_ediv_of_nonneg _ (Int.le_of_lt p)]
    exact (Int.le_ediv_iff_mul_le p).mpr (by lia)
  generalize M.fdiv (4 * D * D) = q at *
  have a1 := Int.mul_le_mul_of_nonneg_left hq (Int.le_of_lt p)
  have q0 : 0 ≤ q := by lia
  have a2 : 1 * q ≤ 4 * D * D * q := Int.mul_le_mul_of_nonneg_right p q0
  have qd : 0 < q * D := Int.mul_pos (by lia) D0
  have d4 : 4 * D < 2 ^ 14 := by lia
  have a3 := Int.mul_lt_mul_of_pos_right d4 qd
  have a4 : 4 * D * (q * D) = 4 * D * D * q := by grind
  have a5 : 2 ^ 14 * (2 * q * D) = 2 * (2 ^ 14 * (q * D)) := by grind
  rw [a4] at a3
  exact ⟨by lia, by lia, by lia, by lia⟩
end U13
end
noncomputable section
open PySem PySem.W PySem.Spec PySem.Calls PyProof.Rows
namespace U13
theorem fm_nat {a : Int} : (a.fmod 7).toNat < 7 ∧ a.fmod 7 = ((a.fmod 7).toNat : Nat) := by
  have h0 := Int.fmod_nonneg_of_pos a (show (0 : Int) < 7 by decide)
  have h1 := Int.fmod_lt_of_pos a (show (0 : Int) < 7 by decide)
  exact ⟨by lia, (Int.toNat_of_nonneg h0).symm⟩
theorem lawF {g : Str → Option Value} (hg : ∀ n : Int, 7 ≤ n → n < 55 → ∃ u, g (sg n) = some (.int n u)) (hb : ∀ x : Str, 32 ∈ x.cps → g x = none) (xs : List Int) :
    ∃ ns ms M a5 a6 lim dr p1 p2 k1 k2 cnt b1 b2 once tw tu s st k hi lo ba fa N t r, LawF xs ns ms M a5 a6 lim dr p1 p2 k1 k2 cnt b1 b2 once tw tu s st k hi lo ba fa N t r g := by
  have I := SInv.at xs (cand xs).length
  have n7 := sv_len xs
  have hfin : sv xs (cand xs).length = ((sv xs (cand xs).length).1, (sv xs (cand xs).length).2) := rfl
  have hp := I.prod
  have hbd := I.bnd
  have hN : NOk (sv xs (cand xs).length).1 := ⟨I.rng, I.cop⟩
  generalize (sv xs (cand xs).length).1 = ns at *
  generalize (sv xs (cand xs).length).2 = M at *
  clear I
  obtain ⟨ms, a5, a6, perm, srt, m5, m6, T⟩ := two hN n7
  generalize hD : a5 * a6 = D at T
  obtain ⟨lo0, loM, loD, hi14⟩ := lims (M := M) T.lo T.hi (hp ▸ T.le)
  generalize hlim : M.fdiv (4 * D * D) = lim at *
  -- the drawn number
  have d0 := Int.fmod_nonneg_of_pos (7919 * (prt1 xs).sum + 1000) (show 0 < 2 * lim - 1 by lia)
  have d1 := Int.fmod_lt_of_pos (7919 * (prt1 xs).sum + 1000) (show 0 < 2 * lim - 1 by lia)
  generalize hdr : (7919 * (prt1 xs).sum + 1000).fmod (2 * lim - 1) - (lim - 1) = dr
  have dr1 : 1 - lim ≤ dr := by lia
  have dr2 : dr ≤ lim - 1 := by lia
  clear d0 d1
  -- the places
  obtain ⟨k17, hk1⟩ := fm_nat (a := 100 + (pick (prt1 xs) 0).sum)
  obtain ⟨k27, hk2⟩ := fm_nat (a := 333 + (pick (prt1 xs) 1).sum)
  obtain ⟨c7, hcnt⟩ := fm_nat (a := (prt1 xs).sum + 3)
  generalize ((100 + (pick (prt1 xs) 0).sum).fmod 7).toNat = k1 at *
  generalize ((333 + (pick (prt1 xs) 1).sum).fmod 7).toNat = k2 at *
  generalize (((prt1 xs).sum + 3).fmod 7).toNat = cnt at *
  have la : (again dr ns).length = 7 := by rw [again, List.length_map, n7]
  obtain ⟨p1, hp1⟩ : ∃ p, (again dr ns)[k1]? = some p := ⟨_, List.getElem?_eq_getElem (by lia)⟩
  have G1 := put_good (again_good hN.rng dr) hp1 ((100 + (pick (prt1 xs) 0).sum).fdiv 7)
  have l1 : (putAt (again dr ns) k1 (((100 + (pick (prt1 xs) 0).sum).fdiv 7).fmod p1.2 + 1, p1.2)).length = 7 := (put_len (by lia)).trans la
  have mp1 : (putAt (again dr ns) k1 (((100 + (pick (prt1 xs) 0).sum).fdiv 7).fmod p1.2 + 1, p1.2)).map (·.2) = ns := (put_map (p' := (((100 + (pick (prt1 xs) 0).sum).fdiv 7).fmod p1.2 + 1, p1.2)) hp1 rfl).trans (again_map dr ns)
  obtain ⟨p2, hp2⟩ : ∃ p, (putAt (again dr ns) k1 (((100 + (pick (prt1 xs) 0).sum).fdiv 7).fmod p1.2 + 1, p1.2))[k2]? = some p := ⟨_, List.getElem?_eq_getElem (by lia)⟩
  have G2 := put_good G1 hp2 ((333 + (pick (prt1 xs) 1).sum).fdiv 7)
  have due := due_le (z2 := ((333 + (pick (prt1 xs) 1).sum).fdiv 7).fmod p2.2 + 1) hN T hp1 hp2
  have mp2 := (put_map (p' := (((333 + (pick (prt1 xs) 1).sum).fdiv 7).fmod p2.2 + 1, p2.2)) hp2 rfl).trans mp1
  have l2 : (putAt (putAt (again dr ns) k1 (((100 + (pick (prt1 xs) 0).sum).fdiv 7).fmod p1.2 + 1, p1.2)) k2 (((333 + (pick (prt1 xs) 1).sum).fdiv 7).fmod p2.2 + 1, p2.2)).length = 7 := (put_len (by lia)).trans l1
  generalize honce : putAt (again dr ns) k1 (((100 + (pick (prt1 xs) 0).sum).fdiv 7).fmod p1.2 + 1, p1.2) = once at *
  generalize htw : putAt once k2 (((333 + (pick (prt1 xs) 1).sum).fdiv 7).fmod p2.2 + 1, p2.2) = tw at *
  -- the row turned
  obtain ⟨tu, htu⟩ : ∃ tu, tw.drop cnt ++ tw.take cnt = tu := ⟨_, rfl⟩
  have ptu : tu.Perm tw := by rw [← htu]; exact List.perm_append_comm.trans (.of_eq (List.take_append_drop ..))
  have Gu : Good tu := fun q hq => G2 q (ptu.mem_iff.mp hq)
  have lu : tu.length = 7 := ptu.length_eq.trans l2
  have mu : tu.map (·.2) = ns.drop cnt ++ ns.take cnt := by rw [← htu, List.map_append, List.map_drop, List.map_take, mp2]
  have pu : (tu.map (·.2)).Perm ns := mp2 ▸ ptu.map _
  have Nu : NOk (tu.map (·.2)) := ⟨fun n hn => hN.rng n (pu.mem_iff.mp hn), hN.cop.perm pu.symm fun {a b} h => (Int.gcd_comm b a).trans h⟩
  have eM : M = pr (tu.map (·.2)) := hp.trans (pr_perm pu).symm
  have eE : dues dr tu = pr (tw.map (e1 dr)) := (dues_pr dr tu).trans (pr_perm (ptu.map _))
  rw [← eE] at due
  -- the one number
  obtain ⟨c1, c2, c3, c4⟩ := crt_inv Nu (i := tu.length) (Nat.le_refl _)
  have e7 : (tu.map (·.2)).take tu.length = tu.map (·.2) := List.take_of_length_le (by rw [List.length_map]; exact Nat.le_refl _)
  rw [e7, ← eM] at c1
  rw [c1] at c3
  have hv : ∀ p ∈ tu, p.2 ∣ (crt tu tu.length).1 - p.1 := fun p hp => by
    obtain ⟨j, hj⟩ := List.getElem?_of_mem hp
    exact c4 j p (List.getElem?_eq_some_iff.mp hj).1 hj
  -- Euclid's run
  have B0 : 0 < 2 * lim * D := Int.mul_pos (by lia) T.lo
  obtain ⟨N, N60, ltN, geN⟩ := stops (B := 2 * lim * D) c2 c3 B0 hi14
  obtain ⟨eN, hNM⟩ := ei_at c2 c3 B0 N fun j hj => Int.not_lt.mp (geN j hj)
  have hh : 2 * lim * D ≤ (es M (crt tu tu.length).1 N).h := by
    cases N with
    | zero =>
      show 2 * lim * D ≤ M
      have a1 := Int.mul_le_mul_of_nonneg_right (show 1 ≤ D from T.lo) (Int.le_of_lt B0)
      have a2 : D * (2 * lim * D) * 2 = 4 * D * D * lim := by grind
      lia
    | succ N => exact Int.not_lt.mp (geN N (Nat.lt_succ_self N))
  have up := due_up (dr := dr) Nu hv
  have mn := due_min (dr := dr) Nu hv
  rw [← eM] at up mn
  obtain ⟨f1, f2⟩ := euclid eN due.1 due.2 dr1 dr2 loD lo0 up mn ltN hh
  have fB := (eN.fB (B := 1) (by decide) (by lia)).1
  rw [f2, Int.mul_one] at fB
  have f0 : (es M (crt tu tu.length).1 N).f ≠ 0 := fun z => by rw [z] at f2; have := due.1; rw [if_neg (by decide)] at f2; lia
  have eB : 2 * lim * (a5 * a6) = 2 * lim * D := by rw [hD]
  refine ⟨ns, ms, M, a5, a6, lim, dr, p1, p2, k1, k2, cnt, ((100 + (pick (prt1 xs) 0).sum).fdiv 7).fmod p1.2 + 1, ((333 + (pick (prt1 xs) 1).sum).fdiv 7).fmod p2.2 + 1, once, tw, tu, fun i => (crt tu i).1, fun i => (crt tu i).2, fun i => kf (crt tu i).1 (crt tu i).2 (tu.getD i (0, 1)).1 (tu.getD i (0, 1)).2, fun i => (es M (crt tu tu.length).1 i).h, fun i => (es M (crt tu tu.length).1 i).l, fun i => (es M (crt tu tu.length).1 i).b, fun i => (es M (crt tu tu.length).1 i).f, N, fun i => txt (tu.drop i), rT tu, ?_⟩
  exact {
    sv := fun i => let J := SInv.at xs i; ⟨J.bnd.1, J.bnd.2, J.len⟩
    fin := hfin
    perm := perm
    srt := srt
    n7 := n7
    m5 := m5
    m6 := m6
    mo := hD ▸ ⟨T.lo, T.hi⟩
    lm := hD ▸ hlim
    l0 := ⟨lo0, Int.lt_of_le_of_lt loM hbd.2⟩
    hdr := hdr
    ok := hN.rng
    hk1 := hk1
    hp1 := hp1
    hb1 := rfl
    honce := honce
    okO := fun p hp => (G1 p hp).1
    lenO := l1
    hk2 := hk2
    hp2 := hp2
    hb2 := rfl
    htw := htw
    lenT := l2
    hcnt := hcnt
    c7 := c7
    htu := htu
    okU := fun p hp => (Gu p hp).1
    rd := fun i p hp => rds hg hb Gu (by lia) i p hp
    t0 := by show txt (tu.drop 0) = _; rw [List.drop_zero]
    tN := by show txt (tu.drop tu.length) = _; rw [List.drop_length]; rfl
    s0 := rfl
    st0 := rfl
    mt := fun i p hp => by
      have e : tu.getD i (0, 1) = p := by rw [List.getD_eq_getElem?_getD, hp]; rfl
      show Met _ _ _ _ (kf _ _ (tu.getD i (0, 1)).1 (tu.getD i (0, 1)).2) _ _
      rw [e]
      exact crt_met Nu (by lia) i p hp
    h0 := rfl
    lo0 := rfl
    ba0 := rfl
    fa0 := rfl
    hf := eB ▸ halfs c2 c3 B0 hbd.2 geN
    hN := N60
    lt := eB ▸ ltN
    f0 := f0
    fl := by
      show (es M (crt tu tu.length).1 N).f.natAbs < 2 ^ 59
      have := hbd.2
      split at f2 <;> lia
    ll := by
      show (es M (crt tu tu.length).1 N).l.natAbs < 2 ^ 59
      have := eN.l0
      have := eN.lh
      have := hbd.2
      lia
    told := by show (es M (crt tu tu.length).1 N).l.fdiv _ = dr; rw [f1]; exact Int.mul_fdiv_cancel_left dr f0
    rest := by show (es M (crt tu tu.length).1 N).l.fmod _ = 0; rw [f1]; exact Int.mul_fmod_right ..
    due := f2
    dl := fun i => by
      have h := pr_le1 (l := (tu.take i).map (e1 dr)) fun n hn => by
        obtain ⟨p, hp, rfl⟩ := List.mem_map.mp hn
        have hm := List.mem_of_mem_take hp
        have hn := hN.rng _ (pu.mem_iff.mp (List.mem_map_of_mem (f := (·.2)) hm))
        have E := eo (dr := dr) (p := p) (by lia)
        exact ⟨E.pos, Int.lt_of_le_of_lt E.le hn.2⟩
      rw [dues_pr]
      refine ⟨Int.le_of_lt h.1, Int.lt_of_le_of_lt h.2 (Int.lt_of_le_of_lt (pow_le54 (by rw [List.length_map, List.length_take]; lia)) (by decide))⟩
    back := by rw [mu]; exact turn_back dr n7 }
end U13
end
noncomputable section
open PySem PySem.W PySem.Spec PySem.Calls PyProof.Rows
namespace U14
abbrev pg : Program := PySem.Challenge.pw_ul0013_01
noncomputable def sc : Scope := pg.main.scope
noncomputable def st0 : Stmt := pg.main.body.getD 0 default
noncomputable def st1 : Stmt := pg.main.body.getD 1 default
noncomputable def st2 : Stmt := pg.main.body.getD 2 default
noncomputable def st3 : Stmt := pg.main.body.getD 3 default
noncomputable def st4 : Stmt := pg.main.body.getD 4 default
noncomputable def st5 : Stmt := pg.main.body.getD 5 default
noncomputable def st6 : Stmt := pg.main.body.getD 6 default
noncomputable def st7 : Stmt := pg.main.body.getD 7 default
noncomputable def st8 : Stmt := pg.main.body.getD 8 default
noncomputable def st9 : Stmt := pg.main.body.getD 9 default
noncomputable def st10 : Stmt := pg.main.body.getD 10 default
noncomputable def st11 : Stmt := pg.main.body.getD 11 default
noncomputable def st12 : Stmt := pg.main.body.getD 12 default
noncomputable def st13 : Stmt := pg.main.body.getD 13 default
noncomputable def st14 : Stmt := pg.main.body.getD 14 default
noncomputable def st15 : Stmt := pg.main.body.getD 15 default
noncomputable def st16 : Stmt := pg.main.body.getD 16 default
noncomputable def st17 : Stmt := pg.main.body.getD 17 default
noncomputable def st18 : Stmt := pg.main.body.getD 18 default
noncomputable def st19 : Stmt := pg.main.body.getD 19 default
noncomputable def st20 : Stmt := pg.main.body.getD 20 default
noncomputable def st21 : Stmt := pg.main.body.getD 21 default
noncomputable def st22 : Stmt := pg.main.body.getD 22 default
noncomputable def st23 : Stmt := pg.main.body.getD 23 default
noncomputable def st24 : Stmt := pg.main.body.getD 24 default
noncomputable def st25 : Stmt := pg.main.body.getD 25 default
noncomputable def st26 : Stmt := pg.main.body.getD 26 default
noncomputable def st27 : Stmt := pg.main.body.getD 27 default
noncomputable def st28 : Stmt := pg.main.body.getD 28 default
noncomputable def st29 : Stmt := pg.main.body.getD 29 default
noncomputable def st30 : Stmt := pg.main.body.getD 30 default
noncomputable def st31 : Stmt := pg.main.body.getD 31 default
noncomputable def st32 : Stmt := pg.main.body.getD 32 default
noncomputable def st33 : Stmt := pg.main.body.getD 33 default
noncomputable def st34 : Stmt := pg.main.body.getD 34 default
noncomputable def st35 : Stmt := pg.main.body.getD 35 default
noncomputable def st36 : Stmt := pg.main.body.getD 36 default
noncomputable def st37 : Stmt := pg.main.body.getD 37 default
noncomputable def st38 : Stmt := pg.main.body.getD 38 default
noncomputable def st39 : Stmt := pg.main.body.getD 39 default
noncomputable def st40 : Stmt := pg.main.body.getD 40 default
noncomputable def st41 : Stmt := pg.main.body.getD 41 default
noncomputable def st42 : Stmt := pg.main.body.getD 42 default
noncomputable def st43 : Stmt := pg.main.body.getD 43 default
noncomputable def st44 : Stmt := pg.main.body.getD 44 default
noncomputable def st45 : Stmt := pg.main.body.getD 45 default
noncomputable def st46 : Stmt := pg.main.body.getD 46 default
noncomputable def st47 : Stmt := pg.main.body.getD 47 default
noncomputable def st48 : Stmt := pg.main.body.getD 48 default
noncomputable def st49 : Stmt := pg.main.body.getD 49 default
noncomputable def st50 : Stmt := pg.main.body.getD 50 default
noncomputable def st51 : Stmt := pg.main.body.getD 51 default
noncomputable def st52 : Stmt := pg.main.body.getD 52 default
noncomputable def st53 : Stmt := pg.main.body.getD 53 default
noncomputable def st54 : Stmt := pg.main.body.getD 54 default
noncomputable def st55 : Stmt := pg.main.body.getD 55 default
noncomputable def st56 : Stmt := pg.main.body.getD 56 default
noncomputable def st57 : Stmt := pg.main.body.getD 57 default
noncomputable def st58 : Stmt := pg.main.body.getD 58 default
noncomputable def st59 : Stmt := pg.main.body.getD 59 default
noncomputable def st60 : Stmt := pg.main.body.getD 60 default
noncomputable def st61 : Stmt := pg.main.body.getD 61 default
noncomputable def st62 : Stmt := pg.main.body.getD 62 default
noncomputable def st63 : Stmt := pg.main.body.getD 63 default
noncomputable def st64 : Stmt := pg.main.body.getD 64 default
noncomputable def st65 : Stmt := pg.main.body.getD 65 default
noncomputable def st66 : Stmt := pg.main.body.getD 66 default
noncomputable def st67 : Stmt := pg.main.body.getD 67 default
noncomputable def st68 : Stmt := pg.main.body.getD 68 default
noncomputable def st69 : Stmt := pg.main.body.getD 69 default
noncomputable def st70 : Stmt := pg.main.body.getD 70 default
noncomputable def st71 : Stmt := pg.main.body.getD 71 default
noncomputable def st72 : Stmt := pg.main.body.getD 72 default
noncomputable def st73 : Stmt := pg.main.body.getD 73 default
noncomputable def fp : Stmt → Arguments × List Stmt × Scope
  | .FunctionDef _ a b _ _ _ sc _ _ _ => (a, b, sc)
  | _ => default
noncomputable def cb : Stmt → List Stmt
  | .ClassDef _ _ _ b _ _ _ _ _ _ _ => b
  | _ => []
noncomputable def de (P : Params) (x : Str) (t : Nat) (v : Value) : DictEntry := ⟨PyData.keyHash P x, .str x t, v⟩
noncomputable def vi (i t : Nat) : Value := .int (.ofNat i) t
noncomputable def vr (a : Nat) : Value := .ref a
noncomputable def x0 : Str := ⟨⟨[nat_lit 60, nat_lit 109, nat_lit 111, nat_lit 100, nat_lit 117, nat_lit 108, nat_lit 101, nat_lit 62]⟩⟩
noncomputable def x1 : Str := ⟨⟨[nat_lit 47, nat_lit 99, nat_lit 108, nat_lit 97, nat_lit 105, nat_lit 109, nat_lit 47, nat_lit 99, nat_lit 117, nat_lit 116, nat_lit 46, nat_lit 112, nat_lit 121]⟩⟩
noncomputable def x2 : Str := ⟨⟨[nat_lit 95, nat_lit 95, nat_lit 109, nat_lit 97, nat_lit 105, nat_lit 110, nat_lit 95, nat_lit 95]⟩⟩
noncomputable def x3 : Str := ⟨⟨[nat_lit 95, nat_lit 95, nat_lit 110, nat_lit 97, nat_lit 109, nat_lit 101, nat_lit 95, nat_lit 95]⟩⟩
noncomputable def x4 : Str := ⟨⟨[nat_lit 99, nat_lit 112, nat_lit 121, nat_lit 51, nat_lit 49, nat_lit 51, nat_lit 46, nat_lit 101, nat_lit 109, nat_lit 97, nat_lit 105, nat_lit 108, nat_lit 46, nat_lit 104, nat_lit 101, nat_lit 97, nat_lit 100, nat_lit 101, nat_lit 114]⟩⟩
noncomputable def x5 : Str := ⟨⟨[nat_lit 95, nat_lit 95, nat_lit 100, nat_lit 111, nat_lit 99, nat_lit 95, nat_lit 95]⟩⟩
noncomputable def x6 : Str := ⟨⟨[nat_lit 95, nat_lit 95, nat_lit 112, nat_lit 97, nat_lit 99, nat_lit 107, nat_lit 97, nat_lit 103, nat_lit 101, nat_lit 95, nat_lit 95]⟩⟩
noncomputable def x7 : Str := ⟨⟨[nat_lit 95, nat_lit 95, nat_lit 108, nat_lit 111, nat_lit 97, nat_lit 100, nat_lit 101, nat_lit 114, nat_lit 95, nat_lit 95]⟩⟩
noncomputable def x8 : Str := ⟨⟨[nat_lit 95, nat_lit 95, nat_lit 115, nat_lit 112, nat_lit 101, nat_lit 99, nat_lit 95, nat_lit 95]⟩⟩
noncomputable def x9 : Str := ⟨⟨[nat_lit 95, nat_lit 95, nat_lit 97, nat_lit 110, nat_lit 110, nat_lit 111, nat_lit 116, nat_lit 97, nat_lit 116, nat_lit 105, nat_lit 111, nat_lit 110, nat_lit 115, nat_lit 95, nat_lit 95]⟩⟩
noncomputable def x10 : Str := ⟨⟨[nat_lit 95, nat_lit 95, nat_lit 98, nat_lit 117, nat_lit 105, nat_lit 108, nat_lit 116, nat_lit 105, nat_lit 110, nat_lit 115, nat_lit 95, nat_lit 95]⟩⟩
noncomputable def x11 : Str := ⟨⟨[nat_lit 95, nat_lit 95, nat_lit 102, nat_lit 105, nat_lit 108, nat_lit 101, nat_lit 95, nat_lit 95]⟩⟩
noncomputable def x12 : Str := ⟨⟨[nat_lit 95, nat_lit 95, nat_lit 99, nat_lit 97, nat_lit 99, nat_lit 104, nat_lit 101, nat_lit 100, nat_lit 95, nat_lit 95]⟩⟩
noncomputable def x13 : Str := ⟨⟨[nat_lit 95, nat_lit 119, nat_lit 97, nat_lit 108, nat_lit 108]⟩⟩
noncomputable def x14 : Str := ⟨⟨[nat_lit 95, nat_lit 68, nat_lit 73, nat_lit 86, nat_lit 95, nat_lit 76, nat_lit 73, nat_lit 77, nat_lit 73, nat_lit 84]⟩⟩
noncomputable def x15 : Str := ⟨⟨[nat_lit 95, nat_lit 100, nat_lit 105, nat_lit 118, nat_lit 50, nat_lit 110, nat_lit 49, nat_lit 110]⟩⟩
noncomputable def x16 : Str := ⟨⟨[nat_lit 95, nat_lit 100, nat_lit 105, nat_lit 118, nat_lit 51, nat_lit 110, nat_lit 50, nat_lit 110]⟩⟩
noncomputable def x17 : Str := ⟨⟨[nat_lit 95, nat_lit 105, nat_lit 110, nat_lit 116, nat_lit 50, nat_lit 100, nat_lit 105, nat_lit 103, nat_lit 105, nat_lit 116, nat_lit 115]⟩⟩
noncomputable def x18 : Str := ⟨⟨[nat_lit 95, nat_lit 100, nat_lit 105, nat_lit 103, nat_lit 105, nat_lit 116, nat_lit 115, nat_lit 50, nat_lit 105, nat_lit 110, nat_lit 116]⟩⟩
noncomputable def x19 : Str := ⟨⟨[nat_lit 95, nat_lit 100, nat_lit 105, nat_lit 118, nat_lit 109, nat_lit 111, nat_lit 100, nat_lit 95, nat_lit 112, nat_lit 111, nat_lit 115]⟩⟩
noncomputable def x20 : Str := ⟨⟨[nat_lit 105, nat_lit 110, nat_lit 116, nat_lit 95, nat_lit 100, nat_lit 105, nat_lit 118, nat_lit 109, nat_lit 111, nat_lit 100]⟩⟩
noncomputable def x21 : Str := ⟨⟨[nat_lit 69, nat_lit 77, nat_lit 80, nat_lit 84, nat_lit 89, nat_lit 83, nat_lit 84, nat_lit 82, nat_lit 73, nat_lit 78, nat_lit 71]⟩⟩
noncomputable def x22 : Str := ⟨⟨[]⟩⟩
noncomputable def x23 : Str := ⟨⟨[nat_lit 107]⟩⟩
noncomputable def x24 : Str := ⟨⟨[nat_lit 97]⟩⟩
noncomputable def x25 : Str := ⟨⟨[nat_lit 98]⟩⟩
noncomputable def x26 : Str := ⟨⟨[nat_lit 110]⟩⟩
noncomputable def x27 : Str := ⟨⟨[nat_lit 112, nat_lit 97, nat_lit 100]⟩⟩
noncomputable def x28 : Str := ⟨⟨[nat_lit 104, nat_lit 97, nat_lit 108, nat_lit 102, nat_lit 95, nat_lit 110]⟩⟩
noncomputable def x29 : Str := ⟨⟨[nat_lit 109, nat_lit 97, nat_lit 115, nat_lit 107]⟩⟩
noncomputable def x30 : Str := ⟨⟨[nat_lit 98, nat_lit 49]⟩⟩
noncomputable def x31 : Str := ⟨⟨[nat_lit 98, nat_lit 50]⟩⟩
noncomputable def x32 : Str := ⟨⟨[nat_lit 113, nat_lit 49]⟩⟩
noncomputable def x33 : Str := ⟨⟨[nat_lit 114]⟩⟩
noncomputable def x34 : Str := ⟨⟨[nat_lit 113, nat_lit 50]⟩⟩
noncomputable def x35 : Str := ⟨⟨[nat_lit 99, nat_lit 112, nat_lit 121, nat_lit 51, nat_lit 49, nat_lit 51, nat_lit 46, nat_lit 95, nat_lit 112, nat_lit 121, nat_lit 108, nat_lit 111, nat_lit 110, nat_lit 103]⟩⟩
noncomputable def x36 : Str := ⟨⟨[nat_lit 97, nat_lit 49, nat_lit 50]⟩⟩
noncomputable def x37 : Str := ⟨⟨[nat_lit 97, nat_lit 51]⟩⟩
noncomputable def x38 : Str := ⟨⟨[nat_lit 113]⟩⟩
noncomputable def x39 : Str := ⟨⟨[nat_lit 97, nat_lit 95, nat_lit 100, nat_lit 105, nat_lit 103, nat_lit 105, nat_lit 116, nat_lit 115]⟩⟩
noncomputable def x40 : Str := ⟨⟨[nat_lit 105, nat_lit 110, nat_lit 110, nat_lit 101, nat_lit 114]⟩⟩
noncomputable def x41 : Str := ⟨⟨[nat_lit 100, nat_lit 105, nat_lit 103, nat_lit 105, nat_lit 116, nat_lit 115]⟩⟩
noncomputable def x42 : Str := ⟨⟨[nat_lit 113, nat_lit 95, nat_lit 100, nat_lit 105, nat_lit 103, nat_lit 105, nat_lit 116, nat_lit 115]⟩⟩
noncomputable def x43 : Str := ⟨⟨[nat_lit 97, nat_lit 95, nat_lit 100, nat_lit 105, nat_lit 103, nat_lit 105, nat_lit 116]⟩⟩
noncomputable def x44 : Str := ⟨⟨[nat_lit 113, nat_lit 95, nat_lit 100, nat_lit 105, nat_lit 103, nat_lit 105, nat_lit 116]⟩⟩
noncomputable def x45 : Str := ⟨⟨[nat_lit 95, nat_lit 65, nat_lit 99, nat_lit 99, nat_lit 117, nat_lit 109, nat_lit 117, nat_lit 108, nat_lit 97, nat_lit 116, nat_lit 111, nat_lit 114]⟩⟩
noncomputable def x46 : Str := ⟨⟨[nat_lit 95, nat_lit 95, nat_lit 109, nat_lit 111, nat_lit 100, nat_lit 117, nat_lit 108, nat_lit 101, nat_lit 95, nat_lit 95]⟩⟩
noncomputable def x47 : Str := ⟨⟨[nat_lit 95, nat_lit 95, nat_lit 113, nat_lit 117, nat_lit 97, nat_lit 108, nat_lit 110, nat_lit 97, nat_lit 109, nat_lit 101, nat_lit 95, nat_lit 95]⟩⟩
noncomputable def x48 : Str := ⟨⟨[nat_lit 95, nat_lit 95, nat_lit 102, nat_lit 105, nat_lit 114, nat_lit 115, nat_lit 116, nat_lit 108, nat_lit 105, nat_lit 110, nat_lit 101, nat_lit 110, nat_lit 111, nat_lit 95, nat_lit 95]⟩⟩
noncomputable def x49 : Str := ⟨⟨[nat_lit 95, nat_lit 95, nat_lit 105, nat_lit 110, nat_lit 105, nat_lit 116, nat_lit 95, nat_lit 95]⟩⟩
noncomputable def x50 : Str := ⟨⟨[nat_lit 112, nat_lit 117, nat_lit 115, nat_lit 104]⟩⟩
noncomputable def x51 : Str := ⟨⟨[nat_lit 112, nat_lit 111, nat_lit 112, nat_lit 95, nat_lit 102, nat_lit 114, nat_lit 111, nat_lit 109]⟩⟩
noncomputable def x52 : Str := ⟨⟨[nat_lit 112, nat_lit 111, nat_lit 112]⟩⟩
noncomputable def x53 : Str := ⟨⟨[nat_lit 95, nat_lit 95, nat_lit 108, nat_lit 101, nat_lit 110, nat_lit 95, nat_lit 95]⟩⟩
noncomputable def x54 : Str := ⟨⟨[nat_lit 95, nat_lit 95, nat_lit 115, nat_lit 116, nat_lit 114, nat_lit 95, nat_lit 95]⟩⟩
noncomputable def x55 : Str := ⟨⟨[nat_lit 114, nat_lit 101, nat_lit 115, nat_lit 101, nat_lit 116]⟩⟩
noncomputable def x56 : Str := ⟨⟨[nat_lit 105, nat_lit 115, nat_lit 95, nat_lit 111, nat_lit 110, nat_lit 108, nat_lit 121, nat_lit 119, nat_lit 115]⟩⟩
noncomputable def x57 : Str := ⟨⟨[nat_lit 112, nat_lit 97, nat_lit 114, nat_lit 116, nat_lit 95, nat_lit 99, nat_lit 111, nat_lit 117, nat_lit 110, nat_lit 116]⟩⟩
noncomputable def x58 : Str := ⟨⟨[nat_lit 95, nat_lit 95, nat_lit 115, nat_lit 116, nat_lit 97, nat_lit 116, nat_lit 105, nat_lit 99, nat_lit 95, nat_lit 97, nat_lit 116, nat_lit 116, nat_lit 114, nat_lit 105, nat_lit 98, nat_lit 117, nat_lit 116, nat_lit 101, nat_lit 115, nat_lit 95, nat_lit 95]⟩⟩
noncomputable def x59 : Str := ⟨⟨[nat_lit 95, nat_lit 95, nat_lit 99, nat_lit 108, nat_lit 97, nat_lit 115, nat_lit 115, nat_lit 99, nat_lit 101, nat_lit 108, nat_lit 108, nat_lit 95, nat_lit 95]⟩⟩
noncomputable def x60 : Str := ⟨⟨[nat_lit 95, nat_lit 95, nat_lit 99, nat_lit 108, nat_lit 97, nat_lit 115, nat_lit 115, nat_lit 95, nat_lit 95]⟩⟩
noncomputable def x61 : Str := ⟨⟨[nat_lit 115, nat_lit 101, nat_lit 108, nat_lit 102]⟩⟩
noncomputable def x62 : Str := ⟨⟨[nat_lit 105, nat_lit 110, nat_lit 105, nat_lit 116, nat_lit 105, nat_lit 97, nat_lit 108, nat_lit 95, nat_lit 115, nat_lit 105, nat_lit 122, nat_lit 101]⟩⟩
noncomputable def x63 : Str := ⟨⟨[nat_lit 95, nat_lit 65, nat_lit 99, nat_lit 99, nat_lit 117, nat_lit 109, nat_lit 117, nat_lit 108, nat_lit 97, nat_lit 116, nat_lit 111, nat_lit 114, nat_lit 46, nat_lit 95, nat_lit 95, nat_lit 105, nat_lit 110, nat_lit 105, nat_lit 116, nat_lit 95, nat_lit 95]⟩⟩
noncomputable def x64 : Str := ⟨⟨[nat_lit 102, nat_lit 119, nat_lit 115]⟩⟩
noncomputable def x65 : Str := ⟨⟨[nat_lit 115, nat_lit 116, nat_lit 114, nat_lit 105, nat_lit 110, nat_lit 103]⟩⟩
noncomputable def x66 : Str := ⟨⟨[nat_lit 95, nat_lit 65, nat_lit 99, nat_lit 99, nat_lit 117, nat_lit 109, nat_lit 117, nat_lit 108, nat_lit 97, nat_lit 116, nat_lit 111, nat_lit 114, nat_lit 46, nat_lit 112, nat_lit 117, nat_lit 115, nat_lit 104]⟩⟩
noncomputable def x67 : Str := ⟨⟨[nat_lit 105]⟩⟩
noncomputable def x68 : Str := ⟨⟨[nat_lit 112, nat_lit 111, nat_lit 112, nat_lit 112, nat_lit 101, nat_lit 100]⟩⟩
noncomputable def x69 : Str := ⟨⟨[nat_lit 95, nat_lit 65, nat_lit 99, nat_lit 99, nat_lit 117, nat_lit 109, nat_lit 117, nat_lit 108, nat_lit 97, nat_lit 116, nat_lit 111, nat_lit 114, nat_lit 46, nat_lit 112, nat_lit 111, nat_lit 112, nat_lit 95, nat_lit 102, nat_lit 114, nat_lit 111, nat_lit 109]⟩⟩
noncomputable def x70 : Str := ⟨⟨[nat_lit 95, nat_lit 65, nat_lit 99, nat_lit 99, nat_lit 117, nat_lit 109, nat_lit 117, nat_lit 108, nat_lit 97, nat_lit 116, nat_lit 111, nat_lit 114, nat_lit 46, nat_lit 112, nat_lit 111, nat_lit 112]⟩⟩
noncomputable def x71 : Str := ⟨⟨[nat_lit 95, nat_lit 65, nat_lit 99, nat_lit 99, nat_lit 117, nat_lit 109, nat_lit 117, nat_lit 108, nat_lit 97, nat_lit 116, nat_lit 111, nat_lit 114, nat_lit 46, nat_lit 95, nat_lit 95, nat_lit 108, nat_lit 101, nat_lit 110, nat_lit 95, nat_lit 95]⟩⟩
noncomputable def x72 : Str := ⟨⟨[nat_lit 95, nat_lit 65, nat_lit 99, nat_lit 99, nat_lit 117, nat_lit 109, nat_lit 117, nat_lit 108, nat_lit 97, nat_lit 116, nat_lit 111, nat_lit 114, nat_lit 46, nat_lit 95, nat_lit 95, nat_lit 115, nat_lit 116, nat_lit 114, nat_lit 95, nat_lit 95]⟩⟩
noncomputable def x73 : Str := ⟨⟨[nat_lit 115, nat_lit 116, nat_lit 97, nat_lit 114, nat_lit 116, nat_lit 118, nat_lit 97, nat_lit 108]⟩⟩
noncomputable def x74 : Str := ⟨⟨[nat_lit 95, nat_lit 65, nat_lit 99, nat_lit 99, nat_lit 117, nat_lit 109, nat_lit 117, nat_lit 108, nat_lit 97, nat_lit 116, nat_lit 111, nat_lit 114, nat_lit 46, nat_lit 114, nat_lit 101, nat_lit 115, nat_lit 101, nat_lit 116]⟩⟩
noncomputable def x75 : Str := ⟨⟨[nat_lit 95, nat_lit 65, nat_lit 99, nat_lit 99, nat_lit 117, nat_lit 109, nat_lit 117, nat_lit 108, nat_lit 97, nat_lit 116, nat_lit 111, nat_lit 114, nat_lit 46, nat_lit 105, nat_lit 115, nat_lit 95, nat_lit 111, nat_lit 110, nat_lit 108, nat_lit 121, nat_lit 119, nat_lit 115]⟩⟩
noncomputable def x76 : Str := ⟨⟨[nat_lit 95, nat_lit 65, nat_lit 99, nat_lit 99, nat_lit 117, nat_lit 109, nat_lit 117, nat_lit 108, nat_lit 97, nat_lit 116, nat_lit 111, nat_lit 114, nat_lit 46, nat_lit 112, nat_lit 97, nat_lit 114, nat_lit 116, nat_lit 95, nat_lit 99, nat_lit 111, nat_lit 117, nat_lit 110, nat_lit 116]⟩⟩
noncomputable def x77 : Str := ⟨⟨[nat_lit 95, nat_lit 105, nat_lit 110, nat_lit 105, nat_lit 116, nat_lit 105, nat_lit 97, nat_lit 108, nat_lit 95, nat_lit 115, nat_lit 105, nat_lit 122, nat_lit 101]⟩⟩
noncomputable def x78 : Str := ⟨⟨[nat_lit 95, nat_lit 95, nat_lit 100, nat_lit 105, nat_lit 99, nat_lit 116, nat_lit 95, nat_lit 95]⟩⟩
noncomputable def x79 : Str := ⟨⟨[nat_lit 95, nat_lit 95, nat_lit 119, nat_lit 101, nat_lit 97, nat_lit 107, nat_lit 114, nat_lit 101, nat_lit 102, nat_lit 95, nat_lit 95]⟩⟩
noncomputable def x80 : Str := ⟨⟨[nat_lit 99, nat_lit 112, nat_lit 121, nat_lit 51, nat_lit 49, nat_lit 51, nat_lit 46, nat_lit 116, nat_lit 111, nat_lit 107, nat_lit 101, nat_lit 110]⟩⟩
noncomputable def x81 : Str := ⟨⟨[nat_lit 69, nat_lit 78, nat_lit 68, nat_lit 77, nat_lit 65, nat_lit 82, nat_lit 75, nat_lit 69, nat_lit 82]⟩⟩
noncomputable def x82 : Str := ⟨⟨[nat_lit 76, nat_lit 80, nat_lit 65, nat_lit 82]⟩⟩
noncomputable def x83 : Str := ⟨⟨[nat_lit 82, nat_lit 80, nat_lit 65, nat_lit 82]⟩⟩
noncomputable def x84 : Str := ⟨⟨[nat_lit 76, nat_lit 83, nat_lit 81, nat_lit 66]⟩⟩
noncomputable def x85 : Str := ⟨⟨[nat_lit 82, nat_lit 83, nat_lit 81, nat_lit 66]⟩⟩
noncomputable def x86 : Str := ⟨⟨[nat_lit 67, nat_lit 79, nat_lit 76, nat_lit 79, nat_lit 78]⟩⟩
noncomputable def x87 : Str := ⟨⟨[nat_lit 67, nat_lit 79, nat_lit 77, nat_lit 77, nat_lit 65]⟩⟩
noncomputable def x88 : Str := ⟨⟨[nat_lit 83, nat_lit 69, nat_lit 77, nat_lit 73]⟩⟩
noncomputable def x89 : Str := ⟨⟨[nat_lit 80, nat_lit 76, nat_lit 85, nat_lit 83]⟩⟩
noncomputable def x90 : Str := ⟨⟨[nat_lit 77, nat_lit 73, nat_lit 78, nat_lit 85, nat_lit 83]⟩⟩
noncomputable def x91 : Str := ⟨⟨[nat_lit 83, nat_lit 84, nat_lit 65, nat_lit 82]⟩⟩
noncomputable def x92 : Str := ⟨⟨[nat_lit 83, nat_lit 76, nat_lit 65, nat_lit 83, nat_lit 72]⟩⟩
noncomputable def x93 : Str := ⟨⟨[nat_lit 86, nat_lit 66, nat_lit 65, nat_lit 82]⟩⟩
noncomputable def x94 : Str := ⟨⟨[nat_lit 65, nat_lit 77, nat_lit 80, nat_lit 69, nat_lit 82]⟩⟩
noncomputable def x95 : Str := ⟨⟨[nat_lit 76, nat_lit 69, nat_lit 83, nat_lit 83]⟩⟩
noncomputable def x96 : Str := ⟨⟨[nat_lit 71, nat_lit 82, nat_lit 69, nat_lit 65, nat_lit 84, nat_lit 69, nat_lit 82]⟩⟩
noncomputable def x97 : Str := ⟨⟨[nat_lit 69, nat_lit 81, nat_lit 85, nat_lit 65, nat_lit 76]⟩⟩
noncomputable def x98 : Str := ⟨⟨[nat_lit 68, nat_lit 79, nat_lit 84]⟩⟩
noncomputable def x99 : Str := ⟨⟨[nat_lit 80, nat_lit 69, nat_lit 82, nat_lit 67, nat_lit 69, nat_lit 78, nat_lit 84]⟩⟩
noncomputable def x100 : Str := ⟨⟨[nat_lit 76, nat_lit 66, nat_lit 82, nat_lit 65, nat_lit 67, nat_lit 69]⟩⟩
noncomputable def x101 : Str := ⟨⟨[nat_lit 82, nat_lit 66, nat_lit 82, nat_lit 65, nat_lit 67, nat_lit 69]⟩⟩
noncomputable def x102 : Str := ⟨⟨[nat_lit 69, nat_lit 81, nat_lit 69, nat_lit 81, nat_lit 85, nat_lit 65, nat_lit 76]⟩⟩
noncomputable def x103 : Str := ⟨⟨[nat_lit 78, nat_lit 79, nat_lit 84, nat_lit 69, nat_lit 81, nat_lit 85, nat_lit 65, nat_lit 76]⟩⟩
noncomputable def x104 : Str := ⟨⟨[nat_lit 76, nat_lit 69, nat_lit 83, nat_lit 83, nat_lit 69, nat_lit 81, nat_lit 85, nat_lit 65, nat_lit 76]⟩⟩
noncomputable def x105 : Str := ⟨⟨[nat_lit 71, nat_lit 82, nat_lit 69, nat_lit 65, nat_lit 84, nat_lit 69, nat_lit 82, nat_lit 69, nat_lit 81, nat_lit 85, nat_lit 65, nat_lit 76]⟩⟩
noncomputable def x106 : Str := ⟨⟨[nat_lit 84, nat_lit 73, nat_lit 76, nat_lit 68, nat_lit 69]⟩⟩
noncomputable def x107 : Str := ⟨⟨[nat_lit 67, nat_lit 73, nat_lit 82, nat_lit 67, nat_lit 85, nat_lit 77, nat_lit 70, nat_lit 76, nat_lit 69, nat_lit 88]⟩⟩
noncomputable def x108 : Str := ⟨⟨[nat_lit 76, nat_lit 69, nat_lit 70, nat_lit 84, nat_lit 83, nat_lit 72, nat_lit 73, nat_lit 70, nat_lit 84]⟩⟩
noncomputable def x109 : Str := ⟨⟨[nat_lit 82, nat_lit 73, nat_lit 71, nat_lit 72, nat_lit 84, nat_lit 83, nat_lit 72, nat_lit 73, nat_lit 70, nat_lit 84]⟩⟩
noncomputable def x110 : Str := ⟨⟨[nat_lit 68, nat_lit 79, nat_lit 85, nat_lit 66, nat_lit 76, nat_lit 69, nat_lit 83, nat_lit 84, nat_lit 65, nat_lit 82]⟩⟩
noncomputable def x111 : Str := ⟨⟨[nat_lit 80, nat_lit 76, nat_lit 85, nat_lit 83, nat_lit 69, nat_lit 81, nat_lit 85, nat_lit 65, nat_lit 76]⟩⟩
noncomputable def x112 : Str := ⟨⟨[nat_lit 77, nat_lit 73, nat_lit 78, nat_lit 69, nat_lit 81, nat_lit 85, nat_lit 65, nat_lit 76]⟩⟩
noncomputable def x113 : Str := ⟨⟨[nat_lit 83, nat_lit 84, nat_lit 65, nat_lit 82, nat_lit 69, nat_lit 81, nat_lit 85, nat_lit 65, nat_lit 76]⟩⟩
noncomputable def x114 : Str := ⟨⟨[nat_lit 83, nat_lit 76, nat_lit 65, nat_lit 83, nat_lit 72, nat_lit 69, nat_lit 81, nat_lit 85, nat_lit 65, nat_lit 76]⟩⟩
noncomputable def x115 : Str := ⟨⟨[nat_lit 80, nat_lit 69, nat_lit 82, nat_lit 67, nat_lit 69, nat_lit 78, nat_lit 84, nat_lit 69, nat_lit 81, nat_lit 85, nat_lit 65, nat_lit 76]⟩⟩
noncomputable def x116 : Str := ⟨⟨[nat_lit 65, nat_lit 77, nat_lit 80, nat_lit 69, nat_lit 82, nat_lit 69, nat_lit 81, nat_lit 85, nat_lit 65, nat_lit 76]⟩⟩
noncomputable def x117 : Str := ⟨⟨[nat_lit 86, nat_lit 66, nat_lit 65, nat_lit 82, nat_lit 69, nat_lit 81, nat_lit 85, nat_lit 65, nat_lit 76]⟩⟩
noncomputable def x118 : Str := ⟨⟨[nat_lit 67, nat_lit 73, nat_lit 82, nat_lit 67, nat_lit 85, nat_lit 77, nat_lit 70, nat_lit 76, nat_lit 69, nat_lit 88, nat_lit 69, nat_lit 81, nat_lit 85, nat_lit 65, nat_lit 76]⟩⟩
noncomputable def x119 : Str := ⟨⟨[nat_lit 76, nat_lit 69, nat_lit 70, nat_lit 84, nat_lit 83, nat_lit 72, nat_lit 73, nat_lit 70, nat_lit 84, nat_lit 69, nat_lit 81, nat_lit 85, nat_lit 65, nat_lit 76]⟩⟩
noncomputable def x120 : Str := ⟨⟨[nat_lit 82, nat_lit 73, nat_lit 71, nat_lit 72, nat_lit 84, nat_lit 83, nat_lit 72, nat_lit 73, nat_lit 70, nat_lit 84, nat_lit 69, nat_lit 81, nat_lit 85, nat_lit 65, nat_lit 76]⟩⟩
noncomputable def x121 : Str := ⟨⟨[nat_lit 68, nat_lit 79, nat_lit 85, nat_lit 66, nat_lit 76, nat_lit 69, nat_lit 83, nat_lit 84, nat_lit 65, nat_lit 82, nat_lit 69, nat_lit 81, nat_lit 85, nat_lit 65, nat_lit 76]⟩⟩
noncomputable def x122 : Str := ⟨⟨[nat_lit 68, nat_lit 79, nat_lit 85, nat_lit 66, nat_lit 76, nat_lit 69, nat_lit 83, nat_lit 76, nat_lit 65, nat_lit 83, nat_lit 72]⟩⟩
noncomputable def x123 : Str := ⟨⟨[nat_lit 68, nat_lit 79, nat_lit 85, nat_lit 66, nat_lit 76, nat_lit 69, nat_lit 83, nat_lit 76, nat_lit 65, nat_lit 83, nat_lit 72, nat_lit 69, nat_lit 81, nat_lit 85, nat_lit 65, nat_lit 76]⟩⟩
noncomputable def x124 : Str := ⟨⟨[nat_lit 65, nat_lit 84]⟩⟩
noncomputable def x125 : Str := ⟨⟨[nat_lit 65, nat_lit 84, nat_lit 69, nat_lit 81, nat_lit 85, nat_lit 65, nat_lit 76]⟩⟩
noncomputable def x126 : Str := ⟨⟨[nat_lit 82, nat_lit 65, nat_lit 82, nat_lit 82, nat_lit 79, nat_lit 87]⟩⟩
noncomputable def x127 : Str := ⟨⟨[nat_lit 69, nat_lit 76, nat_lit 76, nat_lit 73, nat_lit 80, nat_lit 83, nat_lit 73, nat_lit 83]⟩⟩
noncomputable def x128 : Str := ⟨⟨[nat_lit 67, nat_lit 79, nat_lit 76, nat_lit 79, nat_lit 78, nat_lit 69, nat_lit 81, nat_lit 85, nat_lit 65, nat_lit 76]⟩⟩
noncomputable def x129 : Str := ⟨⟨[nat_lit 69, nat_lit 88, nat_lit 67, nat_lit 76, nat_lit 65, nat_lit 77, nat_lit 65, nat_lit 84, nat_lit 73, nat_lit 79, nat_lit 78]⟩⟩
noncomputable def x130 : Str := ⟨⟨[nat_lit 69, nat_lit 88, nat_lit 65, nat_lit 67, nat_lit 84, nat_lit 95, nat_lit 84, nat_lit 79, nat_lit 75, nat_lit 69, nat_lit 78, nat_lit 95, nat_lit 84, nat_lit 89, nat_lit 80, nat_lit 69, nat_lit 83]⟩⟩
noncomputable def x131 : Str := ⟨⟨[nat_lit 33]⟩⟩
noncomputable def x132 : Str := ⟨⟨[nat_lit 33, nat_lit 61]⟩⟩
noncomputable def x133 : Str := ⟨⟨[nat_lit 37]⟩⟩
noncomputable def x134 : Str := ⟨⟨[nat_lit 37, nat_lit 61]⟩⟩
noncomputable def x135 : Str := ⟨⟨[nat_lit 38]⟩⟩
noncomputable def x136 : Str := ⟨⟨[nat_lit 38, nat_lit 61]⟩⟩
noncomputable def x137 : Str := ⟨⟨[nat_lit 40]⟩⟩
noncomputable def x138 : Str := ⟨⟨[nat_lit 41]⟩⟩
noncomputable def x139 : Str := ⟨⟨[nat_lit 42]⟩⟩
noncomputable def x140 : Str := ⟨⟨[nat_lit 42, nat_lit 42]⟩⟩
noncomputable def x141 : Str := ⟨⟨[nat_lit 42, nat_lit 42, nat_lit 61]⟩⟩
noncomputable def x142 : Str := ⟨⟨[nat_lit 42, nat_lit 61]⟩⟩
noncomputable def x143 : Str := ⟨⟨[nat_lit 43]⟩⟩
noncomputable def x144 : Str := ⟨⟨[nat_lit 43, nat_lit 61]⟩⟩
noncomputable def x145 : Str := ⟨⟨[nat_lit 44]⟩⟩
noncomputable def x146 : Str := ⟨⟨[nat_lit 45]⟩⟩
noncomputable def x147 : Str := ⟨⟨[nat_lit 45, nat_lit 61]⟩⟩
noncomputable def x148 : Str := ⟨⟨[nat_lit 45, nat_lit 62]⟩⟩
noncomputable def x149 : Str := ⟨⟨[nat_lit 46]⟩⟩
noncomputable def x150 : Str := ⟨⟨[nat_lit 46, nat_lit 46, nat_lit 46]⟩⟩
noncomputable def x151 : Str := ⟨⟨[nat_lit 47]⟩⟩
noncomputable def x152 : Str := ⟨⟨[nat_lit 47, nat_lit 47]⟩⟩
noncomputable def x153 : Str := ⟨⟨[nat_lit 47, nat_lit 47, nat_lit 61]⟩⟩
noncomputable def x154 : Str := ⟨⟨[nat_lit 47, nat_lit 61]⟩⟩
noncomputable def x155 : Str := ⟨⟨[nat_lit 58]⟩⟩
noncomputable def x156 : Str := ⟨⟨[nat_lit 58, nat_lit 61]⟩⟩
noncomputable def x157 : Str := ⟨⟨[nat_lit 59]⟩⟩
noncomputable def x158 : Str := ⟨⟨[nat_lit 60]⟩⟩
noncomputable def x159 : Str := ⟨⟨[nat_lit 60, nat_lit 60]⟩⟩
noncomputable def x160 : Str := ⟨⟨[nat_lit 60, nat_lit 60, nat_lit 61]⟩⟩
noncomputable def x161 : Str := ⟨⟨[nat_lit 60, nat_lit 61]⟩⟩
noncomputable def x162 : Str := ⟨⟨[nat_lit 61]⟩⟩
noncomputable def x163 : Str := ⟨⟨[nat_lit 61, nat_lit 61]⟩⟩
noncomputable def x164 : Str := ⟨⟨[nat_lit 62]⟩⟩
noncomputable def x165 : Str := ⟨⟨[nat_lit 62, nat_lit 61]⟩⟩
noncomputable def x166 : Str := ⟨⟨[nat_lit 62, nat_lit 62]⟩⟩
noncomputable def x167 : Str := ⟨⟨[nat_lit 62, nat_lit 62, nat_lit 61]⟩⟩
noncomputable def x168 : Str := ⟨⟨[nat_lit 64]⟩⟩
noncomputable def x169 : Str := ⟨⟨[nat_lit 64, nat_lit 61]⟩⟩
noncomputable def x170 : Str := ⟨⟨[nat_lit 91]⟩⟩
noncomputable def x171 : Str := ⟨⟨[nat_lit 93]⟩⟩
noncomputable def x172 : Str := ⟨⟨[nat_lit 94]⟩⟩
noncomputable def x173 : Str := ⟨⟨[nat_lit 94, nat_lit 61]⟩⟩
noncomputable def x174 : Str := ⟨⟨[nat_lit 123]⟩⟩
noncomputable def x175 : Str := ⟨⟨[nat_lit 124]⟩⟩
noncomputable def x176 : Str := ⟨⟨[nat_lit 124, nat_lit 61]⟩⟩
noncomputable def x177 : Str := ⟨⟨[nat_lit 125]⟩⟩
noncomputable def x178 : Str := ⟨⟨[nat_lit 126]⟩⟩
noncomputable def x179 : Str := ⟨⟨[nat_lit 108, nat_lit 97, nat_lit 119, nat_lit 95, nat_lit 117, nat_lit 108, nat_lit 48, nat_lit 48, nat_lit 49, nat_lit 51, nat_lit 95, nat_lit 48, nat_lit 49]⟩⟩
noncomputable def x180 : Str := ⟨⟨[nat_lit 73, nat_lit 83, nat_lit 69, nat_lit 79, nat_lit 70]⟩⟩
noncomputable def x181 : Str := ⟨⟨[nat_lit 95, nat_lit 108, nat_lit 97, nat_lit 119, nat_lit 95, nat_lit 99, nat_lit 111, nat_lit 109, nat_lit 109, nat_lit 111, nat_lit 110]⟩⟩
noncomputable def x182 : Str := ⟨⟨[nat_lit 95, nat_lit 108, nat_lit 97, nat_lit 119, nat_lit 95, nat_lit 115, nat_lit 105, nat_lit 103, nat_lit 110]⟩⟩
noncomputable def x183 : Str := ⟨⟨[nat_lit 95, nat_lit 108, nat_lit 97, nat_lit 119, nat_lit 95, nat_lit 116, nat_lit 101, nat_lit 120, nat_lit 116]⟩⟩
noncomputable def x184 : Str := ⟨⟨[nat_lit 95, nat_lit 108, nat_lit 97, nat_lit 119, nat_lit 95, nat_lit 115, nat_lit 112, nat_lit 111, nat_lit 105, nat_lit 108]⟩⟩
noncomputable def x185 : Str := ⟨⟨[nat_lit 95, nat_lit 108, nat_lit 97, nat_lit 119, nat_lit 95, nat_lit 116, nat_lit 117, nat_lit 114, nat_lit 110]⟩⟩
noncomputable def x186 : Str := ⟨⟨[nat_lit 95, nat_lit 108, nat_lit 97, nat_lit 119, nat_lit 95, nat_lit 114, nat_lit 101, nat_lit 97, nat_lit 100]⟩⟩
noncomputable def x187 : Str := ⟨⟨[nat_lit 95, nat_lit 108, nat_lit 97, nat_lit 119, nat_lit 95, nat_lit 109, nat_lit 101, nat_lit 101, nat_lit 116]⟩⟩
noncomputable def x188 : Str := ⟨⟨[nat_lit 95, nat_lit 108, nat_lit 97, nat_lit 119, nat_lit 95, nat_lit 104, nat_lit 97, nat_lit 108, nat_lit 102]⟩⟩
noncomputable def x189 : Str := ⟨⟨[nat_lit 108, nat_lit 97, nat_lit 119]⟩⟩
noncomputable def x190 : Str := ⟨⟨[nat_lit 120]⟩⟩
noncomputable def x191 : Str := ⟨⟨[nat_lit 110, nat_lit 117, nat_lit 109, nat_lit 98, nat_lit 101, nat_lit 114]⟩⟩
noncomputable def x192 : Str := ⟨⟨[nat_lit 115, nat_lit 105, nat_lit 103, nat_lit 110, nat_lit 115]⟩⟩
noncomputable def x193 : Str := ⟨⟨[nat_lit 114, nat_lit 111, nat_lit 119]⟩⟩
noncomputable def x194 : Str := ⟨⟨[nat_lit 112, nat_lit 105, nat_lit 101, nat_lit 99, nat_lit 101, nat_lit 115]⟩⟩
noncomputable def x195 : Str := ⟨⟨[nat_lit 99, nat_lit 111, nat_lit 100, nat_lit 101]⟩⟩
noncomputable def x196 : Str := ⟨⟨[nat_lit 112, nat_lit 108, nat_lit 97, nat_lit 99, nat_lit 101]⟩⟩
noncomputable def x197 : Str := ⟨⟨[nat_lit 114, nat_lit 101, nat_lit 115, nat_lit 116]⟩⟩
noncomputable def x198 : Str := ⟨⟨[nat_lit 98, nat_lit 108, nat_lit 97, nat_lit 110, nat_lit 107, nat_lit 115]⟩⟩
noncomputable def x199 : Str := ⟨⟨[nat_lit 115, nat_lit 105, nat_lit 103, nat_lit 110]⟩⟩
noncomputable def x200 : Str := ⟨⟨[nat_lit 99, nat_lit 111, nat_lit 117, nat_lit 110, nat_lit 116]⟩⟩
noncomputable def x201 : Str := ⟨⟨[nat_lit 115, nat_lit 112, nat_lit 111, nat_lit 116]⟩⟩
noncomputable def x202 : Str := ⟨⟨[nat_lit 115, nat_lit 116, nat_lit 101, nat_lit 112]⟩⟩
noncomputable def x203 : Str := ⟨⟨[nat_lit 116, nat_lit 117, nat_lit 114, nat_lit 110]⟩⟩
noncomputable def x204 : Str := ⟨⟨[nat_lit 119, nat_lit 104, nat_lit 111, nat_lit 108, nat_lit 101]⟩⟩
noncomputable def x205 : Str := ⟨⟨[nat_lit 98, nat_lit 111, nat_lit 114, nat_lit 100, nat_lit 101, nat_lit 114]⟩⟩
noncomputable def x206 : Str := ⟨⟨[nat_lit 104, nat_lit 105, nat_lit 103, nat_lit 104]⟩⟩
noncomputable def x207 : Str := ⟨⟨[nat_lit 108, nat_lit 111, nat_lit 119]⟩⟩
noncomputable def x208 : Str := ⟨⟨[nat_lit 98, nat_lit 97, nat_lit 99, nat_lit 107]⟩⟩
noncomputable def x209 : Str := ⟨⟨[nat_lit 102, nat_lit 97, nat_lit 99, nat_lit 116, nat_lit 111, nat_lit 114]⟩⟩
noncomputable def x210 : Str := ⟨⟨[nat_lit 116, nat_lit 105, nat_lit 109, nat_lit 101, nat_lit 115]⟩⟩
noncomputable def o13 : Obj := (Obj.mk (Value.type PySem.W.SL.s5856160107412720595x4) none (Data.fields (Array.mk [(Value.str x0 (nat_lit 182)), (Value.str x0 (nat_lit 183)), (Value.str x1 (nat_lit 184)), (vi (nat_lit 1) (nat_lit 0)), (vi (nat_lit 0) (nat_lit 0)), (vi (nat_lit 0) (nat_lit 0)), (vi (nat_lit 0) (nat_lit 0)), (vi (nat_lit 0) (nat_lit 0)), (vr (nat_lit 11)), (Value.bool Bool.false), (vi (nat_lit 181) (nat_lit 0)), (vr (nat_lit 12)), Value.none, Value.none, Value.none, Value.none, (vi (nat_lit 185) (nat_lit 0)), (vi (nat_lit 1) (nat_lit 0)), (Value.str x1 (nat_lit 186))])) (Array.mk []))
noncomputable def o14 : Obj := (Obj.mk (Value.type PySem.W.SL.s658472552662922059x5) none Data.plain (Array.mk [(some (vr (nat_lit 13))), (some (vr (nat_lit 3))), (some (vr (nat_lit 3))), none, (some (Value.str x2 (nat_lit 164))), none, (some (vr (nat_lit 0)))]))
noncomputable def Ha (P : Params) : Heap := ⟨Array.mk [(boot_o_0 P), (boot_o_1 P), (boot_o_2 P), (boot_o_3 P), (boot_o_4 P), (boot_o_5 P), (boot_o_6 P), (boot_o_7 P), (boot_o_8 P), (boot_o_9 P), (boot_o_10 P), (boot_o_7 P), (boot_o_8 P), o13, o14], { }⟩
-- a: n 15 life { } gens 0 drawn { } toks 187
noncomputable def Tb (P : Params) : BT := (.node (boot_o_0 P) (.node (boot_o_1 P) (.node (boot_o_3 P) (.node (boot_o_7 P) .nil .nil) (.node (boot_o_7 P) .nil .nil)) (.node (boot_o_5 P) (.node (boot_o_9 P) .nil .nil) (.node o13 .nil .nil))) (.node (boot_o_2 P) (.node (boot_o_4 P) (.node (boot_o_8 P) .nil .nil) (.node (boot_o_8 P) .nil .nil)) (.node (boot_o_6 P) (.node (boot_o_10 P) .nil .nil) (.node o14 .nil .nil))))
-- b: n 15 life { } gens 0 drawn { } toks 187
noncomputable def e3_0 (P : Params) : List DictEntry := [(de P x5 (nat_lit 166) Value.none), (de P x6 (nat_lit 167) Value.none), (de P x7 (nat_lit 168) (Value.builtin PySem.W.SL.s7097527257260152453x26)), (de P x8 (nat_lit 169) Value.none), (de P x9 (nat_lit 170) (vr (nat_lit 6))), (de P x10 (nat_lit 171) (vr (nat_lit 4))), (de P x11 (nat_lit 173) (Value.str x1 (nat_lit 172))), (de P x12 (nat_lit 174) Value.none), (de P x13 (nat_lit 193) (vr (nat_lit 21))), (de P x14 (nat_lit 197) (vi (nat_lit 4000) (nat_lit 196))), (de P x15 (nat_lit 214) (vr (nat_lit 28))), (de P x16 (nat_lit 228) (vr (nat_lit 35))), (de P x17 (nat_lit 239) (vr (nat_lit 42))), (de P x18 (nat_lit 250) (vr (nat_lit 49))), (de P x19 (nat_lit 265) (vr (nat_lit 56))), (de P x20 (nat_lit 275) (vr (nat_lit 63))), (de P x21 (nat_lit 279) (Value.str x22 (nat_lit 278)))]
noncomputable def o3_0 (P : Params) : Obj := (Obj.mk (Value.type PySem.W.SL.s14018661285674007319x4) none (Data.dict (Array.mk ((de P x3 (nat_lit 165) (Value.str x4 (nat_lit 276))) :: (e3_0 P))) (nat_lit 18)) (Array.mk []))
noncomputable def o12_0 : Obj := (Obj.mk Value.none none (Data.fields (Array.mk [(vi (nat_lit 1) (nat_lit 0)), (vi (nat_lit 0) (nat_lit 0)), (vr (nat_lit 20)), (vi (nat_lit 6) (nat_lit 0)), (vi (nat_lit 0) (nat_lit 0)), (vr (nat_lit 27)), (vi (nat_lit 22) (nat_lit 0)), (vi (nat_lit 0) (nat_lit 0)), (vr (nat_lit 34)), (vi (nat_lit 32) (nat_lit 0)), (vi (nat_lit 0) (nat_lit 0)), (vr (nat_lit 41)), (vi (nat_lit 48) (nat_lit 0)), (vi (nat_lit 0) (nat_lit 0)), (vr (nat_lit 48)), (vi (nat_lit 57) (nat_lit 0)), (vi (nat_lit 0) (nat_lit 0)), (vr (nat_lit 55)), (vi (nat_lit 68) (nat_lit 0)), (vi (nat_lit 0) (nat_lit 0)), (vr (nat_lit 62))])) (Array.mk []))
noncomputable def o17 : Obj := (Obj.mk (Value.type PySem.W.SL.s2766695959194262286x5) none (Data.seq (Array.mk [(Value.str x23 (nat_lit 190))]) (nat_lit 0)) (Array.mk []))
noncomputable def o19 : Obj := (Obj.mk Value.none none (Data.func (FuncData.mk x13 x13 (fp st0).1 (FuncBody.stmts (fp st0).2.1) (fp st0).2.2 (nat_lit 0) [] Value.none Value.none Value.none Value.none none Value.none Value.none (nat_lit 0))) (Array.mk []))
noncomputable def o20 : Obj := (Obj.mk (Value.type PySem.W.SL.s5856160107412720595x4) none (Data.fields (Array.mk [(Value.str x13 (nat_lit 187)), (Value.str x13 (nat_lit 188)), (Value.str x1 (nat_lit 189)), (vi (nat_lit 1) (nat_lit 0)), (vi (nat_lit 1) (nat_lit 0)), (vi (nat_lit 0) (nat_lit 0)), (vi (nat_lit 0) (nat_lit 0)), (vi (nat_lit 3) (nat_lit 0)), (vr (nat_lit 15)), (Value.bool Bool.true), (vi (nat_lit 181) (nat_lit 0)), (vr (nat_lit 16)), Value.none, (vr (nat_lit 17)), (vr (nat_lit 18)), (vr (nat_lit 19)), (vi (nat_lit 191) (nat_lit 0)), (vi (nat_lit 1) (nat_lit 0)), (Value.str x1 (nat_lit 192))])) (Array.mk []))
noncomputable def o21 : Obj := (Obj.mk (Value.type PySem.W.SL.s7174869446012820540x8) none (Data.func (FuncData.mk x13 x13 (fp st0).1 (FuncBody.stmts (fp st0).2.1) (fp st0).2.2 (nat_lit 3) [] Value.none Value.none Value.none (Value.str x2 (nat_lit 164)) none (vr (nat_lit 20)) Value.none (nat_lit 0))) (Array.mk []))
noncomputable def o24 : Obj := (Obj.mk (Value.type PySem.W.SL.s2766695959194262286x5) none (Data.seq (Array.mk [(Value.str x24 (nat_lit 201)), (Value.str x25 (nat_lit 202)), (Value.str x26 (nat_lit 203)), (Value.str x27 (nat_lit 204)), (Value.str x28 (nat_lit 205)), (Value.str x29 (nat_lit 206)), (Value.str x30 (nat_lit 207)), (Value.str x31 (nat_lit 208)), (Value.str x32 (nat_lit 209)), (Value.str x33 (nat_lit 210)), (Value.str x34 (nat_lit 211))]) (nat_lit 0)) (Array.mk []))
noncomputable def o26 : Obj := (Obj.mk Value.none none (Data.func (FuncData.mk x15 x15 (fp st3).1 (FuncBody.stmts (fp st3).2.1) (fp st3).2.2 (nat_lit 0) [] Value.none Value.none Value.none Value.none none Value.none Value.none (nat_lit 0))) (Array.mk []))
noncomputable def o27 : Obj := (Obj.mk (Value.type PySem.W.SL.s5856160107412720595x4) none (Data.fields (Array.mk [(Value.str x15 (nat_lit 198)), (Value.str x15 (nat_lit 199)), (Value.str x1 (nat_lit 200)), (vi (nat_lit 6) (nat_lit 0)), (vi (nat_lit 3) (nat_lit 0)), (vi (nat_lit 0) (nat_lit 0)), (vi (nat_lit 0) (nat_lit 0)), (vi (nat_lit 3) (nat_lit 0)), (vr (nat_lit 22)), (Value.bool Bool.true), (vi (nat_lit 181) (nat_lit 0)), (vr (nat_lit 23)), Value.none, (vr (nat_lit 24)), (vr (nat_lit 25)), (vr (nat_lit 26)), (vi (nat_lit 212) (nat_lit 0)), (vi (nat_lit 6) (nat_lit 0)), (Value.str x1 (nat_lit 213))])) (Array.mk []))
noncomputable def o28 : Obj := (Obj.mk (Value.type PySem.W.SL.s7174869446012820540x8) none (Data.func (FuncData.mk x15 x15 (fp st3).1 (FuncBody.stmts (fp st3).2.1) (fp st3).2.2 (nat_lit 3) [] Value.none Value.none Value.none (Value.str x35 (nat_lit 194)) none (vr (nat_lit 27)) Value.none (nat_lit 0))) (Array.mk []))
noncomputable def o31 : Obj := (Obj.mk (Value.type PySem.W.SL.s2766695959194262286x5) none (Data.seq (Array.mk [(Value.str x36 (nat_lit 218)), (Value.str x37 (nat_lit 219)), (Value.str x25 (nat_lit 220)), (Value.str x30 (nat_lit 221)), (Value.str x31 (nat_lit 222)), (Value.str x26 (nat_lit 223)), (Value.str x38 (nat_lit 224)), (Value.str x33 (nat_lit 225))]) (nat_lit 0)) (Array.mk []))
noncomputable def o33 : Obj := (Obj.mk Value.none none (Data.func (FuncData.mk x16 x16 (fp st4).1 (FuncBody.stmts (fp st4).2.1) (fp st4).2.2 (nat_lit 0) [] Value.none Value.none Value.none Value.none none Value.none Value.none (nat_lit 0))) (Array.mk []))
noncomputable def o34 : Obj := (Obj.mk (Value.type PySem.W.SL.s5856160107412720595x4) none (Data.fields (Array.mk [(Value.str x16 (nat_lit 215)), (Value.str x16 (nat_lit 216)), (Value.str x1 (nat_lit 217)), (vi (nat_lit 22) (nat_lit 0)), (vi (nat_lit 6) (nat_lit 0)), (vi (nat_lit 0) (nat_lit 0)), (vi (nat_lit 0) (nat_lit 0)), (vi (nat_lit 3) (nat_lit 0)), (vr (nat_lit 29)), (Value.bool Bool.true), (vi (nat_lit 181) (nat_lit 0)), (vr (nat_lit 30)), Value.none, (vr (nat_lit 31)), (vr (nat_lit 32)), (vr (nat_lit 33)), (vi (nat_lit 226) (nat_lit 0)), (vi (nat_lit 22) (nat_lit 0)), (Value.str x1 (nat_lit 227))])) (Array.mk []))
noncomputable def o35 : Obj := (Obj.mk (Value.type PySem.W.SL.s7174869446012820540x8) none (Data.func (FuncData.mk x16 x16 (fp st4).1 (FuncBody.stmts (fp st4).2.1) (fp st4).2.2 (nat_lit 3) [] Value.none Value.none Value.none (Value.str x35 (nat_lit 194)) none (vr (nat_lit 34)) Value.none (nat_lit 0))) (Array.mk []))
noncomputable def o38 : Obj := (Obj.mk (Value.type PySem.W.SL.s2766695959194262286x5) none (Data.seq (Array.mk [(Value.str x24 (nat_lit 232)), (Value.str x26 (nat_lit 233))]) (nat_lit 0)) (Array.mk []))
noncomputable def o39 : Obj := (Obj.mk (Value.type PySem.W.SL.s2766695959194262286x5) none (Data.seq (Array.mk [(Value.str x26 (nat_lit 234)), (Value.str x39 (nat_lit 235)), (Value.str x40 (nat_lit 236))]) (nat_lit 0)) (Array.mk []))
noncomputable def o40 : Obj := (Obj.mk Value.none none (Data.func (FuncData.mk x17 x17 (fp st5).1 (FuncBody.stmts (fp st5).2.1) (fp st5).2.2 (nat_lit 0) [] Value.none Value.none Value.none Value.none none Value.none Value.none (nat_lit 0))) (Array.mk []))
noncomputable def o41 : Obj := (Obj.mk (Value.type PySem.W.SL.s5856160107412720595x4) none (Data.fields (Array.mk [(Value.str x17 (nat_lit 229)), (Value.str x17 (nat_lit 230)), (Value.str x1 (nat_lit 231)), (vi (nat_lit 32) (nat_lit 0)), (vi (nat_lit 2) (nat_lit 0)), (vi (nat_lit 0) (nat_lit 0)), (vi (nat_lit 0) (nat_lit 0)), (vi (nat_lit 3) (nat_lit 0)), (vr (nat_lit 36)), (Value.bool Bool.true), (vi (nat_lit 181) (nat_lit 0)), (vr (nat_lit 37)), Value.none, (vr (nat_lit 38)), (vr (nat_lit 39)), (vr (nat_lit 40)), (vi (nat_lit 237) (nat_lit 0)), (vi (nat_lit 32) (nat_lit 0)), (Value.str x1 (nat_lit 238))])) (Array.mk []))
noncomputable def o42 : Obj := (Obj.mk (Value.type PySem.W.SL.s7174869446012820540x8) none (Data.func (FuncData.mk x17 x17 (fp st5).1 (FuncBody.stmts (fp st5).2.1) (fp st5).2.2 (nat_lit 3) [] Value.none Value.none Value.none (Value.str x35 (nat_lit 194)) none (vr (nat_lit 41)) Value.none (nat_lit 0))) (Array.mk []))
noncomputable def o45 : Obj := (Obj.mk (Value.type PySem.W.SL.s2766695959194262286x5) none (Data.seq (Array.mk [(Value.str x41 (nat_lit 243)), (Value.str x26 (nat_lit 244))]) (nat_lit 0)) (Array.mk []))
noncomputable def o46 : Obj := (Obj.mk (Value.type PySem.W.SL.s2766695959194262286x5) none (Data.seq (Array.mk [(Value.str x41 (nat_lit 245)), (Value.str x26 (nat_lit 246)), (Value.str x40 (nat_lit 247))]) (nat_lit 0)) (Array.mk []))
noncomputable def o47 : Obj := (Obj.mk Value.none none (Data.func (FuncData.mk x18 x18 (fp st6).1 (FuncBody.stmts (fp st6).2.1) (fp st6).2.2 (nat_lit 0) [] Value.none Value.none Value.none Value.none none Value.none Value.none (nat_lit 0))) (Array.mk []))
noncomputable def o48 : Obj := (Obj.mk (Value.type PySem.W.SL.s5856160107412720595x4) none (Data.fields (Array.mk [(Value.str x18 (nat_lit 240)), (Value.str x18 (nat_lit 241)), (Value.str x1 (nat_lit 242)), (vi (nat_lit 48) (nat_lit 0)), (vi (nat_lit 2) (nat_lit 0)), (vi (nat_lit 0) (nat_lit 0)), (vi (nat_lit 0) (nat_lit 0)), (vi (nat_lit 3) (nat_lit 0)), (vr (nat_lit 43)), (Value.bool Bool.true), (vi (nat_lit 181) (nat_lit 0)), (vr (nat_lit 44)), Value.none, (vr (nat_lit 45)), (vr (nat_lit 46)), (vr (nat_lit 47)), (vi (nat_lit 248) (nat_lit 0)), (vi (nat_lit 48) (nat_lit 0)), (Value.str x1 (nat_lit 249))])) (Array.mk []))
noncomputable def o49 : Obj := (Obj.mk (Value.type PySem.W.SL.s7174869446012820540x8) none (Data.func (FuncData.mk x18 x18 (fp st6).1 (FuncBody.stmts (fp st6).2.1) (fp st6).2.2 (nat_lit 3) [] Value.none Value.none Value.none (Value.str x35 (nat_lit 194)) none (vr (nat_lit 48)) Value.none (nat_lit 0))) (Array.mk []))
noncomputable def o52 : Obj := (Obj.mk (Value.type PySem.W.SL.s2766695959194262286x5) none (Data.seq (Array.mk [(Value.str x24 (nat_lit 254)), (Value.str x25 (nat_lit 255)), (Value.str x26 (nat_lit 256)), (Value.str x39 (nat_lit 257)), (Value.str x33 (nat_lit 258)), (Value.str x42 (nat_lit 259)), (Value.str x43 (nat_lit 260)), (Value.str x44 (nat_lit 261)), (Value.str x38 (nat_lit 262))]) (nat_lit 0)) (Array.mk []))
noncomputable def o54 : Obj := (Obj.mk Value.none none (Data.func (FuncData.mk x19 x19 (fp st7).1 (FuncBody.stmts (fp st7).2.1) (fp st7).2.2 (nat_lit 0) [] Value.none Value.none Value.none Value.none none Value.none Value.none (nat_lit 0))) (Array.mk []))
noncomputable def o55 : Obj := (Obj.mk (Value.type PySem.W.SL.s5856160107412720595x4) none (Data.fields (Array.mk [(Value.str x19 (nat_lit 251)), (Value.str x19 (nat_lit 252)), (Value.str x1 (nat_lit 253)), (vi (nat_lit 57) (nat_lit 0)), (vi (nat_lit 2) (nat_lit 0)), (vi (nat_lit 0) (nat_lit 0)), (vi (nat_lit 0) (nat_lit 0)), (vi (nat_lit 3) (nat_lit 0)), (vr (nat_lit 50)), (Value.bool Bool.true), (vi (nat_lit 181) (nat_lit 0)), (vr (nat_lit 51)), Value.none, (vr (nat_lit 52)), (vr (nat_lit 53)), (vr (nat_lit 54)), (vi (nat_lit 263) (nat_lit 0)), (vi (nat_lit 57) (nat_lit 0)), (Value.str x1 (nat_lit 264))])) (Array.mk []))
noncomputable def o56 : Obj := (Obj.mk (Value.type PySem.W.SL.s7174869446012820540x8) none (Data.func (FuncData.mk x19 x19 (fp st7).1 (FuncBody.stmts (fp st7).2.1) (fp st7).2.2 (nat_lit 3) [] Value.none Value.none Value.none (Value.str x35 (nat_lit 194)) none (vr (nat_lit 55)) Value.none (nat_lit 0))) (Array.mk []))
noncomputable def o59 : Obj := (Obj.mk (Value.type PySem.W.SL.s2766695959194262286x5) none (Data.seq (Array.mk [(Value.str x24 (nat_lit 269)), (Value.str x25 (nat_lit 270)), (Value.str x38 (nat_lit 271)), (Value.str x33 (nat_lit 272))]) (nat_lit 0)) (Array.mk []))
noncomputable def o61 : Obj := (Obj.mk Value.none none (Data.func (FuncData.mk x20 x20 (fp st8).1 (FuncBody.stmts (fp st8).2.1) (fp st8).2.2 (nat_lit 0) [] Value.none Value.none Value.none Value.none none Value.none Value.none (nat_lit 0))) (Array.mk []))
noncomputable def o62 : Obj := (Obj.mk (Value.type PySem.W.SL.s5856160107412720595x4) none (Data.fields (Array.mk [(Value.str x20 (nat_lit 266)), (Value.str x20 (nat_lit 267)), (Value.str x1 (nat_lit 268)), (vi (nat_lit 68) (nat_lit 0)), (vi (nat_lit 2) (nat_lit 0)), (vi (nat_lit 0) (nat_lit 0)), (vi (nat_lit 0) (nat_lit 0)), (vi (nat_lit 3) (nat_lit 0)), (vr (nat_lit 57)), (Value.bool Bool.true), (vi (nat_lit 181) (nat_lit 0)), (vr (nat_lit 58)), Value.none, (vr (nat_lit 59)), (vr (nat_lit 60)), (vr (nat_lit 61)), (vi (nat_lit 273) (nat_lit 0)), (vi (nat_lit 68) (nat_lit 0)), (Value.str x1 (nat_lit 274))])) (Array.mk []))
noncomputable def o63 : Obj := (Obj.mk (Value.type PySem.W.SL.s7174869446012820540x8) none (Data.func (FuncData.mk x20 x20 (fp st8).1 (FuncBody.stmts (fp st8).2.1) (fp st8).2.2 (nat_lit 3) [] Value.none Value.none Value.none (Value.str x35 (nat_lit 194)) none (vr (nat_lit 62)) Value.none (nat_lit 0))) (Array.mk []))
noncomputable def T0 (P : Params) : BT := (.node (boot_o_0 P) (.node (boot_o_1 P) (.node (o3_0 P) (.node (boot_o_7 P) (.node (boot_o_7 P) (.node o31 (.node o63 .nil .nil) .nil) (.node o47 .nil .nil)) (.node (boot_o_8 P) (.node o39 .nil .nil) (.node o55 .nil .nil))) (.node (boot_o_7 P) (.node o19 (.node o35 .nil .nil) (.node (boot_o_8 P) .nil .nil)) (.node o27 (.node (boot_o_7 P) .nil .nil) (.node o59 .nil .nil)))) (.node (boot_o_5 P) (.node (boot_o_9 P) (.node o17 (.node o33 .nil .nil) (.node o49 .nil .nil)) (.node (boot_o_7 P) (.node o41 .nil .nil) (.node (boot_o_7 P) .nil .nil))) (.node o13 (.node o21 (.node (boot_o_8 P) .nil .nil) (.node (boot_o_7 P) .nil .nil)) (.node (boot_o_7 P) (.node o45 .nil .nil) (.node o61 .nil .nil))))) (.node (boot_o_2 P) (.node (boot_o_4 P) (.node (boot_o_8 P) (.node (boot_o_8 P) (.node (boot_o_7 P) .nil .nil) (.node o48 .nil .nil)) (.node o24 (.node o40 .nil .nil) (.node o56 .nil .nil))) (.node o12_0 (.node o20 (.node (boot_o_7 P) .nil .nil) (.node o52 .nil .nil)) (.node o28 (.node (boot_o_8 P) .nil .nil) (.node (boot_o_7 P) .nil .nil)))) (.node (boot_o_6 P) (.node (boot_o_10 P) (.node (boot_o_7 P) (.node o34 .nil .nil) (.node (boot_o_7 P) .nil .nil)) (.node o26 (.node o42 .nil .nil) (.node (boot_o_8 P) .nil .nil))) (.node o14 (.node (boot_o_7 P) (.node o38 .nil .nil) (.node o54 .nil .nil)) (.node (boot_o_8 P) (.node o46 .nil .nil) (.node o62 .nil .nil))))))
-- 0: n 64 life { } gens 0 drawn { } toks 280
noncomputable def e3_1 (P : Params) : List DictEntry := [(de P x45 (nat_lit 373) (vr (nat_lit 141)))]
noncomputable def o3_1 (P : Params) : Obj := (Obj.mk (Value.type PySem.W.SL.s14018661285674007319x4) none (Data.dict (Array.mk ((de P x3 (nat_lit 165) (Value.str x4 (nat_lit 276))) :: (e3_0 P ++ (e3_1 P)))) (nat_lit 19)) (Array.mk []))
noncomputable def o12_1 : Obj := (Obj.mk Value.none none (Data.fields (Array.mk [(vi (nat_lit 1) (nat_lit 0)), (vi (nat_lit 0) (nat_lit 0)), (vr (nat_lit 20)), (vi (nat_lit 6) (nat_lit 0)), (vi (nat_lit 0) (nat_lit 0)), (vr (nat_lit 27)), (vi (nat_lit 22) (nat_lit 0)), (vi (nat_lit 0) (nat_lit 0)), (vr (nat_lit 34)), (vi (nat_lit 32) (nat_lit 0)), (vi (nat_lit 0) (nat_lit 0)), (vr (nat_lit 41)), (vi (nat_lit 48) (nat_lit 0)), (vi (nat_lit 0) (nat_lit 0)), (vr (nat_lit 48)), (vi (nat_lit 57) (nat_lit 0)), (vi (nat_lit 0) (nat_lit 0)), (vr (nat_lit 55)), (vi (nat_lit 68) (nat_lit 0)), (vi (nat_lit 0) (nat_lit 0)), (vr (nat_lit 62)), (vi (nat_lit 81) (nat_lit 0)), (vi (nat_lit 0) (nat_lit 0)), (vr (nat_lit 70))])) (Array.mk []))
noncomputable def o64 : Obj := (Obj.mk (Value.type PySem.W.SL.s2766695959194262286x5) none (Data.seq (Array.mk [(Value.type PySem.W.SL.s9222952809800978799x4)]) (nat_lit 0)) (Array.mk []))
noncomputable def o65 : Obj := (Obj.mk (Value.type PySem.W.SL.s11030030927630378310x26) none (Data.fields (Array.mk [(Value.builtin PySem.W.SL.s10062305145149207511x16), (Value.type PySem.W.SL.s17162191345867700912x4)])) (Array.mk []))
noncomputable def o66_1 (P : Params) : Obj := (Obj.mk (Value.type PySem.W.SL.s14018661285674007319x4) none (Data.dict (Array.mk [(de P x46 (nat_lit 287) (Value.str x4 (nat_lit 276))), (de P x47 (nat_lit 289) (Value.str x45 (nat_lit 288))), (de P x48 (nat_lit 291) (vi (nat_lit 81) (nat_lit 290))), (de P x49 (nat_lit 301) (vr (nat_lit 80))), (de P x50 (nat_lit 310) (vr (nat_lit 87))), (de P x51 (nat_lit 320) (vr (nat_lit 95))), (de P x52 (nat_lit 327) (vr (nat_lit 102))), (de P x53 (nat_lit 334) (vr (nat_lit 109))), (de P x54 (nat_lit 341) (vr (nat_lit 116))), (de P x55 (nat_lit 349) (vr (nat_lit 124))), (de P x56 (nat_lit 356) (vr (nat_lit 131))), (de P x57 (nat_lit 363) (vr (nat_lit 138))), (de P x58 (nat_lit 365) (vr (nat_lit 139))), (de P x59 (nat_lit 366) (vr (nat_lit 67)))]) (nat_lit 14)) (Array.mk []))
noncomputable def o67 : Obj := (Obj.mk (Value.type PySem.W.SL.s15660640913423913556x4) none (Data.cell (some (vr (nat_lit 141)))) (Array.mk []))
noncomputable def o69 : Obj := (Obj.mk Value.none none (Data.fields (Array.mk [(vi (nat_lit 83) (nat_lit 0)), (vi (nat_lit 4) (nat_lit 0)), (vr (nat_lit 79)), (vi (nat_lit 87) (nat_lit 0)), (vi (nat_lit 4) (nat_lit 0)), (vr (nat_lit 86)), (vi (nat_lit 90) (nat_lit 0)), (vi (nat_lit 4) (nat_lit 0)), (vr (nat_lit 94)), (vi (nat_lit 95) (nat_lit 0)), (vi (nat_lit 4) (nat_lit 0)), (vr (nat_lit 101)), (vi (nat_lit 98) (nat_lit 0)), (vi (nat_lit 4) (nat_lit 0)), (vr (nat_lit 108)), (vi (nat_lit 101) (nat_lit 0)), (vi (nat_lit 4) (nat_lit 0)), (vr (nat_lit 115)), (vi (nat_lit 104) (nat_lit 0)), (vi (nat_lit 4) (nat_lit 0)), (vr (nat_lit 123)), (vi (nat_lit 110) (nat_lit 0)), (vi (nat_lit 4) (nat_lit 0)), (vr (nat_lit 130)), (vi (nat_lit 113) (nat_lit 0)), (vi (nat_lit 4) (nat_lit 0)), (vr (nat_lit 137))])) (Array.mk []))
noncomputable def o70 : Obj := (Obj.mk (Value.type PySem.W.SL.s5856160107412720595x4) none (Data.fields (Array.mk [(Value.str x45 (nat_lit 282)), (Value.str x45 (nat_lit 283)), (Value.str x1 (nat_lit 284)), (vi (nat_lit 81) (nat_lit 0)), (vi (nat_lit 0) (nat_lit 0)), (vi (nat_lit 0) (nat_lit 0)), (vi (nat_lit 0) (nat_lit 0)), (vi (nat_lit 0) (nat_lit 0)), (vr (nat_lit 68)), (Value.bool Bool.false), (vi (nat_lit 181) (nat_lit 0)), (vr (nat_lit 69)), Value.none, Value.none, Value.none, Value.none, (vi (nat_lit 285) (nat_lit 0)), (vi (nat_lit 81) (nat_lit 0)), (Value.str x1 (nat_lit 286))])) (Array.mk []))
noncomputable def o71 : Obj := (Obj.mk (Value.type PySem.W.SL.s658472552662922059x5) none Data.plain (Array.mk [(some (vr (nat_lit 70))), (some (vr (nat_lit 3))), (some (vr (nat_lit 66))), none, (some (Value.str x4 (nat_lit 276))), none, (some (vr (nat_lit 0)))]))
noncomputable def o72 : Obj := (Obj.mk (Value.type PySem.W.SL.s2766695959194262286x5) none (Data.seq (Array.mk [(vi (nat_lit 0) (nat_lit 292))]) (nat_lit 0)) (Array.mk []))
noncomputable def o73 : Obj := (Obj.mk (Value.type PySem.W.SL.s2766695959194262286x5) none (Data.seq (Array.mk [(vr (nat_lit 67))]) (nat_lit 0)) (Array.mk []))
noncomputable def o74 : Obj := (Obj.mk (Value.type PySem.W.SL.s2766695959194262286x5) none (Data.seq (Array.mk [(Value.str x60 (nat_lit 296))]) (nat_lit 0)) (Array.mk []))
noncomputable def o76 : Obj := (Obj.mk (Value.type PySem.W.SL.s2766695959194262286x5) none (Data.seq (Array.mk [(Value.str x61 (nat_lit 297)), (Value.str x62 (nat_lit 298))]) (nat_lit 0)) (Array.mk []))
noncomputable def o78 : Obj := (Obj.mk Value.none none (Data.func (FuncData.mk x49 x63 (fp ((cb st11).getD 0 default)).1 (FuncBody.stmts (fp ((cb st11).getD 0 default)).2.1) (fp ((cb st11).getD 0 default)).2.2 (nat_lit 0) [] Value.none Value.none Value.none Value.none none Value.none Value.none (nat_lit 0))) (Array.mk []))
noncomputable def o79 : Obj := (Obj.mk (Value.type PySem.W.SL.s5856160107412720595x4) none (Data.fields (Array.mk [(Value.str x49 (nat_lit 293)), (Value.str x63 (nat_lit 294)), (Value.str x1 (nat_lit 295)), (vi (nat_lit 83) (nat_lit 0)), (vi (nat_lit 2) (nat_lit 0)), (vi (nat_lit 0) (nat_lit 0)), (vi (nat_lit 0) (nat_lit 0)), (vi (nat_lit 3) (nat_lit 0)), (vr (nat_lit 74)), (Value.bool Bool.true), (vi (nat_lit 181) (nat_lit 0)), (vr (nat_lit 75)), Value.none, (vr (nat_lit 76)), (vr (nat_lit 77)), (vr (nat_lit 78)), (vi (nat_lit 299) (nat_lit 0)), (vi (nat_lit 83) (nat_lit 0)), (Value.str x1 (nat_lit 300))])) (Array.mk []))
noncomputable def o80 : Obj := (Obj.mk (Value.type PySem.W.SL.s7174869446012820540x8) none (Data.func (FuncData.mk x49 x63 (fp ((cb st11).getD 0 default)).1 (FuncBody.stmts (fp ((cb st11).getD 0 default)).2.1) (fp ((cb st11).getD 0 default)).2.2 (nat_lit 3) [(x60, (nat_lit 67))] (vr (nat_lit 72)) Value.none Value.none (Value.str x4 (nat_lit 276)) none (vr (nat_lit 79)) (vr (nat_lit 73)) (nat_lit 0))) (Array.mk []))
noncomputable def o83 : Obj := (Obj.mk (Value.type PySem.W.SL.s2766695959194262286x5) none (Data.seq (Array.mk [(Value.str x61 (nat_lit 305)), (Value.str x64 (nat_lit 306)), (Value.str x65 (nat_lit 307))]) (nat_lit 0)) (Array.mk []))
noncomputable def o85 : Obj := (Obj.mk Value.none none (Data.func (FuncData.mk x50 x66 (fp ((cb st11).getD 1 default)).1 (FuncBody.stmts (fp ((cb st11).getD 1 default)).2.1) (fp ((cb st11).getD 1 default)).2.2 (nat_lit 0) [] Value.none Value.none Value.none Value.none none Value.none Value.none (nat_lit 0))) (Array.mk []))
noncomputable def o86 : Obj := (Obj.mk (Value.type PySem.W.SL.s5856160107412720595x4) none (Data.fields (Array.mk [(Value.str x50 (nat_lit 302)), (Value.str x66 (nat_lit 303)), (Value.str x1 (nat_lit 304)), (vi (nat_lit 87) (nat_lit 0)), (vi (nat_lit 3) (nat_lit 0)), (vi (nat_lit 0) (nat_lit 0)), (vi (nat_lit 0) (nat_lit 0)), (vi (nat_lit 3) (nat_lit 0)), (vr (nat_lit 81)), (Value.bool Bool.true), (vi (nat_lit 181) (nat_lit 0)), (vr (nat_lit 82)), Value.none, (vr (nat_lit 83)), (vr (nat_lit 84)), (vr (nat_lit 85)), (vi (nat_lit 308) (nat_lit 0)), (vi (nat_lit 87) (nat_lit 0)), (Value.str x1 (nat_lit 309))])) (Array.mk []))
noncomputable def o87 : Obj := (Obj.mk (Value.type PySem.W.SL.s7174869446012820540x8) none (Data.func (FuncData.mk x50 x66 (fp ((cb st11).getD 1 default)).1 (FuncBody.stmts (fp ((cb st11).getD 1 default)).2.1) (fp ((cb st11).getD 1 default)).2.2 (nat_lit 3) [] Value.none Value.none Value.none (Value.str x4 (nat_lit 276)) none (vr (nat_lit 86)) Value.none (nat_lit 0))) (Array.mk []))
noncomputable def o88 : Obj := (Obj.mk (Value.type PySem.W.SL.s2766695959194262286x5) none (Data.seq (Array.mk [(vi (nat_lit 0) (nat_lit 311))]) (nat_lit 0)) (Array.mk []))
noncomputable def o91 : Obj := (Obj.mk (Value.type PySem.W.SL.s2766695959194262286x5) none (Data.seq (Array.mk [(Value.str x61 (nat_lit 315)), (Value.str x67 (nat_lit 316)), (Value.str x68 (nat_lit 317))]) (nat_lit 0)) (Array.mk []))
noncomputable def o93 : Obj := (Obj.mk Value.none none (Data.func (FuncData.mk x51 x69 (fp ((cb st11).getD 2 default)).1 (FuncBody.stmts (fp ((cb st11).getD 2 default)).2.1) (fp ((cb st11).getD 2 default)).2.2 (nat_lit 0) [] Value.none Value.none Value.none Value.none none Value.none Value.none (nat_lit 0))) (Array.mk []))
noncomputable def o94 : Obj := (Obj.mk (Value.type PySem.W.SL.s5856160107412720595x4) none (Data.fields (Array.mk [(Value.str x51 (nat_lit 312)), (Value.str x69 (nat_lit 313)), (Value.str x1 (nat_lit 314)), (vi (nat_lit 90) (nat_lit 0)), (vi (nat_lit 2) (nat_lit 0)), (vi (nat_lit 0) (nat_lit 0)), (vi (nat_lit 0) (nat_lit 0)), (vi (nat_lit 3) (nat_lit 0)), (vr (nat_lit 89)), (Value.bool Bool.true), (vi (nat_lit 181) (nat_lit 0)), (vr (nat_lit 90)), Value.none, (vr (nat_lit 91)), (vr (nat_lit 92)), (vr (nat_lit 93)), (vi (nat_lit 318) (nat_lit 0)), (vi (nat_lit 90) (nat_lit 0)), (Value.str x1 (nat_lit 319))])) (Array.mk []))
noncomputable def o95 : Obj := (Obj.mk (Value.type PySem.W.SL.s7174869446012820540x8) none (Data.func (FuncData.mk x51 x69 (fp ((cb st11).getD 2 default)).1 (FuncBody.stmts (fp ((cb st11).getD 2 default)).2.1) (fp ((cb st11).getD 2 default)).2.2 (nat_lit 3) [] (vr (nat_lit 88)) Value.none Value.none (Value.str x4 (nat_lit 276)) none (vr (nat_lit 94)) Value.none (nat_lit 0))) (Array.mk []))
noncomputable def o98 : Obj := (Obj.mk (Value.type PySem.W.SL.s2766695959194262286x5) none (Data.seq (Array.mk [(Value.str x61 (nat_lit 324))]) (nat_lit 0)) (Array.mk []))
noncomputable def o100 : Obj := (Obj.mk Value.none none (Data.func (FuncData.mk x52 x70 (fp ((cb st11).getD 3 default)).1 (FuncBody.stmts (fp ((cb st11).getD 3 default)).2.1) (fp ((cb st11).getD 3 default)).2.2 (nat_lit 0) [] Value.none Value.none Value.none Value.none none Value.none Value.none (nat_lit 0))) (Array.mk []))
noncomputable def o101 : Obj := (Obj.mk (Value.type PySem.W.SL.s5856160107412720595x4) none (Data.fields (Array.mk [(Value.str x52 (nat_lit 321)), (Value.str x70 (nat_lit 322)), (Value.str x1 (nat_lit 323)), (vi (nat_lit 95) (nat_lit 0)), (vi (nat_lit 1) (nat_lit 0)), (vi (nat_lit 0) (nat_lit 0)), (vi (nat_lit 0) (nat_lit 0)), (vi (nat_lit 3) (nat_lit 0)), (vr (nat_lit 96)), (Value.bool Bool.true), (vi (nat_lit 181) (nat_lit 0)), (vr (nat_lit 97)), Value.none, (vr (nat_lit 98)), (vr (nat_lit 99)), (vr (nat_lit 100)), (vi (nat_lit 325) (nat_lit 0)), (vi (nat_lit 95) (nat_lit 0)), (Value.str x1 (nat_lit 326))])) (Array.mk []))
noncomputable def o102 : Obj := (Obj.mk (Value.type PySem.W.SL.s7174869446012820540x8) none (Data.func (FuncData.mk x52 x70 (fp ((cb st11).getD 3 default)).1 (FuncBody.stmts (fp ((cb st11).getD 3 default)).2.1) (fp ((cb st11).getD 3 default)).2.2 (nat_lit 3) [] Value.none Value.none Value.none (Value.str x4 (nat_lit 276)) none (vr (nat_lit 101)) Value.none (nat_lit 0))) (Array.mk []))
noncomputable def o105 : Obj := (Obj.mk (Value.type PySem.W.SL.s2766695959194262286x5) none (Data.seq (Array.mk [(Value.str x61 (nat_lit 331))]) (nat_lit 0)) (Array.mk []))
noncomputable def o107 : Obj := (Obj.mk Value.none none (Data.func (FuncData.mk x53 x71 (fp ((cb st11).getD 4 default)).1 (FuncBody.stmts (fp ((cb st11).getD 4 default)).2.1) (fp ((cb st11).getD 4 default)).2.2 (nat_lit 0) [] Value.none Value.none Value.none Value.none none Value.none Value.none (nat_lit 0))) (Array.mk []))
noncomputable def o108 : Obj := (Obj.mk (Value.type PySem.W.SL.s5856160107412720595x4) none (Data.fields (Array.mk [(Value.str x53 (nat_lit 328)), (Value.str x71 (nat_lit 329)), (Value.str x1 (nat_lit 330)), (vi (nat_lit 98) (nat_lit 0)), (vi (nat_lit 1) (nat_lit 0)), (vi (nat_lit 0) (nat_lit 0)), (vi (nat_lit 0) (nat_lit 0)), (vi (nat_lit 3) (nat_lit 0)), (vr (nat_lit 103)), (Value.bool Bool.true), (vi (nat_lit 181) (nat_lit 0)), (vr (nat_lit 104)), Value.none, (vr (nat_lit 105)), (vr (nat_lit 106)), (vr (nat_lit 107)), (vi (nat_lit 332) (nat_lit 0)), (vi (nat_lit 98) (nat_lit 0)), (Value.str x1 (nat_lit 333))])) (Array.mk []))
noncomputable def o109 : Obj := (Obj.mk (Value.type PySem.W.SL.s7174869446012820540x8) none (Data.func (FuncData.mk x53 x71 (fp ((cb st11).getD 4 default)).1 (FuncBody.stmts (fp ((cb st11).getD 4 default)).2.1) (fp ((cb st11).getD 4 default)).2.2 (nat_lit 3) [] Value.none Value.none Value.none (Value.str x4 (nat_lit 276)) none (vr (nat_lit 108)) Value.none (nat_lit 0))) (Array.mk []))
noncomputable def o112 : Obj := (Obj.mk (Value.type PySem.W.SL.s2766695959194262286x5) none (Data.seq (Array.mk [(Value.str x61 (nat_lit 338))]) (nat_lit 0)) (Array.mk []))
noncomputable def o114 : Obj := (Obj.mk Value.none none (Data.func (FuncData.mk x54 x72 (fp ((cb st11).getD 5 default)).1 (FuncBody.stmts (fp ((cb st11).getD 5 default)).2.1) (fp ((cb st11).getD 5 default)).2.2 (nat_lit 0) [] Value.none Value.none Value.none Value.none none Value.none Value.none (nat_lit 0))) (Array.mk []))
noncomputable def o115 : Obj := (Obj.mk (Value.type PySem.W.SL.s5856160107412720595x4) none (Data.fields (Array.mk [(Value.str x54 (nat_lit 335)), (Value.str x72 (nat_lit 336)), (Value.str x1 (nat_lit 337)), (vi (nat_lit 101) (nat_lit 0)), (vi (nat_lit 1) (nat_lit 0)), (vi (nat_lit 0) (nat_lit 0)), (vi (nat_lit 0) (nat_lit 0)), (vi (nat_lit 3) (nat_lit 0)), (vr (nat_lit 110)), (Value.bool Bool.true), (vi (nat_lit 181) (nat_lit 0)), (vr (nat_lit 111)), Value.none, (vr (nat_lit 112)), (vr (nat_lit 113)), (vr (nat_lit 114)), (vi (nat_lit 339) (nat_lit 0)), (vi (nat_lit 101) (nat_lit 0)), (Value.str x1 (nat_lit 340))])) (Array.mk []))
noncomputable def o116 : Obj := (Obj.mk (Value.type PySem.W.SL.s7174869446012820540x8) none (Data.func (FuncData.mk x54 x72 (fp ((cb st11).getD 5 default)).1 (FuncBody.stmts (fp ((cb st11).getD 5 default)).2.1) (fp ((cb st11).getD 5 default)).2.2 (nat_lit 3) [] Value.none Value.none Value.none (Value.str x4 (nat_lit 276)) none (vr (nat_lit 115)) Value.none (nat_lit 0))) (Array.mk []))
noncomputable def o117 : Obj := (Obj.mk (Value.type PySem.W.SL.s2766695959194262286x5) none (Data.seq (Array.mk [Value.none]) (nat_lit 0)) (Array.mk []))
noncomputable def o120 : Obj := (Obj.mk (Value.type PySem.W.SL.s2766695959194262286x5) none (Data.seq (Array.mk [(Value.str x61 (nat_lit 345)), (Value.str x73 (nat_lit 346))]) (nat_lit 0)) (Array.mk []))
noncomputable def o122 : Obj := (Obj.mk Value.none none (Data.func (FuncData.mk x55 x74 (fp ((cb st11).getD 6 default)).1 (FuncBody.stmts (fp ((cb st11).getD 6 default)).2.1) (fp ((cb st11).getD 6 default)).2.2 (nat_lit 0) [] Value.none Value.none Value.none Value.none none Value.none Value.none (nat_lit 0))) (Array.mk []))
noncomputable def o123 : Obj := (Obj.mk (Value.type PySem.W.SL.s5856160107412720595x4) none (Data.fields (Array.mk [(Value.str x55 (nat_lit 342)), (Value.str x74 (nat_lit 343)), (Value.str x1 (nat_lit 344)), (vi (nat_lit 104) (nat_lit 0)), (vi (nat_lit 2) (nat_lit 0)), (vi (nat_lit 0) (nat_lit 0)), (vi (nat_lit 0) (nat_lit 0)), (vi (nat_lit 3) (nat_lit 0)), (vr (nat_lit 118)), (Value.bool Bool.true), (vi (nat_lit 181) (nat_lit 0)), (vr (nat_lit 119)), Value.none, (vr (nat_lit 120)), (vr (nat_lit 121)), (vr (nat_lit 122)), (vi (nat_lit 347) (nat_lit 0)), (vi (nat_lit 104) (nat_lit 0)), (Value.str x1 (nat_lit 348))])) (Array.mk []))
noncomputable def o124 : Obj := (Obj.mk (Value.type PySem.W.SL.s7174869446012820540x8) none (Data.func (FuncData.mk x55 x74 (fp ((cb st11).getD 6 default)).1 (FuncBody.stmts (fp ((cb st11).getD 6 default)).2.1) (fp ((cb st11).getD 6 default)).2.2 (nat_lit 3) [] (vr (nat_lit 117)) Value.none Value.none (Value.str x4 (nat_lit 276)) none (vr (nat_lit 123)) Value.none (nat_lit 0))) (Array.mk []))
noncomputable def o127 : Obj := (Obj.mk (Value.type PySem.W.SL.s2766695959194262286x5) none (Data.seq (Array.mk [(Value.str x61 (nat_lit 353))]) (nat_lit 0)) (Array.mk []))
noncomputable def o129 : Obj := (Obj.mk Value.none none (Data.func (FuncData.mk x56 x75 (fp ((cb st11).getD 7 default)).1 (FuncBody.stmts (fp ((cb st11).getD 7 default)).2.1) (fp ((cb st11).getD 7 default)).2.2 (nat_lit 0) [] Value.none Value.none Value.none Value.none none Value.none Value.none (nat_lit 0))) (Array.mk []))
noncomputable def o130 : Obj := (Obj.mk (Value.type PySem.W.SL.s5856160107412720595x4) none (Data.fields (Array.mk [(Value.str x56 (nat_lit 350)), (Value.str x75 (nat_lit 351)), (Value.str x1 (nat_lit 352)), (vi (nat_lit 110) (nat_lit 0)), (vi (nat_lit 1) (nat_lit 0)), (vi (nat_lit 0) (nat_lit 0)), (vi (nat_lit 0) (nat_lit 0)), (vi (nat_lit 3) (nat_lit 0)), (vr (nat_lit 125)), (Value.bool Bool.true), (vi (nat_lit 181) (nat_lit 0)), (vr (nat_lit 126)), Value.none, (vr (nat_lit 127)), (vr (nat_lit 128)), (vr (nat_lit 129)), (vi (nat_lit 354) (nat_lit 0)), (vi (nat_lit 110) (nat_lit 0)), (Value.str x1 (nat_lit 355))])) (Array.mk []))
noncomputable def o131 : Obj := (Obj.mk (Value.type PySem.W.SL.s7174869446012820540x8) none (Data.func (FuncData.mk x56 x75 (fp ((cb st11).getD 7 default)).1 (FuncBody.stmts (fp ((cb st11).getD 7 default)).2.1) (fp ((cb st11).getD 7 default)).2.2 (nat_lit 3) [] Value.none Value.none Value.none (Value.str x4 (nat_lit 276)) none (vr (nat_lit 130)) Value.none (nat_lit 0))) (Array.mk []))
noncomputable def o134 : Obj := (Obj.mk (Value.type PySem.W.SL.s2766695959194262286x5) none (Data.seq (Array.mk [(Value.str x61 (nat_lit 360))]) (nat_lit 0)) (Array.mk []))
noncomputable def o136 : Obj := (Obj.mk Value.none none (Data.func (FuncData.mk x57 x76 (fp ((cb st11).getD 8 default)).1 (FuncBody.stmts (fp ((cb st11).getD 8 default)).2.1) (fp ((cb st11).getD 8 default)).2.2 (nat_lit 0) [] Value.none Value.none Value.none Value.none none Value.none Value.none (nat_lit 0))) (Array.mk []))
noncomputable def o137 : Obj := (Obj.mk (Value.type PySem.W.SL.s5856160107412720595x4) none (Data.fields (Array.mk [(Value.str x57 (nat_lit 357)), (Value.str x76 (nat_lit 358)), (Value.str x1 (nat_lit 359)), (vi (nat_lit 113) (nat_lit 0)), (vi (nat_lit 1) (nat_lit 0)), (vi (nat_lit 0) (nat_lit 0)), (vi (nat_lit 0) (nat_lit 0)), (vi (nat_lit 3) (nat_lit 0)), (vr (nat_lit 132)), (Value.bool Bool.true), (vi (nat_lit 181) (nat_lit 0)), (vr (nat_lit 133)), Value.none, (vr (nat_lit 134)), (vr (nat_lit 135)), (vr (nat_lit 136)), (vi (nat_lit 361) (nat_lit 0)), (vi (nat_lit 113) (nat_lit 0)), (Value.str x1 (nat_lit 362))])) (Array.mk []))
noncomputable def o138 : Obj := (Obj.mk (Value.type PySem.W.SL.s7174869446012820540x8) none (Data.func (FuncData.mk x57 x76 (fp ((cb st11).getD 8 default)).1 (FuncBody.stmts (fp ((cb st11).getD 8 default)).2.1) (fp ((cb st11).getD 8 default)).2.2 (nat_lit 3) [] Value.none Value.none Value.none (Value.str x4 (nat_lit 276)) none (vr (nat_lit 137)) Value.none (nat_lit 0))) (Array.mk []))
noncomputable def o139 : Obj := (Obj.mk (Value.type PySem.W.SL.s2766695959194262286x5) none (Data.seq (Array.mk [(Value.str x77 (nat_lit 364))]) (nat_lit 0)) (Array.mk []))
noncomputable def o140 (P : Params) : Obj := (Obj.mk (Value.type PySem.W.SL.s14018661285674007319x4) none (Data.dict (Array.mk [(de P x46 (nat_lit 287) (Value.str x4 (nat_lit 276))), (de P x48 (nat_lit 291) (vi (nat_lit 81) (nat_lit 290))), (de P x49 (nat_lit 301) (vr (nat_lit 80))), (de P x50 (nat_lit 310) (vr (nat_lit 87))), (de P x51 (nat_lit 320) (vr (nat_lit 95))), (de P x52 (nat_lit 327) (vr (nat_lit 102))), (de P x53 (nat_lit 334) (vr (nat_lit 109))), (de P x54 (nat_lit 341) (vr (nat_lit 116))), (de P x55 (nat_lit 349) (vr (nat_lit 124))), (de P x56 (nat_lit 356) (vr (nat_lit 131))), (de P x57 (nat_lit 363) (vr (nat_lit 138))), (de P x58 (nat_lit 365) (vr (nat_lit 139))), (de P x78 (nat_lit 368) (vr (nat_lit 142))), (de P x79 (nat_lit 370) (vr (nat_lit 143))), (de P x5 (nat_lit 371) Value.none)]) (nat_lit 5)) (Array.mk []))
noncomputable def o141 : Obj := (Obj.mk (Value.type PySem.W.SL.s17162191345867700912x4) none (Data.cls (ClassData.mk x45 [(Value.type PySem.W.SL.s9222952809800978799x4)] [(vr (nat_lit 141)), (Value.type PySem.W.SL.s9222952809800978799x4), (Value.type PySem.W.SL.s2742458400755230247x6)] (nat_lit 140) x45 Bool.true [] [] Bool.false none Bool.false)) (Array.mk [(some (vr (nat_lit 64))), none, (some (Value.str x45 (nat_lit 280))), (some (Value.str x45 (nat_lit 288))), (some (Value.builtin PySem.W.SL.s896114127876100448x12)), (some (Value.bool Bool.true))]))
noncomputable def o142 : Obj := (Obj.mk (Value.type PySem.W.SL.s14755015743595814543x17) none (Data.fields (Array.mk [(Value.str x78 (nat_lit 367)), (vr (nat_lit 141)), (Value.builtin PySem.W.SL.s6511155373996960695x17), (Value.builtin PySem.W.SL.s12411053484034534018x21)])) (Array.mk []))
noncomputable def o143 : Obj := (Obj.mk (Value.type PySem.W.SL.s14755015743595814543x17) none (Data.fields (Array.mk [(Value.str x79 (nat_lit 369)), (vr (nat_lit 141)), (Value.builtin PySem.W.SL.s10220274742760427390x26), Value.none])) (Array.mk []))
noncomputable def o144 : Obj := (Obj.mk (Value.type PySem.W.SL.s4290257624100764138x5) none (Data.fields (Array.mk [(vr (nat_lit 141)), (vr (nat_lit 141)), (vr (nat_lit 141))])) (Array.mk []))
noncomputable def o145 : Obj := (Obj.mk (Value.type PySem.W.SL.s11030030927630378310x26) none (Data.fields (Array.mk [(Value.builtin PySem.W.SL.s4860613602091757760x24), (vr (nat_lit 141))])) (Array.mk []))
noncomputable def T1 (P : Params) : BT := (.node (boot_o_0 P) (.node (boot_o_1 P) (.node (o3_1 P) (.node (boot_o_7 P) (.node (boot_o_7 P) (.node o31 (.node o63 (.node o127 .nil .nil) .nil) (.node o95 .nil .nil)) (.node o47 (.node o79 (.node o143 .nil .nil) .nil) (.node (boot_o_8 P) .nil .nil))) (.node (boot_o_8 P) (.node o39 (.node o71 (.node (boot_o_7 P) .nil .nil) .nil) (.node (boot_o_7 P) .nil .nil)) (.node o55 (.node o87 .nil .nil) (.node (boot_o_8 P) .nil .nil)))) (.node (boot_o_7 P) (.node o19 (.node o35 (.node o67 (.node o131 .nil .nil) .nil) (.node (boot_o_7 P) .nil .nil)) (.node (boot_o_8 P) (.node o83 .nil .nil) (.node o115 .nil .nil))) (.node o27 (.node (boot_o_7 P) (.node (boot_o_8 P) (.node o139 .nil .nil) .nil) (.node o107 .nil .nil)) (.node o59 (.node o91 .nil .nil) (.node o123 .nil .nil))))) (.node (boot_o_5 P) (.node (boot_o_9 P) (.node o17 (.node o33 (.node o65 (.node o129 .nil .nil) .nil) (.node (boot_o_8 P) .nil .nil)) (.node o49 (.node (boot_o_7 P) (.node o145 .nil .nil) .nil) (.node (boot_o_7 P) .nil .nil))) (.node (boot_o_7 P) (.node o41 (.node o73 (.node o137 .nil .nil) .nil) (.node o105 .nil .nil)) (.node (boot_o_7 P) (.node (boot_o_7 P) .nil .nil) (.node (boot_o_7 P) .nil .nil)))) (.node o13 (.node o21 (.node (boot_o_8 P) (.node o69 (.node (boot_o_8 P) .nil .nil) .nil) (.node o101 .nil .nil)) (.node (boot_o_7 P) (.node o85 .nil .nil) (.node o117 .nil .nil))) (.node (boot_o_7 P) (.node o45 (.node (boot_o_7 P) (.node o141 .nil .nil) .nil) (.node o109 .nil .nil)) (.node o61 (.node o93 .nil .nil) (.node (boot_o_7 P) .nil .nil)))))) (.node (boot_o_2 P) (.node (boot_o_4 P) (.node (boot_o_8 P) (.node (boot_o_8 P) (.node (boot_o_7 P) (.node o64 (.node (boot_o_7 P) .nil .nil) .nil) (.node (boot_o_7 P) .nil .nil)) (.node o48 (.node o80 (.node o144 .nil .nil) .nil) (.node o112 .nil .nil))) (.node o24 (.node o40 (.node o72 (.node o136 .nil .nil) .nil) (.node (boot_o_8 P) .nil .nil)) (.node o56 (.node o88 .nil .nil) (.node o120 .nil .nil)))) (.node o12_1 (.node o20 (.node (boot_o_7 P) (.node (boot_o_7 P) (.node (boot_o_7 P) .nil .nil) .nil) (.node o100 .nil .nil)) (.node o52 (.node (boot_o_7 P) .nil .nil) (.node o116 .nil .nil))) (.node o28 (.node (boot_o_8 P) (.node o76 (.node (o140 P) .nil .nil) .nil) (.node o108 .nil .nil)) (.node (boot_o_7 P) (.node (boot_o_7 P) .nil .nil) (.node o124 .nil .nil))))) (.node (boot_o_6 P) (.node (boot_o_10 P) (.node (boot_o_7 P) (.node o34 (.node (o66_1 P) (.node o130 .nil .nil) .nil) (.node o98 .nil .nil)) (.node (boot_o_7 P) (.node (boot_o_8 P) .nil .nil) (.node o114 .nil .nil))) (.node o26 (.node o42 (.node o74 (.node o138 .nil .nil) .nil) (.node (boot_o_7 P) .nil .nil)) (.node (boot_o_8 P) (.node (boot_o_8 P) .nil .nil) (.node o122 .nil .nil)))) (.node o14 (.node (boot_o_7 P) (.node o38 (.node o70 (.node o134 .nil .nil) .nil) (.node o102 .nil .nil)) (.node o54 (.node o86 .nil .nil) (.node (boot_o_7 P) .nil .nil))) (.node (boot_o_8 P) (.node o46 (.node o78 (.node o142 .nil .nil) .nil) (.node (boot_o_7 P) .nil .nil)) (.node o62 (.node o94 .nil .nil) (.node (boot_o_8 P) .nil .nil)))))))
-- 1: n 146 life { } gens 0 drawn { } toks 374
noncomputable def e3_2 (P : Params) : List DictEntry := [(de P x81 (nat_lit 377) (vi (nat_lit 0) (nat_lit 376))), (de P x82 (nat_lit 379) (vi (nat_lit 7) (nat_lit 378))), (de P x83 (nat_lit 381) (vi (nat_lit 8) (nat_lit 380))), (de P x84 (nat_lit 383) (vi (nat_lit 9) (nat_lit 382))), (de P x85 (nat_lit 385) (vi (nat_lit 10) (nat_lit 384))), (de P x86 (nat_lit 387) (vi (nat_lit 11) (nat_lit 386))), (de P x87 (nat_lit 389) (vi (nat_lit 12) (nat_lit 388))), (de P x88 (nat_lit 391) (vi (nat_lit 13) (nat_lit 390))), (de P x89 (nat_lit 393) (vi (nat_lit 14) (nat_lit 392))), (de P x90 (nat_lit 395) (vi (nat_lit 15) (nat_lit 394))), (de P x91 (nat_lit 397) (vi (nat_lit 16) (nat_lit 396))), (de P x92 (nat_lit 399) (vi (nat_lit 17) (nat_lit 398))), (de P x93 (nat_lit 401) (vi (nat_lit 18) (nat_lit 400))), (de P x94 (nat_lit 403) (vi (nat_lit 19) (nat_lit 402))), (de P x95 (nat_lit 405) (vi (nat_lit 20) (nat_lit 404))), (de P x96 (nat_lit 407) (vi (nat_lit 21) (nat_lit 406))), (de P x97 (nat_lit 409) (vi (nat_lit 22) (nat_lit 408))), (de P x98 (nat_lit 411) (vi (nat_lit 23) (nat_lit 410))), (de P x99 (nat_lit 413) (vi (nat_lit 24) (nat_lit 412))), (de P x100 (nat_lit 415) (vi (nat_lit 25) (nat_lit 414))), (de P x101 (nat_lit 417) (vi (nat_lit 26) (nat_lit 416))), (de P x102 (nat_lit 419) (vi (nat_lit 27) (nat_lit 418))), (de P x103 (nat_lit 421) (vi (nat_lit 28) (nat_lit 420))), (de P x104 (nat_lit 423) (vi (nat_lit 29) (nat_lit 422))), (de P x105 (nat_lit 425) (vi (nat_lit 30) (nat_lit 424))), (de P x106 (nat_lit 427) (vi (nat_lit 31) (nat_lit 426))), (de P x107 (nat_lit 429) (vi (nat_lit 32) (nat_lit 428))), (de P x108 (nat_lit 431) (vi (nat_lit 33) (nat_lit 430))), (de P x109 (nat_lit 433) (vi (nat_lit 34) (nat_lit 432))), (de P x110 (nat_lit 435) (vi (nat_lit 35) (nat_lit 434))), (de P x111 (nat_lit 437) (vi (nat_lit 36) (nat_lit 436))), (de P x112 (nat_lit 439) (vi (nat_lit 37) (nat_lit 438))), (de P x113 (nat_lit 441) (vi (nat_lit 38) (nat_lit 440))), (de P x114 (nat_lit 443) (vi (nat_lit 39) (nat_lit 442))), (de P x115 (nat_lit 445) (vi (nat_lit 40) (nat_lit 444))), (de P x116 (nat_lit 447) (vi (nat_lit 41) (nat_lit 446))), (de P x117 (nat_lit 449) (vi (nat_lit 42) (nat_lit 448))), (de P x118 (nat_lit 451) (vi (nat_lit 43) (nat_lit 450))), (de P x119 (nat_lit 453) (vi (nat_lit 44) (nat_lit 452))), (de P x120 (nat_lit 455) (vi (nat_lit 45) (nat_lit 454))), (de P x121 (nat_lit 457) (vi (nat_lit 46) (nat_lit 456))), (de P x122 (nat_lit 459) (vi (nat_lit 47) (nat_lit 458))), (de P x123 (nat_lit 461) (vi (nat_lit 48) (nat_lit 460))), (de P x124 (nat_lit 463) (vi (nat_lit 49) (nat_lit 462))), (de P x125 (nat_lit 465) (vi (nat_lit 50) (nat_lit 464))), (de P x126 (nat_lit 467) (vi (nat_lit 51) (nat_lit 466))), (de P x127 (nat_lit 469) (vi (nat_lit 52) (nat_lit 468))), (de P x128 (nat_lit 471) (vi (nat_lit 53) (nat_lit 470))), (de P x129 (nat_lit 473) (vi (nat_lit 54) (nat_lit 472)))]
noncomputable def o3_2 (P : Params) : Obj := (Obj.mk (Value.type PySem.W.SL.s14018661285674007319x4) none (Data.dict (Array.mk ((de P x3 (nat_lit 165) (Value.str x80 (nat_lit 374))) :: (e3_0 P ++ (e3_1 P ++ (e3_2 P))))) (nat_lit 68)) (Array.mk []))
noncomputable def T2 (P : Params) : BT := (.node (boot_o_0 P) (.node (boot_o_1 P) (.node (o3_2 P) (.node (boot_o_7 P) (.node (boot_o_7 P) (.node o31 (.node o63 (.node o127 .nil .nil) .nil) (.node o95 .nil .nil)) (.node o47 (.node o79 (.node o143 .nil .nil) .nil) (.node (boot_o_8 P) .nil .nil))) (.node (boot_o_8 P) (.node o39 (.node o71 (.node (boot_o_7 P) .nil .nil) .nil) (.node (boot_o_7 P) .nil .nil)) (.node o55 (.node o87 .nil .nil) (.node (boot_o_8 P) .nil .nil)))) (.node (boot_o_7 P) (.node o19 (.node o35 (.node o67 (.node o131 .nil .nil) .nil) (.node (boot_o_7 P) .nil .nil)) (.node (boot_o_8 P) (.node o83 .nil .nil) (.node o115 .nil .nil))) (.node o27 (.node (boot_o_7 P) (.node (boot_o_8 P) (.node o139 .nil .nil) .nil) (.node o107 .nil .nil)) (.node o59 (.node o91 .nil .nil) (.node o123 .nil .nil))))) (.node (boot_o_5 P) (.node (boot_o_9 P) (.node o17 (.node o33 (.node o65 (.node o129 .nil .nil) .nil) (.node (boot_o_8 P) .nil .nil)) (.node o49 (.node (boot_o_7 P) (.node o145 .nil .nil) .nil) (.node (boot_o_7 P) .nil .nil))) (.node (boot_o_7 P) (.node o41 (.node o73 (.node o137 .nil .nil) .nil) (.node o105 .nil .nil)) (.node (boot_o_7 P) (.node (boot_o_7 P) .nil .nil) (.node (boot_o_7 P) .nil .nil)))) (.node o13 (.node o21 (.node (boot_o_8 P) (.node o69 (.node (boot_o_8 P) .nil .nil) .nil) (.node o101 .nil .nil)) (.node (boot_o_7 P) (.node o85 .nil .nil) (.node o117 .nil .nil))) (.node (boot_o_7 P) (.node o45 (.node (boot_o_7 P) (.node o141 .nil .nil) .nil) (.node o109 .nil .nil)) (.node o61 (.node o93 .nil .nil) (.node (boot_o_7 P) .nil .nil)))))) (.node (boot_o_2 P) (.node (boot_o_4 P) (.node (boot_o_8 P) (.node (boot_o_8 P) (.node (boot_o_7 P) (.node o64 (.node (boot_o_7 P) .nil .nil) .nil) (.node (boot_o_7 P) .nil .nil)) (.node o48 (.node o80 (.node o144 .nil .nil) .nil) (.node o112 .nil .nil))) (.node o24 (.node o40 (.node o72 (.node o136 .nil .nil) .nil) (.node (boot_o_8 P) .nil .nil)) (.node o56 (.node o88 .nil .nil) (.node o120 .nil .nil)))) (.node o12_1 (.node o20 (.node (boot_o_7 P) (.node (boot_o_7 P) (.node (boot_o_7 P) .nil .nil) .nil) (.node o100 .nil .nil)) (.node o52 (.node (boot_o_7 P) .nil .nil) (.node o116 .nil .nil))) (.node o28 (.node (boot_o_8 P) (.node o76 (.node (o140 P) .nil .nil) .nil) (.node o108 .nil .nil)) (.node (boot_o_7 P) (.node (boot_o_7 P) .nil .nil) (.node o124 .nil .nil))))) (.node (boot_o_6 P) (.node (boot_o_10 P) (.node (boot_o_7 P) (.node o34 (.node (o66_1 P) (.node o130 .nil .nil) .nil) (.node o98 .nil .nil)) (.node (boot_o_7 P) (.node (boot_o_8 P) .nil .nil) (.node o114 .nil .nil))) (.node o26 (.node o42 (.node o74 (.node o138 .nil .nil) .nil) (.node (boot_o_7 P) .nil .nil)) (.node (boot_o_8 P) (.node (boot_o_8 P) .nil .nil) (.node o122 .nil .nil)))) (.node o14 (.node (boot_o_7 P) (.node o38 (.node o70 (.node o134 .nil .nil) .nil) (.node o102 .nil .nil)) (.node o54 (.node o86 .nil .nil) (.node (boot_o_7 P) .nil .nil))) (.node (boot_o_8 P) (.node o46 (.node o78 (.node o142 .nil .nil) .nil) (.node (boot_o_7 P) .nil .nil)) (.node o62 (.node o94 .nil .nil) (.node (boot_o_8 P) .nil .nil)))))))
-- 2: n 146 life { } gens 0 drawn { } toks 474
noncomputable def e3_3 (P : Params) : List DictEntry := [(de P x130 (nat_lit 570) (vr (nat_lit 146)))]
noncomputable def o3_3 (P : Params) : Obj := (Obj.mk (Value.type PySem.W.SL.s14018661285674007319x4) none (Data.dict (Array.mk ((de P x3 (nat_lit 165) (Value.str x80 (nat_lit 374))) :: (e3_0 P ++ (e3_1 P ++ (e3_2 P ++ (e3_3 P)))))) (nat_lit 69)) (Array.mk []))
noncomputable def o146 (P : Params) : Obj := (Obj.mk (Value.type PySem.W.SL.s14018661285674007319x4) none (Data.dict (Array.mk [(de P x131 (nat_lit 474) (vi (nat_lit 54) (nat_lit 472))), (de P x132 (nat_lit 476) (vi (nat_lit 28) (nat_lit 420))), (de P x133 (nat_lit 478) (vi (nat_lit 24) (nat_lit 412))), (de P x134 (nat_lit 480) (vi (nat_lit 40) (nat_lit 444))), (de P x135 (nat_lit 482) (vi (nat_lit 19) (nat_lit 402))), (de P x136 (nat_lit 484) (vi (nat_lit 41) (nat_lit 446))), (de P x137 (nat_lit 486) (vi (nat_lit 7) (nat_lit 378))), (de P x138 (nat_lit 488) (vi (nat_lit 8) (nat_lit 380))), (de P x139 (nat_lit 490) (vi (nat_lit 16) (nat_lit 396))), (de P x140 (nat_lit 492) (vi (nat_lit 35) (nat_lit 434))), (de P x141 (nat_lit 494) (vi (nat_lit 46) (nat_lit 456))), (de P x142 (nat_lit 496) (vi (nat_lit 38) (nat_lit 440))), (de P x143 (nat_lit 498) (vi (nat_lit 14) (nat_lit 392))), (de P x144 (nat_lit 500) (vi (nat_lit 36) (nat_lit 436))), (de P x145 (nat_lit 502) (vi (nat_lit 12) (nat_lit 388))), (de P x146 (nat_lit 504) (vi (nat_lit 15) (nat_lit 394))), (de P x147 (nat_lit 506) (vi (nat_lit 37) (nat_lit 438))), (de P x148 (nat_lit 508) (vi (nat_lit 51) (nat_lit 466))), (de P x149 (nat_lit 510) (vi (nat_lit 23) (nat_lit 410))), (de P x150 (nat_lit 512) (vi (nat_lit 52) (nat_lit 468))), (de P x151 (nat_lit 514) (vi (nat_lit 17) (nat_lit 398))), (de P x152 (nat_lit 516) (vi (nat_lit 47) (nat_lit 458))), (de P x153 (nat_lit 518) (vi (nat_lit 48) (nat_lit 460))), (de P x154 (nat_lit 520) (vi (nat_lit 39) (nat_lit 442))), (de P x155 (nat_lit 522) (vi (nat_lit 11) (nat_lit 386))), (de P x156 (nat_lit 524) (vi (nat_lit 53) (nat_lit 470))), (de P x157 (nat_lit 526) (vi (nat_lit 13) (nat_lit 390))), (de P x158 (nat_lit 528) (vi (nat_lit 20) (nat_lit 404))), (de P x159 (nat_lit 530) (vi (nat_lit 33) (nat_lit 430))), (de P x160 (nat_lit 532) (vi (nat_lit 44) (nat_lit 452))), (de P x161 (nat_lit 534) (vi (nat_lit 29) (nat_lit 422))), (de P x162 (nat_lit 536) (vi (nat_lit 22) (nat_lit 408))), (de P x163 (nat_lit 538) (vi (nat_lit 27) (nat_lit 418))), (de P x164 (nat_lit 540) (vi (nat_lit 21) (nat_lit 406))), (de P x165 (nat_lit 542) (vi (nat_lit 30) (nat_lit 424))), (de P x166 (nat_lit 543) (vi (nat_lit 34) (nat_lit 432))), (de P x167 (nat_lit 544) (vi (nat_lit 45) (nat_lit 454))), (de P x168 (nat_lit 545) (vi (nat_lit 49) (nat_lit 462))), (de P x169 (nat_lit 546) (vi (nat_lit 50) (nat_lit 464))), (de P x170 (nat_lit 547) (vi (nat_lit 9) (nat_lit 382))), (de P x171 (nat_lit 548) (vi (nat_lit 10) (nat_lit 384))), (de P x172 (nat_lit 549) (vi (nat_lit 32) (nat_lit 428))), (de P x173 (nat_lit 550) (vi (nat_lit 43) (nat_lit 450))), (de P x174 (nat_lit 551) (vi (nat_lit 25) (nat_lit 414))), (de P x175 (nat_lit 552) (vi (nat_lit 18) (nat_lit 400))), (de P x176 (nat_lit 553) (vi (nat_lit 42) (nat_lit 448))), (de P x177 (nat_lit 554) (vi (nat_lit 26) (nat_lit 416))), (de P x178 (nat_lit 555) (vi (nat_lit 31) (nat_lit 426)))]) (nat_lit 48)) (Array.mk []))
noncomputable def o147 (P : Params) : Obj := (Obj.mk (Value.type PySem.W.SL.s14018661285674007319x4) none (Data.dict (Array.mk [(de P x148 (nat_lit 508) (vi (nat_lit 51) (nat_lit 466))), (de P x149 (nat_lit 510) (vi (nat_lit 23) (nat_lit 410))), (de P x150 (nat_lit 512) (vi (nat_lit 52) (nat_lit 468))), (de P x151 (nat_lit 514) (vi (nat_lit 17) (nat_lit 398))), (de P x152 (nat_lit 516) (vi (nat_lit 47) (nat_lit 458))), (de P x153 (nat_lit 518) (vi (nat_lit 48) (nat_lit 460))), (de P x154 (nat_lit 520) (vi (nat_lit 39) (nat_lit 442))), (de P x155 (nat_lit 522) (vi (nat_lit 11) (nat_lit 386))), (de P x156 (nat_lit 524) (vi (nat_lit 53) (nat_lit 470))), (de P x157 (nat_lit 526) (vi (nat_lit 13) (nat_lit 390))), (de P x158 (nat_lit 528) (vi (nat_lit 20) (nat_lit 404))), (de P x159 (nat_lit 530) (vi (nat_lit 33) (nat_lit 430))), (de P x160 (nat_lit 532) (vi (nat_lit 44) (nat_lit 452))), (de P x161 (nat_lit 534) (vi (nat_lit 29) (nat_lit 422))), (de P x162 (nat_lit 536) (vi (nat_lit 22) (nat_lit 408))), (de P x163 (nat_lit 538) (vi (nat_lit 27) (nat_lit 418))), (de P x164 (nat_lit 540) (vi (nat_lit 21) (nat_lit 406)))]) (nat_lit 17)) (Array.mk []))
noncomputable def o148 (P : Params) : Obj := (Obj.mk (Value.type PySem.W.SL.s14018661285674007319x4) none (Data.dict (Array.mk [(de P x165 (nat_lit 542) (vi (nat_lit 30) (nat_lit 424))), (de P x166 (nat_lit 543) (vi (nat_lit 34) (nat_lit 432))), (de P x167 (nat_lit 544) (vi (nat_lit 45) (nat_lit 454))), (de P x168 (nat_lit 545) (vi (nat_lit 49) (nat_lit 462))), (de P x169 (nat_lit 546) (vi (nat_lit 50) (nat_lit 464))), (de P x170 (nat_lit 547) (vi (nat_lit 9) (nat_lit 382))), (de P x171 (nat_lit 548) (vi (nat_lit 10) (nat_lit 384))), (de P x172 (nat_lit 549) (vi (nat_lit 32) (nat_lit 428))), (de P x173 (nat_lit 550) (vi (nat_lit 43) (nat_lit 450))), (de P x174 (nat_lit 551) (vi (nat_lit 25) (nat_lit 414))), (de P x175 (nat_lit 552) (vi (nat_lit 18) (nat_lit 400))), (de P x176 (nat_lit 553) (vi (nat_lit 42) (nat_lit 448))), (de P x177 (nat_lit 554) (vi (nat_lit 26) (nat_lit 416))), (de P x178 (nat_lit 555) (vi (nat_lit 31) (nat_lit 426)))]) (nat_lit 14)) (Array.mk []))
noncomputable def T3 (P : Params) : BT := (.node (boot_o_0 P) (.node (boot_o_1 P) (.node (o3_3 P) (.node (boot_o_7 P) (.node (boot_o_7 P) (.node o31 (.node o63 (.node o127 .nil .nil) .nil) (.node o95 .nil .nil)) (.node o47 (.node o79 (.node o143 .nil .nil) .nil) (.node (boot_o_8 P) .nil .nil))) (.node (boot_o_8 P) (.node o39 (.node o71 (.node (boot_o_7 P) .nil .nil) .nil) (.node (boot_o_7 P) .nil .nil)) (.node o55 (.node o87 .nil .nil) (.node (boot_o_8 P) .nil .nil)))) (.node (boot_o_7 P) (.node o19 (.node o35 (.node o67 (.node o131 .nil .nil) .nil) (.node (boot_o_7 P) .nil .nil)) (.node (boot_o_8 P) (.node o83 (.node (o147 P) .nil .nil) .nil) (.node o115 .nil .nil))) (.node o27 (.node (boot_o_7 P) (.node (boot_o_8 P) (.node o139 .nil .nil) .nil) (.node o107 .nil .nil)) (.node o59 (.node o91 .nil .nil) (.node o123 .nil .nil))))) (.node (boot_o_5 P) (.node (boot_o_9 P) (.node o17 (.node o33 (.node o65 (.node o129 .nil .nil) .nil) (.node (boot_o_8 P) .nil .nil)) (.node o49 (.node (boot_o_7 P) (.node o145 .nil .nil) .nil) (.node (boot_o_7 P) .nil .nil))) (.node (boot_o_7 P) (.node o41 (.node o73 (.node o137 .nil .nil) .nil) (.node o105 .nil .nil)) (.node (boot_o_7 P) (.node (boot_o_7 P) .nil .nil) (.node (boot_o_7 P) .nil .nil)))) (.node o13 (.node o21 (.node (boot_o_8 P) (.node o69 (.node (boot_o_8 P) .nil .nil) .nil) (.node o101 .nil .nil)) (.node (boot_o_7 P) (.node o85 .nil .nil) (.node o117 .nil .nil))) (.node (boot_o_7 P) (.node o45 (.node (boot_o_7 P) (.node o141 .nil .nil) .nil) (.node o109 .nil .nil)) (.node o61 (.node o93 .nil .nil) (.node (boot_o_7 P) .nil .nil)))))) (.node (boot_o_2 P) (.node (boot_o_4 P) (.node (boot_o_8 P) (.node (boot_o_8 P) (.node (boot_o_7 P) (.node o64 (.node (boot_o_7 P) .nil .nil) .nil) (.node (boot_o_7 P) .nil .nil)) (.node o48 (.node o80 (.node o144 .nil .nil) .nil) (.node o112 .nil .nil))) (.node o24 (.node o40 (.node o72 (.node o136 .nil .nil) .nil) (.node (boot_o_8 P) .nil .nil)) (.node o56 (.node o88 .nil .nil) (.node o120 .nil .nil)))) (.node o12_1 (.node o20 (.node (boot_o_7 P) (.node (boot_o_7 P) (.node (boot_o_7 P) .nil .nil) .nil) (.node o100 .nil .nil)) (.node o52 (.node (boot_o_7 P) (.node (o148 P) .nil .nil) .nil) (.node o116 .nil .nil))) (.node o28 (.node (boot_o_8 P) (.node o76 (.node (o140 P) .nil .nil) .nil) (.node o108 .nil .nil)) (.node (boot_o_7 P) (.node (boot_o_7 P) .nil .nil) (.node o124 .nil .nil))))) (.node (boot_o_6 P) (.node (boot_o_10 P) (.node (boot_o_7 P) (.node o34 (.node (o66_1 P) (.node o130 .nil .nil) .nil) (.node o98 .nil .nil)) (.node (boot_o_7 P) (.node (boot_o_8 P) (.node (o146 P) .nil .nil) .nil) (.node o114 .nil .nil))) (.node o26 (.node o42 (.node o74 (.node o138 .nil .nil) .nil) (.node (boot_o_7 P) .nil .nil)) (.node (boot_o_8 P) (.node (boot_o_8 P) .nil .nil) (.node o122 .nil .nil)))) (.node o14 (.node (boot_o_7 P) (.node o38 (.node o70 (.node o134 .nil .nil) .nil) (.node o102 .nil .nil)) (.node o54 (.node o86 .nil .nil) (.node (boot_o_7 P) .nil .nil))) (.node (boot_o_8 P) (.node o46 (.node o78 (.node o142 .nil .nil) .nil) (.node (boot_o_7 P) .nil .nil)) (.node o62 (.node o94 .nil .nil) (.node (boot_o_8 P) .nil .nil)))))))
-- 3: n 149 life { } gens 0 drawn { } toks 571
noncomputable def e3_4 (P : Params) : List DictEntry := [(de P x180 (nat_lit 577) (vr (nat_lit 155))), (de P x181 (nat_lit 587) (vr (nat_lit 162))), (de P x182 (nat_lit 595) (vr (nat_lit 169))), (de P x183 (nat_lit 601) (vr (nat_lit 174))), (de P x184 (nat_lit 616) (vr (nat_lit 181))), (de P x185 (nat_lit 625) (vr (nat_lit 188))), (de P x186 (nat_lit 631) (vr (nat_lit 193))), (de P x187 (nat_lit 643) (vr (nat_lit 200))), (de P x188 (nat_lit 659) (vr (nat_lit 207))), (de P x189 (nat_lit 665) (vr (nat_lit 212)))]
noncomputable def o3_4 (P : Params) : Obj := (Obj.mk (Value.type PySem.W.SL.s14018661285674007319x4) none (Data.dict (Array.mk ((de P x3 (nat_lit 165) (Value.str x179 (nat_lit 578))) :: (e3_0 P ++ (e3_1 P ++ (e3_2 P ++ (e3_3 P ++ (e3_4 P))))))) (nat_lit 79)) (Array.mk []))
noncomputable def o12_4 : Obj := (Obj.mk Value.none none (Data.fields (Array.mk [(vi (nat_lit 1) (nat_lit 0)), (vi (nat_lit 0) (nat_lit 0)), (vr (nat_lit 20)), (vi (nat_lit 6) (nat_lit 0)), (vi (nat_lit 0) (nat_lit 0)), (vr (nat_lit 27)), (vi (nat_lit 22) (nat_lit 0)), (vi (nat_lit 0) (nat_lit 0)), (vr (nat_lit 34)), (vi (nat_lit 32) (nat_lit 0)), (vi (nat_lit 0) (nat_lit 0)), (vr (nat_lit 41)), (vi (nat_lit 48) (nat_lit 0)), (vi (nat_lit 0) (nat_lit 0)), (vr (nat_lit 48)), (vi (nat_lit 57) (nat_lit 0)), (vi (nat_lit 0) (nat_lit 0)), (vr (nat_lit 55)), (vi (nat_lit 68) (nat_lit 0)), (vi (nat_lit 0) (nat_lit 0)), (vr (nat_lit 62)), (vi (nat_lit 81) (nat_lit 0)), (vi (nat_lit 0) (nat_lit 0)), (vr (nat_lit 70)), (vi (nat_lit 166) (nat_lit 0)), (vi (nat_lit 0) (nat_lit 0)), (vr (nat_lit 154)), (vi (nat_lit 169) (nat_lit 0)), (vi (nat_lit 0) (nat_lit 0)), (vr (nat_lit 161)), (vi (nat_lit 173) (nat_lit 0)), (vi (nat_lit 0) (nat_lit 0)), (vr (nat_lit 168)), (vi (nat_lit 176) (nat_lit 0)), (vi (nat_lit 0) (nat_lit 0)), (vr (nat_lit 173)), (vi (nat_lit 178) (nat_lit 0)), (vi (nat_lit 0) (nat_lit 0)), (vr (nat_lit 180)), (vi (nat_lit 187) (nat_lit 0)), (vi (nat_lit 0) (nat_lit 0)), (vr (nat_lit 187)), (vi (nat_lit 190) (nat_lit 0)), (vi (nat_lit 0) (nat_lit 0)), (vr (nat_lit 192)), (vi (nat_lit 200) (nat_lit 0)), (vi (nat_lit 0) (nat_lit 0)), (vr (nat_lit 199)), (vi (nat_lit 209) (nat_lit 0)), (vi (nat_lit 0) (nat_lit 0)), (vr (nat_lit 206)), (vi (nat_lit 217) (nat_lit 0)), (vi (nat_lit 0) (nat_lit 0)), (vr (nat_lit 211))])) (Array.mk []))
noncomputable def o151 : Obj := (Obj.mk (Value.type PySem.W.SL.s2766695959194262286x5) none (Data.seq (Array.mk [(Value.str x190 (nat_lit 574))]) (nat_lit 0)) (Array.mk []))
noncomputable def o153 : Obj := (Obj.mk Value.none none (Data.func (FuncData.mk x180 x180 (fp st63).1 (FuncBody.stmts (fp st63).2.1) (fp st63).2.2 (nat_lit 0) [] Value.none Value.none Value.none Value.none none Value.none Value.none (nat_lit 0))) (Array.mk []))
noncomputable def o154 : Obj := (Obj.mk (Value.type PySem.W.SL.s5856160107412720595x4) none (Data.fields (Array.mk [(Value.str x180 (nat_lit 571)), (Value.str x180 (nat_lit 572)), (Value.str x1 (nat_lit 573)), (vi (nat_lit 166) (nat_lit 0)), (vi (nat_lit 1) (nat_lit 0)), (vi (nat_lit 0) (nat_lit 0)), (vi (nat_lit 0) (nat_lit 0)), (vi (nat_lit 3) (nat_lit 0)), (vr (nat_lit 149)), (Value.bool Bool.true), (vi (nat_lit 181) (nat_lit 0)), (vr (nat_lit 150)), Value.none, (vr (nat_lit 151)), (vr (nat_lit 152)), (vr (nat_lit 153)), (vi (nat_lit 575) (nat_lit 0)), (vi (nat_lit 166) (nat_lit 0)), (Value.str x1 (nat_lit 576))])) (Array.mk []))
noncomputable def o155 : Obj := (Obj.mk (Value.type PySem.W.SL.s7174869446012820540x8) none (Data.func (FuncData.mk x180 x180 (fp st63).1 (FuncBody.stmts (fp st63).2.1) (fp st63).2.2 (nat_lit 3) [] Value.none Value.none Value.none (Value.str x80 (nat_lit 374)) none (vr (nat_lit 154)) Value.none (nat_lit 0))) (Array.mk []))
noncomputable def o158 : Obj := (Obj.mk (Value.type PySem.W.SL.s2766695959194262286x5) none (Data.seq (Array.mk [(Value.str x24 (nat_lit 583)), (Value.str x25 (nat_lit 584))]) (nat_lit 0)) (Array.mk []))
noncomputable def o160 : Obj := (Obj.mk Value.none none (Data.func (FuncData.mk x181 x181 (fp st65).1 (FuncBody.stmts (fp st65).2.1) (fp st65).2.2 (nat_lit 0) [] Value.none Value.none Value.none Value.none none Value.none Value.none (nat_lit 0))) (Array.mk []))
noncomputable def o161 : Obj := (Obj.mk (Value.type PySem.W.SL.s5856160107412720595x4) none (Data.fields (Array.mk [(Value.str x181 (nat_lit 580)), (Value.str x181 (nat_lit 581)), (Value.str x1 (nat_lit 582)), (vi (nat_lit 169) (nat_lit 0)), (vi (nat_lit 2) (nat_lit 0)), (vi (nat_lit 0) (nat_lit 0)), (vi (nat_lit 0) (nat_lit 0)), (vi (nat_lit 3) (nat_lit 0)), (vr (nat_lit 156)), (Value.bool Bool.true), (vi (nat_lit 181) (nat_lit 0)), (vr (nat_lit 157)), Value.none, (vr (nat_lit 158)), (vr (nat_lit 159)), (vr (nat_lit 160)), (vi (nat_lit 585) (nat_lit 0)), (vi (nat_lit 169) (nat_lit 0)), (Value.str x1 (nat_lit 586))])) (Array.mk []))
noncomputable def o162 : Obj := (Obj.mk (Value.type PySem.W.SL.s7174869446012820540x8) none (Data.func (FuncData.mk x181 x181 (fp st65).1 (FuncBody.stmts (fp st65).2.1) (fp st65).2.2 (nat_lit 3) [] Value.none Value.none Value.none (Value.str x179 (nat_lit 578)) none (vr (nat_lit 161)) Value.none (nat_lit 0))) (Array.mk []))
noncomputable def o165 : Obj := (Obj.mk (Value.type PySem.W.SL.s2766695959194262286x5) none (Data.seq (Array.mk [(Value.str x191 (nat_lit 591)), (Value.str x192 (nat_lit 592))]) (nat_lit 0)) (Array.mk []))
noncomputable def o167 : Obj := (Obj.mk Value.none none (Data.func (FuncData.mk x182 x182 (fp st66).1 (FuncBody.stmts (fp st66).2.1) (fp st66).2.2 (nat_lit 0) [] Value.none Value.none Value.none Value.none none Value.none Value.none (nat_lit 0))) (Array.mk []))
noncomputable def o168 : Obj := (Obj.mk (Value.type PySem.W.SL.s5856160107412720595x4) none (Data.fields (Array.mk [(Value.str x182 (nat_lit 588)), (Value.str x182 (nat_lit 589)), (Value.str x1 (nat_lit 590)), (vi (nat_lit 173) (nat_lit 0)), (vi (nat_lit 1) (nat_lit 0)), (vi (nat_lit 0) (nat_lit 0)), (vi (nat_lit 0) (nat_lit 0)), (vi (nat_lit 3) (nat_lit 0)), (vr (nat_lit 163)), (Value.bool Bool.true), (vi (nat_lit 181) (nat_lit 0)), (vr (nat_lit 164)), Value.none, (vr (nat_lit 165)), (vr (nat_lit 166)), (vr (nat_lit 167)), (vi (nat_lit 593) (nat_lit 0)), (vi (nat_lit 173) (nat_lit 0)), (Value.str x1 (nat_lit 594))])) (Array.mk []))
noncomputable def o169 : Obj := (Obj.mk (Value.type PySem.W.SL.s7174869446012820540x8) none (Data.func (FuncData.mk x182 x182 (fp st66).1 (FuncBody.stmts (fp st66).2.1) (fp st66).2.2 (nat_lit 3) [] Value.none Value.none Value.none (Value.str x179 (nat_lit 578)) none (vr (nat_lit 168)) Value.none (nat_lit 0))) (Array.mk []))
noncomputable def o172 : Obj := (Obj.mk Value.none none (Data.func (FuncData.mk x183 x183 (fp st67).1 (FuncBody.stmts (fp st67).2.1) (fp st67).2.2 (nat_lit 0) [] Value.none Value.none Value.none Value.none none Value.none Value.none (nat_lit 0))) (Array.mk []))
noncomputable def o173 : Obj := (Obj.mk (Value.type PySem.W.SL.s5856160107412720595x4) none (Data.fields (Array.mk [(Value.str x183 (nat_lit 596)), (Value.str x183 (nat_lit 597)), (Value.str x1 (nat_lit 598)), (vi (nat_lit 176) (nat_lit 0)), (vi (nat_lit 1) (nat_lit 0)), (vi (nat_lit 0) (nat_lit 0)), (vi (nat_lit 0) (nat_lit 0)), (vi (nat_lit 3) (nat_lit 0)), (vr (nat_lit 170)), (Value.bool Bool.true), (vi (nat_lit 181) (nat_lit 0)), (vr (nat_lit 171)), Value.none, Value.none, Value.none, (vr (nat_lit 172)), (vi (nat_lit 599) (nat_lit 0)), (vi (nat_lit 176) (nat_lit 0)), (Value.str x1 (nat_lit 600))])) (Array.mk []))
noncomputable def o174 : Obj := (Obj.mk (Value.type PySem.W.SL.s7174869446012820540x8) none (Data.func (FuncData.mk x183 x183 (fp st67).1 (FuncBody.stmts (fp st67).2.1) (fp st67).2.2 (nat_lit 3) [] Value.none Value.none Value.none (Value.str x179 (nat_lit 578)) none (vr (nat_lit 173)) Value.none (nat_lit 0))) (Array.mk []))
noncomputable def o177 : Obj := (Obj.mk (Value.type PySem.W.SL.s2766695959194262286x5) none (Data.seq (Array.mk [(Value.str x193 (nat_lit 605)), (Value.str x194 (nat_lit 606)), (Value.str x195 (nat_lit 607)), (Value.str x196 (nat_lit 608)), (Value.str x197 (nat_lit 609)), (Value.str x191 (nat_lit 610)), (Value.str x198 (nat_lit 611)), (Value.str x64 (nat_lit 612)), (Value.str x199 (nat_lit 613))]) (nat_lit 0)) (Array.mk []))
noncomputable def o179 : Obj := (Obj.mk Value.none none (Data.func (FuncData.mk x184 x184 (fp st68).1 (FuncBody.stmts (fp st68).2.1) (fp st68).2.2 (nat_lit 0) [] Value.none Value.none Value.none Value.none none Value.none Value.none (nat_lit 0))) (Array.mk []))
noncomputable def o180 : Obj := (Obj.mk (Value.type PySem.W.SL.s5856160107412720595x4) none (Data.fields (Array.mk [(Value.str x184 (nat_lit 602)), (Value.str x184 (nat_lit 603)), (Value.str x1 (nat_lit 604)), (vi (nat_lit 178) (nat_lit 0)), (vi (nat_lit 3) (nat_lit 0)), (vi (nat_lit 0) (nat_lit 0)), (vi (nat_lit 0) (nat_lit 0)), (vi (nat_lit 3) (nat_lit 0)), (vr (nat_lit 175)), (Value.bool Bool.true), (vi (nat_lit 181) (nat_lit 0)), (vr (nat_lit 176)), Value.none, (vr (nat_lit 177)), (vr (nat_lit 178)), (vr (nat_lit 179)), (vi (nat_lit 614) (nat_lit 0)), (vi (nat_lit 178) (nat_lit 0)), (Value.str x1 (nat_lit 615))])) (Array.mk []))
noncomputable def o181 : Obj := (Obj.mk (Value.type PySem.W.SL.s7174869446012820540x8) none (Data.func (FuncData.mk x184 x184 (fp st68).1 (FuncBody.stmts (fp st68).2.1) (fp st68).2.2 (nat_lit 3) [] Value.none Value.none Value.none (Value.str x179 (nat_lit 578)) none (vr (nat_lit 180)) Value.none (nat_lit 0))) (Array.mk []))
noncomputable def o184 : Obj := (Obj.mk (Value.type PySem.W.SL.s2766695959194262286x5) none (Data.seq (Array.mk [(Value.str x193 (nat_lit 620)), (Value.str x200 (nat_lit 621)), (Value.str x197 (nat_lit 622))]) (nat_lit 0)) (Array.mk []))
noncomputable def o186 : Obj := (Obj.mk Value.none none (Data.func (FuncData.mk x185 x185 (fp st69).1 (FuncBody.stmts (fp st69).2.1) (fp st69).2.2 (nat_lit 0) [] Value.none Value.none Value.none Value.none none Value.none Value.none (nat_lit 0))) (Array.mk []))
noncomputable def o187 : Obj := (Obj.mk (Value.type PySem.W.SL.s5856160107412720595x4) none (Data.fields (Array.mk [(Value.str x185 (nat_lit 617)), (Value.str x185 (nat_lit 618)), (Value.str x1 (nat_lit 619)), (vi (nat_lit 187) (nat_lit 0)), (vi (nat_lit 2) (nat_lit 0)), (vi (nat_lit 0) (nat_lit 0)), (vi (nat_lit 0) (nat_lit 0)), (vi (nat_lit 3) (nat_lit 0)), (vr (nat_lit 182)), (Value.bool Bool.true), (vi (nat_lit 181) (nat_lit 0)), (vr (nat_lit 183)), Value.none, (vr (nat_lit 184)), (vr (nat_lit 185)), (vr (nat_lit 186)), (vi (nat_lit 623) (nat_lit 0)), (vi (nat_lit 187) (nat_lit 0)), (Value.str x1 (nat_lit 624))])) (Array.mk []))
noncomputable def o188 : Obj := (Obj.mk (Value.type PySem.W.SL.s7174869446012820540x8) none (Data.func (FuncData.mk x185 x185 (fp st69).1 (FuncBody.stmts (fp st69).2.1) (fp st69).2.2 (nat_lit 3) [] Value.none Value.none Value.none (Value.str x179 (nat_lit 578)) none (vr (nat_lit 187)) Value.none (nat_lit 0))) (Array.mk []))
noncomputable def o191 : Obj := (Obj.mk Value.none none (Data.func (FuncData.mk x186 x186 (fp st70).1 (FuncBody.stmts (fp st70).2.1) (fp st70).2.2 (nat_lit 0) [] Value.none Value.none Value.none Value.none none Value.none Value.none (nat_lit 0))) (Array.mk []))
noncomputable def o192 : Obj := (Obj.mk (Value.type PySem.W.SL.s5856160107412720595x4) none (Data.fields (Array.mk [(Value.str x186 (nat_lit 626)), (Value.str x186 (nat_lit 627)), (Value.str x1 (nat_lit 628)), (vi (nat_lit 190) (nat_lit 0)), (vi (nat_lit 1) (nat_lit 0)), (vi (nat_lit 0) (nat_lit 0)), (vi (nat_lit 0) (nat_lit 0)), (vi (nat_lit 3) (nat_lit 0)), (vr (nat_lit 189)), (Value.bool Bool.true), (vi (nat_lit 181) (nat_lit 0)), (vr (nat_lit 190)), Value.none, Value.none, Value.none, (vr (nat_lit 191)), (vi (nat_lit 629) (nat_lit 0)), (vi (nat_lit 190) (nat_lit 0)), (Value.str x1 (nat_lit 630))])) (Array.mk []))
noncomputable def o193 : Obj := (Obj.mk (Value.type PySem.W.SL.s7174869446012820540x8) none (Data.func (FuncData.mk x186 x186 (fp st70).1 (FuncBody.stmts (fp st70).2.1) (fp st70).2.2 (nat_lit 3) [] Value.none Value.none Value.none (Value.str x179 (nat_lit 578)) none (vr (nat_lit 192)) Value.none (nat_lit 0))) (Array.mk []))
noncomputable def o196 : Obj := (Obj.mk (Value.type PySem.W.SL.s2766695959194262286x5) none (Data.seq (Array.mk [(Value.str x194 (nat_lit 635)), (Value.str x201 (nat_lit 636)), (Value.str x202 (nat_lit 637)), (Value.str x198 (nat_lit 638)), (Value.str x191 (nat_lit 639)), (Value.str x203 (nat_lit 640))]) (nat_lit 0)) (Array.mk []))
noncomputable def o198 : Obj := (Obj.mk Value.none none (Data.func (FuncData.mk x187 x187 (fp st71).1 (FuncBody.stmts (fp st71).2.1) (fp st71).2.2 (nat_lit 0) [] Value.none Value.none Value.none Value.none none Value.none Value.none (nat_lit 0))) (Array.mk []))
noncomputable def o199 : Obj := (Obj.mk (Value.type PySem.W.SL.s5856160107412720595x4) none (Data.fields (Array.mk [(Value.str x187 (nat_lit 632)), (Value.str x187 (nat_lit 633)), (Value.str x1 (nat_lit 634)), (vi (nat_lit 200) (nat_lit 0)), (vi (nat_lit 1) (nat_lit 0)), (vi (nat_lit 0) (nat_lit 0)), (vi (nat_lit 0) (nat_lit 0)), (vi (nat_lit 3) (nat_lit 0)), (vr (nat_lit 194)), (Value.bool Bool.true), (vi (nat_lit 181) (nat_lit 0)), (vr (nat_lit 195)), Value.none, (vr (nat_lit 196)), (vr (nat_lit 197)), (vr (nat_lit 198)), (vi (nat_lit 641) (nat_lit 0)), (vi (nat_lit 200) (nat_lit 0)), (Value.str x1 (nat_lit 642))])) (Array.mk []))
noncomputable def o200 : Obj := (Obj.mk (Value.type PySem.W.SL.s7174869446012820540x8) none (Data.func (FuncData.mk x187 x187 (fp st71).1 (FuncBody.stmts (fp st71).2.1) (fp st71).2.2 (nat_lit 3) [] Value.none Value.none Value.none (Value.str x179 (nat_lit 578)) none (vr (nat_lit 199)) Value.none (nat_lit 0))) (Array.mk []))
noncomputable def o203 : Obj := (Obj.mk (Value.type PySem.W.SL.s2766695959194262286x5) none (Data.seq (Array.mk [(Value.str x204 (nat_lit 647)), (Value.str x201 (nat_lit 648)), (Value.str x205 (nat_lit 649)), (Value.str x206 (nat_lit 650)), (Value.str x207 (nat_lit 651)), (Value.str x208 (nat_lit 652)), (Value.str x209 (nat_lit 653)), (Value.str x203 (nat_lit 654)), (Value.str x210 (nat_lit 655)), (Value.str x197 (nat_lit 656))]) (nat_lit 0)) (Array.mk []))
noncomputable def o205 : Obj := (Obj.mk Value.none none (Data.func (FuncData.mk x188 x188 (fp st72).1 (FuncBody.stmts (fp st72).2.1) (fp st72).2.2 (nat_lit 0) [] Value.none Value.none Value.none Value.none none Value.none Value.none (nat_lit 0))) (Array.mk []))
noncomputable def o206 : Obj := (Obj.mk (Value.type PySem.W.SL.s5856160107412720595x4) none (Data.fields (Array.mk [(Value.str x188 (nat_lit 644)), (Value.str x188 (nat_lit 645)), (Value.str x1 (nat_lit 646)), (vi (nat_lit 209) (nat_lit 0)), (vi (nat_lit 3) (nat_lit 0)), (vi (nat_lit 0) (nat_lit 0)), (vi (nat_lit 0) (nat_lit 0)), (vi (nat_lit 3) (nat_lit 0)), (vr (nat_lit 201)), (Value.bool Bool.true), (vi (nat_lit 181) (nat_lit 0)), (vr (nat_lit 202)), Value.none, (vr (nat_lit 203)), (vr (nat_lit 204)), (vr (nat_lit 205)), (vi (nat_lit 657) (nat_lit 0)), (vi (nat_lit 209) (nat_lit 0)), (Value.str x1 (nat_lit 658))])) (Array.mk []))
noncomputable def o207 : Obj := (Obj.mk (Value.type PySem.W.SL.s7174869446012820540x8) none (Data.func (FuncData.mk x188 x188 (fp st72).1 (FuncBody.stmts (fp st72).2.1) (fp st72).2.2 (nat_lit 3) [] Value.none Value.none Value.none (Value.str x179 (nat_lit 578)) none (vr (nat_lit 206)) Value.none (nat_lit 0))) (Array.mk []))
noncomputable def o210 : Obj := (Obj.mk Value.none none (Data.func (FuncData.mk x189 x189 (fp st73).1 (FuncBody.stmts (fp st73).2.1) (fp st73).2.2 (nat_lit 0) [] Value.none Value.none Value.none Value.none none Value.none Value.none (nat_lit 0))) (Array.mk []))
noncomputable def o211 : Obj := (Obj.mk (Value.type PySem.W.SL.s5856160107412720595x4) none (Data.fields (Array.mk [(Value.str x189 (nat_lit 660)), (Value.str x189 (nat_lit 661)), (Value.str x1 (nat_lit 662)), (vi (nat_lit 217) (nat_lit 0)), (vi (nat_lit 1) (nat_lit 0)), (vi (nat_lit 0) (nat_lit 0)), (vi (nat_lit 0) (nat_lit 0)), (vi (nat_lit 3) (nat_lit 0)), (vr (nat_lit 208)), (Value.bool Bool.true), (vi (nat_lit 181) (nat_lit 0)), (vr (nat_lit 209)), Value.none, Value.none, Value.none, (vr (nat_lit 210)), (vi (nat_lit 663) (nat_lit 0)), (vi (nat_lit 217) (nat_lit 0)), (Value.str x1 (nat_lit 664))])) (Array.mk []))
noncomputable def o212 : Obj := (Obj.mk (Value.type PySem.W.SL.s7174869446012820540x8) none (Data.func (FuncData.mk x189 x189 (fp st73).1 (FuncBody.stmts (fp st73).2.1) (fp st73).2.2 (nat_lit 3) [] Value.none Value.none Value.none (Value.str x179 (nat_lit 578)) none (vr (nat_lit 211)) Value.none (nat_lit 0))) (Array.mk []))
noncomputable def T4 (P : Params) : BT := (.node (boot_o_0 P) (.node (boot_o_1 P) (.node (o3_4 P) (.node (boot_o_7 P) (.node (boot_o_7 P) (.node o31 (.node o63 (.node o127 .nil .nil) (.node o191 .nil .nil)) (.node o95 (.node (boot_o_7 P) .nil .nil) .nil)) (.node o47 (.node o79 (.node o143 .nil .nil) (.node o207 .nil .nil)) (.node (boot_o_8 P) (.node (boot_o_7 P) .nil .nil) .nil))) (.node (boot_o_8 P) (.node o39 (.node o71 (.node (boot_o_7 P) .nil .nil) (.node o199 .nil .nil)) (.node (boot_o_7 P) (.node o167 .nil .nil) .nil)) (.node o55 (.node o87 (.node o151 .nil .nil) .nil) (.node (boot_o_8 P) (.node (boot_o_8 P) .nil .nil) .nil)))) (.node (boot_o_7 P) (.node o19 (.node o35 (.node o67 (.node o131 .nil .nil) (.node (boot_o_8 P) .nil .nil)) (.node (boot_o_7 P) (.node (boot_o_7 P) .nil .nil) .nil)) (.node (boot_o_8 P) (.node o83 (.node (o147 P) .nil .nil) (.node o211 .nil .nil)) (.node o115 (.node o179 .nil .nil) .nil))) (.node o27 (.node (boot_o_7 P) (.node (boot_o_8 P) (.node o139 .nil .nil) (.node o203 .nil .nil)) (.node o107 (.node (boot_o_8 P) .nil .nil) .nil)) (.node o59 (.node o91 (.node o155 .nil .nil) .nil) (.node o123 (.node o187 .nil .nil) .nil))))) (.node (boot_o_5 P) (.node (boot_o_9 P) (.node o17 (.node o33 (.node o65 (.node o129 .nil .nil) (.node o193 .nil .nil)) (.node (boot_o_8 P) (.node o161 .nil .nil) .nil)) (.node o49 (.node (boot_o_7 P) (.node o145 .nil .nil) (.node (boot_o_8 P) .nil .nil)) (.node (boot_o_7 P) (.node o177 .nil .nil) .nil))) (.node (boot_o_7 P) (.node o41 (.node o73 (.node o137 .nil .nil) (.node (boot_o_7 P) .nil .nil)) (.node o105 (.node o169 .nil .nil) .nil)) (.node (boot_o_7 P) (.node (boot_o_7 P) (.node o153 .nil .nil) .nil) (.node (boot_o_7 P) (.node (boot_o_7 P) .nil .nil) .nil)))) (.node o13 (.node o21 (.node (boot_o_8 P) (.node o69 (.node (boot_o_8 P) .nil .nil) (.node (boot_o_7 P) .nil .nil)) (.node o101 (.node o165 .nil .nil) .nil)) (.node (boot_o_7 P) (.node o85 (.node (boot_o_7 P) .nil .nil) .nil) (.node o117 (.node o181 .nil .nil) .nil))) (.node (boot_o_7 P) (.node o45 (.node (boot_o_7 P) (.node o141 .nil .nil) (.node o205 .nil .nil)) (.node o109 (.node o173 .nil .nil) .nil)) (.node o61 (.node o93 (.node (boot_o_8 P) .nil .nil) .nil) (.node (boot_o_7 P) (.node (boot_o_7 P) .nil .nil) .nil)))))) (.node (boot_o_2 P) (.node (boot_o_4 P) (.node (boot_o_8 P) (.node (boot_o_8 P) (.node (boot_o_7 P) (.node o64 (.node (boot_o_7 P) .nil .nil) (.node o192 .nil .nil)) (.node (boot_o_7 P) (.node o160 .nil .nil) .nil)) (.node o48 (.node o80 (.node o144 .nil .nil) (.node (boot_o_7 P) .nil .nil)) (.node o112 (.node (boot_o_8 P) .nil .nil) .nil))) (.node o24 (.node o40 (.node o72 (.node o136 .nil .nil) (.node o200 .nil .nil)) (.node (boot_o_8 P) (.node o168 .nil .nil) .nil)) (.node o56 (.node o88 (.node (boot_o_7 P) .nil .nil) .nil) (.node o120 (.node o184 .nil .nil) .nil)))) (.node o12_4 (.node o20 (.node (boot_o_7 P) (.node (boot_o_7 P) (.node (boot_o_7 P) .nil .nil) (.node o196 .nil .nil)) (.node o100 (.node (boot_o_8 P) .nil .nil) .nil)) (.node o52 (.node (boot_o_7 P) (.node (o148 P) .nil .nil) (.node o212 .nil .nil)) (.node o116 (.node o180 .nil .nil) .nil))) (.node o28 (.node (boot_o_8 P) (.node o76 (.node (o140 P) .nil .nil) (.node (boot_o_7 P) .nil .nil)) (.node o108 (.node o172 .nil .nil) .nil)) (.node (boot_o_7 P) (.node (boot_o_7 P) (.node (boot_o_7 P) .nil .nil) .nil) (.node o124 (.node o188 .nil .nil) .nil))))) (.node (boot_o_6 P) (.node (boot_o_10 P) (.node (boot_o_7 P) (.node o34 (.node (o66_1 P) (.node o130 .nil .nil) (.node (boot_o_7 P) .nil .nil)) (.node o98 (.node o162 .nil .nil) .nil)) (.node (boot_o_7 P) (.node (boot_o_8 P) (.node (o146 P) .nil .nil) (.node o210 .nil .nil)) (.node o114 (.node (boot_o_7 P) .nil .nil) .nil))) (.node o26 (.node o42 (.node o74 (.node o138 .nil .nil) (.node (boot_o_8 P) .nil .nil)) (.node (boot_o_7 P) (.node (boot_o_7 P) .nil .nil) .nil)) (.node (boot_o_8 P) (.node (boot_o_8 P) (.node o154 .nil .nil) .nil) (.node o122 (.node o186 .nil .nil) .nil)))) (.node o14 (.node (boot_o_7 P) (.node o38 (.node o70 (.node o134 .nil .nil) (.node o198 .nil .nil)) (.node o102 (.node (boot_o_7 P) .nil .nil) .nil)) (.node o54 (.node o86 (.node (boot_o_8 P) .nil .nil) .nil) (.node (boot_o_7 P) (.node (boot_o_7 P) .nil .nil) .nil))) (.node (boot_o_8 P) (.node o46 (.node o78 (.node o142 .nil .nil) (.node o206 .nil .nil)) (.node (boot_o_7 P) (.node o174 .nil .nil) .nil)) (.node o62 (.node o94 (.node o158 .nil .nil) .nil) (.node (boot_o_8 P) (.node (boot_o_8 P) .nil .nil) .nil)))))))
-- 4: n 213 life { } gens 0 drawn { } toks 666
noncomputable def en : Env := { scope := sc, locals := mainNs, globals := mainNs, cells := [], code := .ref 13, frame := some 14 }
noncomputable def cd : Code := .body (behindTheImports pg) en
noncomputable def q0 : Pos := ⟨0, 0, 0, 0⟩
noncomputable def q1 : Pos := ⟨80, 0, 80, 11⟩
noncomputable def q2 : Pos := ⟨81, 0, 114, 16⟩
noncomputable def q3 : Pos := ⟨164, 0, 164, 11⟩
noncomputable def q4 : Pos := ⟨165, 0, 165, 17⟩
noncomputable def q5 : Pos := ⟨217, 0, 258, 55⟩
noncomputable def Sb (w : World) (os : OsState) : SharedT := ⟨Tb w.params, 15, {}, Array.mk [], {}, 187, os⟩
noncomputable def S0 (w : World) (os : OsState) : SharedT := ⟨T0 w.params, 64, {}, Array.mk [], {}, 280, os⟩
noncomputable def S1 (w : World) (os : OsState) : SharedT := ⟨T1 w.params, 146, {}, Array.mk [], {}, 374, os⟩
noncomputable def S2 (w : World) (os : OsState) : SharedT := ⟨T2 w.params, 146, {}, Array.mk [], {}, 474, os⟩
noncomputable def S3 (w : World) (os : OsState) : SharedT := ⟨T3 w.params, 149, {}, Array.mk [], {}, 571, os⟩
noncomputable def S4 (w : World) (os : OsState) : SharedT := ⟨T4 w.params, 213, {}, Array.mk [], {}, 666, os⟩
noncomputable def l0 : List Stmt := [st0, st1, st2, st3, st4, st5, st6, st7, st8, st9, st10]
noncomputable def l1 : List Stmt := [st11]
noncomputable def l2 : List Stmt := [st12, st13, st14, st15, st16, st17, st18, st19, st20, st21, st22, st23, st24, st25, st26, st27, st28, st29, st30, st31, st32, st33, st34, st35, st36, st37, st38, st39, st40, st41, st42, st43, st44, st45, st46, st47, st48, st49, st50, st51, st52, st53, st54, st55, st56, st57, st58, st59, st60, st61]
noncomputable def l3 : List Stmt := [st62]
noncomputable def l4 : List Stmt := [st63, st64, st65, st66, st67, st68, st69, st70, st71, st72, st73]
theorem rp : ∀ (w : World) (os : OsState), topGo treeTable pg w 11 (some (.ref 6)) 12 ⟨boot_heap w.params, Array.mk [], boot_drawn, boot_toks, os⟩ (topStub pg) = some (⟨Ha w.params, Array.mk [], {}, 187, os⟩, ⟨denote treeTable cd, cd, q0, [topFrame q0]⟩) := by
  intro w os
  rw [PySem.W.Fast.te15667345088766844465, PySem.W.Fast.te14364793385576792824, PySem.W.Fast.te11892475500146522536]; kernel_rfl!
theorem rb : ∀ (w : World) (os : OsState), segRun treeTable pg w 11 (some (.ref 6)) 1 1 ⟨Ha w.params, Array.mk [], {}, 187, os⟩ (blockOf (behindTheImports pg) en cd q0 [topFrame q0]) = some (.next, (Sb w os).abs, cd, q0) := by
  intro w os
  rw [PySem.W.Fast.te14374325043358763698, PySem.W.Fast.te14364793385576792824]; kernel_rfl!
theorem r0 : ∀ (w : World) (os : OsState), segRunT treeTable pg w 11 (some (.ref 6)) 1 276 (Sb w os) (piecesOf l0 en cd q0 [topFrame q0]) = some (.next, S0 w os, cd, q1) := by
  intro w os
  rw [PySem.W.Fast.te10110043849684766642, PySem.W.Fast.te14364793385576792824]; kernel_rfl!
theorem r1 : ∀ (w : World) (os : OsState), segRunT treeTable pg w 11 (some (.ref 6)) 1 501 (S0 w os) (piecesOf l1 en cd q1 [topFrame q0]) = some (.next, S1 w os, cd, q2) := by
  intro w os
  rw [PySem.W.Fast.te10110043849684766642, PySem.W.Fast.te14364793385576792824]; kernel_rfl!
theorem r2 : ∀ (w : World) (os : OsState), segRunT treeTable pg w 11 (some (.ref 6)) 1 451 (S1 w os) (piecesOf l2 en cd q2 [topFrame q0]) = some (.next, S2 w os, cd, q3) := by
  intro w os
  rw [PySem.W.Fast.te10110043849684766642, PySem.W.Fast.te14364793385576792824]; kernel_rfl!
theorem r3f (w : World) (os : OsState) : segRunT treeTable pg (w.withFollow "special-get-raises" false) 11 (some (.ref 6)) 1 979 (S2 (w.withFollow "special-get-raises" false) os) (piecesOf l3 en cd q3 [topFrame q0]) = some (.next, S3 (w.withFollow "special-get-raises" false) os, cd, q4) := by
  rw [PySem.W.Fast.te10110043849684766642, PySem.W.Fast.te14364793385576792824]; kernel_rfl!
theorem r3t (w : World) (os : OsState) : segRunT treeTable pg (w.withFollow "special-get-raises" true) 11 (some (.ref 6)) 1 979 (S2 (w.withFollow "special-get-raises" true) os) (piecesOf l3 en cd q3 [topFrame q0]) = some (.next, S3 (w.withFollow "special-get-raises" true) os, cd, q4) := by
  rw [PySem.W.Fast.te10110043849684766642, PySem.W.Fast.te14364793385576792824]; kernel_rfl!
theorem r3 : ∀ (w : World) (os : OsState), segRunT treeTable pg w 11 (some (.ref 6)) 1 979 (S2 w os) (piecesOf l3 en cd q3 [topFrame q0]) = some (.next, S3 w os, cd, q4) :=
  byRow2 "special-get-raises" (P := fun w => ∀ (os : OsState), segRunT treeTable pg w 11 (some (.ref 6)) 1 979 (S2 w os) (piecesOf l3 en cd q3 [topFrame q0]) = some (.next, S3 w os, cd, q4)) r3f r3t
theorem r4 : ∀ (w : World) (os : OsState), segRunT treeTable pg w 11 (some (.ref 6)) 1 317 (S3 w os) (piecesOf l4 en cd q4 [topFrame q0]) = some (.next, S4 w os, cd, q5) := by
  intro w os
  rw [PySem.W.Fast.te10110043849684766642, PySem.W.Fast.te14364793385576792824]; kernel_rfl!
theorem rf : ∀ (w : World) (os : OsState), topRun treeTable pg w 11 (some (.ref 6)) 2 (S4 w os).abs ⟨doneF .next, cd, q5, [topFrame q0]⟩ = some (S4 w os).abs := by
  intro w os
  rw [PySem.W.Fast.te14082659384304107361, PySem.W.Fast.te14364793385576792824]; kernel_rfl!
end U14
end
noncomputable section
open PySem PySem.W PySem.Spec PySem.Calls PyProof.Rows
namespace U14
theorem bE : behindTheImports pg = l0 ++ (l1 ++ (l2 ++ (l3 ++ (l4 ++ [])))) := by kernel_rfl!
theorem run (w : World) (os : OsState) : topRun treeTable pg w 11 (some (.ref 6)) (12 + (1 + (276 + (501 + (451 + (979 + (317 + 2))))))) ⟨boot_heap w.params, Array.mk [], boot_drawn, boot_toks, os⟩ (topStub pg) = some (S4 w os).abs := by
  refine go_top (rp w os) (piece_block (rb w os) ?_)
  rw [bE]
  exact piece_app (segRun_of (r0 w os)) (piece_app (segRun_of (r1 w os)) (piece_app (segRun_of (r2 w os)) (piece_app (segRun_of (r3 w os)) (piece_app (segRun_of (r4 w os)) (rf w os)))))
noncomputable def qv : Program := { pg with main := { pg.main with body := [st73] } }
noncomputable def lo : List Str := [x13, x14, x15, x16, x17, x18, x19, x20, x21, x45, x81, x82, x83, x84, x85, x86, x87, x88, x89, x90, x91, x92, x93, x94, x95, x96, x97, x98, x99, x100, x101, x102, x103, x104, x105, x106, x107, x108, x109, x110, x111, x112, x113, x114, x115, x116, x117, x118, x119, x120, x121, x122, x123, x124, x125, x126, x127, x128, x129, x130, x180, x181, x182, x183, x184, x185, x186, x187, x188]
noncomputable def hp (P : Params) : Heap := absHeap (T4 P) 213 {}
theorem pl : opening pg = plainProg pg.main.scope.names := by kernel_rfl!
theorem fe (s : Shared) : fenceModules? pg s = some s := by kernel_rfl!
theorem lk1 (w : World) (os : OsState) : (staticsOk (importedModules pg.main.body) (boot_heap w.params) (hp w.params) && namesBound pg (hp w.params) && gensDone (S4 w os).abs && laidKept (boot_heap w.params) (hp w.params)) = true := by
  rw [PySem.W.Fast.te5923862056798008813]; kernel_rfl!
theorem lk2 (w : World) (os : OsState) : openSeen qv lo (importedModules pg.main.body) (fun _ => true) true (S4 w os).abs = openGood qv lo := by
  rw [PySem.W.Fast.te4187177175401517315, PySem.W.Fast.te5923862056798008813]; kernel_rfl!
theorem sz (w : World) : ((boot_heap w.params).isNs mainGlobals && (#[] : Array GenState).size == 0, (boot_heap w.params).objs.size, (boot_heap w.params).nsMap mainGlobals "__annotations__") = (true, 11, some (.ref 6)) := by
  rw [PySem.W.Fast.te8920871248978507458]; kernel_rfl!
theorem left : LeftO pg qv lo (fun _ => true) (fun s => s.heap) (fun w => hp w.params) 6000 :=
  .of_pieces (boot_open pl rfl fe) sz (fun w os => run w os) rfl fun w => funext fun os => looks_pair (lk1 w os) (looks_pair (lk2 w os) rfl)
end U14
end
noncomputable section
open PySem PySem.W PySem.Spec PySem.Calls PyProof.Rows
namespace U14
theorem dk : defOf qv (Str.ofString "law") = some (⟨Str.ofString "law", (fp st73).1, (fp st73).2.1, (fp st73).2.2, q5⟩, []) := by kernel_rfl!
abbrev YPh (w : World) (h : Heap) : Prop := ∀ b o, (hp w.params).get? b = some o → h.get? b = some o
abbrev rr : OpenRow := PySem.Challenge.rw_ul0013_01.row
set_option maxHeartbeats 0 in
theorem ws : PySem.Challenge.rw_ul0013_01.wellSaid = true := by
  unfold OpenLaw.wellSaid OpenRow.wellSaid OpenRow.partSaid looksOpen
  with_reducible repeat' refine look_both ?_ ?_
  all_goals as_aux_lemma =>
    try rw [PySem.W.Fast.te8377067652309620493]
    try rw [PySem.W.Fast.te11788848310118352699]
    try rw [PySem.W.Fast.te9807087744658564304]
    try rw [PySem.W.Fast.te18344453789297297638]
    try rw [PySem.W.Fast.te12749700546528644094]
    try rw [PySem.W.Fast.te13582783067957832011]
    try rw [PySem.W.Fast.te12879404354523853263]
    try rw [PySem.W.Fast.te482687673346738481]
    try rw [PySem.W.Fast.te14412699480532031325]
    try rw [PySem.W.Fast.te17868728402115742887]
    try rw [PySem.W.Fast.te9572597257264208301]
    try rw [PySem.W.Fast.te13343964577679436407]
    try rw [PySem.W.Fast.te17119622794617984870]
    try rw [PySem.W.Fast.te8326940854005059898]
    try rw [PySem.W.Fast.te8179353310426384613]
    try rw [PySem.W.Fast.te9558739934217749035]
    try rw [PySem.W.Fast.te16286561074155671207]
    try rw [PySem.W.Fast.te10501279942588096481]
    try rw [PySem.W.Fast.named_eq]
    try rw [PySem.W.Fast.te10792542408131684335]
    try rw [PySem.W.Fast.te5923862056798008813]
    kernel_rfl!
theorem ok1 : chainsOk qv = true := by kernel_rfl!
theorem ok2 : opensWell pg = true := by kernel_rfl!
theorem ok3 : (frees rr.toRowW && rr.within.isEmpty) = true := by kernel_rfl!
theorem hb1 : rr.toRowW.prog.bare := ⟨rfl, rfl, rfl, rfl, rfl, by decide +kernel⟩
theorem hw1 : rr.toRowW.promised := ⟨[.list [.int 3, .int 1]], by decide +kernel, by decide +kernel⟩
theorem hp1 : rr.toRowW.prog.theDef rr.name = some ((fp st73).1, (fp st73).2.1, (fp st73).2.2) := by kernel_rfl!
theorem hk1 : kwWritten? (fp st73).1.kwonlyargs (fp st73).1.kw_defaults = some [] := by kernel_rfl!
theorem fin (walk : WalkO qv lo (fun _ _ => True) YPh rr.toRowW ⟨Str.ofString "law", (fp st73).1, (fp st73).2.1, (fp st73).2.2, q5⟩ [] fun f vs => PySem.call f vs) : PySem.Challenge.rw_ul0013_01.Holds :=
  holds_law ws fun said => holds_open (q := qv) (loose := lo) (Xt := fun _ => true) (XP := fun _ _ => True) (YP := YPh) (N := 6000) left (fun w s e b o x => by rw [← e] at x; exact x) (fun w h h' x k b o e => k b o (x b o e)) (fun _ _ => trivial) (fun _ _ _ _ _ => trivial) dk hp1 hk1 (fun s _ => recFacts_nil rfl) (by kernel_rfl!) said (look_both (look_both ok1 ok2) ok3) hb1 hw1 walk
end U14
end
noncomputable section
open PySem PySem.W PySem.Spec PySem.Calls PyProof.Rows U13
namespace U14
def kf (P : Params) : Frag := [2, 3, 4, 27, 28, 41, 42, 48, 49, 55, 56, 62, 63, 67, 72, 79, 80, 86, 87, 88, 94, 95, 108, 109, 115, 116, 117, 123, 124, 140, 141, 146, 154, 155, 161, 162, 168, 169, 173, 174, 180, 181, 187, 188, 192, 193, 199, 200, 206, 207, 211, 212].map fun a => (a, ((T4 P).get a).getD default)
theorem inK (P : Params) : (kf P).In (hp P) := Frag.in_of (as := [2, 3, 4, 27, 28, 41, 42, 48, 49, 55, 56, 62, 63, 67, 72, 79, 80, 86, 87, 88, 94, 95, 108, 109, 115, 116, 117, 123, 124, 140, 141, 146, 154, 155, 161, 162, 168, 169, 173, 174, 180, 181, 187, 188, 192, 193, 199, 200, 206, 207, 211, 212]) rfl (by kernel_rfl!)
def tb : List TabD := [tabI "_int2digits" 1 "_int2digits.<locals>.inner" 41 37, tabI "_digits2int" 0 "_digits2int.<locals>.inner" 48 44, ⟨108, 104, gpL, "_Accumulator.__len__.<locals>.<genexpr>"⟩, ⟨115, 111, gpS, "_Accumulator.__str__.<locals>.<genexpr>"⟩]
def hid : List Addr := [37, 44, 104, 111]
section
variable {w : World} {h : Heap} {mg mb : Str → Option Value} {mean : ExcName → Option Value} {q : Program} {l : List Str}
theorem kin (Y : YPh w h) : (kf w.params).In (hideAll h hid) := fun a o e => hideAll_get _ (Y a o (inK _ a o e)) fun m => by
  have : (hid.all fun a => ((kf w.params).lookup a).isNone) = true := by kernel_rfl!
  rw [Option.isNone_iff_eq_none.mp (List.all_eq_true.mp this a m)] at e
  cases e
theorem hns {a : Addr} {m : Str → Option Value} (ha : a ∉ hid) : h.Ns a m → (hideAll h hid).Ns a m := fun ⟨o, es, ep, e, r⟩ => ⟨o, es, ep, hideAll_get _ e ha, r⟩
def mkB (Y : YPh w h) (T : Top q l mean mg mb h) : Base where
  prog := pg
  w := w
  h₁ := hideAll h hid
  mg := mg
  mb := mb
  tabs := tb
  tabHd := by
    have k : (tb.all fun t => codeHdIn (kf w.params) t.c t.P) = true := by kernel_rfl!
    exact fun t ht => codeHd_of_K (kin Y) (List.all_eq_true.mp k t ht)
  C := 141
  g := hns (by decide) T.g
  b := hns (by decide) T.b
  bi := T.builtins
  lim := let ⟨mc, a, r⟩ := T.nolimit; ⟨mc, hns (by decide) a, r⟩
  bm := ⟨4, _, mg_of (kin Y) (hns (by decide) T.g) (by kernel_rfl!), by decide, by decide, kin Y 4 (boot_o_4 w.params) (by kernel_rfl!), by kernel_rfl!, by kernel_rfl!, by kernel_rfl!⟩
  free := fun x hx => mg_none_of (kin Y) (hns (by decide) T.g) (by
    have k : (([Str.ofString "len", Str.ofString "sum", Str.ofString "sorted", Str.ofString "range", Str.ofString "divmod", Str.ofString "abs", Str.ofString "reversed", Str.ofString "str", Str.ofString "super"] : List Str).map (nsIn (kf w.params) mainGlobals)) = List.replicate 9 (some none) := by kernel_rfl!
    exact List.eq_of_mem_replicate (k ▸ List.mem_map_of_mem hx))
end
end U14
end
noncomputable section
open PySem PySem.W PySem.Spec PySem.Calls PyProof.Rows U13
namespace U14
def fo (P : Params) (f : Addr) : FuncData := match (kf P).lookup f with | some ⟨_, _, .func fd, _⟩ => fd | _ => default
/-- what is looked at: a def of the top -/
abbrev TOk (P : Params) (x : Str) (f c : Addr) : Prop := ((kf P).lookup f, codeIn (kf P) (.ref c) x, (tD x).2.2.isCoroutine, (tD x).2.2.isGenerator, (tD x).2.2.kind, nsIn (kf P) mainGlobals x) = (some ⟨.type "function", none, .func (fD x (fo P f).pyModule (.ref c) .none), #[]⟩, true, false, false, .function, some (some (.ref f)))
abbrev MOk (P : Params) (x : Str) (cl : List (Str × Addr)) (dV ct : Value) (f c : Addr) : Prop := (findIn (kf P) (.ref 141) x, typeIn (kf P) (.ref f), (kf P).lookup f, codeIn (kf P) (.ref c) ("_Accumulator." ++ x), (cM x).2.2.isCoroutine, (cM x).2.2.isGenerator, (cM x).2.2.kind) = (some (some (.ref f)), some (.type "function"), some ⟨.type "function", none, .func (fM x cl dV .none .none (fo P f).pyModule none (.ref c) ct), #[]⟩, true, false, false, .function)
section
variable {w : World} {h : Heap} {mg mb : Str → Option Value} {mean : ExcName → Option Value} {q : Program} {l : List Str} {B : Base} {x : Str} {f c : Addr} {cl : List (Str × Addr)} {dV ct : Value}
theorem tf (X : (kf B.w.params).In B.h₁) (e : TOk B.w.params x f c) : TF B x f (.ref c) := by
  simp only [Prod.mk.injEq] at e
  obtain ⟨e1, e2, e3, e4, e5, e6⟩ := e
  exact ⟨_, .none, ⟨⟨rfl, rfl, rfl, e3, e4, e5⟩, ⟨_, X _ _ e1, rfl⟩, codeRec_of X e2⟩, mg_of X B.g e6⟩
theorem mf (X : (kf B.w.params).In B.h₁) (hC : B.C = 141) (e : MOk B.w.params x cl dV ct f c) : MFn B (kf B.w.params) x f (fM x cl dV .none .none (fo B.w.params f).pyModule none (.ref c) ct) (cM x).2.1 := by
  simp only [Prod.mk.injEq] at e
  obtain ⟨e0, e0', e1, e2, e3, e4, e5⟩ := e
  exact ⟨hC ▸ e0, e0', ⟨⟨rfl, rfl, rfl, e3, e4, e5⟩, ⟨_, X _ _ e1, rfl⟩, codeRec_of X e2⟩⟩
theorem tn (X : (kf B.w.params).In B.h₁) (hT : B.tabs = tb) {i : Nat} {q : Str} {P : Addr} (e : TOk B.w.params x f c) (m : tabI x i q c P ∈ tb) (u : ∀ t' ∈ tb, t'.P = P → t' = tabI x i q c P) : TN B x i q := ⟨f, c, P, tf X e, hT ▸ m, hT ▸ u⟩
theorem kinB (Y : YPh w h) (T : Top q l mean mg mb h) : (kf (mkB Y T).w.params).In (mkB Y T).h₁ := kin Y

theorem t28 (P : Params) : TOk P "_div2n1n" 28 27 := by delta TOk; kernel_rfl!
theorem t42 (P : Params) : TOk P "_int2digits" 42 41 := by delta TOk; kernel_rfl!
theorem t49 (P : Params) : TOk P "_digits2int" 49 48 := by delta TOk; kernel_rfl!
theorem t56 (P : Params) : TOk P "_divmod_pos" 56 55 := by delta TOk; kernel_rfl!
theorem t63 (P : Params) : TOk P "int_divmod" 63 62 := by delta TOk; kernel_rfl!
theorem t155 (P : Params) : TOk P "ISEOF" 155 154 := by delta TOk; kernel_rfl!
theorem t162 (P : Params) : TOk P "_law_common" 162 161 := by delta TOk; kernel_rfl!
theorem t169 (P : Params) : TOk P "_law_sign" 169 168 := by delta TOk; kernel_rfl!
theorem t174 (P : Params) : TOk P "_law_text" 174 173 := by delta TOk; kernel_rfl!
theorem t181 (P : Params) : TOk P "_law_spoil" 181 180 := by delta TOk; kernel_rfl!
theorem t188 (P : Params) : TOk P "_law_turn" 188 187 := by delta TOk; kernel_rfl!
theorem t193 (P : Params) : TOk P "_law_read" 193 192 := by delta TOk; kernel_rfl!
theorem t200 (P : Params) : TOk P "_law_meet" 200 199 := by delta TOk; kernel_rfl!
theorem t207 (P : Params) : TOk P "_law_half" 207 206 := by delta TOk; kernel_rfl!
theorem t212 (P : Params) : TOk P "law" 212 211 := by delta TOk; kernel_rfl!
theorem u80 (P : Params) : MOk P "__init__" [("__class__", 67)] (.ref 72) (.ref 73) 80 79 := by delta MOk; kernel_rfl!
theorem u87 (P : Params) : MOk P "push" [] .none .none 87 86 := by delta MOk; kernel_rfl!
theorem u95 (P : Params) : MOk P "pop_from" [] (.ref 88) .none 95 94 := by delta MOk; kernel_rfl!
theorem u109 (P : Params) : MOk P "__len__" [] .none .none 109 108 := by delta MOk; kernel_rfl!
theorem u116 (P : Params) : MOk P "__str__" [] .none .none 116 115 := by delta MOk; kernel_rfl!
theorem u124 (P : Params) : MOk P "reset" [] (.ref 117) .none 124 123 := by delta MOk; kernel_rfl!
theorem fnsA (Y : YPh w h) (T : Top q l mean mg mb h) : FnsA (mkB Y T) where
  div2 := ⟨28, _, tf (kinB Y T) (t28 _)⟩
  i2d := tn (kinB Y T) rfl (t42 _) (.head _) (fun t ht e => by
    rcases ht with _ | ⟨_, _ | ⟨_, _ | ⟨_, _ | ⟨_, ht⟩⟩⟩⟩
    · rfl
    · exact absurd e (by decide)
    · exact absurd e (by decide)
    · exact absurd e (by decide)
    · cases ht)
  d2i := tn (kinB Y T) rfl (t49 _) (.tail _ (.head _)) (fun t ht e => by
    rcases ht with _ | ⟨_, _ | ⟨_, _ | ⟨_, _ | ⟨_, ht⟩⟩⟩⟩
    · exact absurd e (by decide)
    · rfl
    · exact absurd e (by decide)
    · exact absurd e (by decide)
    · cases ht)
  dpos := ⟨56, _, tf (kinB Y T) (t56 _)⟩
  idiv := ⟨63, _, tf (kinB Y T) (t63 _)⟩
  lim := ⟨_, mg_of (kinB Y T) (mkB Y T).g (v := .int 4000 196) (by kernel_rfl!)⟩
end
end U14
end
noncomputable section
open PySem PySem.W PySem.Spec PySem.Calls PyProof.Rows U13
namespace U14
def esT (P : Params) : List DictEntry := match (kf P).lookup 146 with | some ⟨_, _, .dict es _, _⟩ => es.toList | _ => []
def ksT : Value → Str | .str x _ => x | _ => default
def ttT : Value → Nat | .str _ t => t | _ => 0
def gT (P : Params) (k : Str) : Option Value := findBy Value.isStrOf (esT P).toArray k
theorem esE (P : Params) : (esT P).map (fun e => de P (ksT e.key) (ttT e.key) e.val) = esT P := by kernel_rfl!
theorem gT1 (P : Params) : ((List.range 48).all fun i => match gT P (sg (7 + i)) with | some (.int j _) => j == 7 + (i : Int) | _ => false) = true := by kernel_rfl!
theorem gT2 (P : Params) : ((esT P).all fun e => !(ksT e.key).cps.toList.contains 32) = true := by kernel_rfl!
theorem gSg (P : Params) {n : Int} (h : 7 ≤ n) (h' : n < 55) : ∃ u, gT P (sg n) = some (.int n u) := by
  have k := List.all_eq_true.mp (gT1 P) (n - 7).toNat (List.mem_range.mpr (by omega))
  have e : (7 : Int) + ((n - 7).toNat : Nat) = n := by omega
  rw [e] at k
  cases q : gT P (sg n) with
  | none => rw [q] at k; cases k
  | some v =>
    rw [q] at k
    cases v with
    | int j t => rw [beq_iff_eq.mp (show (j == n) = true from k)]; exact ⟨_, rfl⟩
    | _ => cases k
theorem gBl (P : Params) {x : Str} (h : 32 ∈ x.cps) : gT P x = none := by
  unfold gT findBy
  rw [Option.map_eq_none_iff, ← Array.find?_toList, List.find?_eq_none]
  intro e he q
  have h1 := List.all_eq_true.mp (gT2 P) e he
  rw [show ksT e.key = x by cases hk : e.key with
    | str y t => rw [hk] at q; exact beq_iff_eq.mp q
    | _ => rw [hk] at q; cases q] at h1
  simp [Array.mem_toList_iff.mpr h] at h1
section
variable {w : World} {h : Heap} {mg mb : Str → Option Value} {mean : ExcName → Option Value} {q : Program} {l : List Str}
theorem tokT (Y : YPh w h) (T : Top q l mean mg mb h) : (mkB Y T).h₁.MapOf (strKind (mkB Y T).prog w) 146 (gT w.params) :=
  ⟨o146 w.params, (esT w.params).toArray, 48, kinB Y T 146 _ (by kernel_rfl!), ⟨by kernel_rfl!, by kernel_rfl!, by kernel_rfl!⟩, by kernel_rfl!, fun e he => by
    have := Array.mem_toList_iff.mpr he
    rw [← esE] at this
    obtain ⟨e', _, rfl⟩ := List.mem_map.mp this
    exact ⟨_, beq_self_eq_true _, rfl⟩, fun _ => rfl⟩
theorem rowF (P : Params) : RowF (kf P) 141 where
  cd := ⟨⟨"_Accumulator", [.type "list"], [.ref 141, .type "list", .type "object"], 140, "_Accumulator", true, [], [], false, none, false⟩, by kernel_rfl!, rfl, rfl⟩
  ga := by kernel_rfl!
  gt := by kernel_rfl!
  sq := by kernel_rfl!
  gi := by kernel_rfl!
  si := by kernel_rfl!
  it := by kernel_rfl!
  sa := by kernel_rfl!
  ap := by kernel_rfl!
  is := by kernel_rfl!
theorem rowMk (P : Params) : RowMk (kf P) 141 where
  obj := ⟨.type "type", none, ⟨"_Accumulator", [.type "list"], [.ref 141, .type "list", .type "object"], 140, "_Accumulator", true, [], [], false, none, false⟩, (match (kf P).lookup 141 with | some o => o.slots | _ => #[]), by kernel_rfl!, rfl, rfl, rfl, by kernel_rfl!⟩
  call := by kernel_rfl!
  typ := by kernel_rfl!
theorem dfl (Y : YPh w h) (T : Top q l mean mg mb h) {a : Addr} {d : Value} (e : (kf w.params).lookup a = some ⟨.type "tuple", none, .seq #[d] 0, #[]⟩) : Dfl (mkB Y T) (.ref a) d := ⟨a, _, 0, rfl, kinB Y T a _ e, rfl⟩
theorem fnsB (Y : YPh w h) (T : Top q l mean mg mb h) : FnsB (mkB Y T) (kf w.params) where
  A := fnsA Y T
  fn := List.forall_mem_cons.mpr ⟨⟨_, _, tf (kinB Y T) (t162 _)⟩, List.forall_mem_cons.mpr ⟨⟨_, _, tf (kinB Y T) (t169 _)⟩, List.forall_mem_cons.mpr ⟨⟨_, _, tf (kinB Y T) (t174 _)⟩, List.forall_mem_cons.mpr ⟨⟨_, _, tf (kinB Y T) (t181 _)⟩, List.forall_mem_cons.mpr ⟨⟨_, _, tf (kinB Y T) (t188 _)⟩, List.forall_mem_cons.mpr ⟨⟨_, _, tf (kinB Y T) (t193 _)⟩, List.forall_mem_cons.mpr ⟨⟨_, _, tf (kinB Y T) (t200 _)⟩, List.forall_mem_cons.mpr ⟨⟨_, _, tf (kinB Y T) (t207 _)⟩, List.forall_mem_cons.mpr ⟨⟨_, _, tf (kinB Y T) (t155 _)⟩, fun _ h => nomatch h⟩⟩⟩⟩⟩⟩⟩⟩⟩
  endm := ⟨_, mg_of (kinB Y T) (mkB Y T).g (v := .int 0 376) (by kernel_rfl!)⟩
  est := ⟨_, mg_of (kinB Y T) (mkB Y T).g (v := .str "" 278) (by kernel_rfl!)⟩
  T := ⟨kinB Y T, rowF _⟩
  push := ⟨_, _, _, _, _, _, _, mf (kinB Y T) rfl (u87 _)⟩
  pop := ⟨_, _, _, _, _, _, _, _, 311, mf (kinB Y T) rfl (u95 _), dfl Y T (by kernel_rfl!)⟩
  reset := ⟨_, _, _, _, _, _, _, _, mf (kinB Y T) rfl (u124 _), dfl Y T (by kernel_rfl!)⟩
  len := ⟨_, _, _, _, _, _, _, 104, mf (kinB Y T) rfl (u109 _), .tail _ (.tail _ (.head _)), fun t ht e => by
    rcases ht with _ | ⟨_, _ | ⟨_, _ | ⟨_, _ | ⟨_, ht⟩⟩⟩⟩
    · exact absurd e (by decide)
    · exact absurd e (by decide)
    · rfl
    · exact absurd e (by decide)
    · cases ht⟩
  str := ⟨_, _, _, _, _, _, _, 111, mf (kinB Y T) rfl (u116 _), .tail _ (.tail _ (.tail _ (.head _))), fun t ht e => by
    rcases ht with _ | ⟨_, _ | ⟨_, _ | ⟨_, _ | ⟨_, ht⟩⟩⟩⟩
    · exact absurd e (by decide)
    · exact absurd e (by decide)
    · exact absurd e (by decide)
    · rfl
    · cases ht⟩
  mkr := rowMk _
  init := ⟨80, 67, _, _, _, _, _, _, 79, (mf (kinB Y T) rfl (u80 _)).at_, (mf (kinB Y T) rfl (u80 _)).ty, (mf (kinB Y T) rfl (u80 _)).fn, ⟨.int 0 292, dfl Y T (by kernel_rfl!)⟩, ⟨_, kinB Y T 67 ⟨.type "cell", none, .cell (some (.ref 141)), #[]⟩ (by kernel_rfl!), rfl⟩, ⟨_, (match o79.data with | .fields vs => vs | _ => #[]), "/claim/cut.py", 295, kinB Y T 79 o79 (by kernel_rfl!), by kernel_rfl!, by kernel_rfl!, by kernel_rfl!⟩, by kernel_rfl!⟩
  no := by kernel_rfl!
  keep := by kernel_rfl!
  cls := mg_of (kinB Y T) (mkB Y T).g (by kernel_rfl!)
  tok := ⟨146, gT w.params, mg_of (kinB Y T) (mkB Y T).g (by kernel_rfl!), tokT Y T, by decide, fun n h1 h2 => gSg _ h1 h2, fun x hx => gBl _ hx⟩
end
end U14
end
noncomputable section
open PySem PySem.W PySem.Spec PySem.Calls PyProof.Rows U13
namespace U14
theorem int_of {d : WData} (h : WShape.has [] d .int = true) : ∃ i, d = .int i := by
  cases d with
  | int i => exact ⟨i, rfl⟩
  | _ => exact absurd (show false = true from h) Bool.false_ne_true
theorem ints_of : ∀ {ds : List WData}, WShape.hasItems [] ds .int = true → ∃ xs : List Int, ds = xs.map .int
  | [], _ => ⟨[], rfl⟩
  | d :: r, h => by
    obtain ⟨h1, h2⟩ := Bool.and_eq_true_iff.mp (show (WShape.has [] d .int && WShape.hasItems [] r .int) = true from h)
    obtain ⟨i, rfl⟩ := int_of h1
    obtain ⟨xs, rfl⟩ := ints_of h2
    exact ⟨i :: xs, rfl⟩
theorem args_of {args : List WData} (h : rr.toRowW.claim.pre args = true) : ∃ xs : List Int, args = [.list (xs.map .int)] ∧ xs.length ≤ 63 := by
  obtain ⟨h1, h2⟩ := pre_splitW h
  obtain ⟨d, r, rfl, h3, h4⟩ := hasAllW_cons h1
  obtain rfl := hasAllW_nil h4
  cases d with
  | list ds =>
    obtain ⟨xs, rfl⟩ := ints_of (show WShape.hasItems [] ds .int = true by simpa [WShape.has, WShape.arms] using (show WShape.has [] (.list ds) (.list .int) = true from h3))
    refine ⟨xs, rfl, Nat.le_of_not_lt fun hl => ?_⟩
    have h5 : (WTm.and (.not (.lt (.lit (.int 63)) (.len (.arg 0)))) (.lit (.bool true))).holds [] { args := [.list (xs.map .int)] } = true := h2
    have e : W.less? (.int 63) (.int ((xs.map WData.int).length : Nat)) = some true := by
      show some (decide _) = _
      rw [List.length_map]; exact congrArg some (decide_eq_true (by omega))
    have e2 : WTm.value [] (.and (.not (.lt (.lit (.int 63)) (.len (.arg 0)))) (.lit (.bool true))) { args := [.list (xs.map .int)] } = some (.bool false) := by
      show (match (match (W.less? (.int 63) (.int ((xs.map WData.int).length : Nat))).map WData.bool with | some (.bool b) => some (WData.bool !b) | _ => none) with | some (.bool false) => some (WData.bool false) | some (.bool true) => _ | _ => none) = _
      rw [e]; rfl
    unfold WTm.holds at h5
    rw [e2] at h5
    cases h5
  | _ => exact absurd (show false = true from h3) Bool.false_ne_true
theorem vrs_of {X : Addr → Prop} {h : Heap} {cl : Str → Option Addr} : ∀ {xs : List Int} {vs : List Value} {as : List Addr}, ReadsAllW [] cl h vs (xs.map .int) as → VRs X h (xs.map .int) vs
  | [], _, _, r => (readsAllW_nil_inv r).1
  | x :: xs, _, _, r => by
    obtain ⟨v, vs, _, _, rfl, _, r1, r2⟩ := readsAllW_cons_inv r
    obtain ⟨t, rfl, _⟩ := readsW_int_inv r1
    exact ⟨_, _, rfl, ⟨t, rfl⟩, vrs_of r2⟩
theorem tbs (P : Params) : (tb.map fun t => (hp P).get? t.P) = List.replicate 4 (some (tabObj #[])) := by kernel_rfl!
theorem tb_at {P : Params} {t : TabD} (h : t ∈ tb) : (hp P).get? t.P = some (tabObj #[]) := List.eq_of_mem_replicate (tbs P ▸ List.mem_map_of_mem (f := fun t : TabD => (hp P).get? t.P) h)
theorem hidE : tb.map (·.P) = hid := by kernel_rfl!
section
variable {w : World} {s : Shared} {mg mb : Str → Option Value} {mean : ExcName → Option Value} {q : Program} {l : List Str}
theorem inv0 (Y : YPh w s.heap) (T : Top q l mean mg mb s.heap) (hg : s.gens = #[]) : Inv (mkB Y T) (mkB Y T).tw .none s.heap s.gens where
  base := fun b o e => of_hideAll _ e
  mu := trivial
  tab := fun t ht => ⟨#[], Y _ _ (tb_at ht), .inl rfl⟩
  wr := fun a ha => ha.elim (fun z => z.elim) fun ⟨t, ht, e⟩ => ⟨⟨t, ht, e⟩, hideAll_none _ (by rw [← hidE, ← e]; exact List.mem_map_of_mem (f := (·.P)) ht), _, e ▸ Y _ _ (tb_at ht)⟩
  gens := .of_eq hg
  ex := fun a ⟨t, ht, e⟩ => ⟨_, e ▸ Y _ _ (tb_at ht)⟩
  ot := fun a z => z.elim
theorem walk (HL : ∀ (P : Params) (xs : List Int), xs.length ≤ 63 → ∃ ns ms M a5 a6 lim dr p1 p2 k1 k2 cnt b1 b2 once tw tu s st k hi lo ba fa N t r, LawF xs ns ms M a5 a6 lim dr p1 p2 k1 k2 cnt b1 b2 once tw tu s st k hi lo ba fa N t r (gT P)) :
    WalkO qv lo (fun _ _ => True) YPh rr.toRowW ⟨Str.ofString "law", (fp st73).1, (fp st73).2.1, (fp st73).2.2, q5⟩ [] fun f vs => PySem.call f vs := by
  intro w s₀ s₁ mg mb G Y a o pm cd doc dV kV ho hd hcd hD hmg hg args vals as hpre hlay hrd hwl hlo
  obtain ⟨xs, rfl, hx⟩ := args_of hpre
  obtain ⟨ns, ms, M, a5, a6, lim, dr, p1, p2, k1, k2, cnt, b1, b2, once, tw, tu, s, st, k, hi, lo', ba, fa, N, t, r, H⟩ := HL w.params xs hx
  have T := G.T
  obtain ⟨pm', doc', D, m⟩ := tf (kinB Y T) (t212 _)
  have ea : (.ref a : Value) = .ref 212 := Option.some.inj (hmg.symm.trans m)
  rw [ea]
  have C := lawRun D (fnsB Y T) H ⟨146, mg_of (kinB Y T) (mkB Y T).g (by kernel_rfl!), tokT Y T, by decide⟩ (by omega)
  obtain ⟨v, vs, _, _, rfl, _, r1, r2⟩ := readsAllW_cons_inv hrd
  obtain ⟨rfl, _⟩ := readsAllW_nil_inv r2
  obtain ⟨la, its, _, rfl, hl, r3, _⟩ := readsW_list_inv r1
  have nx : ¬ (mkB Y T).tw la := fun ⟨t, ht, e⟩ => by
    obtain ⟨o', h1, h2, _⟩ := hl
    rw [← e, Y _ _ (tb_at ht)] at h1
    cases h1; cases h2
  refine wpAny_mono (C callerA (mkB Y T).tw s₁ _ rfl (by decide +kernel) (by decide +kernel) (inv0 Y T hg) ⟨_, _, rfl, ⟨la, its.toList, rfl, nx, by simpa using hl, vrs_of r3⟩, rfl⟩) (fun v' s' ⟨kp, os, I, r⟩ => ?_) fun _ _ z => z.elim
  cases (show v' = .bool true from r)
  have grown : ∀ b, b ∈ hid → ∃ ps, s'.heap.get? b = some (tabObj ps) := fun b hb => by
    rw [← hidE] at hb
    obtain ⟨t, ht, rfl⟩ := List.mem_map.mp hb
    obtain ⟨ps, h, _⟩ := I.tab t ht
    exact ⟨ps, h⟩
  have keep : ∀ b o, b ∉ hid → s₁.heap.get? b = some o → s'.heap.get? b = some o := fun b o hb e => kp b o (fun z => z.elim (fun z => z.elim) fun ⟨t, ht, e⟩ => hb (by rw [← hidE, ← e]; exact List.mem_map_of_mem (f := (·.P)) ht)) e
  refine ⟨.inl ⟨_, .bool true, [], rfl, fun _ => rfl, .bool true, by kernel_rfl!, fun _ => ⟨List.nodup_nil, fun _ h => nomatch h⟩⟩, ⟨fun b o e => ?_, fun b o e => ?_⟩, os, I.gens⟩
  · by_cases hb : b ∈ hid
    · obtain ⟨ps, hP⟩ := grown b hb
      rw [← hidE] at hb
      obtain ⟨t, ht, rfl⟩ := List.mem_map.mp hb
      have e2 := Y _ _ (tb_at ht)
      have e3 := e2
      rw [e] at e2
      cases e2
      obtain ⟨oc, vs, f, tf', fl, tg, inF, tx, tt, c1, c2, c3, c4, _⟩ := (mkB Y T).tabHd t ht
      exact .inr (.inl ⟨⟨t.c, oc, vs, of_hideAll _ c1, c2, c3, c4⟩, rfl, #[], ps, rfl, by rw [Array.empty_append]; exact hP⟩)
    · exact .inl (keep b o hb e)
  · by_cases hb : b ∈ hid
    · obtain ⟨ps, hP⟩ := grown b hb; exact ⟨_, hP⟩
    · exact ⟨o, keep b o hb e⟩
end
end U14
end
theorem PySem.Challenge.cw_ul0013_01_holds : PySem.Challenge.rw_ul0013_01.Holds := by
  exact U14.fin (U14.walk fun P xs _ => U13.lawF (fun n h1 h2 => U14.gSg P h1 h2) (fun x hx => U14.gBl P hx) xs)
