import PyProof.Rows.All
import Wide.All
import OpenK.AllK
import Wide.FinOn
import PySem.Challenge.RW_rw0026_01
open PySem PyProof.Rows
set_option Elab.async false
set_option maxRecDepth 100000
set_option tactic.hygienic false
set_option genSizeOf false
set_option linter.all false

namespace Mine

inductive D where
  | int (i : Int)
  | str (s : Str)
  | bool (b : Bool)
  | none
  | ref (a : Addr)
  | list (l : List D)

mutual
inductive Den (X : List Addr) (h : Heap) : Value → D → Prop
  | int {i t} : Den X h (.int i t) (.int i)
  | str {s t} : Den X h (.str s t) (.str s)
  | bool {b} : Den X h (.bool b) (.bool b)
  | none : Den X h .none .none
  | ref {a} : Den X h (.ref a) (.ref a)
  | list {a vs l} : a ∉ X → h.IsList a (List.toArray vs) → Dens X h vs l → Den X h (.ref a) (.list l)
inductive Dens (X : List Addr) (h : Heap) : List Value → List D → Prop
  | nil : Dens X h [] []
  | cons {v vs d ds} : Den X h v d → Dens X h vs ds → Dens X h (v :: vs) (d :: ds)
end

/- everything but Y is kept -/
noncomputable def GB (Y : List Addr) (h h' : Heap) : Prop := ∀ b o, b ∉ Y → h.get? b = some o → h'.get? b = some o
theorem GB.refl {Y h} : GB Y h h := fun _ _ _ e => e
theorem GB.trans {Y h h₁ h₂} (x : GB Y h h₁) (y : GB Y h₁ h₂) : GB Y h h₂ := fun b o hb e => y b o hb (x b o hb e)
theorem GB.mono {Y Y' h h'} (x : GB Y h h') (hs : ∀ a ∈ Y, a ∈ Y') : GB Y' h h' := fun b o hb e => x b o (fun m => hb (hs b m)) e
theorem GB.same {Y : List Addr} {h h' : Heap} {a : Addr} (x : Heap.SameBut a h h') (ha : a ∈ Y) : GB Y h h' := fun b o hb e => (x.2 b (fun q => hb (q ▸ ha))).trans e
theorem GB.push {h : Heap} {Y} (o : Obj) : GB Y h (h.push o) := fun _ _ _ e => Heap.get?_push_of_some o e
theorem GB.list {Y : List Addr} {h h' : Heap} {a its} (x : GB Y h h') (ha : a ∉ Y) (hl : h.IsList a its) : h'.IsList a its := by obtain ⟨o, ho, r⟩ := hl; exact ⟨o, x a o ha ho, r⟩

theorem Den.mapp {X X' : List Addr} {h h' : Heap} (k : ∀ a vs, a ∉ X → h.IsList a vs → a ∉ X' ∧ h'.IsList a vs) {v d} (x : Den X h v d) : Den X' h' v d :=
  Den.rec (motive_1 := fun v d _ => Den X' h' v d) (motive_2 := fun vs ds _ => Dens X' h' vs ds) .int .str .bool .none .ref (fun ha hl _ ih => .list (k _ _ ha hl).1 (k _ _ ha hl).2 ih) .nil (fun _ _ i j => .cons i j) x
theorem Dens.mapp {X X' : List Addr} {h h' : Heap} (k : ∀ a vs, a ∉ X → h.IsList a vs → a ∉ X' ∧ h'.IsList a vs) {v d} (x : Dens X h v d) : Dens X' h' v d :=
  Dens.rec (motive_1 := fun v d _ => Den X' h' v d) (motive_2 := fun vs ds _ => Dens X' h' vs ds) .int .str .bool .none .ref (fun ha hl _ ih => .list (k _ _ ha hl).1 (k _ _ ha hl).2 ih) .nil (fun _ _ i j => .cons i j) x
theorem gb_step {X Y : List Addr} {h h' : Heap} (hs : ∀ a ∈ Y, a ∈ X) (g : GB Y h h') (a : Addr) (vs : Array Value) (ha : a ∉ X) (hl : h.IsList a vs) : a ∉ X ∧ h'.IsList a vs := ⟨ha, g.list (fun m => ha (hs _ m)) hl⟩
theorem avoid_step {X X' : List Addr} {h : Heap} (hs : ∀ a ∈ X', a ∈ X ∨ h.get? a = none) (a : Addr) (vs : Array Value) (ha : a ∉ X) (hl : h.IsList a vs) : a ∉ X' ∧ h.IsList a vs := ⟨fun m => (hs _ m).elim ha fun e => (by obtain ⟨o, ho, _⟩ := hl; rw [e] at ho; cases ho), hl⟩
theorem Den.gb {X Y : List Addr} {h h' : Heap} (hs : ∀ a ∈ Y, a ∈ X) (g : GB Y h h') {v d} (x : Den X h v d) : Den X h' v d := x.mapp (gb_step hs g)
theorem Dens.gb {X Y : List Addr} {h h' : Heap} (hs : ∀ a ∈ Y, a ∈ X) (g : GB Y h h') {v d} (x : Dens X h v d) : Dens X h' v d := x.mapp (gb_step hs g)
theorem Den.avoid {X X' : List Addr} {h : Heap} (hs : ∀ a ∈ X', a ∈ X ∨ h.get? a = Option.none) {v d} (x : Den X h v d) : Den X' h v d := x.mapp (avoid_step hs)
theorem Dens.avoid {X X' : List Addr} {h : Heap} (hs : ∀ a ∈ X', a ∈ X ∨ h.get? a = none) {v d} (x : Dens X h v d) : Dens X' h v d := x.mapp (avoid_step hs)
theorem Den.grow {X : List Addr} {h h' : Heap} (g : GB [] h h') {v d} (x : Den X h v d) : Den X h' v d := Den.gb (Y := []) (fun _ m => nomatch m) g x
theorem Dens.grow {X : List Addr} {h h' : Heap} (g : GB [] h h') {v d} (x : Dens X h v d) : Dens X h' v d := Dens.gb (Y := []) (fun _ m => nomatch m) g x
theorem Dens.nil_of {X h ds} (x : Dens X h [] ds) : ds = [] := by cases x; rfl
theorem Dens.cons_of {X h v vs ds} (x : Dens X h (v :: vs) ds) : ∃ e es, ds = e :: es ∧ Den X h v e ∧ Dens X h vs es := by
  cases x with
  | cons a b => exact ⟨_, _, rfl, a, b⟩
theorem Dens.length {X h} {vs ds} (x : Dens X h vs ds) : vs.length = ds.length := by
  induction vs generalizing ds with
  | nil => rw [x.nil_of]; rfl
  | cons v vs ih =>
    obtain ⟨e, es, rfl, _, b⟩ := x.cons_of
    exact congrArg (· + 1) (ih b)
theorem Dens.get {X h} {vs ds} (x : Dens X h vs ds) {i : Nat} {d : D} (q : ds[i]? = some d) : ∃ v, vs[i]? = some v ∧ Den X h v d := by
  induction vs generalizing ds i with
  | nil => rw [x.nil_of] at q; cases q
  | cons v vs ih =>
    obtain ⟨e, es, rfl, a, b⟩ := x.cons_of
    cases i with
    | zero => cases q; exact ⟨v, rfl, a⟩
    | succ i => exact ih b (i := i) q
theorem Dens.append {X h} {vs ds us es} (x : Dens X h vs ds) (y : Dens X h us es) : Dens X h (vs ++ us) (ds ++ es) := by
  induction vs generalizing ds with
  | nil => rw [x.nil_of]; exact y
  | cons v vs ih =>
    obtain ⟨e, es, rfl, a, b⟩ := x.cons_of
    exact .cons a (ih b)
theorem Dens.ints {X h} {vs ds} (x : Dens X h vs ds) {ns : List Int} (q : ds = ns.map D.int) : IntsAre vs ns := by
  induction vs generalizing ds ns with
  | nil =>
    rw [x.nil_of] at q
    cases ns with
    | nil => exact .nil
    | cons => cases q
  | cons v vs ih =>
    obtain ⟨e, es, rfl, a, b⟩ := x.cons_of
    cases ns with
    | nil => cases q
    | cons n ns =>
      injection q with q1 q2
      subst q1
      cases a
      exact .cons _ _ (ih b q2)
theorem Dens.of_ints {X h} {vs ns} (x : IntsAre vs ns) : Dens X h vs (ns.map D.int) := by
  induction x with
  | nil => exact .nil
  | cons a t r ih => exact .cons .int ih

/- a list object o, and what its items stand for -/
structure LD (X : List Addr) (h : Heap) (o : Obj) (vs : List Value) (l : List D) : Prop where
  obj : ∃ n, o = { cls := .type "list", data := .seq (List.toArray vs) n }
  dens : Dens X h vs l
theorem LD.gb {X Y : List Addr} {h h' : Heap} {o vs l} (x : LD X h o vs l) (hs : ∀ a ∈ Y, a ∈ X) (g : GB Y h h') : LD X h' o vs l := ⟨x.obj, x.dens.gb hs g⟩
theorem LD.grow {X : List Addr} {h h' : Heap} {o vs l} (x : LD X h o vs l) (g : GB [] h h') : LD X h' o vs l := ⟨x.obj, x.dens.grow g⟩
theorem LD.avoid {X X' : List Addr} {h : Heap} {o vs l} (x : LD X h o vs l) (hs : ∀ a ∈ X', a ∈ X ∨ h.get? a = none) : LD X' h o vs l := ⟨x.obj, x.dens.avoid hs⟩
theorem LD.isList {X : List Addr} {h : Heap} {a o vs l} (x : LD X h o vs l) (e : h.get? a = some o) : h.IsList a (List.toArray vs) := by obtain ⟨n, rfl⟩ := x.obj; exact ⟨_, e, rfl, n, rfl⟩

/- a pure step: only new objects -/
structure Le (s s' : Shared) : Prop where
  heap : GB [] s.heap s'.heap
  os : s'.os = s.os
  gens : AllBare s.gens → AllBare s'.gens
theorem Le.refl {s} : Le s s := ⟨.refl, rfl, id⟩
theorem Le.trans {s s₁ s₂} (x : Le s s₁) (y : Le s₁ s₂) : Le s s₂ := ⟨x.heap.trans y.heap, y.os.trans x.os, fun g => y.gens (x.gens g)⟩
theorem Le.toks {s : Shared} (t : Nat) : Le s { s with toks := t } := ⟨.refl, rfl, id⟩
theorem Le.of {s : Shared} {h' : Heap} {t : Nat} (g : GB [] s.heap h') : Le s { s with heap := h', toks := t } := ⟨g, rfl, id⟩
theorem Le.push {s : Shared} (o : Obj) : Le s { s with heap := s.heap.push o } := ⟨GB.push o, rfl, id⟩

/- room below: nested calls and units -/
structure Good (k : Nat) (A : Around) : Prop where
  handled : A.handled = none
  depth : A.depth + k < recursionLimit
  units : A.units + 8 * k < cLine
theorem Good.less {k k' A} (g : Good k A) (h : k' ≤ k) : Good k' A := ⟨g.1, by have := g.2; lia, by have := g.3; lia⟩
theorem Good.deeper {k A} (g : Good (k + 1) A) (env : Env) : Good k (A.deeper env) := ⟨g.1, by have := g.2; show A.depth + 1 + k < _; lia, by have := g.3; show A.units + 3 + 8 * k < _; lia⟩
theorem Good.in1 {k A} (g : Good (k + 1) A) : Good k A.in1 := ⟨g.1, by have := g.2; show A.depth + k < _; lia, by have := g.3; show A.units + 1 + 8 * k < _; lia⟩

noncomputable abbrev Rho := Str → Option D
noncomputable def upd (ρ : Rho) (x : Str) (d : D) : Rho := fun y => if y = x then some d else ρ y

noncomputable def CellAt (h : Heap) (c : Addr) (v : Option Value) : Prop := ∃ o, h.get? c = some o ∧ o.data = .cell v

/- a part of the heap that has a word of its own (its objects stand at F) -/
structure Ext where
  F : List Addr
  P : Heap → Prop
  st : ∀ h h', P h → (∀ b ∈ F, ∀ o, h.get? b = some o → h'.get? b = some o) → P h'
noncomputable def Ext.nil : Ext := ⟨[], fun _ => True, fun _ _ _ _ => trivial⟩

/- the frame's state as data: names, lists of its own that it may still change, a part with a word of its own -/
structure Fs where
  ρ : Rho
  own : Addr → Option (List D)
  ext : Ext
noncomputable def Fs.set (f : Fs) (x : Str) (d : D) : Fs := { f with ρ := upd f.ρ x d }
noncomputable def Fs.put (f : Fs) (a : Addr) (l : Option (List D)) : Fs := { f with own := fun b => if b = a then l else f.own b }

structure St (s₀ : Shared) (hb : Heap) (X Y : List Addr) (env : Env) (f : Fs) (s : Shared) : Prop where
  keep : GB [] s₀.heap s.heap
  os : s.os = s₀.os
  gens : AllBare s.gens
  gb : GB Y hb s.heap
  new : ∀ a ∈ Y, s₀.heap.get? a = none
  sub : ∀ a ∈ Y, a ∈ X
  dom : ∀ a ∈ X, ∃ o, s.heap.get? a = some o
  locY : env.locals ∈ Y
  cdom : ∀ p ∈ env.cells, ∃ u, CellAt s.heap p.2 u
  ns : ∃ m, s.heap.Ns env.locals m ∧ ∀ x d, f.ρ x = some d → env.kindOf x = some .local → ∃ v, m x = some v ∧ Den X s.heap v d
  cell : ∀ x d, f.ρ x = some d → (env.kindOf x = some .cell ∨ env.kindOf x = some .free) → ∃ c v, env.cells.lookup x = some c ∧ CellAt s.heap c (some v) ∧ Den X s.heap v d
  own : ∀ a l, f.own a = some l → a ∈ Y ∧ a ≠ env.locals ∧ (∀ p ∈ env.cells, p.2 ≠ a) ∧ a ∉ f.ext.F ∧ ∃ vs n, s.heap.get? a = some n ∧ LD X s.heap n vs l
  ext : f.ext.P s.heap ∧ (∀ a ∈ f.ext.F, a ∈ Y ∧ a ≠ env.locals ∧ ∀ p ∈ env.cells, p.2 ≠ a)

theorem GB.ns {Y : List Addr} {h h' : Heap} {a m} (x : GB Y h h') (ha : a ∉ Y) (hn : h.Ns a m) : h'.Ns a m := by obtain ⟨o, es, ep, e, r⟩ := hn; exact ⟨o, es, ep, x a o ha e, r⟩
theorem GB.cellAt {Y : List Addr} {h h' : Heap} {a v} (x : GB Y h h') (ha : a ∉ Y) (hn : CellAt h a v) : CellAt h' a v := by obtain ⟨o, e, r⟩ := hn; exact ⟨o, x a o ha e, r⟩
theorem nil_mem {α : Type} {a : α} : a ∉ ([] : List α) := fun h => nomatch h
theorem GB.one {h h' : Heap} {a b : Addr} {o : Obj} (g : GB [a] h h') (hn : b ≠ a) (e : h.get? b = some o) : h'.get? b = some o := g b o (fun m => hn (List.mem_singleton.mp m)) e

theorem mem_of_lookup {α : Type} {x : Str} {c : α} : ∀ {l : List (Str × α)}, l.lookup x = some c → (x, c) ∈ l
  | (y, d) :: r, h => by
    rw [List.lookup_cons] at h
    by_cases e : (x == y) = true
    · rw [e] at h
      have : x = y := by simpa using e
      cases h; subst this; exact .head _
    · simp only [e] at h
      exact .tail _ (mem_of_lookup h)

section
variable {s₀ : Shared} {hb : Heap} {X Y : List Addr} {env : Env} {f : Fs} {s s' : Shared}

theorem St.le (S : St s₀ hb X Y env f s) (l : Le s s') : St s₀ hb X Y env f s' where
  keep := S.keep.trans l.heap
  os := l.os.trans S.os
  gens := l.gens S.gens
  gb := S.gb.trans (l.heap.mono fun _ m => nomatch m)
  new := S.new
  sub := S.sub
  dom := fun a ha => by obtain ⟨o, e⟩ := S.dom a ha; exact ⟨o, l.heap a o nil_mem e⟩
  locY := S.locY
  cdom := fun p hp => by obtain ⟨u, e⟩ := S.cdom p hp; exact ⟨u, l.heap.cellAt nil_mem e⟩
  ns := by obtain ⟨m, hn, hm⟩ := S.ns; exact ⟨m, l.heap.ns nil_mem hn, fun x d hx hk => by obtain ⟨v, e, hd⟩ := hm x d hx hk; exact ⟨v, e, hd.grow l.heap⟩⟩
  cell := fun x d hx hk => by obtain ⟨c, v, e, hc, hd⟩ := S.cell x d hx hk; exact ⟨c, v, e, l.heap.cellAt nil_mem hc, hd.grow l.heap⟩
  own := fun a l' h => by obtain ⟨h1, h2, h3, h4, vs, n, h5, h6⟩ := S.own a l' h; exact ⟨h1, h2, h3, h4, vs, n, l.heap a _ nil_mem h5, h6.grow l.heap⟩
  ext := ⟨f.ext.st _ _ S.ext.1 fun b _ o e => l.heap b o nil_mem e, S.ext.2⟩

/- rebase -/
theorem St.rebase (S : St s₀ hb X Y env f s) : St s₀ s.heap X Y env f s := { S with gb := .refl }
theorem St.unbase {h₁ : Heap} (S : St s₀ h₁ X Y env f s) (g : GB Y hb h₁) : St s₀ hb X Y env f s := { S with gb := g.trans S.gb }

/- a new watched address -/
theorem St.watch {a : Addr} (S : St s₀ hb X Y env f s) (hn : s.heap.get? a = none) (l : Le s s') (he : ∃ o, s'.heap.get? a = some o) : St s₀ hb (a :: X) Y env f s' :=
  have hav : ∀ b ∈ a :: X, b ∈ X ∨ s.heap.get? b = none := fun b hb => by
    rcases List.mem_cons.mp hb with rfl | h
    · exact .inr hn
    · exact .inl h
  have T := S.le l
  { keep := T.keep, os := T.os, gens := T.gens, gb := T.gb, new := T.new, sub := fun b hb => .tail _ (T.sub b hb)
    dom := fun b hb => by
      rcases List.mem_cons.mp hb with rfl | h
      · exact he
      · exact T.dom b h
    locY := T.locY, cdom := T.cdom
    ns := by obtain ⟨m, hm, hv⟩ := S.ns; exact ⟨m, l.heap.ns nil_mem hm, fun x d hx hk => by obtain ⟨v, e, hd⟩ := hv x d hx hk; exact ⟨v, e, (hd.avoid hav).grow l.heap⟩⟩
    cell := fun x d hx hk => by obtain ⟨c, v, e, hc, hd⟩ := S.cell x d hx hk; exact ⟨c, v, e, l.heap.cellAt nil_mem hc, (hd.avoid hav).grow l.heap⟩
    own := fun a l' h => by obtain ⟨h1, h2, h3, h4, vs, n, h5, h6⟩ := S.own a l' h; exact ⟨h1, h2, h3, h4, vs, n, l.heap a _ nil_mem h5, (h6.avoid hav).grow l.heap⟩
    ext := T.ext }

theorem St.notX (S : St s₀ hb X Y env f s) {a : Addr} (h : s.heap.get? a = none) : a ∉ X := fun m => by obtain ⟨o, e⟩ := S.dom a m; rw [h] at e; cases e
theorem St.notY (S : St s₀ hb X Y env f s) {a : Addr} (h : s.heap.get? a = none) : a ∉ Y := fun m => S.notX h (S.sub a m)
theorem St.none0 (S : St s₀ hb X Y env f s) {a : Addr} (h : s.heap.get? a = none) : s₀.heap.get? a = none := by
  cases e : s₀.heap.get? a with
  | none => rfl
  | some o => rw [S.keep a o nil_mem e] at h; cases h
theorem St.noneb (S : St s₀ hb X Y env f s) {a : Addr} (h : s.heap.get? a = none) : hb.get? a = none := by
  cases e : hb.get? a with
  | none => rfl
  | some o => rw [S.gb a o (S.notY h) e] at h; cases h
theorem St.cne (S : St s₀ hb X Y env f s) {a : Addr} (h : s.heap.get? a = none) : ∀ p ∈ env.cells, p.2 ≠ a := fun p hp e => by obtain ⟨_, o, q, _⟩ := S.cdom p hp; rw [e, h] at q; cases q

/- one address turns: what stays of the frame -/
theorem St.turn {X' : List Addr} {c : Addr} {h' : Heap} {tk : Nat} (S : St s₀ hb X Y env f s) (hcX : c ∈ X) (h0 : s₀.heap.get? c = none) (hb0 : hb.get? c = none ∨ c ∈ Y) (g : GB [c] s.heap h')
    (hX' : ∀ a ∈ X', a ∈ X ∧ (a = c → ∃ o, h'.get? a = some o)) (hYX : ∀ a ∈ Y, a ∈ X') (f' : Fs)
    (hcell : ∀ p ∈ env.cells, p.2 = c → ∃ u, CellAt h' p.2 u)
    (ns : ∃ m, h'.Ns env.locals m ∧ ∀ x d, f'.ρ x = some d → env.kindOf x = some .local → ∃ v, m x = some v ∧ Den X' h' v d)
    (cell : ∀ x d, f'.ρ x = some d → (env.kindOf x = some .cell ∨ env.kindOf x = some .free) → ∃ c v, env.cells.lookup x = some c ∧ CellAt h' c (some v) ∧ Den X' h' v d)
    (own : ∀ a l, f'.own a = some l → a ∈ Y ∧ a ≠ env.locals ∧ (∀ p ∈ env.cells, p.2 ≠ a) ∧ a ∉ f'.ext.F ∧ ∃ vs n, h'.get? a = some n ∧ LD X' h' n vs l)
    (ext : f'.ext.P h' ∧ (∀ a ∈ f'.ext.F, a ∈ Y ∧ a ≠ env.locals ∧ ∀ p ∈ env.cells, p.2 ≠ a)) : St s₀ hb X' Y env f' { s with heap := h', toks := tk } where
  keep := fun b o _ e => g.one (fun q => by subst q; rw [h0] at e; cases e) (S.keep b o nil_mem e)
  os := S.os
  gens := S.gens
  gb := fun b o hY e => g.one (fun q => by subst q; rcases hb0 with hb0 | hb0; (rw [hb0] at e; cases e); exact hY hb0) (S.gb b o hY e)
  new := S.new
  sub := hYX
  dom := fun a ha => by
    by_cases e : a = c
    · exact (hX' a ha).2 e
    · obtain ⟨o, ho⟩ := S.dom a (hX' a ha).1; exact ⟨o, g.one e ho⟩
  locY := S.locY
  cdom := fun p hp => by
    by_cases e : p.2 = c
    · exact hcell p hp e
    · obtain ⟨u, o, ho, hd⟩ := S.cdom p hp; exact ⟨u, o, g.one e ho, hd⟩
  ns := ns
  cell := cell
  own := own
  ext := ext

/- a watched address that is no part of the frame turns -/
theorem St.bump {I : Addr} {h' : Heap} {tk : Nat} (S : St s₀ hb X Y env f s) (hIX : I ∈ X) (hIY : I ∉ Y) (h0 : s₀.heap.get? I = none) (hbI : hb.get? I = none) (hc : ∀ p ∈ env.cells, p.2 ≠ I)
    (g : GB [I] s.heap h') (he : ∃ o, h'.get? I = some o) : St s₀ hb X Y env f { s with heap := h', toks := tk } :=
  have hs : ∀ a ∈ [I], a ∈ X := fun a ha => by rw [List.mem_singleton.mp ha]; exact hIX
  S.turn hIX h0 (.inl hbI) g (fun a ha => ⟨ha, fun e => e ▸ he⟩) S.sub f (fun p hp e => absurd e (hc p hp))
    (by obtain ⟨m, hm, hv⟩ := S.ns; exact ⟨m, g.ns (fun m => hIY (List.mem_singleton.mp m ▸ S.locY)) hm, fun x d hx hk => by obtain ⟨v, e, hd⟩ := hv x d hx hk; exact ⟨v, e, hd.gb hs g⟩⟩)
    (fun x d hx hk => by obtain ⟨c, v, e, hcc, hd⟩ := S.cell x d hx hk; exact ⟨c, v, e, g.cellAt (fun m => hc _ (mem_of_lookup e) (List.mem_singleton.mp m)) hcc, hd.gb hs g⟩)
    (fun a l h => by obtain ⟨h1, h2, h3, h4, vs, n, h5, h6⟩ := S.own a l h; exact ⟨h1, h2, h3, h4, vs, n, g.one (fun q => hIY (q ▸ h1)) h5, h6.gb hs g⟩)
    ⟨f.ext.st _ _ S.ext.1 fun b hb o e => g.one (fun q => hIY (q ▸ (S.ext.2 b hb).1)) e, S.ext.2⟩
/- the watched address is let go -/
theorem St.fin {I : Addr} {h' : Heap} {tk : Nat} (S : St s₀ hb (I :: X) Y env f s) (hIX : I ∉ X) (hYX : ∀ a ∈ Y, a ∈ X) (h0 : s₀.heap.get? I = none) (hbI : hb.get? I = none) (hc : ∀ p ∈ env.cells, p.2 ≠ I)
    (g : GB [I] s.heap h') : St s₀ hb X Y env f { s with heap := h', toks := tk } :=
  have hIY : I ∉ Y := fun m => hIX (hYX _ m)
  have hs : ∀ a ∈ [I], a ∈ I :: X := fun a ha => by rw [List.mem_singleton.mp ha]; exact .head _
  have hav : ∀ b ∈ X, b ∈ I :: X ∨ h'.get? b = none := fun b hb => .inl (.tail _ hb)
  S.turn (.head _) h0 (.inl hbI) g (fun a ha => ⟨.tail _ ha, fun e => absurd (e ▸ ha) hIX⟩) hYX f (fun p hp e => absurd e (hc p hp))
    (by obtain ⟨m, hm, hv⟩ := S.ns; exact ⟨m, g.ns (fun m => hIY (List.mem_singleton.mp m ▸ S.locY)) hm, fun x d hx hk => by obtain ⟨v, e, hd⟩ := hv x d hx hk; exact ⟨v, e, (hd.gb hs g).avoid hav⟩⟩)
    (fun x d hx hk => by obtain ⟨c, v, e, hcc, hd⟩ := S.cell x d hx hk; exact ⟨c, v, e, g.cellAt (fun m => hc _ (mem_of_lookup e) (List.mem_singleton.mp m)) hcc, (hd.gb hs g).avoid hav⟩)
    (fun a l h => by obtain ⟨h1, h2, h3, h4, vs, n, h5, h6⟩ := S.own a l h; exact ⟨h1, h2, h3, h4, vs, n, g.one (fun q => hIY (q ▸ h1)) h5, (h6.gb hs g).avoid hav⟩)
    ⟨f.ext.st _ _ S.ext.1 fun b hb o e => g.one (fun q => hIY (q ▸ (S.ext.2 b hb).1)) e, S.ext.2⟩

theorem ns_unique {h : Heap} {a : Addr} {m m' : Str → Option Value} (hm : h.Ns a m) (hm' : h.Ns a m') : m' = m := by
  obtain ⟨o1, es1, ep1, a1, b1, _, d1⟩ := hm
  obtain ⟨o2, es2, ep2, a2, b2, _, d2⟩ := hm'
  rw [a1] at a2; cases a2
  rw [b1] at b2; cases b2
  funext z; rw [← d1, ← d2]

/- a name gets a datum: local -/
theorem St.store {x : Str} {v : Value} {d : D} {h' : Heap} {tk : Nat} (S : St s₀ hb X Y env f s) (hd : Den X s.heap v d) (hx : env.kindOf x = some .local)
    {m : Str → Option Value} (hm : s.heap.Ns env.locals m) (hn : h'.Ns env.locals (fun y => if y = x then some v else m y)) (hs : Heap.SameBut env.locals s.heap h') (hcl : ∀ p ∈ env.cells, p.2 ≠ env.locals) :
    St s₀ hb X Y env (f.set x d) { s with heap := h', toks := tk } := by
  have g : GB [env.locals] s.heap h' := .same hs (.head _)
  have hsX : ∀ a ∈ [env.locals], a ∈ X := fun a ha => by rw [List.mem_singleton.mp ha]; exact S.sub _ S.locY
  refine S.turn (S.sub _ S.locY) (S.new _ S.locY) (.inr S.locY) g (fun a ha => ⟨ha, fun e => by subst e; obtain ⟨o, _, _, ho, _⟩ := hn; exact ⟨o, ho⟩⟩) S.sub _ (fun p hp e => absurd e (hcl p hp)) ?_ ?_ ?_ ?_
  · refine ⟨_, hn, fun y e hy hk => ?_⟩
    by_cases q : y = x
    · subst q
      simp only [Fs.set, upd, if_true, Option.some.injEq] at hy ⊢
      subst hy
      exact ⟨v, rfl, hd.gb hsX g⟩
    · simp only [Fs.set, upd, if_neg q] at hy ⊢
      obtain ⟨m', hm', hv⟩ := S.ns
      obtain ⟨u, hu, hud⟩ := hv y e hy hk
      obtain rfl := ns_unique hm hm'
      exact ⟨u, hu, hud.gb hsX g⟩
  · intro y e hy hk
    have q : y ≠ x := fun q => by subst q; rw [hx] at hk; rcases hk with hk | hk <;> cases hk
    simp only [Fs.set, upd, if_neg q] at hy
    obtain ⟨c, u, hc, hcc, hud⟩ := S.cell y e hy hk
    exact ⟨c, u, hc, g.cellAt (fun mm => hcl _ (mem_of_lookup hc) (List.mem_singleton.mp mm)) hcc, hud.gb hsX g⟩
  · intro a l h
    obtain ⟨h1, h2, h3, h4, vs, n, h5, h6⟩ := S.own a l h
    exact ⟨h1, h2, h3, h4, vs, n, g.one h2 h5, h6.gb hsX g⟩
  · exact ⟨f.ext.st _ _ S.ext.1 fun b hb o e => g.one (S.ext.2 b hb).2.1 e, S.ext.2⟩

/- a name gets a datum: a cell -/
theorem St.setCell {x : Str} {c : Addr} {v : Value} {d : D} {h' : Heap} {tk : Nat} (S : St s₀ hb X Y env f s) (hd : Den X s.heap v d) (hx : env.kindOf x = some .cell) (hcx : env.cells.lookup x = some c) (hcY : c ∈ Y)
    (hn : CellAt h' c (some v)) (hs : Heap.SameBut c s.heap h') (hcl : c ≠ env.locals) (hinj : ∀ y, env.cells.lookup y = some c → y = x) :
    St s₀ hb X Y env (f.set x d) { s with heap := h', toks := tk } := by
  have g : GB [c] s.heap h' := .same hs (.head _)
  have hsX : ∀ a ∈ [c], a ∈ X := fun a ha => by rw [List.mem_singleton.mp ha]; exact S.sub _ hcY
  have hex : ∃ o, h'.get? c = some o := by obtain ⟨o, ho, _⟩ := hn; exact ⟨o, ho⟩
  refine S.turn (S.sub _ hcY) (S.new _ hcY) (.inr hcY) g (fun a ha => ⟨ha, fun e => e ▸ hex⟩) S.sub _ (fun p hp e => e ▸ ⟨_, hn⟩) ?_ ?_ ?_ ?_
  · obtain ⟨m, hm, hv⟩ := S.ns
    refine ⟨m, g.ns (fun mm => hcl (List.mem_singleton.mp mm).symm) hm, fun y e hy hk => ?_⟩
    have q : y ≠ x := fun q => by subst q; rw [hx] at hk; cases hk
    simp only [Fs.set, upd, if_neg q] at hy
    obtain ⟨u, hu, hud⟩ := hv y e hy hk
    exact ⟨u, hu, hud.gb hsX g⟩
  · intro y e hy hk
    by_cases q : y = x
    · subst q
      simp only [Fs.set, upd, if_true, Option.some.injEq] at hy
      subst hy
      exact ⟨c, v, hcx, hn, hd.gb hsX g⟩
    · simp only [Fs.set, upd, if_neg q] at hy
      obtain ⟨c', u, hc', hcc, hud⟩ := S.cell y e hy hk
      exact ⟨c', u, hc', g.cellAt (fun mm => q (hinj y (by rw [hc', List.mem_singleton.mp mm]))) hcc, hud.gb hsX g⟩
  · intro a l h
    obtain ⟨h1, h2, h3, h4, vs, n, h5, h6⟩ := S.own a l h
    exact ⟨h1, h2, h3, h4, vs, n, g.one (fun q => h3 _ (mem_of_lookup hcx) q.symm) h5, h6.gb hsX g⟩
  · exact ⟨f.ext.st _ _ S.ext.1 fun b hb o e => g.one (fun q => (S.ext.2 b hb).2.2 _ (mem_of_lookup hcx) q.symm) e, S.ext.2⟩

/- an own list turns -/
theorem St.setOwn {a : Addr} {l : List D} {vs : List Value} {n : Obj} {l₀ : List D} {h' : Heap} {tk : Nat} (S : St s₀ hb X Y env f s) (ho : f.own a = some l₀) (hd : LD X s.heap n vs l)
    (hn : h'.get? a = some n) (hs : Heap.SameBut a s.heap h') : St s₀ hb X Y env (f.put a (some l)) { s with heap := h', toks := tk } := by
  obtain ⟨a1, a2, a3, a4, _⟩ := S.own a l₀ ho
  have g : GB [a] s.heap h' := .same hs (.head _)
  have hsX : ∀ b ∈ [a], b ∈ X := fun b hb => by rw [List.mem_singleton.mp hb]; exact S.sub _ a1
  refine S.turn (S.sub _ a1) (S.new _ a1) (.inr a1) g (fun b hb => ⟨hb, fun e => e ▸ ⟨_, hn⟩⟩) S.sub _ (fun p hp e => absurd e (a3 p hp)) ?_ ?_ ?_ ?_
  · obtain ⟨m, hm, hv⟩ := S.ns
    refine ⟨m, g.ns (fun mm => a2 (List.mem_singleton.mp mm).symm) hm, fun y e hy hk => ?_⟩
    obtain ⟨u, hu, hud⟩ := hv y e hy hk
    exact ⟨u, hu, hud.gb hsX g⟩
  · intro y e hy hk
    obtain ⟨c', u, hc', hcc, hud⟩ := S.cell y e hy hk
    exact ⟨c', u, hc', g.cellAt (fun mm => a3 _ (mem_of_lookup hc') (List.mem_singleton.mp mm)) hcc, hud.gb hsX g⟩
  · intro b l' h
    by_cases q : b = a
    · subst q
      simp only [Fs.put, if_true, Option.some.injEq] at h
      subst h
      exact ⟨a1, a2, a3, a4, vs, n, hn, hd.gb hsX g⟩
    · simp only [Fs.put, if_neg q] at h
      obtain ⟨h1, h2, h3, h4, us, n', h5, h6⟩ := S.own b l' h
      exact ⟨h1, h2, h3, h4, us, n', g.one q h5, h6.gb hsX g⟩
  · exact ⟨f.ext.st _ _ S.ext.1 fun b hb o e => g.one (fun q => a4 (q ▸ hb)) e, S.ext.2⟩

/- a new list becomes the frame's own -/
theorem St.newOwn {a : Addr} {l : List D} {vs : List Value} {n : Obj} (S : St s₀ hb X Y env f s) (hn : s.heap.get? a = none) (le : Le s s')
    (ho : s'.heap.get? a = some n) (hd : LD X s.heap n vs l) : St s₀ hb (a :: X) (a :: Y) env (f.put a (some l)) s' := by
  have W := S.watch hn le ⟨_, ho⟩
  have hav : ∀ b ∈ a :: X, b ∈ X ∨ s.heap.get? b = none := fun b hb => by
    rcases List.mem_cons.mp hb with rfl | h
    · exact .inr hn
    · exact .inl h
  refine { W with gb := W.gb.mono fun _ m => .tail _ m, new := ?_, sub := ?_, locY := .tail _ W.locY, own := ?_, ext := ?_ }
  · intro b hb
    rcases List.mem_cons.mp hb with rfl | h
    · exact S.none0 hn
    · exact S.new b h
  · intro b hb
    rcases List.mem_cons.mp hb with rfl | h
    · exact .head _
    · exact .tail _ (S.sub b h)
  · intro b l' h
    by_cases q : b = a
    · subst q
      simp only [Fs.put, if_true, Option.some.injEq] at h
      subst h
      refine ⟨.head _, fun e => S.notY hn (e ▸ S.locY), S.cne hn, fun m => S.notY hn (S.ext.2 _ m).1, vs, n, ho, (hd.avoid hav).grow le.heap⟩
    · simp only [Fs.put, if_neg q] at h
      obtain ⟨h1, h2, h3, h4, us, n', h5, h6⟩ := W.own b l' h
      exact ⟨.tail _ h1, h2, h3, h4, us, n', h5, h6⟩
  · exact ⟨W.ext.1, fun b hb => ⟨.tail _ (W.ext.2 b hb).1, (W.ext.2 b hb).2⟩⟩

/- names are forgotten -/
theorem St.forget {f' : Fs} (S : St s₀ hb X Y env f s) (h : ∀ x d, f'.ρ x = some d → f.ρ x = some d) (ho : f'.own = f.own) (he : f'.ext = f.ext) : St s₀ hb X Y env f' s :=
  { S with ns := by obtain ⟨m, hm, hv⟩ := S.ns; exact ⟨m, hm, fun x d hx hk => hv x d (h x d hx) hk⟩, cell := fun x d hx hk => S.cell x d (h x d hx) hk, own := fun a l q => he ▸ S.own a l (ho ▸ q), ext := he ▸ S.ext }
end
end Mine

set_option genInjectivity false
namespace Mine

noncomputable def Pd (X : List Addr) (s : Shared) (d : D) : Value → Shared → Prop := fun v s' => Den X s'.heap v d ∧ Le s s'

section
variable {prog : Program} {w : World} {A : Around} {E : Value → Shared → Prop} {s : Shared} {X Y : List Addr} {env : Env} {k : Nat} {f : Fs} {s₀ : Shared} {hb : Heap}

/- the expression stands for the datum; nothing old is changed -/
noncomputable def EV (prog : Program) (w : World) (s₀ : Shared) (X Y : List Addr) (env : Env) (f : Fs) (k : Nat) (e : Expr) (d : D) : Prop :=
  ∀ (A : Around) (s : Shared) (hb : Heap) (E : Value → Shared → Prop), Good k A → St s₀ hb X Y env f s → wpAny (model prog w) A (eval e env) (Pd X s d) E s
/- the test comes out as b -/
noncomputable def TV (prog : Program) (w : World) (s₀ : Shared) (X Y : List Addr) (env : Env) (f : Fs) (k : Nat) (e : Expr) (b : Bool) : Prop :=
  ∀ (A : Around) (s : Shared) (hb : Heap) (E : Value → Shared → Prop), Good k A → St s₀ hb X Y env f s → wpAny (model prog w) A (isTrue e env (eval e env)) (fun b' s' => b' = b ∧ Le s s') E s
/- several -/
noncomputable def EVs (prog : Program) (w : World) (s₀ : Shared) (X Y : List Addr) (env : Env) (f : Fs) (k : Nat) (pos : Pos) (es : List Expr) (ds : List D) : Prop :=
  ∀ (A : Around) (s : Shared) (hb : Heap) (E : Value → Shared → Prop), Good k A → St s₀ hb X Y env f s → wpAny (model prog w) A (spliced (backTo pos (starEach es env))) (fun vs s' => Dens X s'.heap vs ds ∧ Le s s') E s

theorem Pd.le {s s₁ : Shared} {d : D} (l : Le s s₁) {v s'} (h : Pd X s₁ d v s') : Pd X s d v s' := ⟨h.1, l.trans h.2⟩

theorem ev_int {i : Int} {c pos} : EV prog w s₀ X Y env f k (.Constant (.int i) c pos) (.int i) := fun _ s _ _ _ _ => wpAny_Constant_int ⟨.int, .toks _⟩
theorem ev_str {x : Str} {c pos} : EV prog w s₀ X Y env f k (.Constant (.str x) c pos) (.str x) := fun _ s _ _ _ _ => wpAny_Constant_str ⟨.str, .toks _⟩
theorem ev_bool {b : Bool} {c pos} : EV prog w s₀ X Y env f k (.Constant (.bool b) c pos) (.bool b) := fun _ s _ _ _ _ => wpAny_Constant_bool ⟨.bool, .refl⟩

theorem loadName_cell {x : Str} {c : Addr} {v : Value} {Q : Value → Shared → Prop} (hk : env.scope.kind = .function) (hl : env.kindOf x = some .cell ∨ env.kindOf x = some .free)
    (hc : env.cells.lookup x = some c) (hv : CellAt s.heap c (some v)) (h : Q v s) (hx : (x == ("__classdict__" : Str)) = false) : wpAny (model prog w) A (loadName env x) Q E s := by
  obtain ⟨o, ho, hd⟩ := hv
  have hcell : wpAny (model prog w) A (cellOf env x) (fun a s' => a = c ∧ s' = s) E s := by
    unfold cellOf; rw [hc]; exact wpAny_pure ⟨rfl, rfl⟩
  have hget : wpAny (model prog w) A (cellGet c) (fun r s' => r = some v ∧ s' = s) E s := by
    unfold cellGet
    refine wpAny_bind (wpAny_load ho ?_)
    rw [hd]; exact wpAny_pure ⟨rfl, rfl⟩
  unfold loadName
  rcases hl with hl | hl
  · simp only [Env.blockKind, hk, hl, ScopeKind.isAnnotationScope, Bool.false_and, Bool.false_eq_true, if_false]
    refine wpAny_bind (wpAny_mono hcell (fun a s' h' => ?_) fun _ _ e => e)
    obtain ⟨rfl, rfl⟩ := h'
    refine wpAny_bind (wpAny_mono hget (fun r s'' h'' => ?_) fun _ _ e => e)
    obtain ⟨rfl, rfl⟩ := h''
    exact wpAny_pure h
  · simp only [Env.blockKind, hk, hl, ScopeKind.isAnnotationScope, Bool.false_and, Bool.false_eq_true, if_false, hx]
    refine wpAny_bind (wpAny_mono hcell (fun a s' h' => ?_) fun _ _ e => e)
    obtain ⟨rfl, rfl⟩ := h'
    refine wpAny_bind (wpAny_mono hget (fun r s'' h'' => ?_) fun _ _ e => e)
    obtain ⟨rfl, rfl⟩ := h''
    exact wpAny_pure h

/- what an env of a def or of a comprehension must be -/
structure EnvOk (env : Env) : Prop where
  kind : env.scope.kind = .function
  globals : env.globals = mainGlobals
  builtins : env.builtins = builtinsNs
  cl : ∀ p ∈ env.cells, p.2 ≠ env.locals

theorem ev_name {x : Str} {pos : Pos} {d : D} (ok : EnvOk env) (hx : f.ρ x = some d) (hl : env.kindOf x = some .local) (hd : (x == ("__debug__" : Str)) = false := by decide) :
    EV prog w s₀ X Y env f k (.Name x pos) d := fun A s hb E _ S => by
  obtain ⟨m, hn, hm⟩ := S.ns
  obtain ⟨v, e, hv⟩ := hm x d hx hl
  exact wpAny_Name (wpAny_loadName_local ok.kind hl hn e ⟨hv, .refl⟩) hd
theorem ev_cell {x : Str} {pos : Pos} {d : D} (ok : EnvOk env) (hx : f.ρ x = some d) (hl : env.kindOf x = some .cell ∨ env.kindOf x = some .free) (hd : (x == ("__debug__" : Str)) = false := by decide)
    (hc : (x == ("__classdict__" : Str)) = false := by decide) : EV prog w s₀ X Y env f k (.Name x pos) d := fun A s hb E _ S => by
  obtain ⟨c, v, e, hv, hd'⟩ := S.cell x d hx hl
  exact wpAny_Name (loadName_cell ok.kind hl e hv ⟨hd', .refl⟩ hc) hd

/- the globals, at the base -/
structure GF (h : Heap) (mg mb : Str → Option Value) : Prop where
  g : h.Ns mainGlobals mg
  b : h.Ns builtinsNs mb
/- the global name x is the value v -/
noncomputable def Glob (env : Env) (mg mb : Str → Option Value) (x : Str) (v : Value) : Prop := env.kindOf x = some .globalImplicit ∧ (mg x = some v ∨ (mg x = none ∧ mb x = some v)) ∧ (x == ("__debug__" : Str)) = false

theorem wp_glob {mg mb : Str → Option Value} {x : Str} {pos : Pos} {v : Value} {Q : Value → Shared → Prop} (ok : EnvOk env) (G : GF s₀.heap mg mb) (hg : Glob env mg mb x v) (S : St s₀ hb X Y env f s) (h : Q v s) :
    wpAny (model prog w) A (eval (.Name x pos) env) Q E s := by
  obtain ⟨h1, h2, h3⟩ := hg
  refine Calls.Name_function_global ok.kind h1 ?_ h3
  rcases h2 with h2 | ⟨h2, h4⟩
  · exact Calls.loadGlobal_global (ok.globals ▸ S.keep.ns nil_mem G.g) h2 h
  · exact Calls.loadGlobal_builtin (ok.globals ▸ S.keep.ns nil_mem G.g) h2 (ok.builtins ▸ S.keep.ns nil_mem G.b) h4 h

theorem evs_nil {pos : Pos} : EVs prog w s₀ X Y env f k pos [] [] := fun _ _ _ _ _ _ => wpAny_items_nil ⟨.nil, .refl⟩
theorem evs_cons {pos : Pos} {e : Expr} {es : List Expr} {d : D} {ds : List D} (h1 : EV prog w s₀ X Y env f k e d) (h2 : EVs prog w s₀ X Y env f k pos es ds)
    (he : starEach (e :: es) env = (false, eval e env) :: starEach es env := by rfl) : EVs prog w s₀ X Y env f k pos (e :: es) (d :: ds) := fun A s hb E g S =>
  wpAny_items_cons (wpAny_mono (h1 A s hb E g S) (fun v s₁ p => wpAny_mono (h2 A s₁ hb E g (S.le p.2)) (fun vs s₂ q => ⟨.cons (p.1.grow q.2.heap) q.1, p.2.trans q.2⟩) fun _ _ e => e) fun _ _ e => e) he

/- a contract of a callable: arguments to answer -/
noncomputable def BC (prog : Program) (w : World) (h₀ : Heap) (X : List Addr) (k : Nat) (f : Value) (ds : List D) (r : D) : Prop :=
  ∀ (A : Around) (s : Shared) (vs : List Value) (E : Value → Shared → Prop), Good k A → GB [] h₀ s.heap → (AllBare s.gens ∧ ∀ a ∈ X, ∃ o, s.heap.get? a = some o) → Dens X s.heap vs ds → wpAny (model prog w) A (call f vs) (Pd X s r) E s

theorem backTo_any (pos : Pos) : ∀ {l : List (Bool × Sem Value)}, l.any (·.1) = false → (backTo pos l).any (·.1) = false
  | [], _ => rfl
  | (b, t) :: l, h => by
    simp only [List.any_cons, Bool.or_eq_false_iff] at h
    show (b || (backTo pos l).any (·.1)) = false
    rw [h.1, backTo_any pos h.2]; rfl

theorem evalArgs_spliced {M : Model} {f : Value} {es : List (Bool × Sem Value)} {Q : Args → Shared → Prop} (hs : es.any (·.1) = false) (h : wpAny M A (spliced es) (fun vs s' => Q ⟨vs, []⟩ s') E s) :
    wpAny M A (evalArgs f true es []) Q E s := by
  cases es with
  | nil =>
    unfold evalArgs
    show wpAny M A (spliced [] >>= _) Q E s
    refine wpAny_bind (wpAny_mono h (fun vs s' h' => ?_) fun _ _ x => x)
    refine wpAny_bind (wpAny_pure ?_)
    refine wpAny_holding ?_
    exact wpAny_bind (wpAny_pure (wpAny_bind (wpAny_pure (wpAny_pure h'))))
  | cons e es =>
    obtain ⟨b, t⟩ := e
    simp only [List.any_cons, Bool.or_eq_false_iff] at hs
    obtain ⟨rfl, _⟩ := hs
    exact Calls.evalArgs_plain h
end
end Mine

namespace Mine
section
variable {prog : Program} {w : World} {A : Around} {E : Value → Shared → Prop} {s : Shared} {X Y : List Addr} {env : Env} {k : Nat} {f : Fs} {s₀ : Shared} {hb : Heap} {mg mb : Str → Option Value}

/- values -/
theorem D.den_int {h : Heap} {v : Value} {i : Int} (x : Den X h v (.int i)) : ∃ t, v = .int i t := by cases x; exact ⟨_, rfl⟩
theorem D.den_str {h : Heap} {v : Value} {i : Str} (x : Den X h v (.str i)) : ∃ t, v = .str i t := by cases x; exact ⟨_, rfl⟩
theorem D.den_bool {h : Heap} {v : Value} {i : Bool} (x : Den X h v (.bool i)) : v = .bool i := by cases x; rfl
theorem D.den_ref {h : Heap} {v : Value} {a : Addr} (x : Den X h v (.ref a)) : v = .ref a := by cases x; rfl
theorem D.den_list {h : Heap} {v : Value} {l : List D} (x : Den X h v (.list l)) : ∃ a vs, v = .ref a ∧ a ∉ X ∧ h.IsList a (List.toArray vs) ∧ Dens X h vs l := by
  cases x; exact ⟨_, _, rfl, ‹_›, ‹_›, ‹_›⟩

/- a new list -/
theorem fresh_addr (h : Heap) : h.get? h.objs.size = none := by
  cases e : h.get? h.objs.size with
  | none => rfl
  | some o => exact absurd (Heap.lt_size e) (Nat.lt_irrefl _)
theorem fresh_notin {h : Heap} {a : Addr} (dom : ∀ a ∈ X, ∃ o, h.get? a = some o) (hf : h.get? a = none) : a ∉ X := fun m => by obtain ⟨o, e⟩ := dom a m; rw [hf] at e; cases e
theorem den_new {h : Heap} {vs : List Value} {ds : List D} {n : Nat} (dom : ∀ a ∈ X, ∃ o, h.get? a = some o) (hd : Dens X h vs ds) :
    Den X (h.push { cls := .type "list", data := .seq vs.toArray n }) (.ref h.objs.size) (.list ds) :=
  .list (fresh_notin dom (fresh_addr h)) ⟨_, Heap.get?_push_size _ rfl, rfl, n, rfl⟩ (hd.grow (GB.push _))
theorem dom_le {s s' : Shared} (l : Le s s') (dom : ∀ a ∈ X, ∃ o, s.heap.get? a = some o) : ∀ a ∈ X, ∃ o, s'.heap.get? a = some o := fun a ha => by obtain ⟨o, e⟩ := dom a ha; exact ⟨o, l.heap a o nil_mem e⟩

theorem ev_list {es : List Expr} {ds : List D} {pos : Pos} (h : EVs prog w s₀ X Y env f k pos es ds) (hsz : ds.length ≤ sizeLine) : EV prog w s₀ X Y env f k (.List es pos) (.list ds) := fun A s hb E g S =>
  wpAny_List (wpAny_mono (h A s hb E g S) (fun vs s₁ p => ⟨by rw [p.1.length]; exact hsz, den_new (S.le p.2).dom p.1, p.2.trans (.push _)⟩) fun _ _ e => e)

/- calls -/
theorem ev_call_b {x : Str} {px pos : Pos} {id : String} {es : List Expr} {ds : List D} {r : D} (ok : EnvOk env) (G : GF s₀.heap mg mb) (hg : Glob env mg mb x (.builtin id)) (ha : EVs prog w s₀ X Y env f k pos es ds)
    (hp : (starEach es env).any (·.1) = false) (hc : BC prog w s₀.heap X k (.builtin id) ds r) : EV prog w s₀ X Y env f k (.Call (.Name x px) es [] pos) r := fun A s hb E g S => by
  show wpAny _ A (do callWith pos (← eval (.Name x px) env) [] (backTo pos (starEach es env)) (backToKw pos (keywordEach [] env))) _ E s
  refine wpAny_bind (wp_glob ok G hg S ?_)
  refine Calls.callWith_builtin (backTo_any pos hp) (evalArgs_spliced (backTo_any pos hp) ?_)
  exact wpAny_mono (ha A s hb E g S) (fun vs s₁ p => wpAny_mono (hc A s₁ vs E g (S.le p.2).keep ⟨(S.le p.2).gens, (S.le p.2).dom⟩ p.1) (fun v s₂ q => q.le p.2) fun _ _ e => e) fun _ _ e => e

theorem ev_call_f {x : Str} {px pos : Pos} {a : Addr} {o : Obj} {fd : FuncData} {es : List Expr} {ds : List D} {r : D} (ok : EnvOk env) (G : GF s₀.heap mg mb) (hg : Glob env mg mb x (.ref a))
    (ho : s₀.heap.get? a = some o) (hd : o.data = .func fd) (ha : EVs prog w s₀ X Y env f k pos es ds)
    (hp : (starEach es env).any (·.1) = false) (hc : BC prog w s₀.heap X k (.ref a) ds r) : EV prog w s₀ X Y env f k (.Call (.Name x px) es [] pos) r := fun A s hb E g S => by
  show wpAny _ A (do callWith pos (← eval (.Name x px) env) [] (backTo pos (starEach es env)) (backToKw pos (keywordEach [] env))) _ E s
  refine wpAny_bind (wp_glob ok G hg S ?_)
  refine Calls.callWith_function (o := o) (fd := fd) (evalArgs_spliced (backTo_any pos hp) ?_)
  exact wpAny_mono (ha A s hb E g S) (fun vs s₁ p => ⟨⟨(S.le p.2).keep a o nil_mem ho, hd⟩, wpAny_mono (hc A s₁ vs E g (S.le p.2).keep ⟨(S.le p.2).gens, (S.le p.2).dom⟩ p.1) (fun v s₂ q => q.le p.2) fun _ _ e => e⟩) fun _ _ e => e

/- int and str operators -/
theorem ev_bin {op : Operator} {l r : Expr} {pos : Pos} {d₁ d₂ d : D} (h1 : EV prog w s₀ X Y env f k l d₁) (h2 : EV prog w s₀ X Y env f k r d₂)
    (hop : ∀ (A : Around) (s : Shared) (a b : Value) (E : Value → Shared → Prop), Good k A → (∀ a ∈ X, ∃ o, s.heap.get? a = some o) → Den X s.heap a d₁ → Den X s.heap b d₂ → wpAny (model prog w) A (binaryOp op a b) (Pd X s d) E s) :
    EV prog w s₀ X Y env f k (.BinOp l op r pos) d := fun A s hb E g S =>
  wpAny_BinOp (wpAny_mono (h1 A s hb E g S) (fun a s₁ p => wpAny_mono (h2 A s₁ hb E g (S.le p.2)) (fun b s₂ q =>
    wpAny_mono (hop A s₂ a b E g ((S.le p.2).le q.2).dom (p.1.grow q.2.heap) q.1) (fun v s₃ z => (z.le q.2).le p.2) fun _ _ e => e) fun _ _ e => e) fun _ _ e => e)

theorem ev_add {l r : Expr} {pos : Pos} {a b : Int} (h1 : EV prog w s₀ X Y env f k l (.int a)) (h2 : EV prog w s₀ X Y env f k r (.int b)) : EV prog w s₀ X Y env f k (.BinOp l .Add r pos) (.int (a + b)) :=
  ev_bin h1 h2 fun A s x y E g _ hx hy => by
    obtain ⟨t, rfl⟩ := D.den_int hx; obtain ⟨u, rfl⟩ := D.den_int hy
    exact add_int ⟨.int, .toks _⟩
theorem ev_sub {l r : Expr} {pos : Pos} {a b : Int} (h1 : EV prog w s₀ X Y env f k l (.int a)) (h2 : EV prog w s₀ X Y env f k r (.int b)) : EV prog w s₀ X Y env f k (.BinOp l .Sub r pos) (.int (a - b)) :=
  ev_bin h1 h2 fun A s x y E g _ hx hy => by
    obtain ⟨t, rfl⟩ := D.den_int hx; obtain ⟨u, rfl⟩ := D.den_int hy
    exact sub_int ⟨.int, .toks _⟩
theorem ev_mul {l r : Expr} {pos : Pos} {a b : Int} (h1 : EV prog w s₀ X Y env f k l (.int a)) (h2 : EV prog w s₀ X Y env f k r (.int b)) (hm : IntMulOk a b) : EV prog w s₀ X Y env f k (.BinOp l .Mult r pos) (.int (a * b)) :=
  ev_bin h1 h2 fun A s x y E g _ hx hy => by
    obtain ⟨t, rfl⟩ := D.den_int hx; obtain ⟨u, rfl⟩ := D.den_int hy
    exact mul_int ⟨.int, .toks _⟩ hm
theorem ev_mod {l r : Expr} {pos : Pos} {a b : Int} (h1 : EV prog w s₀ X Y env f k l (.int a)) (h2 : EV prog w s₀ X Y env f k r (.int b)) (hb : b ≠ 0) : EV prog w s₀ X Y env f k (.BinOp l .Mod r pos) (.int (Int.fmod a b)) :=
  ev_bin h1 h2 fun A s x y E g _ hx hy => by
    obtain ⟨t, rfl⟩ := D.den_int hx; obtain ⟨u, rfl⟩ := D.den_int hy
    exact mod_int' hb ⟨.int, .toks _⟩
theorem ev_fdiv {l r : Expr} {pos : Pos} {a b : Int} (h1 : EV prog w s₀ X Y env f k l (.int a)) (h2 : EV prog w s₀ X Y env f k r (.int b)) (hb : b ≠ 0) (hl : Builtin.divisionGoesByPylong a b = false) :
    EV prog w s₀ X Y env f k (.BinOp l .FloorDiv r pos) (.int (Int.fdiv a b)) :=
  ev_bin h1 h2 fun A s x y E g _ hx hy => by
    obtain ⟨t, rfl⟩ := D.den_int hx; obtain ⟨u, rfl⟩ := D.den_int hy
    exact floordiv_int_or g.handled (fun h => absurd h hb) (fun _ => ⟨.int, .toks _⟩) (fun _ => .inl hl)
theorem ev_cat {l r : Expr} {pos : Pos} {a b : Str} (h1 : EV prog w s₀ X Y env f k l (.str a)) (h2 : EV prog w s₀ X Y env f k r (.str b)) (hs : a.length + b.length ≤ sizeLine) : EV prog w s₀ X Y env f k (.BinOp l .Add r pos) (.str (a ++ b)) :=
  ev_bin h1 h2 fun A s x y E g _ hx hy => by
    obtain ⟨t, rfl⟩ := D.den_str hx; obtain ⟨u, rfl⟩ := D.den_str hy
    exact SBL.add (fun t' kk _ => ⟨.str, .toks _⟩) hs
theorem wp_listadd {x y : Value} {a b : List D} (dom : ∀ a ∈ X, ∃ o, s.heap.get? a = some o) (hx : Den X s.heap x (.list a)) (hy : Den X s.heap y (.list b)) (hs : a.length + b.length ≤ sizeLine) :
    wpAny (model prog w) A (binaryOp .Add x y) (Pd X s (.list (a ++ b))) E s := by
  obtain ⟨p, vs, rfl, _, hl, hd⟩ := D.den_list hx
  obtain ⟨q, us, rfl, _, hl', hd'⟩ := D.den_list hy
  obtain ⟨⟨cls, dd, data, sl⟩, ho, hc, n, hd1⟩ := hl
  obtain ⟨⟨cls2, dd2, data2, sl2⟩, ho2, hc2, n2, hd2⟩ := hl'
  simp only at hc hd1 hc2 hd2
  subst hc hd1 hc2 hd2
  have e : vs.toArray ++ us.toArray = (vs ++ us).toArray := by simp
  refine concat_meets ⟨_, ho, rfl⟩ ⟨_, ho2, rfl⟩ noFill_list_add seq_list_add PySem.F.slot_list_add PySem.F.entry_list_add (PySem.F.args_list_add_2 _ _)
    (list_addW p q vs.toArray us.toArray n n2 dd dd2 sl sl2 (by simpa [hd.length, hd'.length] using hs)) ⟨ho, ho2, ?_⟩
  rw [e]
  exact ⟨den_new dom (hd.append hd'), .push _⟩
theorem ev_listadd {l r : Expr} {pos : Pos} {a b : List D} (h1 : EV prog w s₀ X Y env f k l (.list a)) (h2 : EV prog w s₀ X Y env f k r (.list b)) (hs : a.length + b.length ≤ sizeLine) :
    EV prog w s₀ X Y env f k (.BinOp l .Add r pos) (.list (a ++ b)) :=
  ev_bin h1 h2 fun _ _ _ _ _ _ dom hx hy => wp_listadd dom hx hy hs

/- subscripts -/
theorem ev_item {v i : Expr} {pos : Pos} {l : List D} {n : Int} {d : D} (h1 : EV prog w s₀ X Y env f k v (.list l)) (h2 : EV prog w s₀ X Y env f k i (.int n)) (h0 : 0 ≤ n) (hn : n < 2 ^ 63) (hd : l[n.toNat]? = some d)
    (hs : ∀ a t, subscripted i false (.ref a) (.int n t) = operate [.ref a, .int n t] (getItem (.ref a) (.int n t)) := by intros; with_unfolding_all rfl) :
    EV prog w s₀ X Y env f k (.Subscript v i pos) d := fun A s hb E g S =>
  Subscript_ (wpAny_mono (h1 A s hb E g S) (fun o s₁ p => wpAny_mono (h2 A s₁ hb E g (S.le p.2)) (fun j s₂ q => by
    obtain ⟨t, rfl⟩ := D.den_int q.1
    obtain ⟨a, vs, rfl, _, hl, hds⟩ := D.den_list (p.1.grow q.2.heap)
    obtain ⟨x, hx, hxd⟩ := hds.get hd
    exact tail_any hl.typeIs slot_list_getitem.lookup (wpAny_getItem_list hl h0 hn (by simpa using hx) ⟨hxd, p.2.trans q.2⟩) (hs a t)) fun _ _ e => e) fun _ _ e => e)

theorem ev_char {v i : Expr} {pos : Pos} {x : Str} {n : Int} (h1 : EV prog w s₀ X Y env f k v (.str x)) (h2 : EV prog w s₀ X Y env f k i (.int n)) (h0 : 0 ≤ n) (hn : n < x.length) (hf : fitsSsize n = true)
    (hs : ∀ a t, subscripted i false (.str x a) (.int n t) = operate [.str x a, .int n t] (getItem (.str x a) (.int n t)) := by intros; with_unfolding_all rfl) :
    EV prog w s₀ X Y env f k (.Subscript v i pos) (.str (Txt.item x n)) := fun A s hb E g S =>
  Subscript_ (wpAny_mono (h1 A s hb E g S) (fun o s₁ p => wpAny_mono (h2 A s₁ hb E g (S.le p.2)) (fun j s₂ q => by
    obtain ⟨t, rfl⟩ := D.den_int q.1
    obtain ⟨u, rfl⟩ := D.den_str p.1
    exact item_str hf (by lia) hn (fun _ => ⟨.str, (p.2.trans q.2).trans (.toks _)⟩) (hs u t) (fun r => by cases v <;> rfl)) fun _ _ e => e) fun _ _ e => e)
end
end Mine

namespace Mine
section
variable {h₀ : Heap} {prog : Program} {w : World} {A : Around} {E : Value → Shared → Prop} {s : Shared} {X Y : List Addr} {env : Env} {k : Nat} {f : Fs} {s₀ : Shared} {hb : Heap} {mg mb : Str → Option Value}

/- slices -/
noncomputable def EVP (prog : Program) (w : World) (s₀ : Shared) (X Y : List Addr) (env : Env) (f : Fs) (k : Nat) : Option Expr → Option Int → Prop
  | none, none => True
  | some e, some i => EV prog w s₀ X Y env f k e (.int i)
  | _, _ => False
theorem wp_part {e : Option Expr} {i : Option Int} (h : EVP prog w s₀ X Y env f k e i) (g : Good k A) (S : St s₀ hb X Y env f s) : wpAny (model prog w) A (evalPart e env) (fun v s' => IsPart v i ∧ Le s s') E s := by
  cases e with
  | none => cases i with
    | none => exact wpAny_pure ⟨.none, .refl⟩
    | some i => exact h.elim
  | some e => cases i with
    | none => exact h.elim
    | some i => exact wpAny_mono (h A s hb E g S) (fun v s' p => ⟨by obtain ⟨t, rfl⟩ := D.den_int p.1; exact .int _ _, p.2⟩) fun _ _ e => e

noncomputable def pickD (l : List D) (lo hi st : Option Int) : List D := (sliceRange (sliceBounds lo hi st l.length).1 (sliceBounds lo hi st l.length).2.1 (sliceBounds lo hi st l.length).2.2).filterMap (l[·]?)
theorem Dens.pick {h : Heap} {vs : List Value} {ds : List D} (hd : Dens X h vs ds) : ∀ idx : List Nat, Dens X h (idx.filterMap (vs.toArray[·]?)) (idx.filterMap (ds[·]?))
  | [] => .nil
  | i :: r => by
    have ih := hd.pick r
    simp only [List.filterMap_cons, List.getElem?_toArray]
    cases e : ds[i]? with
    | none =>
      have : vs[i]? = none := by
        rw [List.getElem?_eq_none_iff] at e ⊢
        rw [hd.length]; exact e
      rw [this]; simpa using ih
    | some d =>
      obtain ⟨v, hv, hvd⟩ := hd.get e
      rw [hv]
      exact .cons hvd (by simpa using ih)
theorem ev_lslice {v : Expr} {lo hi st : Option Expr} {p pos : Pos} {l : List D} {i j c : Option Int} (h1 : EV prog w s₀ X Y env f k v (.list l)) (h2 : EVP prog w s₀ X Y env f k lo i) (h3 : EVP prog w s₀ X Y env f k hi j)
    (h4 : EVP prog w s₀ X Y env f k st c) (hc : c ≠ some 0) (hsz : l.length ≤ sizeLine) : EV prog w s₀ X Y env f k (.Subscript v (.Slice lo hi st p) pos) (.list (pickD l i j c)) := fun A s hb E g S =>
  Subscript_ (wpAny_mono (h1 A s hb E g S) (fun o s₁ p₁ => wpAny_Slice (wpAny_mono (wp_part h2 g (S.le p₁.2)) (fun vl s₂ p₂ => wpAny_mono (wp_part h3 g ((S.le p₁.2).le p₂.2)) (fun vu s₃ p₃ =>
    wpAny_mono (wp_part h4 g (((S.le p₁.2).le p₂.2).le p₃.2)) (fun vs s₄ p₄ => by
      have L := ((p₁.2.trans p₂.2).trans p₃.2).trans p₄.2
      obtain ⟨a, us, rfl, ha, hl, hds⟩ := D.den_list (((p₁.1.grow p₂.2.heap).grow p₃.2.heap).grow p₄.2.heap)
      have hl' := hl.push { cls := .type "slice", data := .fields #[vl, vu, vs] }
      have key : wpAny (model prog w) A (getItem (.ref a) (.ref s₄.heap.objs.size)) (Pd X s (.list (pickD l i j c))) E { s₄ with heap := s₄.heap.push { cls := .type "slice", data := .fields #[vl, vu, vs] } } := by
        refine wpAny_getItem_list_slice hl' (Heap.IsSliceOf.new _ vl vu vs) p₂.1 p₃.1 p₄.1 hc ?_ (by simpa [hds.length] using hsz)
        have hd2 := (hds.grow (GB.push (Y := []) (h := s₄.heap) { cls := .type "slice", data := .fields #[vl, vu, vs] })).pick (sliceRange (sliceBounds i j c l.length).1 (sliceBounds i j c l.length).2.1 (sliceBounds i j c l.length).2.2)
        have e : slicePick us.toArray i j c = ((sliceRange (sliceBounds i j c l.length).1 (sliceBounds i j c l.length).2.1 (sliceBounds i j c l.length).2.2).filterMap (us.toArray[·]?)).toArray := by
          unfold slicePick
          rw [show us.toArray.size = l.length by simp [hds.length]]
        rw [e]
        refine ⟨den_new (dom_le (.push _) (S.le L).dom) hd2, (L.trans (.push _)).trans (.push _)⟩
      cases st with
      | none => exact tail_any hl'.typeIs slot_list_getitem.lookup key (ops := [.ref s₄.heap.objs.size, .ref a]) (by with_unfolding_all rfl)
      | some st => exact tail_any hl'.typeIs slot_list_getitem.lookup key (ops := [.ref a, .ref s₄.heap.objs.size]) (by with_unfolding_all rfl)) fun _ _ e => e) fun _ _ e => e) fun _ _ e => e)) fun _ _ e => e)

theorem keptGB : KeptH (fun h => GB [] h₀ h) := fun _ o g => g.trans (GB.push o)
theorem ev_sslice {v lo hi : Expr} {p pos : Pos} {x : Str} {i j : Int} (h1 : EV prog w s₀ X Y env f k v (.str x)) (h2 : EV prog w s₀ X Y env f k lo (.int i)) (h3 : EV prog w s₀ X Y env f k hi (.int j))
    (hsz : x.length ≤ sizeLine) : EV prog w s₀ X Y env f k (.Subscript v (.Slice (some lo) (some hi) none p) pos) (.str (Txt.slice x (some i) (some j))) := fun A s hb E g S =>
  Subscript_ (wpAny_mono (h1 A s hb E g S) (fun o s₁ p₁ => wpAny_Slice (wpAny_mono (h2 A s₁ hb E g (S.le p₁.2)) (fun vl s₂ p₂ => wpAny_mono (h3 A s₂ hb E g ((S.le p₁.2).le p₂.2)) (fun vu s₃ p₃ => by
      rw [evalPart_none]
      refine wpAny_pure ?_
      obtain ⟨t, rfl⟩ := D.den_str p₁.1
      obtain ⟨ti, rfl⟩ := D.den_int p₂.1
      obtain ⟨tj, rfl⟩ := D.den_int p₃.1
      have L := (p₁.2.trans p₂.2).trans p₃.2
      refine tail_of_ItemOn (ops := [.ref s₃.heap.objs.size, .str x t]) (SBH.sliceItem_ss (P := fun h => GB [] s₃.heap h) keptGB .refl (fun h' t' kk hP => ⟨.str, L.trans (.of hP)⟩) hsz) (by with_unfolding_all rfl) (fun r => by cases v <;> rfl)) fun _ _ e => e) fun _ _ e => e)) fun _ _ e => e)

/- comparisons and tests -/
theorem ev_cmp {op : CmpOp} {l r : Expr} {pos : Pos} {d₁ d₂ : D} {b : Bool} (h1 : EV prog w s₀ X Y env f k l d₁) (h2 : EV prog w s₀ X Y env f k r d₂) 
    (hop : ∀ (A : Around) (s : Shared) (x y : Value) (E : Value → Shared → Prop), Good k A → (∀ a ∈ X, ∃ o, s.heap.get? a = some o) → Den X s.heap x d₁ → Den X s.heap y d₂ → wpAny (model prog w) A (compareOp op x y) (fun v s' => v = .bool b ∧ Le s s') E s)
    (hm : behindInMarks op r = false := by with_unfolding_all rfl) : EV prog w s₀ X Y env f k (.Compare l [op] [r] pos) (.bool b) := fun A s hb E g S =>
  wpAny_Compare1 (wpAny_mono (h1 A s hb E g S) (fun a s₁ p => wpAny_mono (h2 A s₁ hb E g (S.le p.2)) (fun c s₂ q =>
    wpAny_mono (hop A s₂ a c E g ((S.le p.2).le q.2).dom (p.1.grow q.2.heap) q.1) (fun v s₃ z => ⟨z.1 ▸ .bool, (p.2.trans q.2).trans z.2⟩) fun _ _ e => e) fun _ _ e => e) fun _ _ e => e) hm
theorem tv_cmp {op : CmpOp} {l r : Expr} {pos : Pos} {d₁ d₂ : D} {b : Bool} (h1 : EV prog w s₀ X Y env f k l d₁) (h2 : EV prog w s₀ X Y env f k r d₂) 
    (hop : ∀ (A : Around) (s : Shared) (x y : Value) (E : Value → Shared → Prop), Good k A → (∀ a ∈ X, ∃ o, s.heap.get? a = some o) → Den X s.heap x d₁ → Den X s.heap y d₂ → wpAny (model prog w) A (compareOp op x y) (fun v s' => v = .bool b ∧ Le s s') E s)
    (hm : behindInMarks op r = false := by with_unfolding_all rfl) : TV prog w s₀ X Y env f k (.Compare l [op] [r] pos) b := fun A s hb E g S =>
  wpAny_isTrue_Compare1 (wpAny_mono (h1 A s hb E g S) (fun a s₁ p => wpAny_mono (h2 A s₁ hb E g (S.le p.2)) (fun c s₂ q =>
    wpAny_mono (hop A s₂ a c E g ((S.le p.2).le q.2).dom (p.1.grow q.2.heap) q.1) (fun v s₃ z => by rw [z.1]; exact wpAny_truthy_bool ⟨rfl, (p.2.trans q.2).trans z.2⟩) fun _ _ e => e) fun _ _ e => e) fun _ _ e => e) hm

/- what a comparison does on data -/
noncomputable def OP (prog : Program) (w : World) (X : List Addr) (k : Nat) (op : CmpOp) (d₁ d₂ : D) (b : Bool) : Prop :=
  ∀ (A : Around) (s : Shared) (x y : Value) (E : Value → Shared → Prop), Good k A → (∀ a ∈ X, ∃ o, s.heap.get? a = some o) → Den X s.heap x d₁ → Den X s.heap y d₂ → wpAny (model prog w) A (compareOp op x y) (fun v s' => v = .bool b ∧ Le s s') E s
theorem op_eq_int {a b : Int} : OP prog w X k .Eq (.int a) (.int b) (a == b) := fun A s x y E g _ hx hy => by
  obtain ⟨t, rfl⟩ := D.den_int hx; obtain ⟨u, rfl⟩ := D.den_int hy; exact eq_int ⟨rfl, .refl⟩
theorem op_lt_int {a b : Int} : OP prog w X k .Lt (.int a) (.int b) (decide (a < b)) := fun A s x y E g _ hx hy => by
  obtain ⟨t, rfl⟩ := D.den_int hx; obtain ⟨u, rfl⟩ := D.den_int hy; exact lt_int ⟨rfl, .refl⟩
theorem op_gt_int {a b : Int} : OP prog w X k .Gt (.int a) (.int b) (decide (b < a)) := fun A s x y E g _ hx hy => by
  obtain ⟨t, rfl⟩ := D.den_int hx; obtain ⟨u, rfl⟩ := D.den_int hy; exact gt_int ⟨rfl, .refl⟩
theorem op_eq_str {a b : Str} : OP prog w X k .Eq (.str a) (.str b) (a == b) := fun A s x y E g _ hx hy => by
  obtain ⟨t, rfl⟩ := D.den_str hx; obtain ⟨u, rfl⟩ := D.den_str hy; exact eq_str ⟨rfl, .refl⟩
theorem op_in_str {a b : Str} : OP prog w X k .In (.str a) (.str b) (Txt.contains b a) := fun A s x y E g _ hx hy => by
  obtain ⟨t, rfl⟩ := D.den_str hx; obtain ⟨u, rfl⟩ := D.den_str hy; exact in_str ⟨rfl, .refl⟩
theorem op_is_bool {a b : Bool} : OP prog w X k .Is (.bool a) (.bool b) (a == b) := fun A s x y E g _ hx hy => by
  obtain rfl := D.den_bool hx; obtain rfl := D.den_bool hy
  exact wpAny_is_plain rfl ⟨by cases a <;> cases b <;> rfl, .refl⟩

theorem tv_name {x : Str} {pos : Pos} {b : Bool} (h : EV prog w s₀ X Y env f k (.Name x pos) (.bool b)) : TV prog w s₀ X Y env f k (.Name x pos) b := fun A s hb E g S =>
  wpAny_isTrue_value (wpAny_mono (h A s hb E g S) (fun v s' p => by rw [D.den_bool p.1]; exact wpAny_truthy_bool ⟨rfl, p.2⟩) fun _ _ e => e)
theorem tv_not {e : Expr} {pos : Pos} {b : Bool} (h : TV prog w s₀ X Y env f k e b) : TV prog w s₀ X Y env f k (.UnaryOp .Not e pos) (!b) := fun A s hb E g S =>
  wpAny_isTrue_Not (wpAny_mono (h A s hb E g S) (fun v s' p => ⟨by rw [p.1], p.2⟩) fun _ _ e => e)
theorem tv_and {a b : Expr} {pos : Pos} {p q : Bool} (h1 : TV prog w s₀ X Y env f k a p) (h2 : p = true → TV prog w s₀ X Y env f k b q) : TV prog w s₀ X Y env f k (.BoolOp .And [a, b] pos) (p && q) := fun A s hb E g S =>
  wpAny_isTrue_BoolOp (wpAny_allTrue_And_cons (wpAny_mono (h1 A s hb E g S) (fun v s₁ z => by
    obtain ⟨rfl, l⟩ := z
    cases v with
    | false => exact ⟨rfl, l⟩
    | true => exact wpAny_allTrue_And_cons (wpAny_mono (h2 rfl A s₁ hb E g (S.le l)) (fun v s₂ z => by
        obtain ⟨rfl, l'⟩ := z
        cases v with
        | false => exact ⟨rfl, l.trans l'⟩
        | true => exact wpAny_allTrue_And_nil ⟨rfl, l.trans l'⟩) fun _ _ e => e)) fun _ _ e => e))
theorem tv_or {a b : Expr} {pos : Pos} {p q : Bool} (h1 : TV prog w s₀ X Y env f k a p) (h2 : p = false → TV prog w s₀ X Y env f k b q) : TV prog w s₀ X Y env f k (.BoolOp .Or [a, b] pos) (p || q) := fun A s hb E g S =>
  wpAny_isTrue_BoolOp (wpAny_allTrue_Or_cons (wpAny_mono (h1 A s hb E g S) (fun v s₁ z => by
    obtain ⟨rfl, l⟩ := z
    cases v with
    | true => exact ⟨rfl, l⟩
    | false => exact wpAny_allTrue_Or_cons (wpAny_mono (h2 rfl A s₁ hb E g (S.le l)) (fun v s₂ z => by
        obtain ⟨rfl, l'⟩ := z
        cases v with
        | true => exact ⟨rfl, l.trans l'⟩
        | false => exact wpAny_allTrue_Or_nil ⟨rfl, l.trans l'⟩) fun _ _ e => e)) fun _ _ e => e))

/- built-ins -/
theorem bc_chr {i : Int} (h0 : 0 ≤ i) (h1 : i ≤ 1114111) : BC prog w h₀ X k (.builtin "chr") [.int i] (.str ⟨#[i.toNat]⟩) := fun A s vs E g _ _ hd => by
  cases hd with
  | cons a b => cases b; obtain ⟨t, rfl⟩ := D.den_int a; exact chr_of_range h0 h1 ⟨.str, .toks _⟩
theorem bc_ord {c : Nat} : BC prog w h₀ X k (.builtin "ord") [.str ⟨#[c]⟩] (.int c) := fun A s vs E g _ _ hd => by
  cases hd with
  | cons a b => cases b; obtain ⟨t, rfl⟩ := D.den_str a; exact P.ord_of_char ⟨.int, .toks _⟩
theorem bc_len {l : List D} (hl : (l.length : Int) < 2 ^ 63) : BC prog w h₀ X k (.builtin "len") [.list l] (.int l.length) := fun A s vs E g _ _ hd => by
  cases hd with
  | cons a b =>
    cases b; obtain ⟨p, us, rfl, _, hl', hds⟩ := D.den_list a
    have e : us.toArray.size = l.length := by simp [hds.length]
    exact len_list hl' (by rw [e]; exact hl) (by rw [e]; exact ⟨.int, .toks _⟩)
theorem bc_len_str {x : Str} (hl : (x.length : Int) < 2 ^ 63) : BC prog w h₀ X k (.builtin "len") [.str x] (.int x.length) := fun A s vs E g _ _ hd => by
  cases hd with
  | cons a b => cases b; obtain ⟨t, rfl⟩ := D.den_str a; exact len_str (by lia) ⟨.int, .toks _⟩

noncomputable def sortI (ns : List Int) : List Int := ns.mergeSort (fun a b => decide (a ≤ b))
theorem sortI_of {ns ns' : List Int} (hp : ns'.Perm ns) (hs : ns'.Pairwise (· ≤ ·)) : ns' = sortI ns := by
  refine List.Perm.eq_of_pairwise (le := fun a b => a ≤ b) (fun a b _ _ h1 h2 => Int.le_antisymm h1 h2) hs ?_ (hp.trans (List.mergeSort_perm _ _).symm)
  have := List.pairwise_mergeSort (le := fun (a b : Int) => decide (a ≤ b)) (fun a b c h1 h2 => by simp at *; lia) (fun a b => by simp; lia) ns
  exact this.imp (by simp)
theorem bc_sorted {ns : List Int} (hl : ns.length < 64) : BC prog w h₀ X k (.builtin "sorted") [.list (ns.map .int)] (.list ((sortI ns).map .int)) := fun A s vs E g _ dom hd => by
  cases hd with
  | cons a b =>
    cases b; obtain ⟨p, us, rfl, hp, hl', hds⟩ := D.den_list a
    have hI := hds.ints rfl
    refine sorted_ints hl' hI (by rw [hI.length]; exact hl) fun out ns' hO hP hS => ?_
    rw [sortI_of hP hS] at hO
    obtain ⟨e, he⟩ := sortedAll_at s.heap us out
    refine ⟨.list ?_ ⟨_, he, rfl, e, by simp⟩ (Dens.of_ints hO), .of fun b o _ h => sortedAll_old h⟩
    intro hm
    obtain ⟨o, ho⟩ := dom.2 _ hm
    exact absurd (Heap.lt_size ho) (Nat.not_lt.mpr (Nat.le_succ _))
end
end Mine

namespace Mine
section
variable {prog : Program} {w : World} {A : Around} {E : Value → Shared → Prop} {s : Shared} {X Y : List Addr} {env : Env} {k : Nat} {f : Fs} {s₀ : Shared} {hb : Heap} {mg mb : Str → Option Value}

/- stores -/
theorem wp_storeLocal {x : Str} {v : Value} {d : D} {Q : Unit → Shared → Prop} (ok : EnvOk env) (S : St s₀ hb X Y env f s) (hd : Den X s.heap v d) (hx : env.kindOf x = some .local)
    (h : ∀ s', St s₀ hb X Y env (f.set x d) s' → GB [env.locals] s.heap s'.heap → s'.gens = s.gens → Q () s') : wpAny (model prog w) A (storeName env x v) Q E s := by
  obtain ⟨m, hm, _⟩ := S.ns
  refine wpAny_storeName_local hx hm (fun h' hn hs => h _ (S.store hd hx hm hn hs ok.cl) (.same hs (.head _)) rfl) ?_
  simp [ok.kind]
theorem wp_cellSet {c : Addr} {v : Value} {u : Option Value} {Q : Unit → Shared → Prop} (hc : CellAt s.heap c u) (h : ∀ h', CellAt h' c (some v) → Heap.SameBut c s.heap h' → Q () { s with heap := h' }) : wpAny (model prog w) A (cellSet c (some v)) Q E s := by
  obtain ⟨⟨cl, dd, dt, sl⟩, ho, hd⟩ := hc
  simp only at hd
  subst hd
  unfold cellSet
  refine wpAny_bind (wpAny_load ho ?_)
  refine wpAny_updatePart (part := none) ho (h _ ⟨_, Heap.get?_update_self _ ho rfl, rfl⟩ (.update ..))
theorem wp_storeCell {x : Str} {c : Addr} {v : Value} {d : D} {u : Option Value} {Q : Unit → Shared → Prop} (ok : EnvOk env) (S : St s₀ hb X Y env f s) (hd : Den X s.heap v d) (hx : env.kindOf x = some .cell)
    (hcx : env.cells.lookup x = some c) (hcY : c ∈ Y) (hinj : ∀ y, env.cells.lookup y = some c → y = x) (hu : CellAt s.heap c u)
    (h : ∀ s', St s₀ hb X Y env (f.set x d) s' → GB [c] s.heap s'.heap → s'.gens = s.gens → Q () s') : wpAny (model prog w) A (storeName env x v) Q E s := by
  have e : storeName env x v = (do cellSet (← cellOf env x) (some v)) := by
    unfold storeName
    simp only [hx, ok.kind, show (some NameKind.cell == some NameKind.globalImplicit) = false from rfl, show (ScopeKind.function == ScopeKind.class) = false from rfl, Bool.false_and, Bool.false_eq_true, if_false]
  rw [e]
  have hcell : cellOf env x = pure c := by unfold cellOf; rw [hcx]
  rw [hcell]
  refine wpAny_bind (wpAny_pure (wp_cellSet hu fun h' hc' hs => ?_))
  exact h _ (S.setCell (tk := s.toks) hd hx hcx hcY hc' hs (ok.cl _ (mem_of_lookup hcx)) hinj) (.same hs (.head _)) rfl

/- statements -/
theorem ex_assign {x : Str} {px pos : Pos} {e : Expr} {d : D} {Q : Flow → Shared → Prop} (ok : EnvOk env) (g : Good k A) (S : St s₀ hb X Y env f s) (he : EV prog w s₀ X Y env f k e d) (hx : env.kindOf x = some .local)
    (h : ∀ s', St s₀ hb X Y env (f.set x d) s' → GB [env.locals] s.heap s'.heap → Q .next s')
    (hs : swapsWith e (some (.Name x px)) pos.line env = pure false := by rfl) : wpAny (model prog w) A (exec (.Assign [.Name x px] e pos) env) Q E s :=
  wpAny_Assign_Name (wpAny_mono (he A s hb E g S) (fun v s₁ p => wp_storeLocal ok (S.le p.2) p.1 hx fun s' S' g' _ => h s' S' ((p.2.heap.mono fun _ m => nomatch m).trans g')) fun _ _ e => e) hs
theorem ex_aug {x : Str} {px pos : Pos} {op : Operator} {e : Expr} {d₁ d₂ d : D} {Q : Flow → Shared → Prop} (ok : EnvOk env) (g : Good k A) (S : St s₀ hb X Y env f s) (hx : env.kindOf x = some .local) (h1 : f.ρ x = some d₁) (he : EV prog w s₀ X Y env f k e d₂)
    (hop : ∀ (A : Around) (s : Shared) (a b : Value) (E : Value → Shared → Prop), Good k A → (∀ a ∈ X, ∃ o, s.heap.get? a = some o) → Den X s.heap a d₁ → Den X s.heap b d₂ → wpAny (model prog w) A (inplaceOp op a b) (Pd X s d) E s)
    (h : ∀ s', St s₀ hb X Y env (f.set x d) s' → GB [env.locals] s.heap s'.heap → Q .next s') : wpAny (model prog w) A (exec (.AugAssign (.Name x px) op e pos) env) Q E s := by
  obtain ⟨m, hn, hm⟩ := S.ns
  obtain ⟨v, ev, hv⟩ := hm x _ h1 hx
  refine wpAny_AugAssign_Name (wpAny_loadName_local ok.kind hx hn ev ?_)
  exact wpAny_mono (he A s hb E g S) (fun u s₁ p => wpAny_mono (hop A s₁ v u E g (S.le p.2).dom (hv.grow p.2.heap) p.1) (fun r s₂ q =>
    wp_storeLocal ok ((S.le p.2).le q.2) q.1 hx fun s' S' g' _ => h s' S' (((p.2.trans q.2).heap.mono fun _ m => nomatch m).trans g')) fun _ _ e => e) fun _ _ e => e
theorem ex_if {t : Expr} {body orelse : List Stmt} {pos : Pos} {b : Bool} {Q : Flow → Shared → Prop} (g : Good k A) (S : St s₀ hb X Y env f s) (ht : TV prog w s₀ X Y env f k t b)
    (h : ∀ s', Le s s' → St s₀ hb X Y env f s' → if b = true then wpAny (model prog w) A (execs body env) Q E s' else wpAny (model prog w) A (execs orelse env) Q E s') :
    wpAny (model prog w) A (exec (.If t body orelse pos) env) Q E s :=
  wpAny_If (wpAny_mono (ht A s hb E g S) (fun b' s' p => by rw [p.1]; exact h s' p.2 (S.le p.2)) fun _ _ e => e)
theorem ex_return {e : Expr} {pos : Pos} {d : D} {Q : Flow → Shared → Prop} (g : Good k A) (S : St s₀ hb X Y env f s) (he : EV prog w s₀ X Y env f k e d) (h : ∀ v s', Den X s'.heap v d → Le s s' → St s₀ hb X Y env f s' → Q (.ret v) s') :
    wpAny (model prog w) A (exec (.Return (some e) pos) env) Q E s :=
  wpAny_Return_some (wpAny_mono (he A s hb E g S) (fun v s' p => h v s' p.1 p.2 (S.le p.2)) fun _ _ e => e)

/- iteration -/
noncomputable def GoNames : List String := ["enumerate", "zip", "dict_itemiterator", "dict_reverseitemiterator", "odict_iterator", "itertools.zip_longest", "itertools.pairwise"]
set_option tactic.hygienic true in
theorem wp_go {elts : List Expr} {x1 : Nat} {pos : Pos} {I T : Addr} {Q : Unit → Shared → Prop} (h : ∃ o n, s.heap.get? I = some o ∧ o.cls = .type n ∧ GoNames.contains n = false) (hQ : Q () s) :
    wpAny (model prog w) A (letOwnedTupleGo (.Tuple elts x1 pos) (.ref I) (.ref T)) Q E s := by
  obtain ⟨o, n, ho, hc, hn⟩ := h
  unfold letOwnedTupleGo
  refine wpAny_bind (wpAny_load ho ?_)
  rw [hc]
  split
  · rename_i n' vs h1 h2
    cases h1
    rw [show (["enumerate", "zip", "dict_itemiterator", "dict_reverseitemiterator", "odict_iterator", "itertools.zip_longest", "itertools.pairwise"].contains n) = false from hn]
    exact wpAny_pure hQ
  · exact wpAny_pure hQ
noncomputable def EI (prog : Program) (w : World) (s₀ : Shared) (X Y : List Addr) (env : Env) (f : Fs) (k : Nat) (e : Expr) (ds : List D) : Prop :=
  ∀ (A : Around) (s : Shared) (hb : Heap) (E : Value → Shared → Prop), Good k A → St s₀ hb X Y env f s →
    wpAny (model prog w) A (eval e env) (fun v s₁ => wpAny (model prog w) A (pyIter v) (fun it s₂ => Le s s₂ ∧ ∃ I P Stt fp, it = .ref I ∧ s.heap.get? I = none ∧ (∃ o, s₂.heap.get? I = some o) ∧
      (∀ A' : Around, A'.handled = none → Walks prog w A' I fp [I] ds.length P Stt) ∧ Stt 0 s₂.heap ∧ (∀ i h, Stt i h → ∃ o, h.get? I = some o) ∧ (∀ b ∈ fp, b ∉ X ∧ ∃ o, s₂.heap.get? b = some o) ∧ (∀ i v, P i v → i < ds.length → ∃ d, ds[i]? = some d ∧ Den (I :: X) s₂.heap v d) ∧ (∀ i h, Stt i h → ∃ o n, h.get? I = some o ∧ o.cls = .type n ∧ GoNames.contains n = false)) E s₁) E s

theorem ei_list {e : Expr} {l : List D} (h : EV prog w s₀ X Y env f k e (.list l)) : EI prog w s₀ X Y env f k e l := fun A s hb E g S =>
  wpAny_mono (h A s hb E g S) (fun v s₁ p => by
    obtain ⟨a, vs, rfl, ha, hl, hd⟩ := D.den_list p.1
    have hf := fresh_addr s₁.heap
    have hne : a ≠ s₁.heap.objs.size := fun e => by obtain ⟨o, ho, _⟩ := hl; rw [e, hf] at ho; cases ho
    refine wpAny_pyIter_list hl ?_
    refine ⟨p.2.trans (.push _), s₁.heap.objs.size, fun i v => vs.toArray[i]? = some v, fun i h => h.IsListIter s₁.heap.objs.size a i ∧ h.IsList a vs.toArray, [s₁.heap.objs.size, a], rfl, ?_, ⟨_, Heap.get?_push_size _ rfl⟩, ?_, ⟨⟨_, Heap.get?_push_size _ rfl, rfl, rfl⟩, hl.push _⟩, fun _ _ h => by obtain ⟨o, e, _⟩ := h.1; exact ⟨o, e⟩, ?_, ?_, ?_⟩
    · cases e : s.heap.get? s₁.heap.objs.size with
      | none => rfl
      | some o => rw [p.2.heap _ _ nil_mem e] at hf; cases hf
    · intro A' hA'
      have W := Walks.list (prog := prog) (w := w) hA' s₁.heap.objs.size a hne vs.toArray
      rw [show vs.toArray.size = l.length by simp [hd.length]] at W
      exact W
    · intro b hb
      rcases List.mem_cons.mp hb with rfl | hb
      · exact ⟨(S.le p.2).notX hf, _, Heap.get?_push_size _ rfl⟩
      · rw [List.mem_singleton.mp hb]; exact ⟨ha, by obtain ⟨o, e, _⟩ := hl; exact ⟨o, Heap.get?_push_of_some _ e⟩⟩
    · intro i v hv hi
      have hv : vs[i]? = some v := by simpa using hv
      obtain ⟨u, hu, hud⟩ := hd.get (show l[i]? = some l[i] by simp [hi])
      rw [hv] at hu; cases hu
      refine ⟨l[i], by simp [hi], (hud.avoid (X' := s₁.heap.objs.size :: X) fun b hb => ?_).grow (GB.push _)⟩
      rcases List.mem_cons.mp hb with rfl | hb
      · exact .inr hf
      · exact .inl hb
    · rintro i h ⟨⟨o, e, c, _⟩, _⟩; exact ⟨o, _, e, c, by decide⟩) fun _ _ e => e

noncomputable def chars (x : Str) : List D := x.cps.toList.map fun c => .str ⟨#[c]⟩
theorem ei_str {e : Expr} {x : Str} (h : EV prog w s₀ X Y env f k e (.str x)) : EI prog w s₀ X Y env f k e (chars x) := fun A s hb E g S =>
  wpAny_mono (h A s hb E g S) (fun v s₁ p => by
    obtain ⟨t, rfl⟩ := D.den_str p.1
    have hf := fresh_addr s₁.heap
    have hnone : s.heap.get? s₁.heap.objs.size = none := by
      cases e : s.heap.get? s₁.heap.objs.size with
      | none => rfl
      | some o => rw [p.2.heap _ _ nil_mem e] at hf; cases hf
    have hfp : ∀ ob, Obj.isFreed ob = false → ∀ b ∈ [s₁.heap.objs.size], b ∉ X ∧ ∃ o, (s₁.heap.push ob).get? b = some o := fun ob hob b hb => by rw [List.mem_singleton.mp hb]; exact ⟨(S.le p.2).notX hf, _, Heap.get?_push_size _ hob⟩
    have len : x.cps.size = (chars x).length := by simp [chars]
    have items : ∀ (h : Heap) i v, SignAt x i v → i < (chars x).length → ∃ d, (chars x)[i]? = some d ∧ Den (s₁.heap.objs.size :: X) h v d := by
      rintro h i v ⟨c, u, hc, rfl⟩ hi
      exact ⟨.str ⟨#[c]⟩, by simp [chars, hc], .str⟩
    cases ha : x.cps.all (· < 128)
    · refine wpAny_pyIter_wide ha ?_
      refine ⟨p.2.trans (.push _), s₁.heap.objs.size, SignAt x, fun i h => h.IsStrIter s₁.heap.objs.size "str_iterator" x t i, [s₁.heap.objs.size], rfl, hnone, ⟨_, Heap.get?_push_size _ rfl⟩, fun A' hA' => ?_, ⟨_, Heap.get?_push_size _ rfl, rfl, rfl⟩, fun _ _ h => by obtain ⟨o, e, _⟩ := h; exact ⟨o, e⟩, hfp _ rfl, items _, fun _ _ h => by obtain ⟨o, e, c, _⟩ := h; exact ⟨o, _, e, c, by decide⟩⟩
      have W' := Walks.strWide (prog := prog) (w := w) hA' s₁.heap.objs.size x t
      rw [len] at W'
      exact W'
    · refine wpAny_pyIter_ascii ha ?_
      refine ⟨p.2.trans (.push _), s₁.heap.objs.size, SignAt x, fun i h => h.IsStrIter s₁.heap.objs.size "str_ascii_iterator" x t i, [s₁.heap.objs.size], rfl, hnone, ⟨_, Heap.get?_push_size _ rfl⟩, fun A' hA' => ?_, ⟨_, Heap.get?_push_size _ rfl, rfl, rfl⟩, fun _ _ h => by obtain ⟨o, e, _⟩ := h; exact ⟨o, e⟩, hfp _ rfl, items _, fun _ _ h => by obtain ⟨o, e, c, _⟩ := h; exact ⟨o, _, e, c, by decide⟩⟩
      have W' := Walks.strAscii (prog := prog) (w := w) hA' s₁.heap.objs.size x t
      rw [len] at W'
      exact W') fun _ _ e => e
end
end Mine

namespace Mine
section
variable {prog : Program} {w : World} {A : Around} {E : Value → Shared → Prop} {s : Shared} {X Y : List Addr} {env : Env} {k : Nat} {f : Fs} {s₀ : Shared} {hb : Heap} {mg mb : Str → Option Value}

noncomputable def rangeD (a c : Int) (n : Nat) : List D := (List.range n).map fun (i : Nat) => .int (a + (i : Int) * c)
theorem rangeD_len (a c : Int) (n : Nat) : (rangeD a c n).length = n := by simp [rangeD]

theorem ei_range {es : List Expr} {px pos : Pos} {ds : List D} {a b c : Int} {n : Nat} (ok : EnvOk env) (G : GF s₀.heap mg mb) (hg : Glob env mg mb "range" (.type "range")) (ha : EVs prog w s₀ X Y env f k pos es ds)
    (hp : (starEach es env).any (·.1) = false)
    (hcall : ∀ (A : Around) (s : Shared) (vs : List Value) (E : Value → Shared → Prop), Good k A → Dens X s.heap vs ds → wpAny (model prog w) A (call (.type "range") vs) (fun v s' => ∃ r t u z, v = .ref r ∧ Le s s' ∧ IsRange s'.heap r a b c t u z) E s)
    (hsm : Builtin.Range.small a b c = true) (hn : Builtin.Range.rangeSize a b c = n) :
    EI prog w s₀ X Y env f k (.Call (.Name "range" px) es [] pos) (rangeD a c n) := fun A s hb E g S => by
  show wpAny _ A (do callWith pos (← eval (.Name "range" px) env) [] (backTo pos (starEach es env)) (backToKw pos (keywordEach [] env))) _ E s
  refine wpAny_bind (wp_glob ok G hg S ?_)
  refine PyProof.Rows.callWith_type (backTo_any pos hp) (evalArgs_spliced (backTo_any pos hp) ?_)
  refine wpAny_mono (ha A s hb E g S) (fun vs s₁ p => wpAny_mono (hcall A s₁ vs E g p.1) (fun v s₂ q => ?_) fun _ _ e => e) fun _ _ e => e
  obtain ⟨r, t, u, z, rfl, l, hr⟩ := q
  have L := p.2.trans l
  have hf := fresh_addr s₂.heap
  have hnone : s.heap.get? s₂.heap.objs.size = none := by
    cases e : s.heap.get? s₂.heap.objs.size with
    | none => rfl
    | some o => rw [L.heap _ _ nil_mem e] at hf; cases hf
  refine wpAny_pyIter_range hr hsm ?_
  refine ⟨L.trans (.push _), s₂.heap.objs.size, fun i v => ∃ t, v = .int (a + (i : Nat) * c) t, fun i h => IsRangeIter h s₂.heap.objs.size (a + (i : Nat) * c) ((n : Int) - (i : Nat)) c, [s₂.heap.objs.size], rfl, hnone, ⟨_, Heap.get?_push_size _ rfl⟩, fun A' hA' => ?_, ?_, fun _ _ h => ⟨_, h⟩, fun b hb => ?_, ?_, fun _ _ h => ⟨_, _, h, rfl, by decide⟩⟩
  · rw [rangeD_len]; exact Walks.range hA' _ a c n
  · show IsRangeIter _ _ _ _ _
    rw [hn]; simpa using Heap.get?_push_size _ rfl
  · rw [List.mem_singleton.mp hb]; exact ⟨(S.le L).notX hf, _, Heap.get?_push_size _ rfl⟩
  · rintro i v ⟨t, rfl⟩ hi
    rw [rangeD_len] at hi
    exact ⟨.int (a + (i : Int) * c), by simp [rangeD, hi], .int⟩

theorem range1 {n : Int} : ∀ (A : Around) (s : Shared) (vs : List Value) (E : Value → Shared → Prop), Good k A → Dens X s.heap vs [.int n] → wpAny (model prog w) A (call (.type "range") vs) (fun v s' => ∃ r t u z, v = .ref r ∧ Le s s' ∧ IsRange s'.heap r 0 n 1 t u z) E s := fun A s vs E _ hd => by
  cases hd with
  | cons x y => cases y; obtain ⟨t, rfl⟩ := D.den_int x; exact call_range_1 ⟨_, _, _, _, rfl, ⟨GB.push _, rfl, id⟩, Heap.get?_push_size _ rfl⟩
theorem range3 {a b c : Int} (hc : c ≠ 0) (hp : Builtin.divisionGoesByPylong (b - a) c = false) : ∀ (A : Around) (s : Shared) (vs : List Value) (E : Value → Shared → Prop), Good k A → Dens X s.heap vs [.int a, .int b, .int c] → wpAny (model prog w) A (call (.type "range") vs) (fun v s' => ∃ r t u z, v = .ref r ∧ Le s s' ∧ IsRange s'.heap r a b c t u z) E s := fun A s vs E _ hd => by
  cases hd with
  | cons x y => cases y with
    | cons y z => cases z with
      | cons z u => 
        cases u
        obtain ⟨t, rfl⟩ := D.den_int x; obtain ⟨t', rfl⟩ := D.den_int y; obtain ⟨t'', rfl⟩ := D.den_int z
        exact call_range_3 hc ⟨_, _, _, _, rfl, ⟨GB.push _, rfl, id⟩, Heap.get?_push_size _ rfl⟩ (.inl hp)

/- for -/
theorem wp_For {target iter : Expr} {body orelse : List Stmt} {pos : Pos} {Q : Flow → Shared → Prop}
    (h : wpAny (model prog w) A (eval iter env) (fun v s₁ => wpAny (model prog w) A (pyIter v) (fun it s₂ => codeAny (model prog w) A (.forLoop target it body orelse env) (fun r s' => match r with | .ok f => Q f s' | .error e => cameBackBy (model prog w) A env E e s') s₂) E s₁) E s)
    (hs : ∀ x, foldedSetIterable iter env x = pure x := by intro _; rfl) : wpAny (model prog w) A (exec (.For target iter body orelse pos) env) Q E s := by
  show wpAny _ A (do
    standAt pos
    let x ← foldedSetIterable iter env (← eval iter env)
    standAt iter.pos
    runOwn (.forLoop target (← holding [x] (pyIter x)) body orelse env) env) Q E s
  refine wpAny_bind (wpAny_standAt (wpAny_bind (wpAny_mono h (fun v s₁ h₁ => ?_) fun _ _ e => e)))
  rw [hs]
  refine wpAny_bind (wpAny_pure (wpAny_bind (wpAny_standAt (wpAny_bind (wpAny_holding (wpAny_mono h₁ (fun it s₂ h₂ => ?_) fun _ _ e => e))))))
  exact wpAny_runOwn h₂

/- a loop over a walked iterator: the invariant is the frame's state -/
theorem for_loop {x : Str} {px : Pos} {body : List Stmt} {I : Addr} {N : Nat} {P : Nat → Value → Prop} {Stt : Nat → Heap → Prop} {fp : List Addr} {Q : Flow → Shared → Prop} {hL : Heap} (fs : Nat → Fs)
    (gd : Good k A) (W : ∀ A' : Around, A'.handled = none → Walks prog w A' I fp [I] N P Stt) (hso : ∀ i h, Stt i h → ∃ o, h.get? I = some o) (hfp : ∀ b ∈ fp, b ∉ Y) (hIX : I ∉ X) (hYX : ∀ a ∈ Y, a ∈ X) (hI0 : s₀.heap.get? I = none) (hIb : hb.get? I = none) (hIc : ∀ p ∈ env.cells, p.2 ≠ I)
    (turn : ∀ i v s E', i < N → P i v → St s₀ s.heap (I :: X) Y env (fs i) s → GB (I :: Y) hL s.heap → wpAny (model prog w) A (assign (.Name x px) env v) (fun _ s₂ => wpAny (model prog w) A (execs body env) (fun fl s₃ => match fl with
      | .next | .cont => St s₀ s.heap (I :: X) Y env (fs (i + 1)) s₃
      | .brk => False
      | .ret v => Q (.ret v) s₃) E' s₂) E' s)
    (fin : ∀ s, St s₀ hb X Y env (fs N) s → Q .next s)
    (S : St s₀ hb (I :: X) Y env (fs 0) s) (hst : Stt 0 s.heap) (hg : GB (I :: Y) hL s.heap) :
    codeAny (model prog w) A (.forLoop (.Name x px) (.ref I) body [] env) (fun r s' => match r with | .ok fl => Q fl s' | .error e => cameBackBy (model prog w) A env E e s') s := by
  have W0 := W A gd.handled
  have hIY : I ∉ Y := fun m => hIX (hYX _ m)
  refine codeAny_forLoop_any (fun n s => ∃ i, i ≤ N ∧ n = N - i ∧ St s₀ hb (I :: X) Y env (fs i) s ∧ Stt i s.heap ∧ GB (I :: Y) hL s.heap) ?_ N ⟨0, Nat.zero_le _, rfl, S, hst, hg⟩
  rintro n s ⟨i, hi, rfl, S, hst, hg⟩
  by_cases hlt : i < N
  · refine W0.item i s _ _ hlt hst fun v h' tk hP hst' hk => ?_
    have g1 : GB [I] s.heap h' := hk
    refine wpAny_pure ?_
    have S' : St s₀ hb (I :: X) Y env (fs i) { s with heap := h', toks := tk } := S.bump (.head _) hIY hI0 hIb hIc g1 (hso _ _ hst')
    have hg' : GB (I :: Y) hL h' := hg.trans (g1.mono fun a m => by rw [List.mem_singleton.mp m]; exact .head _)
    refine wpAny_mono (turn i v _ _ hlt hP S'.rebase hg') (fun _ s₂ h₂ => wpAny_mono h₂ (fun fl s₃ h₃ => ?_) fun _ _ e => e) fun _ _ e => e
    have up : St s₀ h' (I :: X) Y env (fs (i + 1)) s₃ → ∃ m, m < N - i ∧ ∃ j, j ≤ N ∧ m = N - j ∧ St s₀ hb (I :: X) Y env (fs j) s₃ ∧ Stt j s₃.heap ∧ GB (I :: Y) hL s₃.heap := by
      intro T
      refine ⟨N - (i + 1), Nat.sub_lt_sub_left hlt (Nat.lt_succ_self i), i + 1, hlt, rfl, T.unbase S'.gb, ?_, hg'.trans (T.gb.mono fun a m => .tail _ m)⟩
      exact W0.frame _ _ _ hst' fun b hb o e => T.gb b o (hfp b hb) e
    cases fl with
    | next => exact up h₃
    | cont => exact up h₃
    | brk => exact h₃.elim
    | ret v => exact h₃
  · have hN : i = N := Nat.le_antisymm hi (Nat.not_lt.mp hlt)
    subst hN
    refine W0.done s _ _ hst fun h' tk hk => ?_
    exact wpAny_execs_nil (fin _ (S.fin hIX hYX hI0 hIb hIc hk))

/- for x in e: body, by an invariant -/
theorem ex_for {x : Str} {px pos : Pos} {e : Expr} {body : List Stmt} {ds : List D} {Q : Flow → Shared → Prop} (fs : Nat → Fs) (ok : EnvOk env) (gd : Good k A) (S : St s₀ hb X Y env (fs 0) s) (hi : EI prog w s₀ X Y env (fs 0) k e ds)
    (hx : env.kindOf x = some .local)
    (turn : ∀ i d s I hb' E', I ∉ X → ds[i]? = some d → St s₀ hb' (I :: X) Y env ((fs i).set x d) s → wpAny (model prog w) A (execs body env) (fun fl s₃ => match fl with
      | .next | .cont => St s₀ hb' (I :: X) Y env (fs (i + 1)) s₃
      | .brk => False
      | .ret v => Q (.ret v) s₃) E' s)
    (fin : ∀ s', St s₀ hb X Y env (fs ds.length) s' → Q .next s')
    (hs : ∀ x, foldedSetIterable e env x = pure x := by intro _; rfl) : wpAny (model prog w) A (exec (.For (.Name x px) e body [] pos) env) Q E s := by
  refine wp_For (wpAny_mono (hi A s hb E gd S) (fun v s₁ h₁ => wpAny_mono h₁ (fun it s₂ h₂ => ?_) fun _ _ e => e) fun _ _ e => e) hs
  obtain ⟨le, I, P, Stt, fp, rfl, hn, hex, W, hst, hso, hfp, hit, _⟩ := h₂
  have hIX := S.notX hn
  refine for_loop (hL := s₂.heap) fs gd W hso (fun b hb m => (hfp b hb).1 (S.sub _ m)) hIX S.sub (S.none0 hn) (S.noneb hn) (S.cne hn) ?_ fin (S.watch hn le hex) hst .refl
  intro i v s' E' hlt hP S' g'
  obtain ⟨d, hd, hv⟩ := hit i v hP hlt
  have hv' : Den (I :: X) s'.heap v d := hv.gb (fun a ha => by rcases List.mem_cons.mp ha with rfl | h; exact .head _; exact .tail _ (S.sub _ h)) g'
  show wpAny _ A (do standAt px; bindName env x v) _ E' s'
  refine wpAny_bind (wpAny_standAt (wpAny_bindName (wp_storeLocal ok S' hv' hx fun s₃ S₃ _ _ => ?_)))
  exact turn i d s₃ I _ E' hIX hd S₃

/- for x in e: x is a cell of the frame -/
theorem ex_forC {x : Str} {c : Addr} {px pos : Pos} {e : Expr} {body : List Stmt} {ds : List D} {Q : Flow → Shared → Prop} (fs : Nat → Fs) (ok : EnvOk env) (gd : Good k A) (S : St s₀ hb X Y env (fs 0) s) (hi : EI prog w s₀ X Y env (fs 0) k e ds)
    (hx : env.kindOf x = some .cell) (hcx : env.cells.lookup x = some c) (hcY : c ∈ Y) (hinj : ∀ y, env.cells.lookup y = some c → y = x) (hcell : ∀ hb X i s, St s₀ hb X Y env (fs i) s → ∃ u, CellAt s.heap c u)
    (turn : ∀ i d s I hb' E', I ∉ X → ds[i]? = some d → St s₀ hb' (I :: X) Y env ((fs i).set x d) s → wpAny (model prog w) A (execs body env) (fun fl s₃ => match fl with
      | .next | .cont => St s₀ hb' (I :: X) Y env (fs (i + 1)) s₃
      | .brk => False
      | .ret v => Q (.ret v) s₃) E' s)
    (fin : ∀ s', St s₀ hb X Y env (fs ds.length) s' → Q .next s')
    (hs : ∀ x, foldedSetIterable e env x = pure x := by intro _; rfl) : wpAny (model prog w) A (exec (.For (.Name x px) e body [] pos) env) Q E s := by
  refine wp_For (wpAny_mono (hi A s hb E gd S) (fun v s₁ h₁ => wpAny_mono h₁ (fun it s₂ h₂ => ?_) fun _ _ e => e) fun _ _ e => e) hs
  obtain ⟨le, I, P, Stt, fp, rfl, hn, hex, W, hst, hso, hfp, hit, _⟩ := h₂
  have hIX := S.notX hn
  refine for_loop (hL := s₂.heap) fs gd W hso (fun b hb m => (hfp b hb).1 (S.sub _ m)) hIX S.sub (S.none0 hn) (S.noneb hn) (S.cne hn) ?_ fin (S.watch hn le hex) hst .refl
  intro i v s' E' hlt hP S' g'
  obtain ⟨d, hd, hv⟩ := hit i v hP hlt
  have hv' : Den (I :: X) s'.heap v d := hv.gb (fun a ha => by rcases List.mem_cons.mp ha with rfl | h; exact .head _; exact .tail _ (S.sub _ h)) g'
  obtain ⟨u, hu⟩ := hcell _ _ _ _ S'
  show wpAny _ A (do standAt px; bindName env x v) _ E' s'
  refine wpAny_bind (wpAny_standAt (wpAny_bindName (wp_storeCell ok S' hv' hx hcx hcY hinj hu fun s₃ S₃ _ _ => ?_)))
  exact turn i d s₃ I _ E' hIX hd S₃

/- while: by an invariant and a measure -/
theorem ex_while {t : Expr} {body : List Stmt} {pos : Pos} {Q : Flow → Shared → Prop} (gd : Good k A) (J : Nat → Fs → Prop)
    (turn : ∀ n f s E', J n f → St s₀ hb X Y env f s → ∃ b, TV prog w s₀ X Y env f k t b ∧ (b = true → ∀ s', St s₀ hb X Y env f s' → wpAny (model prog w) A (execs body env) (fun fl s₃ => match fl with
      | .next | .cont => ∃ m f', m < n ∧ J m f' ∧ St s₀ hb X Y env f' s₃
      | .brk => False
      | .ret v => Q (.ret v) s₃) E' s') ∧ (b = false → ∀ s', St s₀ hb X Y env f s' → Q .next s'))
    (n : Nat) (f : Fs) (hj : J n f) (S : St s₀ hb X Y env f s) : wpAny (model prog w) A (exec (.While t body [] pos) env) Q E s := by
  refine wpAny_While (codeAny_whileLoop (fun n s => ∃ f, J n f ∧ St s₀ hb X Y env f s) ?_ n ⟨f, hj, S⟩)
  rintro n s ⟨f, hj, S⟩
  obtain ⟨b, ht, h1, h2⟩ := turn n f s (notedBy (model prog w) A env fun e s' => cameBackBy (model prog w) A env E e s') hj S
  refine wpAny_mono (ht A s hb _ gd S) (fun b' s' p => ?_) fun _ _ e => e
  obtain ⟨rfl, le⟩ := p
  cases b' with
  | false =>
    simp only [Bool.false_eq_true, if_false]
    exact wpAny_execs_nil (h2 rfl s' (S.le le))
  | true =>
    simp only [if_true]
    refine wpAny_mono (h1 rfl s' (S.le le)) (fun fl s₃ h => ?_) fun _ _ e => e
    cases fl with
    | next => obtain ⟨m, f', hm, hj', S'⟩ := h; exact ⟨m, hm, f', hj', S'⟩
    | cont => obtain ⟨m, f', hm, hj', S'⟩ := h; exact ⟨m, hm, f', hj', S'⟩
    | brk => exact h.elim
    | ret v => exact h

/- append to an own list -/
theorem wp_append {a : Addr} {x : Value} {d : D} {l : List D} {Q : Value → Shared → Prop} (S : St s₀ hb X Y env f s) (ho : f.own a = some l) (hd : Den X s.heap x d) (hsz : l.length ≤ sizeLine)
    (h : ∀ s', St s₀ hb X Y env (f.put a (some (l ++ [d]))) s' → Q .none s') : wpAny (model prog w) A (call (.builtin "list.append") [.ref a, x]) Q E s := by
  obtain ⟨_, _, _, _, vs, n, hl, hds⟩ := S.own a l ho
  obtain ⟨n, rfl⟩ := hds.obj
  refine wpAny_list_append_plain ⟨n, hl⟩ (fun h' hn hs => ?_) (by simpa [hds.dens.length] using hsz)
  obtain ⟨n', hn⟩ := hn
  have e : vs.toArray.push x = (vs ++ [x]).toArray := by simp
  rw [e] at hn
  exact h _ (S.setOwn (tk := s.toks) ho ⟨⟨n', rfl⟩, hds.dens.append (.cons hd .nil)⟩ hn hs)

theorem wpAny_Expr_none {e : Expr} {pos : Pos} {Q : Flow → Shared → Prop} (h : wpAny (model prog w) A (eval e env) (fun v s' => v = .none ∧ Q .next s') E s)
    (hi : interactive env = false) (hs : swapsWith e none pos.line env = pure false := by rfl) : wpAny (model prog w) A (exec (.Expr e pos) env) Q E s :=
  wpAny_Expr (wpAny_mono h (fun v s' p => by obtain ⟨rfl, q⟩ := p; exact q) fun _ _ e => e) hi hs

/- x.append(e), x an own list -/
theorem ex_append {x : Str} {px apos pos pos' : Pos} {e : Expr} {a : Addr} {d : D} {l : List D} {Q : Flow → Shared → Prop} (ok : EnvOk env) (gd : Good k A) (S : St s₀ hb X Y env f s) (hx : EV prog w s₀ X Y env f k (.Name x px) (.ref a)) (ho : f.own a = some l)
    (he : EV prog w s₀ X Y env f k e d) (hsz : l.length ≤ sizeLine) (h : ∀ s', St s₀ hb X Y env (f.put a (some (l ++ [d]))) s' → Q .next s')
    (hbase : attributeBase (.Name x px) "append" env (eval (.Name x px) env) = eval (.Name x px) env := by rfl) (hline : (apos.endLine == pos.line) = true := by rfl)
    (htrees : backTo pos (starEach [e] env) = [(false, eval e env)] := by rfl) :
    wpAny (model prog w) A (exec (.Expr (.Call (.Attribute (.Name x px) "append" apos) [e] [] pos) pos') env) Q E s := by
  have hi : interactive env = false := by unfold interactive; rw [ok.kind]; rfl
  refine wpAny_Expr_none (wpAny_Call_append hbase (by rw [htrees]; rfl) hline htrees (wpAny_mono (hx A s hb E gd S) (fun v s₁ p => ?_) fun _ _ e => e)) hi
  obtain rfl := D.den_ref p.1
  have S₁ := S.le p.2
  obtain ⟨_, _, _, _, vs, n, hl, hds⟩ := S₁.own a l ho
  obtain ⟨n, rfl⟩ := hds.obj
  refine ⟨a, vs.toArray, rfl, ⟨_, n, hl, rfl, rfl, rfl⟩, ?_⟩
  refine wpAny_mono (he A s₁ hb E gd S₁) (fun y s₂ q => ?_) fun _ _ e => e
  exact wp_append (S₁.le q.2) ho q.1 hsz fun s' S' => ⟨rfl, h s' S'⟩
end
end Mine

namespace Mine
section
variable {prog : Program} {w : World} {A : Around} {E : Value → Shared → Prop} {s : Shared} {X Y : List Addr} {env : Env} {k : Nat} {f : Fs} {s₀ : Shared} {hb h₀ : Heap} {mg mb : Str → Option Value}

/- a plain def of the top stands at a -/
noncomputable def FnAt (h : Heap) (a : Addr) (name : Str) (params : Arguments) (body : List Stmt) (scope : Scope) : Prop :=
  ∃ o pm cd doc, h.get? a = some o ∧ o.data = .func (Calls.docDef name params body scope pm cd doc) ∧ h.CodeRec cd name
noncomputable def one (x : Str) (d : D) : Fs := ⟨fun y => if y = x then some d else none, fun _ => none, .nil⟩

set_option tactic.hygienic true in
theorem st_enter {h₁ : Heap} {L : Addr} {x : Str} {v : Value} {d : D} {tk : Nat} (hL : L = s.heap.objs.size) (hk : env.locals = L) (hc : env.cells = []) (hx : env.kindOf x = some .local) (F : Fr s.heap L h₁ (fun y => [(x, v)].reverse.lookup y)) (dom : AllBare s.gens ∧ ∀ a ∈ X, ∃ o, s.heap.get? a = some o) (hd : Den X s.heap v d) :
    St s h₁ (L :: X) [L] env (one x d) { s with heap := h₁, toks := tk } := by
  have hf : s.heap.get? L = none := hL ▸ fresh_addr s.heap
  have g : GB [] s.heap h₁ := fun b o _ e => F.keep b o e
  have hav : ∀ b ∈ L :: X, b ∈ X ∨ s.heap.get? b = none := fun b hb => by
    rcases List.mem_cons.mp hb with rfl | h
    · exact .inr hf
    · exact .inl h
  refine { keep := g, os := rfl, gens := dom.1, gb := .refl, new := ?_, sub := ?_, dom := ?_, locY := ?_, cdom := ?_, ns := ?_, cell := ?_, own := ?_, ext := ?_ }
  · intro a ha; rw [List.mem_singleton.mp ha]; exact hf
  · intro a ha; rw [List.mem_singleton.mp ha]; exact .head _
  · intro a ha
    rcases List.mem_cons.mp ha with rfl | h
    · obtain ⟨o, _, _, e, _⟩ := F.ns; exact ⟨o, e⟩
    · obtain ⟨o, e⟩ := dom.2 a h; exact ⟨o, g a o nil_mem e⟩
  · rw [hk]; exact .head _
  · rw [hc]; intro p hp; cases hp
  · rw [hk]
    refine ⟨_, F.ns, fun y e hy _ => ?_⟩
    simp only [one] at hy
    split at hy
    · rename_i q
      subst q
      cases hy
      exact ⟨v, by simp [List.lookup_cons], (hd.avoid hav).grow g⟩
    · cases hy
  · rw [hc]
    intro y e hy hkk
    simp only [one] at hy
    split at hy
    · rename_i q; subst q; cases hy
      rw [hx] at hkk; rcases hkk with h | h <;> cases h
    · cases hy
  · intro a l h; cases h
  · exact ⟨trivial, fun b hb => nomatch hb⟩

set_option tactic.hygienic true in
theorem bc_fn1 {a : Addr} {name x : Str} {body : List Stmt} {scope : Scope} {d r : D} {params : Arguments}
    (hfn : FnAt h₀ a name params body scope) (hlim : h₀.NoLimit) (hx : scope.names.lookup x = some .local)
    (hbody : ∀ (A : Around) (s s₁ : Shared) (L : Addr) (cd : Value) (E : Value → Shared → Prop), Good k A → GB [] h₀ s.heap → (AllBare s.gens ∧ ∀ a ∈ X, ∃ o, s.heap.get? a = some o) → EnvOk (envOf name scope L a cd) → St s s₁.heap (L :: X) [L] (envOf name scope L a cd) (one x d) s₁ →
      wpAny (model prog w) A (execs body (envOf name scope L a cd)) (fun fl s' => ∃ v, fl = .ret v ∧ Den (L :: X) s'.heap v r ∧ Le s s') E s₁)
    (hbind : ∀ v pm cd doc, bindArgs (Calls.docDef name params body scope pm cd doc) ⟨[v], []⟩ = pure [(x, v)] := by intros; rfl)
    (hco : scope.isCoroutine = false := by rfl) (hgen : scope.isGenerator = false := by rfl) (hk : scope.kind = .function := by rfl)
    (hcell : ∀ x ∈ scope.names, x.2 ≠ .cell := by decide) : BC prog w h₀ X (k + 1) (.ref a) [d] r := fun A s vs E g kp dom hd => by
  obtain ⟨o, pm, cd, doc, ho, hdata, hcd⟩ := hfn
  cases hd with
  | cons hv b =>
    cases b
    rename_i v
    refine wpAny_call (call_plain_ret (binds := [(x, v)]) (by have := g.depth; lia) (kp a o nil_mem ho) hdata (hlim.keeps fun b o e => kp b o nil_mem e) (hcd.keeps fun b o e => kp b o nil_mem e) ?_ ?_ ?_ hco hgen hk hcell)
    · exact hbind _ _ _ _
    · intro y hy; rw [List.mem_singleton.mp hy]; exact hx
    · intro h₁ F
      refine wpAny_mono (hbody _ s { s with heap := h₁, toks := s.toks + 1 } s.heap.objs.size cd _ (g.deeper _) kp dom ⟨hk, rfl, rfl, fun p hp => nomatch hp⟩ ?_) (fun fl s' h => ?_) fun _ _ e => e
      · exact st_enter rfl rfl rfl hx F dom hv
      · obtain ⟨u, rfl, hu, le⟩ := h
        exact ⟨hu.avoid fun b hb => .inl (.tail _ hb), le⟩
end
end Mine

namespace Mine

noncomputable def topDef (n : Nat) : Stmt := PySem.Challenge.pw_rw0026_01.main.body.getD n (.Pass default)
noncomputable def defName : Stmt → Str | .FunctionDef n .. => n | _ => Str.empty
noncomputable def defParams : Stmt → Arguments | .FunctionDef _ a .. => a | _ => ⟨[], [], none, [], [], none, []⟩
noncomputable def defBody : Stmt → List Stmt | .FunctionDef _ _ b .. => b | _ => []
noncomputable def defScope : Stmt → Scope | .FunctionDef _ _ _ _ _ _ s .. => s | _ => default
/- the n-th statement of the top, a def, stands at a -/
noncomputable def DefAt (h : Heap) (n : Nat) (a : Addr) : Prop := FnAt h a (defName (topDef n)) (defParams (topDef n)) (defBody (topDef n)) (defScope (topDef n))

/- a text by its signs -/
noncomputable def T (l : List Nat) : Str := ⟨l.toArray⟩
theorem T_append (a b : List Nat) : T a ++ T b = T (a ++ b) := by
  apply Str.ext'
  simp [T, Str.cps_append]
theorem T_length (a : List Nat) : (T a).length = a.length := by simp [T, Str.length]

/- the higher figures to the base 64, each a sign -/
noncomputable def hi (n : Nat) : List Nat := if h : n = 0 then [] else hi (n / 64) ++ [64 + n % 64]
termination_by n
decreasing_by lia
noncomputable def octets (n : Nat) : List Nat := hi (n / 64) ++ [n % 64]
theorem hi_zero : hi 0 = [] := by unfold hi; simp
theorem hi_pos {n : Nat} (h : 0 < n) : hi n = hi (n / 64) ++ [64 + n % 64] := by rw [hi]; simp [Nat.ne_of_gt h]

section
variable {prog : Program} {w : World} {A : Around} {E : Value → Shared → Prop} {s : Shared} {X Y : List Addr} {env : Env} {k : Nat} {f : Fs} {s₀ : Shared} {hb h₀ : Heap} {mg mb : Str → Option Value}
theorem GF.keep {h h' : Heap} (G : GF h mg mb) (g : GB [] h h') : GF h' mg mb := ⟨g.ns nil_mem G.g, g.ns nil_mem G.b⟩

theorem EV.cast {e : Expr} {d d' : D} (h : EV prog w s₀ X Y env f k e d) (q : d = d') : EV prog w s₀ X Y env f k e d' := q ▸ h
theorem TV.cast {e : Expr} {d d' : Bool} (h : TV prog w s₀ X Y env f k e d) (q : d = d') : TV prog w s₀ X Y env f k e d' := q ▸ h
theorem fm (n m : Nat) : Int.fmod (n : Int) (m : Int) = ((n % m : Nat) : Int) := by rw [Int.fmod_eq_emod_of_nonneg _ (by lia)]; rfl
theorem fd (n m : Nat) : Int.fdiv (n : Int) (m : Int) = ((n / m : Nat) : Int) := by rw [Int.fdiv_eq_ediv_of_nonneg _ (by lia)]; rfl
/- an expression for a natural number, by its rule -/
theorem EV.int {e : Expr} {a b : Int} (h : EV prog w s₀ X Y env f k e (.int a)) (q : a = b) : EV prog w s₀ X Y env f k e (.int b) := q ▸ h
theorem ev_mod' {l r : Expr} {pos : Pos} {a b : Nat} (h1 : EV prog w s₀ X Y env f k l (.int a)) (h2 : EV prog w s₀ X Y env f k r (.int b)) (hb : b ≠ 0) : EV prog w s₀ X Y env f k (.BinOp l .Mod r pos) (.int (a % b : Nat)) :=
  (ev_mod h1 h2 (by lia)).int (fm a b)
theorem ev_fdiv' {l r : Expr} {pos : Pos} {a b : Nat} (h1 : EV prog w s₀ X Y env f k l (.int a)) (h2 : EV prog w s₀ X Y env f k r (.int b)) (hb : b ≠ 0) (hl : Builtin.divisionGoesByPylong a b = false) : EV prog w s₀ X Y env f k (.BinOp l .FloorDiv r pos) (.int (a / b : Nat)) :=
  (ev_fdiv h1 h2 (by lia) hl).int (fd a b)
theorem ev_nat {i : Nat} {c pos} : EV prog w s₀ X Y env f k (.Constant (.int i) c pos) (.int i) := ev_int

theorem DefAt.keep {h h' : Heap} {n : Nat} {a : Addr} (g : GB [] h h') (x : DefAt h n a) : DefAt h' n a := by obtain ⟨o, pm, cd, doc, h1, h2, h3⟩ := x; exact ⟨o, pm, cd, doc, g _ o nil_mem h1, h2, h3.keeps fun b o e => g b o nil_mem e⟩
theorem NoLimit.keep {h h' : Heap} (g : GB [] h h') (x : h.NoLimit) : h'.NoLimit := x.keeps fun b o e => g b o nil_mem e

theorem bc_octets (hfn : DefAt h₀ 10 98) (hlim : h₀.NoLimit) (G : GF h₀ mg mb) (hchr : mg "chr" = none ∧ mb "chr" = some (.builtin "chr")) (n : Nat) (hn : n < 262144) : BC prog w h₀ X (k + 1) (.ref 98) [.int n] (.str (T (octets n))) := by
  refine bc_fn1 (x := "number") hfn hlim (by rfl) ?_ 
  intro A s s₁ L cd E g kp dom ok S
  have G' := G.keep kp
  conv in execs _ _ => arg 1; whnf
  refine wpAny_execs_cons (ex_assign (d := .str (T [n % 64])) ok g S ?_ (by rfl) fun s₂ S₂ _ => ?_)
  · exact ev_call_b ok G' ⟨rfl, .inr hchr, rfl⟩ (evs_cons (ev_mod' (b := 64) (ev_name ok rfl rfl) ev_nat (by decide)) evs_nil) rfl (bc_chr (by lia) (by lia))
  refine wpAny_execs_cons (ex_assign (d := .int (n / 64 : Nat)) ok g S₂ ?_ (by rfl) fun s₃ S₃ _ => ?_)
  · exact ev_fdiv' (b := 64) (ev_name ok rfl rfl) ev_nat (by decide) (PyProof.noPylong_small (by lia))
  refine wpAny_execs_cons (ex_while g (fun m f => ∃ t : List Nat, f.ρ "number" = some (.int (m : Nat)) ∧ f.ρ "signs" = some (.str (T t)) ∧ hi m ++ t = octets n ∧ ∃ r, t.length + r = 3 ∧ m < 64 ^ r) ?_ (n / 64) _ ⟨[n % 64], rfl, rfl, rfl, 2, rfl, Nat.div_lt_of_lt_mul hn⟩ S₃)
  rintro m f s' E' ⟨t, h1, h2, h3, r, h4, h5⟩ S'
  have ht3 : t.length ≤ 3 := h4 ▸ Nat.le_add_right _ _
  refine ⟨decide ((0 : Int) < (m : Int)), tv_cmp (ev_name ok h1 rfl) ev_int op_gt_int, ?_, ?_⟩
  · intro hm s₄ S₄
    have hm : 0 < m := by simpa using hm
    refine wpAny_execs_cons (ex_assign (d := .str (T ((64 + m % 64) :: t))) ok g S₄ ?_ (by rfl) fun s₅ S₅ _ => ?_)
    · refine (ev_cat (a := T [64 + m % 64]) (b := T t) (ev_call_b ok G' ⟨rfl, .inr hchr, rfl⟩ (evs_cons (ev_add (a := 64) ev_nat (ev_mod' (b := 64) (ev_name ok h1 rfl) ev_nat (by decide))) evs_nil) rfl (bc_chr (by lia) (by lia))) (ev_name ok h2 rfl) ?_).cast ?_
      · rw [T_length, T_length]; exact Nat.le_trans (Nat.add_le_add_left ht3 1) (by decide)
      · rw [T_append]; rfl
    refine wpAny_execs_cons (ex_assign (d := .int (m / 64 : Nat)) ok g S₅ ?_ (by rfl) fun s₆ S₆ _ => ?_)
    · exact ev_fdiv' (b := 64) (ev_name ok h1 rfl) ev_nat (by decide) (PyProof.noPylong_small (by lia))
    obtain ⟨r, rfl⟩ : ∃ r', r = r' + 1 := by
      cases r with
      | zero => exact absurd h5 (Nat.not_lt.mpr hm)
      | succ r => exact ⟨r, rfl⟩
    refine wpAny_execs_nil ⟨m / 64, _, Nat.div_lt_self hm (by decide), ⟨(64 + m % 64) :: t, rfl, rfl, ?_, r, ?_, ?_⟩, S₆⟩
    · rw [← h3, hi_pos hm]; simp
    · rw [← h4, List.length_cons, Nat.add_assoc, Nat.add_comm 1 r]
    · exact Nat.div_lt_of_lt_mul (by rw [Nat.mul_comm, ← Nat.pow_succ]; exact h5)
  · intro hm s₄ S₄
    have hm : m = 0 := by simpa using hm
    subst hm
    refine wpAny_execs_cons (ex_return g S₄ (ev_name ok h2 rfl) fun v s₅ hv _ S₅ => ?_)
    rw [hi_zero] at h3
    refine ⟨v, rfl, ?_, S₅.keep, S₅.os, fun _ => S₅.gens⟩
    rw [← h3]; exact hv
end
end Mine

namespace Mine
noncomputable abbrev Dt := D
noncomputable abbrev DL := List D
section
variable {prog : Program} {w : World} {A : Around} {E : Value → Shared → Prop} {s s₂ s₄ : Shared} {X Y : List Addr} {env : Env} {k : Nat} {f : Fs} {s₀ : Shared} {hb h₀ : Heap} {mg mb : Str → Option Value}

noncomputable def fcomp (ns : List Str) (f : Fs) (D : Addr) (e : Ext) : Fs := ⟨fun y => if y ∈ ns then f.ρ y else none, fun b => if b = D then some [] else none, e⟩

structure CompOk (scope : Scope) (env : Env) (cl : List (Str × Addr)) (ns : List Str) : Prop where
  hclos : closureFor scope env = pure cl
  kind : scope.kind = .function
  names : ∀ y ∈ scope.names, y.2 = .local → scope.names.lookup y.1 = some .local
  nocell : ∀ y ∈ scope.names, y.2 ≠ .cell
  sub : ∀ p ∈ cl, p ∈ env.cells
  ns : ∀ y ∈ ns, cl.lookup y = env.cells.lookup y ∧ (env.kindOf y = some .cell ∨ env.kindOf y = some .free) ∧ ∀ C, ((compEnvC scope cl C env).kindOf y = some .cell ∨ (compEnvC scope cl C env).kindOf y = some .free)

set_option tactic.hygienic true in
theorem St.comp {scope : Scope} {cl : List (Str × Addr)} {ns : List Str} {I C D : Addr} {m : Str → Option Value} {n : Nat} (S : St s₀ hb X Y env f s) (le : Le s s₂) (hI : s.heap.get? I = none) (hIe : ∃ o, s₂.heap.get? I = some o)
    (hD : s₂.heap.get? D = none) (hC : s₂.heap.get? C = none) (hDC : D ≠ C) (le' : Le s₂ s₄) (hn : s₄.heap.Ns C m) (hl : s₄.heap.get? D = some { cls := .type "list", data := .seq (List.toArray []) n }) (co : CompOk scope env cl ns) {e : Ext} (he : e.P s.heap ∧ ∀ b ∈ e.F, b ∈ f.ext.F) :
    St s₀ s.heap (I :: C :: D :: X) (C :: D :: e.F) (compEnvC scope cl C env) (fcomp ns f D e) s₄ := by
  have L := le.trans le'
  have dead : ∀ {a}, s₂.heap.get? a = none → s.heap.get? a = none := fun {a} h => by
    cases e : s.heap.get? a with
    | none => rfl
    | some o => rw [le.heap a o nil_mem e] at h; cases h
  have hC0 := dead hC
  have hD0 := dead hD
  have hav : ∀ b ∈ I :: C :: D :: X, b ∈ X ∨ s.heap.get? b = none := fun b hb => by
    rcases List.mem_cons.mp hb with rfl | hb
    · exact .inr hI
    rcases List.mem_cons.mp hb with rfl | hb
    · exact .inr hC0
    rcases List.mem_cons.mp hb with rfl | hb
    · exact .inr hD0
    · exact .inl hb
  refine { keep := S.keep.trans L.heap, os := L.os.trans S.os, gens := L.gens S.gens, gb := L.heap.mono (fun _ m => nomatch m), new := ?_, sub := ?_, dom := ?_, locY := .head _, cdom := ?_, ns := ?_, cell := ?_, own := ?_, ext := ?_ }
  · intro a ha
    rcases List.mem_cons.mp ha with rfl | ha
    · exact S.none0 hC0
    rcases List.mem_cons.mp ha with rfl | ha
    · exact S.none0 hD0
    · exact S.new _ (S.ext.2 _ (he.2 _ ha)).1
  · intro a ha
    rcases List.mem_cons.mp ha with rfl | ha
    · exact .tail _ (.head _)
    rcases List.mem_cons.mp ha with rfl | ha
    · exact .tail _ (.tail _ (.head _))
    · exact .tail _ (.tail _ (.tail _ (S.sub _ (S.ext.2 _ (he.2 _ ha)).1)))
  · intro a ha
    rcases List.mem_cons.mp ha with rfl | ha
    · obtain ⟨o, e⟩ := hIe; exact ⟨o, le'.heap _ o nil_mem e⟩
    rcases List.mem_cons.mp ha with rfl | ha
    · obtain ⟨o, _, _, e, _⟩ := hn; exact ⟨o, e⟩
    rcases List.mem_cons.mp ha with rfl | ha
    · exact ⟨_, hl⟩
    · obtain ⟨o, e⟩ := S.dom a ha; exact ⟨o, L.heap _ o nil_mem e⟩
  · intro p hp
    obtain ⟨u, e⟩ := S.cdom p (co.sub p hp); exact ⟨u, L.heap.cellAt nil_mem e⟩
  · refine ⟨m, hn, fun x d hx hk => ?_⟩
    simp only [fcomp] at hx
    split at hx
    · rename_i hm
      rcases (co.ns x hm).2.2 C with h | h <;> (rw [h] at hk; cases hk)
    · cases hx
  · intro x d hx hk
    simp only [fcomp] at hx
    split at hx
    · rename_i hm
      obtain ⟨h1, h2, _⟩ := co.ns x hm
      obtain ⟨c, v, hc, hcc, hd⟩ := S.cell x d hx h2
      exact ⟨c, v, h1.trans hc, L.heap.cellAt nil_mem hcc, (hd.avoid hav).grow L.heap⟩
    · cases hx
  · intro a l h
    simp only [fcomp] at h
    split at h
    · rename_i hm
      subst hm
      cases h
      refine ⟨.tail _ (.head _), hDC, fun p hp => S.cne hD0 p (co.sub p hp), fun m => S.notY hD0 (S.ext.2 _ (he.2 _ m)).1, [], _, hl, ⟨n, rfl⟩, .nil⟩
    · cases h
  · refine ⟨e.st _ _ he.1 fun b _ o e => L.heap b o nil_mem e, fun b hb => ⟨.tail _ (.tail _ hb), fun e => ?_, fun p hp => (S.ext.2 b (he.2 _ hb)).2.2 p (co.sub p hp)⟩⟩
    have e : b = C := e
    exact S.notY hC0 (e ▸ (S.ext.2 b (he.2 _ hb)).1)

/- only what is new, or has a word of its own, has turned -/
theorem St.resume {W Z : List Addr} {e : Ext} {s' : Shared} (S : St s₀ hb X Y env f s) (g : GB Z s.heap s'.heap) (hZ : ∀ a ∈ Z, a ∈ f.ext.F ∨ s.heap.get? a = none) (os : s'.os = s.os) (gens : AllBare s'.gens)
    (hW : ∀ a ∈ W, s.heap.get? a = none ∧ ∃ o, s'.heap.get? a = some o) (hF : e.F = f.ext.F) (hFd : ∀ a ∈ e.F, ∃ o, s'.heap.get? a = some o) (hP : e.P s'.heap) : St s₀ hb (W ++ X) Y env { f with ext := e } s' := by
  have keep1 : ∀ a o, a ∉ f.ext.F → s.heap.get? a = some o → s'.heap.get? a = some o := fun a o hF ho => g a o (fun m => (hZ a m).elim hF fun h => by rw [h] at ho; cases ho) ho
  have hF' : ∀ a ∈ f.ext.F, a ∈ X := fun a ha => S.sub _ (S.ext.2 a ha).1
  have gF : GB f.ext.F s.heap s'.heap := fun b o hb e => keep1 b o hb e
  have hav : ∀ b ∈ W ++ X, b ∈ X ∨ s.heap.get? b = none := fun b hb => by
    rcases List.mem_append.mp hb with h | h
    · exact .inr (hW b h).1
    · exact .inl h
  have dn : ∀ {v d}, Den X s.heap v d → Den (W ++ X) s'.heap v d := fun h => (h.avoid hav).gb (fun a ha => List.mem_append.mpr (.inr (hF' a ha))) gF
  have dns : ∀ {o v d}, LD X s.heap o v d → LD (W ++ X) s'.heap o v d := fun h => (h.avoid hav).gb (fun a ha => List.mem_append.mpr (.inr (hF' a ha))) gF
  have new0 : ∀ {a o}, s₀.heap.get? a = some o → a ∉ f.ext.F := fun {a o} h m => by rw [S.new _ (S.ext.2 a m).1] at h; cases h
  refine { keep := ?_, os := os.trans S.os, gens := gens, gb := ?_, new := S.new, sub := fun a ha => List.mem_append.mpr (.inr (S.sub a ha)), dom := ?_, locY := S.locY, cdom := ?_, ns := ?_, cell := ?_, own := ?_, ext := ?_ }
  · exact fun b o _ h => keep1 b o (new0 h) (S.keep b o nil_mem h)
  · exact fun b o hY h => keep1 b o (fun m => hY (S.ext.2 b m).1) (S.gb b o hY h)
  · intro a ha
    rcases List.mem_append.mp ha with h | h
    · exact (hW a h).2
    · by_cases q : a ∈ f.ext.F
      · exact hFd a (hF ▸ q)
      · obtain ⟨o, e⟩ := S.dom a h; exact ⟨o, keep1 a o q e⟩
  · intro p hp
    obtain ⟨u, o, e, d⟩ := S.cdom p hp
    exact ⟨u, o, keep1 _ o (fun m => (S.ext.2 _ m).2.2 p hp rfl) e, d⟩
  · obtain ⟨m, hm, hv⟩ := S.ns
    exact ⟨m, gF.ns (fun q => (S.ext.2 _ q).2.1 rfl) hm, fun x d hx hk => by obtain ⟨v, e, h⟩ := hv x d hx hk; exact ⟨v, e, dn h⟩⟩
  · intro x d hx hk
    obtain ⟨c, v, e, hc, h⟩ := S.cell x d hx hk
    exact ⟨c, v, e, gF.cellAt (fun q => (S.ext.2 _ q).2.2 _ (mem_of_lookup e) rfl) hc, dn h⟩
  · intro a l h
    obtain ⟨h1, h2, h3, h4, vs, n, h5, h6⟩ := S.own a l h
    exact ⟨h1, h2, h3, fun m => h4 (hF ▸ m), vs, n, keep1 a _ h4 h5, dns h6⟩
  · exact ⟨hP, fun b hb => S.ext.2 b (hF ▸ hb)⟩

/- the loop of a comprehension -/
theorem comp_loop {elt target : Expr} {gens : List Comprehension} {scope : Scope} {pos p : Pos} {depth : Nat} {acc : Value} {emit : Sem Unit} {I : Addr} {N : Nat} {P : Nat → Value → Prop} {Stt : Nat → Heap → Prop} {fp : List Addr} {R : Result → Shared → Prop} {hL : Heap} (fs : Nat → Fs)
    (gd : Good k A) (W : ∀ A' : Around, A'.handled = none → Walks prog w A' I fp [I] N P Stt) (hso : ∀ i h, Stt i h → ∃ o, h.get? I = some o) (hfp : ∀ b ∈ fp, b ∉ Y) (hIX : I ∉ X) (hYX : ∀ a ∈ Y, a ∈ X) (hI0 : s₀.heap.get? I = none) (hIb : hb.get? I = none) (hIc : ∀ p ∈ env.cells, p.2 ≠ I)
    (hden : compTurn (.ListComp elt gens scope pos) depth (.ref I) acc env = (standAt p >>= fun _ => pyNext (.ref I) >>= fun r => match r with
      | none => pure (.done .next)
      | some v => letOwnedTupleGo target (.ref I) v >>= fun _ => assign target env v >>= fun _ => emit >>= fun _ => again (.compLoop (.ListComp elt gens scope pos) depth (.ref I) acc env)))
    (turn : ∀ i v s E', i < N → P i v → St s₀ s.heap (I :: X) Y env (fs i) s → Stt (i + 1) s.heap → GB (I :: Y) hL s.heap →
      wpAny (model prog w) A (letOwnedTupleGo target (.ref I) v) (fun _ s₁ => wpAny (model prog w) A (assign target env v) (fun _ s₂ => wpAny (model prog w) A emit (fun _ s₃ => St s₀ s.heap (I :: X) Y env (fs (i + 1)) s₃) E' s₂) E' s₁) E' s)
    (fin : ∀ s, St s₀ hb X Y env (fs N) s → GB (I :: Y) hL s.heap → R (.ok .next) s)
    (S : St s₀ hb (I :: X) Y env (fs 0) s) (hst : Stt 0 s.heap) (hg : GB (I :: Y) hL s.heap) :
    codeAny (model prog w) A (.compLoop (.ListComp elt gens scope pos) depth (.ref I) acc env) R s := by
  have W0 := W A gd.handled
  have hIY : I ∉ Y := fun m => hIX (hYX _ m)
  refine codeAny_loop rfl (fun n s => ∃ i, i ≤ N ∧ n = N - i ∧ St s₀ hb (I :: X) Y env (fs i) s ∧ Stt i s.heap ∧ GB (I :: Y) hL s.heap) ?_ N ⟨0, Nat.zero_le _, rfl, S, hst, hg⟩
  rintro n s ⟨i, hi, rfl, S, hst, hg⟩
  show wpAny _ A ((compTurn (.ListComp elt gens scope pos) depth (.ref I) acc env).onRaise (fun x => do noteFrame x env; theTreesLotGoes x)) _ _ s
  refine wpAny_noted ?_
  rw [hden]
  refine wpAny_bind (wpAny_standAt (wpAny_bind ?_))
  by_cases hlt : i < N
  · refine W0.item i s _ _ hlt hst fun v h' tk hP hst' hk => ?_
    have g1 : GB [I] s.heap h' := hk
    have S' : St s₀ hb (I :: X) Y env (fs i) { s with heap := h', toks := tk } := S.bump (.head _) hIY hI0 hIb hIc g1 (hso _ _ hst')
    have hg' : GB (I :: Y) hL h' := hg.trans (g1.mono fun a m => by rw [List.mem_singleton.mp m]; exact .head _)
    refine wpAny_bind (wpAny_mono (turn i v _ _ hlt hP S'.rebase hst' hg') (fun _ s₁ h₁ => wpAny_bind (wpAny_mono h₁ (fun _ s₂ h₂ => wpAny_bind (wpAny_mono h₂ (fun _ s₃ T => ?_) fun _ _ e => e)) fun _ _ e => e)) fun _ _ e => e)
    refine wpAny_pure ⟨rfl, N - (i + 1), Nat.sub_lt_sub_left hlt (Nat.lt_succ_self i), i + 1, hlt, rfl, T.unbase S'.gb, ?_, hg'.trans (T.gb.mono fun a m => .tail _ m)⟩
    exact W0.frame _ _ _ hst' fun b hb o e => T.gb b o (hfp b hb) e
  · have hN : i = N := Nat.le_antisymm hi (Nat.not_lt.mp hlt)
    subst hN
    refine W0.done s _ _ hst fun h' tk hk => ?_
    have g1 : GB [I] s.heap h' := hk
    exact wpAny_pure (fin _ (S.fin hIX hYX hI0 hIb hIc g1) (hg.trans (g1.mono fun a m => by rw [List.mem_singleton.mp m]; exact .head _)))

theorem comp_start {elt target iter : Expr} {ifs : List Expr} {gens : List Comprehension} {scope : Scope} {pos : Pos} {depth : Nat} {acc : Value} {I : Addr} {R : Result → Shared → Prop} (hgen : gens[depth]? = some ⟨target, iter, ifs, 0⟩)
    (h0 : codeAny (model prog w) A (.compLoop (.ListComp elt gens scope pos) depth (.ref I) acc env) R s)
    (h : ∀ Q E, Q (.ref I) s → wpAny (model prog w) A (pyIter (.ref I)) Q E s) :
    codeAny (model prog w) A (.compStart (.ListComp elt gens scope pos) depth (.ref I) acc env) R s := by
  refine codeAny_of_tree ?_
  show wpAny _ _ ((compStart (.ListComp elt gens scope pos) depth (.ref I) acc env).onRaise (fun x => do noteFrame x env; standAt theWindowsPlace)) _ _ s
  refine wpAny_notedAt ?_
  unfold compStart
  rw [show clausesOf (.ListComp elt gens scope pos) = gens from rfl, hgen]
  show wpAny _ _ (ask >>= _) _ _ s
  refine wpAny_bind (wpAny_askSetting (wpAny_ite ?_))
  split
  · first
      | exact wpAny_bind (wpAny_pure (wpAny_pure (And.intro rfl h0)))
      | exact wpAny_pure (And.intro rfl h0)
  · refine wpAny_bind (wpAny_rule ?_)
    first
      | exact wpAny_bind (wpAny_standAt (wpAny_bind (h _ _ (wpAny_pure (And.intro rfl h0)))))
      | (show wpAny _ _ (standAt iter.pos >>= _) _ _ s; exact wpAny_bind (wpAny_standAt (wpAny_bind (h _ _ (wpAny_pure (And.intro rfl h0))))))

/- a comprehension: one loop, over data -/
theorem comp_core {elt target iter : Expr} {ifs : List Expr} {gens : List Comprehension} {scope : Scope} {pos p ppos : Pos} {cl : List (Str × Addr)} {ns : List Str} {ds : List D} {use : Option (Value → Sem Unit)} {Q : Value → Shared → Prop} {emit : Addr → Addr → Sem Unit}
    (fs : Addr → Nat → Fs) (gd : Good k A) (S : St s₀ hb X Y env f s) (hi : EI prog w s₀ X Y env f k iter ds) (co : CompOk scope env cl ns) {e : Ext} (he : e.P s.heap ∧ ∀ b ∈ e.F, b ∈ f.ext.F) (hfs : ∀ D, fs D 0 = fcomp ns f D e) (hgen : gens = ⟨target, iter, ifs, 0⟩ :: gens.tail)
    (hden : ∀ I C D, compTurn (.ListComp elt gens scope pos) 0 (.ref I) (.ref D) (compEnvC scope cl C env) = (standAt p >>= fun _ => pyNext (.ref I) >>= fun r => match r with
      | none => pure (.done .next)
      | some v => letOwnedTupleGo target (.ref I) v >>= fun _ => assign target (compEnvC scope cl C env) v >>= fun _ => emit C D >>= fun _ => again (.compLoop (.ListComp elt gens scope pos) 0 (.ref I) (.ref D) (compEnvC scope cl C env))))
    (turn : ∀ I C D i d v s hb' E', I ∉ C :: D :: X → (∀ p ∈ cl, p.2 ≠ C) → ds[i]? = some d → Den (I :: C :: D :: X) s.heap v d → St s₀ hb' (I :: C :: D :: X) (C :: D :: e.F) (compEnvC scope cl C env) (fs D i) s →
      (∀ elts x1 pos T (Q : Unit → Shared → Prop) E, Q () s → wpAny (model prog w) A (letOwnedTupleGo (.Tuple elts x1 pos) (.ref I) (.ref T)) Q E s) →
      wpAny (model prog w) A (letOwnedTupleGo target (.ref I) v) (fun _ s₁ => wpAny (model prog w) A (assign target (compEnvC scope cl C env) v) (fun _ s₂ => wpAny (model prog w) A (emit C D) (fun _ s₃ => St s₀ hb' (I :: C :: D :: X) (C :: D :: e.F) (compEnvC scope cl C env) (fs D (i + 1)) s₃) E' s₂) E' s₁) E' s)
    (fin : ∀ C D Z s', St s₀ s.heap (C :: D :: X) (C :: D :: e.F) (compEnvC scope cl C env) (fs D ds.length) s' → GB Z s.heap s'.heap → (∀ a ∈ Z, a ∈ e.F ∨ s.heap.get? a = none) → s'.os = s.os → s.heap.get? C = none → s.heap.get? D = none → D ≠ C → 
      compPost (model prog w) A E use Q (.ref D) C (.ok .next) s')
    (hs : ∀ x, foldedSetIterable iter env x = pure x := by intro _; rfl) :
    wpAny (model prog w) A (comprehension (.ListComp elt gens scope pos) scope env ppos (newList []) false (eval iter env) use) Q E s := by
  refine wpAny_comprehension_free (cl := cl) (g := ⟨target, iter, ifs, 0⟩) (gs := gens.tail) hgen hs co.hclos co.kind co.names ?_
  refine wpAny_mono (hi A s hb _ gd S) (fun v s₁ h₁ => wpAny_mono h₁ (fun it s₂ h₂ => ?_) fun _ _ e => e) fun _ _ e => e
  obtain ⟨le, I, P, Stt, fp, rfl, hn, hex, W, hst, hso, hfp, hit, hgo⟩ := h₂
  refine wpAny_newObj_type (wpAny_newFunctionEnv co.nocell (by intro y hy; simp at hy) (fun h₁ hns₁ hsb₁ => ?_) co.kind)
  dsimp only at hns₁ hsb₁ ⊢
  generalize hH2 : s₂.heap.push { cls := .type "list", dict := none, data := .seq ([] : List Value).toArray } = H2 at hns₁ hsb₁ ⊢
  have hC : H2.objs.size = s₂.heap.objs.size + 1 := by rw [← hH2, Heap.size_push]
  have hDC : s₂.heap.objs.size ≠ H2.objs.size := by rw [hC]; exact Nat.ne_of_lt (Nat.lt_succ_self _)
  have fresh : ∀ a, s₂.heap.objs.size ≤ a → s₂.heap.get? a = none := fun a ha => by
    cases e : s₂.heap.get? a with
    | none => rfl
    | some o' => exact absurd (Heap.lt_size e) (Nat.not_lt.mpr ha)
  have hCn := fresh H2.objs.size (by rw [hC]; exact Nat.le_succ _)
  have hDn := fresh s₂.heap.objs.size (Nat.le_refl _)
  have old : GB [] s₂.heap h₁ := fun b o _ e => hsb₁.extBut b o (fun q => by subst q; rw [hCn] at e; cases e) (Heap.get?_push_of_some _ (hH2 ▸ Heap.get?_push_of_some _ e))
  have le' : Le s₂ { s₂ with heap := h₁, toks := s₂.toks + ([] : List (Str × Value)).length } := .of old
  have hl : h₁.get? s₂.heap.objs.size = some { cls := .type "list", data := .seq (List.toArray []) } := hsb₁.extBut _ _ hDC (Heap.get?_push_of_some _ (hH2 ▸ Heap.get?_push_size _ rfl))
  have S4 := S.comp le hn hex hDn hCn hDC le' hns₁ hl co he
  rw [← hfs] at S4
  have dead : ∀ {a}, s₂.heap.get? a = none → s.heap.get? a = none := fun {a} h => by
    cases e : s.heap.get? a with
    | none => rfl
    | some o => rw [le.heap a o nil_mem e] at h; cases h
  have hC0 := dead hCn
  have hD0 := dead hDn
  have hIC : I ≠ H2.objs.size := fun q => by subst q; obtain ⟨o, e⟩ := hex; rw [hCn] at e; cases e
  have hID : I ≠ s₂.heap.objs.size := fun q => by subst q; obtain ⟨o, e⟩ := hex; rw [hDn] at e; cases e
  have hIX : I ∉ H2.objs.size :: s₂.heap.objs.size :: X := by
    intro m
    rcases List.mem_cons.mp m with q | m
    · exact hIC q
    rcases List.mem_cons.mp m with q | m
    · exact hID q
    · exact S.notX hn m
  have hYX : ∀ a ∈ H2.objs.size :: s₂.heap.objs.size :: e.F, a ∈ H2.objs.size :: s₂.heap.objs.size :: X := by
    intro a ha
    rcases List.mem_cons.mp ha with rfl | ha
    · exact .head _
    rcases List.mem_cons.mp ha with rfl | ha
    · exact .tail _ (.head _)
    · exact .tail _ (.tail _ (S.sub _ (S.ext.2 _ (he.2 _ ha)).1))
  have hst₁ : Stt 0 h₁ := (W A gd.handled).frame _ _ _ hst fun b _ o e => old b o nil_mem e
  have hfpY : ∀ b ∈ fp, b ∉ H2.objs.size :: s₂.heap.objs.size :: e.F := by
    intro b hb m
    obtain ⟨h1, o, h2⟩ := hfp b hb
    rcases List.mem_cons.mp m with rfl | m
    · rw [hCn] at h2; cases h2
    rcases List.mem_cons.mp m with rfl | m
    · rw [hDn] at h2; cases h2
    · exact h1 (S.sub _ (S.ext.2 _ (he.2 _ m)).1)
  have hclI : ∀ a, s.heap.get? a = none → ∀ p ∈ cl, p.2 ≠ a := fun a ha p hp => S.cne ha p (co.sub p hp)
  have hd4 : ∀ i v, P i v → i < ds.length → ∃ d, ds[i]? = some d ∧ Den (I :: H2.objs.size :: s₂.heap.objs.size :: X) h₁ v d := fun i v hp hlt => by
    obtain ⟨d, h1, h2⟩ := hit i v hp hlt
    refine ⟨d, h1, (h2.avoid fun b hb => ?_).grow old⟩
    rcases List.mem_cons.mp hb with rfl | hb
    · exact .inl (.head _)
    rcases List.mem_cons.mp hb with rfl | hb
    · exact .inr hCn
    rcases List.mem_cons.mp hb with rfl | hb
    · exact .inr hDn
    · exact .inl (.tail _ hb)
  have hYI : ∀ a ∈ I :: H2.objs.size :: s₂.heap.objs.size :: e.F, a ∈ I :: H2.objs.size :: s₂.heap.objs.size :: X := fun a ha => by
    rcases List.mem_cons.mp ha with rfl | ha
    · exact .head _
    · exact .tail _ (hYX a ha)
  have loop : ∀ s₃ : Shared, s₃ = { s₂ with heap := h₁, toks := s₂.toks + ([] : List (Str × Value)).length } →
      codeAny (model prog w) A (.compLoop (.ListComp elt gens scope pos) 0 (.ref I) (.ref s₂.heap.objs.size) (compEnvC scope cl H2.objs.size env)) (compPost (model prog w) A E use Q (.ref s₂.heap.objs.size) H2.objs.size) s₃ := by
    rintro s₃ rfl
    refine comp_loop (env := compEnvC scope cl H2.objs.size env) (hL := h₁) (fs s₂.heap.objs.size) gd W hso hfpY hIX hYX (S.none0 hn) hn (hclI I hn) (hden _ _ _) ?_ ?_ S4 hst₁ .refl
    · intro i v s5 E' hlt hP S5 hst5 hg5
      obtain ⟨d, hd, hv⟩ := hd4 i v hP hlt
      exact turn I _ _ i d v s5 _ E' hIX (hclI _ hC0) hd (hv.gb hYI hg5) S5 fun elts x1 pos T Q E hQ => wp_go (hgo _ _ hst5) hQ
    · intro s5 S5 hg5
      refine fin _ _ _ s5 S5 ((le.trans le').heap.mono (fun _ m => nomatch m) |>.trans hg5) ?_ (S5.os.trans S.os.symm) hC0 hD0 hDC
      · intro a ha
        rcases List.mem_cons.mp ha with rfl | ha
        · exact .inr hn
        rcases List.mem_cons.mp ha with rfl | ha
        · exact .inr hC0
        rcases List.mem_cons.mp ha with rfl | ha
        · exact .inr hD0
        · exact .inl ha
  exact comp_start (by rw [hgen]; rfl) (loop _ rfl) fun Q E hQ => (W A gd.handled).self 0 _ _ _ hst₁ hQ

/- what a comprehension leaves: a value -/
theorem comp_value {C D : Addr} {Z : List Addr} {s' : Shared} {cenv : Env} {f' : Fs} {es : DL} {hb' : Heap} (S' : St s₀ hb' (C :: D :: X) Y cenv f' s') (hCe : cenv.locals = C) (ho : f'.own D = some es) (dom : ∀ a ∈ X, ∃ o, s.heap.get? a = some o)
    (g : GB Z s.heap s'.heap) (hZ : ∀ a ∈ Z, s.heap.get? a = none) (os : s'.os = s.os) (hC : s.heap.get? C = none) (hD : s.heap.get? D = none) :
    ∃ m, s'.heap.Ns C m ∧ ∀ h', Heap.SameBut C s'.heap h' → Pd X s (.list es) (.ref D) { s' with heap := h' } := by
  obtain ⟨m, hm, _⟩ := S'.ns
  rw [hCe] at hm
  refine ⟨m, hm, fun h' hs => ?_⟩
  obtain ⟨_, hne, _, _, vs, n, hl, hds⟩ := S'.own D es ho
  rw [hCe] at hne
  have g' : GB [C] s'.heap h' := .same hs (.head _)
  have gg : GB [] s.heap h' := fun b o _ e => g'.one (fun q => by subst q; rw [hC] at e; cases e) (g b o (fun m => by rw [hZ b m] at e; cases e) e)
  refine ⟨.list (fun m => ?_) (by obtain ⟨o, e, r⟩ := hds.isList hl; exact ⟨o, g'.one hne e, r⟩) ((hds.dens.gb (fun a ha => ?_) g').avoid fun b hb => .inl (.tail _ (.tail _ hb))), gg, os, fun _ => S'.gens⟩
  · obtain ⟨o, e⟩ := dom _ m; rw [hD] at e; cases e
  · rw [List.mem_singleton.mp ha]; exact .head _

theorem emit_append {C D : Addr} {I : Addr} {cenv : Env} {f' : Fs} {elt : Expr} {es : DL} {d : Dt} {hb' : Heap} {X' Y' : List Addr} (gd : Good k A) (S : St s₀ hb' X' Y' cenv f' s) (ho : f'.own D = some es) (he : EV prog w s₀ X' Y' cenv f' k elt d) (hsz : es.length ≤ sizeLine) :
    wpAny (model prog w) A (eval elt cenv >>= fun x => call (.builtin "list.append") [.ref D, x] >>= fun _ => pure ()) (fun _ s₃ => St s₀ hb' X' Y' cenv (f'.put D (some (es ++ [d]))) s₃) E s :=
  wpAny_bind (wpAny_mono (he A s hb' E gd S) (fun x s₁ p => wpAny_bind (wp_append (S.le p.2) ho p.1 hsz fun s₂ S₂ => wpAny_pure S₂)) fun _ _ e => e)

noncomputable def fcompN (ns : List Str) (f : Fs) (D : Addr) (e : Ext) (l : DL) : Fs := ⟨fun y => if y ∈ ns then f.ρ y else none, fun b => if b = D then some l else none, e⟩

theorem comp_env_ok {scope : Scope} {cl : List (Str × Addr)} {ns : List Str} {C : Addr} (ok : EnvOk env) (co : CompOk scope env cl ns) (h : ∀ p ∈ cl, p.2 ≠ C) : EnvOk (compEnvC scope cl C env) := ⟨co.kind, ok.globals, ok.builtins, h⟩

/- [elt for x in iter], pure: the core -/
set_option tactic.hygienic true in
theorem comp1 {elt iter : Expr} {x : Str} {px : Pos} {scope : Scope} {pos ppos : Pos} {cl : List (Str × Addr)} {ns : List Str} {ds es : DL} {use : Option (Value → Sem Unit)} {Q : Value → Shared → Prop}
    (ok : EnvOk env) (gd : Good k A) (S : St s₀ hb X Y env f s) (hi : EI prog w s₀ X Y env f k iter ds) (co : CompOk scope env cl ns) (hx : ∀ C, (compEnvC scope cl C env).kindOf x = some .local) (hlen : es.length = ds.length) (hsz : ds.length ≤ sizeLine)
    (helt : ∀ I C D i d d', ds[i]? = some d → es[i]? = some d' → EnvOk (compEnvC scope cl C env) → EV prog w s₀ (I :: C :: D :: X) [C, D] (compEnvC scope cl C env) ((fcompN ns f D .nil (es.take i)).set x d) k elt d')
    (fin : ∀ C D s' hb' Z, St s₀ hb' (C :: D :: X) [C, D] (compEnvC scope cl C env) (fcompN ns f D .nil es) s' → GB Z s.heap s'.heap → (∀ a ∈ Z, s.heap.get? a = none) → s'.os = s.os → s.heap.get? C = none → s.heap.get? D = none → compPost (model prog w) A E use Q (.ref D) C (.ok .next) s')
    (hs : ∀ x, foldedSetIterable iter env x = pure x := by intro _; rfl) :
    wpAny (model prog w) A (comprehension (.ListComp elt [⟨.Name x px, iter, [], 0⟩] scope pos) scope env ppos (newList []) false (eval iter env) use) Q E s := by
  have hxn : x ∉ ns := fun m => by rcases (co.ns x m).2.2 0 with h | h <;> (rw [hx 0] at h; cases h)
  refine comp_core (e := .nil) (p := iter.pos) (ifs := []) (target := .Name x px) (emit := fun C D => eval elt (compEnvC scope cl C env) >>= fun y => call (.builtin "list.append") [.ref D, y] >>= fun _ => pure ()) (fun D i => fcompN ns f D .nil (es.take i)) gd S hi co ⟨trivial, fun _ m => nomatch m⟩ (fun D => by simp [fcompN, fcomp]) rfl (fun I C D => by rfl) ?_ ?_ hs
  · intro I C D i d v s1 hb' E' hI hcl hd hv S1 _
    have hlt : i < ds.length := by
      rcases Nat.lt_or_ge i ds.length with h | h
      · exact h
      · rw [List.getElem?_eq_none h] at hd; cases hd
    have okc := comp_env_ok ok co hcl
    refine wpAny_pure ?_
    show wpAny _ A (do standAt px; bindName _ x v) _ E' s1
    refine wpAny_bind (wpAny_standAt (wpAny_bindName (wp_storeLocal okc S1 hv (hx C) fun s₃ S₃ _ _ => ?_)))
    have hd' : es[i]? = some (es[i]'(hlen ▸ hlt)) := by simp [hlen ▸ hlt]
    refine wpAny_mono (emit_append (I := I) (C := C) gd S₃ (es := es.take i) (by simp [fcompN, Fs.set]) (helt I C D i d _ hd hd' okc) (by simp; omega)) (fun _ s₄ S₄ => ?_) fun _ _ e => e
    refine (S₄.forget (f' := fcompN ns f D .nil (es.take (i + 1))) ?_ ?_ ?_)
    · intro y d' hy
      simp only [fcompN] at hy
      split at hy
      · rename_i hm
        have hne : y ≠ x := fun q => hxn (q ▸ hm)
        simp [fcompN, Fs.set, Fs.put, upd, hne, hm, hy]
      · cases hy
    · funext b
      simp only [fcompN, Fs.put, Fs.set]
      split
      · rw [List.take_add_one, hd']; rfl
      · rfl
    · rfl
  · intro C D Z s' S' g hZ os hC hD _
    refine fin C D s' _ Z (by rw [← hlen, List.take_length] at S'; exact S') g (fun a ha => (hZ a ha).elim (fun m => nomatch m) id) os hC hD

theorem ev_comp1 {elt iter : Expr} {x : Str} {px : Pos} {scope : Scope} {pos : Pos} {cl : List (Str × Addr)} {ns : List Str} {ds es : DL}
    (ok : EnvOk env) (hi : EI prog w s₀ X Y env f k iter ds) (co : CompOk scope env cl ns) (hx : ∀ C, (compEnvC scope cl C env).kindOf x = some .local) (hlen : es.length = ds.length) (hsz : ds.length ≤ sizeLine)
    (helt : ∀ I C D i d d', ds[i]? = some d → es[i]? = some d' → EnvOk (compEnvC scope cl C env) → EV prog w s₀ (I :: C :: D :: X) [C, D] (compEnvC scope cl C env) ((fcompN ns f D .nil (es.take i)).set x d) k elt d')
    (hs : ∀ x, foldedSetIterable iter env x = pure x := by intro _; rfl) : EV prog w s₀ X Y env f k (.ListComp elt [⟨.Name x px, iter, [], 0⟩] scope pos) (.list es) := fun A s hb E gd S => by
  rw [eval_ListComp]
  exact comp1 (use := none) ok gd S hi co hx hlen hsz helt (fun C D s' hb' Z S' g hZ os hC hD => comp_value S' rfl (by simp [fcompN]) S.dom g hZ os hC hD) hs

/- y = [..], y a local name on the comprehension's row: the store comes ahead of the letting go -/
theorem use_store {y : Str} {py : Pos} {C D : Addr} {Z : List Addr} {s' : Shared} {cenv : Env} {f' : Fs} {es : DL} {hb' : Heap} {Q : Value → Shared → Prop} (ok : EnvOk env) (S : St s₀ hb X Y env f s) (S' : St s₀ hb' (C :: D :: X) [C, D] cenv f' s') (hCe : cenv.locals = C) (ho : f'.own D = some es)
    (g : GB Z s.heap s'.heap) (hZ : ∀ a ∈ Z, s.heap.get? a = none) (os : s'.os = s.os) (hC : s.heap.get? C = none) (hD : s.heap.get? D = none) (hy : env.kindOf y = some .local)
    (h : ∀ s₂, St s₀ hb X Y env (f.set y (.list es)) s₂ → Q .none s₂) : compPost (model prog w) A E (some (assign (.Name y py) env)) Q (.ref D) C (.ok .next) s' := by
  obtain ⟨m, hm, _⟩ := S'.ns
  rw [hCe] at hm
  obtain ⟨_, hne, _, _, vs, n, hl, hds⟩ := S'.own D es ho
  rw [hCe] at hne
  obtain ⟨oC, hoC⟩ := S'.dom C (.head _)
  have le : Le s s' := ⟨fun b o _ e => g b o (fun m => by rw [hZ b m] at e; cases e) e, os, fun _ => S'.gens⟩
  have SC : St s₀ hb (C :: X) Y env f s' := S.watch hC le ⟨oC, hoC⟩
  have hCX : C ∉ X := S.notX hC
  have hDv : Den (C :: X) s'.heap (.ref D) (.list es) := .list (fun m => by
    rcases List.mem_cons.mp m with q | m
    · exact hne q
    · exact S.notX hD m) (hds.isList hl) (hds.dens.avoid fun b hb => .inl (by
      rcases List.mem_cons.mp hb with rfl | hb
      · exact .head _
      · exact .tail _ (.tail _ hb)))
  have hCL : C ≠ env.locals := fun q => by obtain ⟨o, e⟩ := S.dom _ (S.sub _ S.locY); rw [← q, hC] at e; cases e
  show wpAny _ A (do standAt py; bindName env y (.ref D)) _ E s'
  refine wpAny_bind (wpAny_standAt (wpAny_bindName (wp_storeLocal ok SC hDv hy fun s₂ S₂ g₂ _ => ?_)))
  refine ⟨m, g₂.ns (fun q => hCL (List.mem_singleton.mp q)) hm, fun h' hs => ?_⟩
  exact h _ (S₂.fin (tk := s₂.toks) hCX S.sub (S.none0 hC) (S.noneb hC) (S.cne hC) (.same hs (.head _)))

theorem ex_assign_comp1 {elt iter : Expr} {x y : Str} {px py : Pos} {scope : Scope} {pos spos : Pos} {cl : List (Str × Addr)} {ns : List Str} {ds es : DL} {Q : Flow → Shared → Prop}
    (ok : EnvOk env) (gd : Good k A) (S : St s₀ hb X Y env f s) (hi : EI prog w s₀ X Y env f k iter ds) (co : CompOk scope env cl ns) (hx : ∀ C, (compEnvC scope cl C env).kindOf x = some .local) (hlen : es.length = ds.length) (hsz : ds.length ≤ sizeLine)
    (helt : ∀ I C D i d d', ds[i]? = some d → es[i]? = some d' → EnvOk (compEnvC scope cl C env) → EV prog w s₀ (I :: C :: D :: X) [C, D] (compEnvC scope cl C env) ((fcompN ns f D .nil (es.take i)).set x d) k elt d')
    (hy : env.kindOf y = some .local) (h : ∀ s₂, St s₀ hb X Y env (f.set y (.list es)) s₂ → Q .next s₂)
    (hsw : swapsWith (.ListComp elt [⟨.Name x px, iter, [], 0⟩] scope pos) (some (.Name y py)) spos.line env = pure true := by rfl)
    (hs : ∀ x, foldedSetIterable iter env x = pure x := by intro _; rfl) : wpAny (model prog w) A (exec (.Assign [.Name y py] (.ListComp elt [⟨.Name x px, iter, [], 0⟩] scope pos) spos) env) Q E s := by
  rw [exec_Assign_Name_used _ _ _ _ hsw]
  refine wpAny_bind (wpAny_standAt (wpAny_bind ?_))
  show wpAny _ A (do let _ ← comprehension (.ListComp elt [⟨.Name x px, iter, [], 0⟩] scope pos) scope env _ (newList []) false (eval iter env) (some (assign (.Name y py) env))) _ _ s
  refine wpAny_bind (wpAny_mono (comp1 (use := some (assign (.Name y py) env)) (Q := fun _ s' => Q .next s') ok gd S hi co hx hlen hsz helt (fun C D s' hb' Z S' g hZ os hC hD => use_store ok S S' rfl (by simp [fcompN]) g hZ os hC hD hy h) hs) (fun _ s' hq => wpAny_pure (wpAny_pure hq)) fun _ _ e => e)
end
end Mine

namespace Mine
section
variable {prog : Program} {w : World} {A : Around} {E : Value → Shared → Prop} {s : Shared} {X Y : List Addr} {env : Env} {k : Nat} {f : Fs} {s₀ : Shared} {hb h₀ : Heap} {mg mb : Str → Option Value}

noncomputable def IOP (prog : Program) (w : World) (X : List Addr) (k : Nat) (op : Operator) (d₁ d₂ d : D) : Prop :=
  ∀ (A : Around) (s : Shared) (a b : Value) (E : Value → Shared → Prop), Good k A → (∀ a ∈ X, ∃ o, s.heap.get? a = some o) → Den X s.heap a d₁ → Den X s.heap b d₂ → wpAny (model prog w) A (inplaceOp op a b) (Pd X s d) E s
theorem iop_add_int {a b : Int} : IOP prog w X k .Add (.int a) (.int b) (.int (a + b)) := fun A s x y E g _ hx hy => by
  obtain ⟨t, rfl⟩ := D.den_int hx; obtain ⟨u, rfl⟩ := D.den_int hy; exact PyProof.Rows.iadd_int ⟨.int, .toks _⟩
theorem iop_add_str {a b : Str} (hs : a.length + b.length ≤ sizeLine) : IOP prog w X k .Add (.str a) (.str b) (.str (a ++ b)) := fun A s x y E g _ hx hy => by
  obtain ⟨t, rfl⟩ := D.den_str hx; obtain ⟨u, rfl⟩ := D.den_str hy; exact iadd_str (fun t' tk => ⟨.str, .toks _⟩) hs

theorem iop_add_T {a b : List Nat} (hs : a.length + b.length ≤ 16777216) : IOP prog w X k .Add (.str (T a)) (.str (T b)) (.str (T (a ++ b))) := by
  rw [← T_append]; exact iop_add_str (by rw [T_length, T_length]; exact hs)
theorem ev_cat_T {l r : Expr} {pos : Pos} {a b : List Nat} (h1 : EV prog w s₀ X Y env f k l (.str (T a))) (h2 : EV prog w s₀ X Y env f k r (.str (T b))) (hs : a.length + b.length ≤ 16777216) : EV prog w s₀ X Y env f k (.BinOp l .Add r pos) (.str (T (a ++ b))) := by
  rw [← T_append]; exact ev_cat h1 h2 (by rw [T_length, T_length]; exact hs)
/- names as a list -/
noncomputable def mkF (l : List (Str × D)) (f : Fs) : Fs := ⟨fun x => List.lookup x l, f.own, f.ext⟩
noncomputable def AllN (ρ : Rho) : List (Str × D) → Prop
  | [] => True
  | (x, d) :: r => ρ x = some d ∧ AllN ρ r
theorem AllN.mem {ρ : Rho} : ∀ {l : List (Str × D)}, AllN ρ l → ∀ {x d}, (x, d) ∈ l → ρ x = some d
  | (_, _) :: _, h, x, d, m => by
    rcases List.mem_cons.mp m with q | m
    · cases q; exact h.1
    · exact h.2.mem m
theorem St.to (S : St s₀ hb X Y env f s) (l : List (Str × D)) (h : AllN f.ρ l) : St s₀ hb X Y env (mkF l f) s :=
  S.forget (fun x d hx => h.mem (mem_of_lookup hx)) rfl rfl
/- at a turn's end: the frame is that of a list of names -/
theorem St.toF {g : Fs} (S : St s₀ hb X Y env f s) {l : List (Str × D)} (hg : g = mkF l f) (h : AllN f.ρ l) : St s₀ hb X Y env g s := hg ▸ S.to l h

theorem contains_one (l : List Nat) (c : Nat) : Txt.contains (T l) (T [c]) = l.contains c := by
  unfold Txt.contains T
  rw [PySem.StrLaws.found_one]
  by_cases h : c ∈ l <;> simp [h]
theorem chars_T (l : List Nat) : chars (T l) = l.map fun c => .str (T [c]) := by simp [chars, T]

/- the sign that goes behind a backslash -/
noncomputable def esc (bare : Bool) (c : Nat) : Bool := [92, 34].contains c || (bare && [10, 9, 13, 32].contains c)
noncomputable def escd (bare : Bool) (l : List Nat) : List Nat := l.flatMap fun c => if esc bare c then [92, c] else [c]
noncomputable def bareOf (n : Nat) : Bool := n / 3 % 2 == 1
noncomputable def written (n : Nat) : List Nat := if bareOf n then escd true (octets n) ++ [10] else [34] ++ escd false (octets n) ++ [34]

theorem escd_len (b : Bool) (l : List Nat) : (escd b l).length ≤ 2 * l.length := by
  induction l with
  | nil => simp [escd]
  | cons c l ih =>
    have e : escd b (c :: l) = (if esc b c then [92, c] else [c]) ++ escd b l := rfl
    rw [e, List.length_append, List.length_cons]
    split <;> simp only [List.length_cons, List.length_nil] <;> lia
theorem escd_take (b : Bool) (l : List Nat) (i c : Nat) (h : l[i]? = some c) : escd b (l.take (i + 1)) = escd b (l.take i) ++ if esc b c then [92, c] else [c] := by
  simp [escd, List.take_add_one, h, List.flatMap_append]
theorem hi_len (n m : Nat) (h : n < 64 ^ m) : (hi n).length ≤ m := by
  induction m generalizing n with
  | zero => simp at h; subst h; simp [hi_zero]
  | succ m ih =>
    rcases Nat.eq_zero_or_pos n with rfl | hp
    · simp [hi_zero]
    · rw [hi_pos hp]
      have := ih (n / 64) (by rw [Nat.pow_succ] at h; lia)
      simp; lia
theorem octets_len (n : Nat) (h : n < 262144) : (octets n).length ≤ 3 := by
  have := hi_len (n / 64) 2 (by lia)
  simp [octets]; lia

theorem bc_written (hfn : DefAt h₀ 11 105) (hfo : DefAt h₀ 10 98) (hlim : h₀.NoLimit) (G : GF h₀ mg mb) (hchr : mg "chr" = none ∧ mb "chr" = some (.builtin "chr")) (hoc : mg "_law_octets" = some (.ref 98)) (n : Nat) (hn : n < 262144) : BC prog w h₀ X (k + 2) (.ref 105) [.int n] (.str (T (written n))) := by
  refine bc_fn1 (x := "number") hfn hlim (by rfl) ?_ 
  intro A s s₁ L cd E g kp dom ok S
  have G' := G.keep kp
  have hol := octets_len n hn
  conv in execs _ _ => arg 1; whnf
  refine wpAny_execs_cons (ex_assign (d := .bool (bareOf n)) ok g S ?_ (by rfl) fun s₂ S₂ _ => ?_)
  · refine (ev_cmp (ev_mod' (b := 2) (ev_fdiv' (b := 3) (ev_name ok rfl rfl) ev_nat (by decide) (PyProof.noPylong_small (by lia))) ev_nat (by decide)) ev_int op_eq_int).cast ?_
    simp only [bareOf, D.bool.injEq]
    rw [Bool.eq_iff_iff]; simp; lia
  refine wpAny_execs_cons (ex_assign (d := .str (T [])) ok g S₂ ev_str (by rfl) fun s₃ S₃ _ => ?_)
  obtain ⟨o, pm, cdo, doc, hob, hod, hcdo⟩ := DefAt.keep kp hfo
  have hoct : BC prog w s.heap X (k + 1) (.ref 98) [.int n] (.str (T (octets n))) := bc_octets (DefAt.keep kp hfo) (hlim.keeps fun b o e => kp b o nil_mem e) G' hchr n hn
  have hoct : BC prog w s.heap (L :: X) (k + 1) (.ref 98) [.int n] (.str (T (octets n))) := bc_octets (DefAt.keep kp hfo) (hlim.keeps fun b o e => kp b o nil_mem e) G' hchr n hn
  have etx : ∀ i, (T (escd (bareOf n) ((octets n).take i))).length ≤ 6 := fun i => by
    rw [T_length]
    have := escd_len (bareOf n) ((octets n).take i)
    simp at this; lia
  have e0 : T ([] : List Nat) = T (escd (bareOf n) ((octets n).take 0)) := by simp [escd]
  rw [e0] at S₃
  refine wpAny_execs_cons (ex_for (ds := chars (T (octets n))) (fun i => mkF [("bare", .bool (bareOf n)), ("number", .int n), ("text", .str (T (escd (bareOf n) ((octets n).take i))))] (one "" .none)) ok g (S₃.toF rfl ⟨rfl, rfl, rfl, trivial⟩) ?_ (by rfl) ?_ ?_)
  · exact ei_str (ev_call_f ok G' ⟨rfl, .inl hoc, rfl⟩ hob hod (evs_cons (ev_name ok rfl rfl) evs_nil) rfl hoct)
  · intro i d s₄ I hb' E' hI hd S₄
    rw [chars_T, List.getElem?_map] at hd
    obtain ⟨c, hc, rfl⟩ := Option.map_eq_some_iff.mp hd
    have etk := escd_take (bareOf n) (octets n) i c hc
    have e6 := etx i
    have e7 := etx (i + 1)
    refine wpAny_execs_cons (ex_if (b := esc (bareOf n) c) g S₄ ?_ fun s₅ _ S₅ => ?_)
    · exact tv_or (p := [92, 34].contains c) (q := (bareOf n && [10, 9, 13, 32].contains c)) (tv_cmp (ev_name (d := .str (T [c])) ok rfl rfl) (ev_str (x := T [92, 34])) (contains_one [92, 34] c ▸ op_in_str)) fun _ =>
        tv_and (tv_name (ev_name (d := .bool (bareOf n)) ok rfl rfl)) fun _ => tv_cmp (ev_name (d := .str (T [c])) ok rfl rfl) (ev_str (x := T [10, 9, 13, 32])) (contains_one [10, 9, 13, 32] c ▸ op_in_str)
    cases he : esc (bareOf n) c
    · simp only [Bool.false_eq_true, if_false]
      refine wpAny_execs_nil ?_
      refine wpAny_execs_cons (ex_aug (d₁ := .str (T (escd (bareOf n) ((octets n).take i)))) (d₂ := .str (T [c])) (d := .str (T (escd (bareOf n) ((octets n).take i) ++ [c]))) ok g S₅ (by rfl) rfl (ev_name ok rfl rfl) ?_ fun s₆ S₆ _ => ?_)
      · exact iop_add_T (by rw [T_length] at e6; simp only [List.length_append, List.length_singleton]; lia)
      · refine wpAny_execs_nil (S₆.toF rfl ⟨rfl, rfl, ?_, trivial⟩)
        rw [etk, he]; rfl
    · simp only [if_true]
      refine wpAny_execs_cons (ex_aug (d₁ := .str (T (escd (bareOf n) ((octets n).take i)))) (d₂ := .str (T [92])) (d := .str (T (escd (bareOf n) ((octets n).take i) ++ [92]))) ok g S₅ (by rfl) rfl (ev_str (x := T [92])) ?_ fun s₆ S₆ _ => ?_)
      · exact iop_add_T (by rw [T_length] at e6; simp only [List.length_append, List.length_singleton]; lia)
      refine wpAny_execs_nil ?_
      refine wpAny_execs_cons (ex_aug (d₁ := .str (T (escd (bareOf n) ((octets n).take i) ++ [92]))) (d₂ := .str (T [c])) (d := .str (T (escd (bareOf n) ((octets n).take i) ++ [92] ++ [c]))) ok g S₆ (by rfl) rfl (ev_name ok rfl rfl) ?_ fun s₇ S₇ _ => ?_)
      · exact iop_add_T (by rw [T_length] at e6; simp only [List.length_append, List.length_singleton]; lia)
      · refine wpAny_execs_nil (S₇.toF rfl ⟨rfl, rfl, ?_, trivial⟩)
        rw [etk, he]; simp [Fs.set, upd]
  · intro s₄ S₄
    have efull : (octets n).take (chars (T (octets n))).length = octets n := by rw [chars_T, List.length_map, List.take_length]
    rw [efull] at S₄
    have e8 := etx (octets n).length
    rw [List.take_length] at e8
    refine wpAny_execs_cons (ex_if (b := bareOf n) g S₄ (tv_name (ev_name ok rfl rfl)) fun s₅ _ S₅ => ?_)
    cases hbr : bareOf n
    · simp only [Bool.false_eq_true, if_false]
      refine wpAny_execs_nil (wpAny_execs_cons (ex_return (d := .str (T (written n))) g S₅ ?_ fun v s₆ hv _ S₆ => ⟨v, rfl, hv, S₆.keep, S₆.os, fun _ => S₆.gens⟩))
      rw [hbr] at e8
      rw [T_length] at e8
      refine (ev_cat_T (a := [34] ++ escd false (octets n)) (b := [34]) (ev_cat_T (a := [34]) (b := escd false (octets n)) (ev_str (x := T [34])) (ev_name ok (by rw [hbr]; rfl) rfl) ?_) (ev_str (x := T [34])) ?_).cast ?_
      · simp only [List.length_singleton]; lia
      · simp only [List.length_append, List.length_singleton]; lia
      · rw [written, hbr]; rfl
    · simp only [if_true]
      refine wpAny_execs_cons (ex_return (d := .str (T (written n))) g S₅ ?_ fun v s₆ hv _ S₆ => ⟨v, rfl, hv, S₆.keep, S₆.os, fun _ => S₆.gens⟩)
      rw [hbr] at e8
      rw [T_length] at e8
      refine (ev_cat_T (a := escd true (octets n)) (b := [10]) (ev_name ok (by rw [hbr]; rfl) rfl) (ev_str (x := T [10])) ?_).cast ?_
      · simp only [List.length_singleton]; lia
      · rw [written, hbr]; rfl
end
end Mine

namespace Mine
section
variable {prog : Program} {w : World} {A : Around} {E : Value → Shared → Prop} {s : Shared} {X Y : List Addr} {env : Env} {k : Nat} {f : Fs} {s₀ : Shared} {hb h₀ : Heap} {mg mb : Str → Option Value}

noncomputable def longest (l : List Int) : List Int := match sortI l with
  | [_, b, c, d] => [d, d + c, d + c + b]
  | _ => []
theorem sortI_len (l : List Int) : (sortI l).length = l.length := by simp [sortI]

theorem bc_longest (hfn : DefAt h₀ 14 124) (hlim : h₀.NoLimit) (G : GF h₀ mg mb) (hso : mg "sorted" = none ∧ mb "sorted" = some (.builtin "sorted")) (l : List Int) (hl : l.length = 4) : BC prog w h₀ X (k + 1) (.ref 124) [.list (l.map .int)] (.list ((longest l).map .int)) := by
  refine bc_fn1 (x := "stays") hfn hlim (by rfl) ?_ 
  intro A s s₁ L cd E g kp dom ok S
  have G' := G.keep kp
  conv in execs _ _ => arg 1; whnf
  refine wpAny_execs_cons (ex_assign (d := .list ((sortI l).map .int)) ok g S ?_ (by rfl) fun s₂ S₂ _ => ?_)
  · exact ev_call_b ok G' ⟨rfl, .inr hso, rfl⟩ (evs_cons (ev_name ok rfl rfl) evs_nil) rfl (bc_sorted (by lia))
  have h4 := sortI_len l
  rw [hl] at h4
  obtain ⟨a, b, c, d, e⟩ : ∃ a b c d, sortI l = [a, b, c, d] := by
    match sortI l, h4 with
    | [a, b, c, d], _ => exact ⟨a, b, c, d, rfl⟩
  have eL : longest l = [d, d + c, d + c + b] := by unfold longest; rw [e]
  rw [e] at S₂
  have it : ∀ {i : Int} {px pos p2 : Pos} {c1 : Nat} {v : Int}, 0 ≤ i → i < 2 ^ 63 → ([a, b, c, d].map D.int)[i.toNat]? = some (.int v) → EV prog w s (L :: X) [L] (envOf (defName (topDef 14)) (defScope (topDef 14)) L 124 cd) ((one "stays" (.list (l.map .int))).set "ordered" (.list ([a, b, c, d].map .int))) k (.Subscript (.Name "ordered" px) (.Constant (.int i) c1 p2) pos) (.int v) := by
    intro i px pos p2 c1 v h0 h1 h2
    exact ev_item (ev_name ok rfl rfl) ev_int h0 h1 h2
  refine wpAny_execs_cons (ex_return (d := .list ((longest l).map .int)) g S₂ ?_ fun v s₃ hv _ S₃ => ⟨v, rfl, hv, S₃.keep, S₃.os, fun _ => S₃.gens⟩)
  rw [eL]
  exact ev_list (evs_cons (it (by decide) (by decide) rfl) (evs_cons (ev_add (it (by decide) (by decide) rfl) (it (by decide) (by decide) rfl)) (evs_cons (ev_add (ev_add (it (by decide) (by decide) rfl) (it (by decide) (by decide) rfl)) (it (by decide) (by decide) rfl)) evs_nil))) (by simp [sizeLine])
end
end Mine

namespace Mine
section
variable {prog : Program} {w : World} {A : Around} {E : Value → Shared → Prop} {s : Shared}

/- the next item of a def's generator, with the state that is left bare -/
theorem next_gen {a : Addr} {g n : Nat} {gs : GenState} {P : Nat → Shared → Shared → Prop} {Y : Protocol} {Q : Option Value → Shared → Prop} (hh : A.handled = none) (hl : s.heap.NoLimit) (hroom : A.depth < recursionLimit)
    (hg : s.heap.IsGen a g) (hgs : s.gens[g]? = some gs)
    (hgo : gs.Goes (model prog w) A.in1 (fun n s₀ r s₁ => r = .ok (.ret .none) ∧ P n s₀ s₁) Y n (.send .none) (s.setGen g .running))
    (hY : ∀ v s₁ gs', gs'.bare = true → Y (n - 1) (s.setGen g .running) v s₁ (fun r' s'' => match n with
        | 0 => False
        | m + 1 => gs'.Goes (model prog w) A.in1 (fun n s₀ r s₁ => r = .ok (.ret .none) ∧ P n s₀ s₁) Y m r' s'') → Q (some v) (s₁.setGen g gs'))
    (hP : ∀ s₁, P n (s.setGen g .running) s₁ → ∀ h', (∀ b o, s₁.heap.get? b = some o → h'.get? b = some o) → Q none { s₁.setGen g .finished with heap := h' }) :
    wpAny (model prog w) A (pyNext (.ref a)) Q E s := by
  unfold pyNext
  refine wpAny_bind (wpAny_attempt (wpAny_callSpecial?_slot (name := Str.ofString "__next__") hg.typeIs slot_gen_next
    (wpAny_call_entry slot_gen_next hg.typeIs entry_gen_next ?_ (args_gen_next _))))
  show wpAny _ A.in1 (Builtin.Generator.genWake (.ref a) (.send .none)) _ _ s
  unfold Builtin.Generator.genWake
  refine wpAny_bind (wpAny_holding (wpAny_genNumber hg (wpAny_bind (wpAny_genState hgs ?_))))
  cases gs with
  | running => exact hgo.elim
  | finished => exact hgo.elim
  | _ =>
    refine wpAny_bind (wpAny_roomToWake hl hroom ?_)
    show wpAny _ A.in1 (.resume g (.send .none) [] _) _ _ s
    refine wpAny_resumeQ hgs hgo (fun x s₁ hx => ?_) (fun v s₁ gs' hb hv => ?_)
    · obtain ⟨rfl, hp⟩ := hx
      show wpAny _ A.in1 (newExc (.type "StopIteration") [] >>= _) _ _ _
      refine wpAny_bind ?_
      simp only [newExc, newTuple]
      refine wpAny_bind (wpAny_newObj_type ?_ (by size_fits))
      refine wpAny_bind (m := firstArgMember _ _) (wpAny_of_eq (a := Value.none) (by first | rfl | (simp only [firstArgMember]; rfl)) ?_)
      refine wpAny_newObj_type ?_ (by size_fits)
      simp only [raiseNew]
      refine wpAny_bind (wpAny_bind (wpAny_handled ?_))
      rw [show A.in1.handled = none from hh]
      refine wpAny_throw ?_
      refine wpAny_bind (wpAny_isInstance (T := "StopIteration") (b := true) ⟨_, Heap.get?_push_size _ rfl, rfl⟩ isSubtype_stop ?_)
      exact wpAny_pure (hP s₁ hp _ fun b o hb => Heap.get?_push_of_some _ (Heap.get?_push_of_some _ hb))
    · exact wpAny_pure ⟨v, rfl, wpAny_pure (hY v s₁ gs' hb hv)⟩
end

section
variable {M : Model} {A : Around} {R : GenEnd} {Y : Protocol} {n : Nat} {s₀ : Shared} {c : Code} {fs : List Frame} {s : Shared} {env : Env}
  {K : Flow → Sem Fin} {H : Value → Sem Fin} {gd : Bool → Bool} {lv : List Value → List Value}
theorem seg_If {test : Expr} {body orelse : List Stmt} {pos : Pos}
    (h : wpAny M (A.over c fs) (isTrue test env (eval test env)) (fun b s' => Seg M A R Y n s₀ c ((if b = true then execs body env else execs orelse env).wrap K H gd lv) fs s') (fun x s' => Seg M A R Y n s₀ c (H x) fs s') s) :
    Seg M A R Y n s₀ c ((exec (.If test body orelse pos) env).wrap K H gd lv) fs s := by
  show Seg M A R Y n s₀ c (.at pos fun _ => ((isTrue test env (eval test env) >>= fun b => if b = true then execs body env else execs orelse env)).wrap K H gd lv) fs s
  exact seg_at (seg_bind_wrap h)

noncomputable def backK (env : Env) (K : Flow → Sem Fin) (H : Value → Sem Fin) (gd : Bool → Bool) (lv : List Value → List Value) : Result → Sem Fin := fun r => ((match r with | .ok f => (.pure f : Sem Flow) | .error e => .raise e).onRaise fun (x : Value) => do
        if (← field x 1) == Value.none then unsupported "frame.own-activation:exception-without-traceback"
        setFlight x env.frame).wrap K H gd lv

theorem seg_For {target iter : Expr} {body orelse : List Stmt} {pos : Pos}
    (h : wpAny M (A.over c fs) (eval iter env) (fun v s₁ => wpAny M (A.over c fs) (pyIter v) (fun it s₂ => ∀ p, Seg M A R Y n s₀ (.forLoop target it body orelse env) (M.den (.forLoop target it body orelse env))
        (.ret (backK env K H gd lv) none (gd false) (lv []) c p [] :: fs) s₂) (fun x s' => Seg M A R Y n s₀ c (H x) fs s') s₁) (fun x s' => Seg M A R Y n s₀ c (H x) fs s') s)
    (hs : ∀ x, foldedSetIterable iter env x = pure x := by intro _; rfl) :
    Seg M A R Y n s₀ c ((exec (.For target iter body orelse pos) env).wrap K H gd lv) fs s := by
  show Seg M A R Y n s₀ c (.at pos fun _ => ((eval iter env >>= fun x => foldedSetIterable iter env x >>= fun x => standAt iter.pos >>= fun _ => holding [x] (pyIter x) >>= fun it => runOwn (.forLoop target it body orelse env) env)).wrap K H gd lv) fs s
  refine seg_at (seg_bind_wrap (wpAny_mono h (fun v s₁ h₁ => ?_) fun _ _ e => e))
  refine seg_bind_wrap (wpAny_of_eq (hs v) ?_)
  refine seg_bind_wrap (wpAny_standAt (seg_bind_wrap (wpAny_holding (wpAny_mono h₁ (fun it s₂ h₂ => ?_) fun _ _ e => e))))
  exact seg_call h₂
end

noncomputable def forTarget : Stmt → Expr | .For t .. => t | _ => .Name Str.empty default
noncomputable def forBody : Stmt → List Stmt | .For _ _ b .. => b | _ => []
noncomputable def genBody : List Stmt := defBody (topDef 5)
noncomputable def genLoop : Stmt := genBody.getD 2 (.Pass default)

structure GE (env : Env) : Prop where
  kind : env.scope.kind = .function
  hco : env.scope.isCoroutine = false
  kpos : env.kindOf "pos" = some .local
  kch : env.kindOf "ch" = some .local
  kesc : env.kindOf "escape" = some .local
  kadr : env.kindOf "addr" = some .local

/- the generator's part: all that stood at hB, but its frame, is kept -/
noncomputable def Since (C : Addr) (hB : Heap) (s₀ s : Shared) : Prop := ∃ h' tk, s = { s₀ with heap := h', toks := tk } ∧ ∀ b o, b ≠ C → (∃ o', hB.get? b = some o') → s₀.heap.get? b = some o → h'.get? b = some o
theorem Since.refl {C hB s} : Since C hB s s := ⟨s.heap, s.toks, rfl, fun _ _ _ _ e => e⟩
theorem Since.step {C hB} {s₀ s : Shared} (x : Since C hB s₀ s) {h' : Heap} {tk : Nat} (hk : ∀ b o, b ≠ C → (∃ o', hB.get? b = some o') → s.heap.get? b = some o → h'.get? b = some o) : Since C hB s₀ { s with heap := h', toks := tk } := by
  obtain ⟨h₁, tk₁, rfl, hk₁⟩ := x
  exact ⟨h', tk, rfl, fun b o hC hw e => hk b o hC hw (hk₁ b o hC hw e)⟩
noncomputable def gProto (l : List Nat) (C L : Addr) (hB : Heap) : Protocol := fun m s₀ v s kap =>
  (∃ T t u i c, i + m + 1 = l.length ∧ l[i]? = some c ∧ v = .ref T ∧ s.heap.IsTuple T #[.int (i : Nat) t, .str ⟨#[c]⟩ u]) ∧ Since C hB s₀ s ∧
    ∀ s'' : Shared, (∀ b o, b ≠ L → s.heap.get? b = some o → s''.heap.get? b = some o) → kap (.send .none) s''
noncomputable def gEnd (C : Addr) (hB : Heap) : GenEnd := fun n s₀ r s₁ => r = .ok (.ret .none) ∧ (n = 0 ∧ Since C hB s₀ s₁)

section
variable {prog : Program} {w : World} {A : Around} {env : Env}
theorem hp_of (h : env.scope.kind = .function) : (env.scope.kind == .class || (env.scope.kind == .module && env.locals != env.globals)) = false := by simp [h]

theorem gen_loop {l : List Nat} {L e it : Addr} {hB : Heap} {fp : List Addr} {Pt : Nat → Array Value → Prop} {Stt : Nat → Heap → Prop} {Mid : Nat → Addr → Heap → Prop} {kf : Result → Sem Fin} {c₁ : Code} {p : Pos} (ge : GE env)
    (hh : A.handled = none) (W : ∀ A' : Around, A'.handled = none → WalksT prog w A' e fp [e, it] l.length Pt Stt Mid) (hPt : ∀ i vals, Pt i vals → ∃ t u c, l[i]? = some c ∧ vals = #[.int (i : Nat) t, .str ⟨#[c]⟩ u])
    (hfp : ∀ b ∈ fp, b ≠ env.locals ∧ b ≠ L ∧ hB.get? b = none) (hCL : env.locals ≠ L) (h92 : ∀ c ∈ l, c ≠ 92)
    (hh1 : ∀ c', (A.over c' [.ret kf none false [] c₁ p []]).handled = none) (hfs : splitAtGen [.ret kf none false [] c₁ p []] = none)
    (hK : ∀ s₀ s, (∃ m, s.heap.Ns env.locals m ∧ m "escape" = some (.bool false)) → Since env.locals hB s₀ s → Seg (model prog w) A (gEnd env.locals hB) (gProto l env.locals L hB) 0 s₀ c₁ (kf (.ok .next)) [] s) :
    ∀ (k i : Nat) (s₀ s : Shared), l.length - i = k → i ≤ l.length → Stt i s.heap → (∃ m, s.heap.Ns env.locals m ∧ m "escape" = some (.bool false)) → Since env.locals hB s₀ s →
      Seg (model prog w) A (gEnd env.locals hB) (gProto l env.locals L hB) (l.length - i) s₀ (.forLoop (forTarget genLoop) (.ref e) (forBody genLoop) [] env) ((model prog w).den (.forLoop (forTarget genLoop) (.ref e) (forBody genLoop) [] env)) [.ret kf none false [] c₁ p []] s := by
  have hCw : env.locals ∉ [e, it] := fun m => (hfp _ ((W A hh).sub _ m)).1 rfl
  intro k
  induction k with
  | zero =>
    intro i s₀ s hk hi hst hn hsince
    have hin : i = l.length := Nat.le_antisymm hi (Nat.sub_eq_zero_iff_le.mp hk)
    subst hin
    show Seg _ A _ _ _ s₀ _ ((forTurn (forTarget genLoop) (.ref e) (forBody genLoop) [] env).onRaise (fun x => do noteFrame x env; theTreesLotGoes x)) _ s
    unfold forTurn
    rw [Sem.onRaise_eq_wrap]
    refine seg_bind_wrap (wpAny_standAt ?_)
    refine seg_bind_wrap (wpAny_onRaise ((W _ (hh1 _)).done s _ _ hst fun h' tk hk' => ?_))
    refine seg_again rfl ?_
    show Seg _ A _ _ _ s₀ _ (leafOf (.ok .next)) _ _
    refine seg_leaf _ ?_
    rw [Nat.sub_self]
    obtain ⟨m, hm, he⟩ := hn
    refine hK s₀ _ ⟨m, hm.at' fun o x => hk' _ o hCw x, he⟩ (hsince.step fun b o _ hb x => hk' b o (fun q => ?_) x)
    obtain ⟨o', q'⟩ := hb
    rw [(hfp _ ((W A hh).sub _ q)).2.2] at q'; cases q'
  | succ k ih =>
    intro i s₀ s hk hi hst hn hsince
    have hlt : i < l.length := Nat.lt_of_sub_eq_succ hk
    obtain ⟨m, hm, he⟩ := hn
    show Seg _ A _ _ _ s₀ _ ((forTurn (forTarget genLoop) (.ref e) (forBody genLoop) [] env).onRaise (fun x => do noteFrame x env; theTreesLotGoes x)) _ s
    unfold forTurn
    rw [Sem.onRaise_eq_wrap]
    refine seg_bind_wrap (wpAny_standAt ?_)
    refine seg_bind_wrap (wpAny_onRaise ((W _ (hh1 _)).item i s _ _ hlt hst fun T vals h₁ tk₁ hP hT htup hmid hk₁ => ?_))
    obtain ⟨t, u, c, hc, rfl⟩ := hPt i vals hP
    refine seg_bind_wrap ?_
    refine (W _ (hh1 (.forLoop (forTarget genLoop) (.ref e) (forBody genLoop) [] env))).go _ _ _ i T _ _ _ hmid fun h₂ hst₂ hk₂ => ?_
    have hTC : env.locals ≠ T := fun q => by obtain ⟨o, _, _, ho, _⟩ := hm; rw [q] at ho; exact absurd (Heap.lt_size ho) (Nat.not_lt.mpr hT)
    have hTw : T ∉ [e, it] := (W _ hh).apart i T _ hmid
    have htup₂ : h₂.IsTuple T #[.int (i : Nat) t, .str ⟨#[c]⟩ u] := by obtain ⟨o, ho, r⟩ := htup; exact ⟨o, hk₂ T o hTw ho, r⟩
    have hm₂ : h₂.Ns env.locals m := (hm.at' fun o x => hk₁ _ o hCw x).at' fun o x => hk₂ _ o hCw x
    refine seg_bind_wrap ?_
    refine wpAny_assign_Tuple (hh1 _) htup₂ (by rfl) (by rfl) fun h₃ he₃ => ?_
    have hC3 : env.locals ≠ h₂.objs.size := by obtain ⟨o, _, _, ho, _⟩ := hm₂; exact Nat.ne_of_lt (Heap.lt_size ho)
    refine wpAny_bind (wpAny_holding (wpAny_assign_Name (wpAny_storeName_local ge.kpos (hm₂.extBut he₃ hC3) (fun h₄ hm₄ hs₄ => ?_) (hp_of ge.kind))))
    refine wpAny_bind (wpAny_holding (wpAny_assign_Name (wpAny_storeName_local ge.kch hm₄ (fun h₅ hm₅ hs₅ => ?_) (hp_of ge.kind))))
    refine wpAny_pure ?_
    have k5 : ∀ b o, b ≠ env.locals → b ∉ [e, it] → b ≠ h₂.objs.size → s.heap.get? b = some o → h₅.get? b = some o := fun b o b1 b2 b3 x => hs₅.extBut b o b1 (hs₄.extBut b o b1 (he₃ b o b3 (hk₂ b o b2 (hk₁ b o b2 x))))
    rw [Sem.bind_eq_wrap', Sem.wrap_wrap]
    obtain ⟨n, hn⟩ : ∃ n, l.length - i = n + 1 := ⟨k, hk⟩
    rw [hn]
    refine seg_execs_cons (seg_If (wpAny_isTrue_value (wpAny_Name (wpAny_loadName_local ge.kind ge.kesc hm₅ (v := .bool false) ?_ (wpAny_truthy_bool ?_)) (by decide))))
    · exact he
    simp only [Bool.false_eq_true, if_false]
    refine seg_execs_cons (seg_If (wpAny_isTrue_Compare1 (wpAny_Name (wpAny_loadName_local ge.kind ge.kch hm₅ (v := .str ⟨#[c]⟩ u) (by simp) (wpAny_Constant_str (eq_str (wpAny_truthy_bool ?_)))) (by decide))))
    have hne : ((⟨#[c]⟩ : Str) == (Str.ofString "\\")) = false := by
      have h9 : c ≠ 92 := h92 c (List.mem_of_getElem? hc)
      cases hq : ((⟨#[c]⟩ : Str) == (Str.ofString "\\")) with
      | false => rfl
      | true =>
        exfalso; apply h9
        have q := eq_of_beq hq
        have q2 : (⟨#[c]⟩ : Str) = ⟨#[92]⟩ := q
        simpa using q2
    rw [hne]
    simp only [Bool.false_eq_true, if_false]
    refine seg_execs_cons (seg_Expr_Yield hfs rfl rfl ?_ ge.hco (by unfold interactive; rw [ge.kind]; rfl))
    have hm₅' := hm₅
    refine wpAny_Tuple (wpAny_items_cons (wpAny_Name (wpAny_loadName_local ge.kind ge.kpos hm₅ (v := .int (i : Nat) t) (by rfl) (wpAny_items_cons (wpAny_Name (wpAny_loadName_local ge.kind ge.kch hm₅ (v := .str ⟨#[c]⟩ u) (by simp) (wpAny_items_nil ?_)) (by decide)))) (by decide)))
    refine ⟨by show 2 ≤ sizeLine; decide, fun kap hkap => ?_⟩
    refine ⟨⟨_, t, u, i, c, by rw [Nat.add_assoc, ← hn]; exact Nat.add_sub_of_le (Nat.le_of_lt hlt), hc, rfl, ⟨_, Heap.get?_push_size _ rfl, rfl, _, rfl⟩⟩, hsince.step fun b o b1 b2 x => ?_, fun s'' hal => hkap .none s'' ?_⟩
    · obtain ⟨o', b2⟩ := b2
      have bw : b ∉ [e, it] := fun q => by rw [(hfp _ ((W A hh).sub _ q)).2.2] at b2; cases b2
      exact Heap.get?_push_of_some _ (k5 b o b1 bw (Nat.ne_of_lt (Heap.lt_size (hk₂ b o bw (hk₁ b o bw x)))) x)
    · refine seg_again rfl ?_
      have hn' : n = l.length - (i + 1) := by rw [← Nat.sub_sub, hn, Nat.add_sub_cancel]
      rw [hn']
      refine ih (i + 1) s'' s'' (by rw [← Nat.sub_sub, hk, Nat.add_sub_cancel]) hlt ?_ ?_ .refl
      · exact (W A hh).frame _ _ _ hst₂ fun b hb o x => hal b o (hfp b hb).2.1 (Heap.get?_push_of_some _ (hs₅.extBut b o (hfp b hb).1 (hs₄.extBut b o (hfp b hb).1 (he₃ b o (Nat.ne_of_lt (Heap.lt_size x)) x))))
      · exact ⟨_, hm₅.at' fun o x => hal _ o hCL (Heap.get?_push_of_some _ x), he⟩
end
end Mine

namespace Mine
section
variable {prog : Program} {w : World} {A : Around} {env : Env}
theorem wp_Call_type {E : Value → Shared → Prop} {s : Shared} {x : Str} {px pos : Pos} {es : List Expr} {T : String} {Q : Value → Shared → Prop} (h : wpAny (model prog w) A (eval (.Name x px) env) (fun v s₁ => v = .type T ∧ wpAny (model prog w) A (spliced (backTo pos (starEach es env))) (fun vs s₂ => wpAny (model prog w) A (call (.type T) vs) Q E s₂) E s₁) E s)
    (hp : (starEach es env).any (·.1) = false) : wpAny (model prog w) A (eval (.Call (.Name x px) es [] pos) env) Q E s := by
  show wpAny _ A (do callWith pos (← eval (.Name x px) env) [] (backTo pos (starEach es env)) (backToKw pos (keywordEach [] env))) _ E s
  refine wpAny_bind (wpAny_mono h (fun v s₁ h₁ => ?_) fun _ _ e => e)
  obtain ⟨rfl, h₁⟩ := h₁
  exact PyProof.Rows.callWith_type (backTo_any pos hp) (evalArgs_spliced (backTo_any pos hp) h₁)

theorem wp_glob' {E : Value → Shared → Prop} {s : Shared} {mg mb : Str → Option Value} {x : Str} {pos : Pos} {v : Value} {Q : Value → Shared → Prop} (ok : EnvOk env) (G : GF s.heap mg mb) (hg : Glob env mg mb x v) (h : Q v s) :
    wpAny (model prog w) A (eval (.Name x pos) env) Q E s := by
  obtain ⟨h1, h2, h3⟩ := hg
  refine Calls.Name_function_global ok.kind h1 ?_ h3
  rcases h2 with h2 | ⟨h2, h4⟩
  · exact Calls.loadGlobal_global (ok.globals ▸ G.g) h2 h
  · exact Calls.loadGlobal_builtin (ok.globals ▸ G.g) h2 (ok.builtins ▸ G.b) h4 h

theorem walk_enum_str (l : List Nat) (t : Tok) (e it : Addr) (hei : e ≠ it) : ∃ Pt Stt Mid, (∀ A' : Around, A'.handled = none → WalksT prog w A' e [e, it] [e, it] l.length Pt Stt Mid) ∧ (∀ i vals, Pt i vals → ∃ t u c, l[i]? = some c ∧ vals = #[.int (i : Nat) t, .str ⟨#[c]⟩ u]) ∧
    (∀ h : Heap, IsEnum h e it 0 .none → h.IsStrIter it (strIterType (T l)) (T l) t 0 → Stt 0 h) := by
  have hp : ∀ i (vals : Array Value), (∃ t x, (∃ c u, (T l).cps[i]? = some c ∧ x = .str ⟨#[c]⟩ u) ∧ vals = #[.int (i : Nat) t, x]) → ∃ t u c, l[i]? = some c ∧ vals = #[.int (i : Nat) t, .str ⟨#[c]⟩ u] := by
    rintro i vals ⟨t, x, ⟨c, u, h, rfl⟩, rfl⟩
    exact ⟨t, u, c, by simpa [Mine.T] using h, rfl⟩
  have hl : (T l).cps.size = l.length := by simp [Mine.T]
  cases ha : (T l).cps.all (· < 128)
  · have W := fun (A' : Around) (hA' : A'.handled = none) => WalksT.enumerateD (A := A') (Draws.strWide (prog := prog) (w := w) (A := A'.in1) hA' it (T l) t) e hei (by simpa using hei) (by simp)
    rw [hl] at W
    refine ⟨_, _, _, W, hp, fun h h1 h2 => ⟨⟨_, h1⟩, ?_⟩⟩
    simpa [strIterType, ha] using h2
  · have W := fun (A' : Around) (hA' : A'.handled = none) => WalksT.enumerateD (A := A') (Draws.strAscii (prog := prog) (w := w) (A := A'.in1) hA' it (T l) t) e hei (by simpa using hei) (by simp)
    rw [hl] at W
    refine ⟨_, _, _, W, hp, fun h h1 h2 => ⟨⟨_, h1⟩, ?_⟩⟩
    simpa [strIterType, ha] using h2

theorem gen_start {l : List Nat} {L : Addr} {hB : Heap} {mg mb : Str → Option Value} {tt : Tok} (ge : GE env) (ok : EnvOk env) (hh : A.handled = none) (h92 : ∀ c ∈ l, c ≠ 92) (hCL : env.locals ≠ L) (hen : Glob env mg mb "enumerate" (.type "enumerate"))
    (s₀ s : Shared) (hsub : ∀ b o, hB.get? b = some o → ∃ o', s.heap.get? b = some o') (hLa : ∃ o, s.heap.get? L = some o) (G : GF s.heap mg mb) (hn : ∃ m, s.heap.Ns env.locals m ∧ m "addr" = some (.str (T l) tt)) (hsince : Since env.locals hB s₀ s)
    (hgl : mainGlobals ≠ env.locals) (hbl : builtinsNs ≠ env.locals) :
    Seg (model prog w) A (gEnd env.locals hB) (gProto l env.locals L hB) l.length s₀ (.func genBody env) ((model prog w).den (.func genBody env)) [] s := by
  obtain ⟨m, hm, ha⟩ := hn
  have hdead : ∀ {b}, s.heap.get? b = none → hB.get? b = none := fun {b} h => by
    cases q : hB.get? b with
    | none => rfl
    | some o => obtain ⟨o', q'⟩ := hsub b o q; rw [h] at q'; cases q'
  refine seg_func ?_
  have hi : (A.over (.func genBody env) []).handled = none := hh
  refine seg_execs_cons (seg_wrap (wpAny_Assign_Name (wpAny_Constant_int (wpAny_storeName_local ge.kpos hm (fun h₁ hm₁ hs₁ => ?_) (hp_of ge.kind))) (by rfl)))
  refine seg_execs_cons (seg_wrap (wpAny_Assign_Name (wpAny_Constant_bool (wpAny_storeName_local ge.kesc hm₁ (fun h₂ hm₂ hs₂ => ?_) (hp_of ge.kind))) (by rfl)))
  have G₂ : GF h₂ mg mb := ⟨(G.g.extBut hs₁.extBut hgl).extBut hs₂.extBut hgl, (G.b.extBut hs₁.extBut hbl).extBut hs₂.extBut hbl⟩
  refine seg_execs_cons (seg_For ?_ (by intro _; rfl))
  refine wp_Call_type (wp_glob' ok G₂ hen ⟨rfl, wpAny_items_cons (wpAny_Name (wpAny_loadName_local ge.kind ge.kadr hm₂ (v := .str (T l) tt) ha (wpAny_items_nil (call_enumerate_str fun h₃ he₃ hit₃ hz₃ hk₃ => wpAny_pyIter_enum he₃ ?_))) (by decide))⟩) (by rfl)
  intro p
  dsimp only at he₃ hit₃ hz₃ hk₃ ⊢
  have hne1 : h₂.objs.size + 1 ≠ h₂.objs.size := Nat.succ_ne_self _
  obtain ⟨Pt, Stt, Mid, W, hPt, h0⟩ := walk_enum_str (prog := prog) (w := w) l tt (h₂.objs.size + 1) h₂.objs.size hne1
  have up : ∀ b o, b ≠ env.locals → s.heap.get? b = some o → h₃.get? b = some o := fun b o hb x => hk₃ b o (hs₂.extBut b o hb (hs₁.extBut b o hb x))
  have alive : ∀ b : Nat, (∃ o, s.heap.get? b = some o) → b < h₂.objs.size := fun b hb => by
    obtain ⟨o, x⟩ := hb
    by_cases q : b = env.locals
    · subst q; obtain ⟨o', _, _, ho', _⟩ := hm₂; exact Heap.lt_size ho'
    · exact Heap.lt_size (hs₂.extBut b o q (hs₁.extBut b o q x))
  have hCa := alive _ (by obtain ⟨o, _, _, ho, _⟩ := hm; exact ⟨o, ho⟩)
  have hLl := alive _ hLa
  have hBn : ∀ b : Nat, h₂.objs.size ≤ b → hB.get? b = none := fun b hb => by
    refine hdead ?_
    cases q : s.heap.get? b with
    | none => rfl
    | some o => exact absurd (alive b ⟨o, q⟩) (Nat.not_lt.mpr hb)
  refine gen_loop (prog := prog) (w := w) (A := A) (L := L) (hB := hB) ge hh W hPt (by
      intro b hb
      have hge : h₂.objs.size ≤ b := by
        rcases List.mem_cons.mp hb with rfl | hb
        · exact Nat.le_succ _
        · rw [List.mem_singleton.mp hb]; exact Nat.le_refl _
      exact ⟨fun q => absurd (q ▸ hCa) (Nat.not_lt.mpr hge), fun q => absurd (q ▸ hLl) (Nat.not_lt.mpr hge), hBn b hge⟩) hCL h92 (fun c' => hh) rfl ?_ l.length 0 s₀ _ rfl (Nat.zero_le _) (h0 _ he₃ hit₃) ⟨_, hm₂.keeps hk₃, rfl⟩ (hsince.step fun b o b1 _ x => up b o b1 x)
  rintro s₀' s' ⟨m', hm', he'⟩ hs'
  show Seg _ A _ _ 0 s₀' _ ((execs (genBody.drop 3) env).wrap _ _ _ _) [] s'
  refine seg_execs_cons (seg_If (wpAny_isTrue_value (wpAny_Name (wpAny_loadName_local ge.kind ge.kesc hm' he' (wpAny_truthy_bool ?_)) (by decide))))
  simp only [Bool.false_eq_true, if_false]
  exact seg_end (.ok (.ret .none)) ⟨rfl, rfl, hs'⟩
end
end Mine

namespace Mine
section
variable {prog : Program} {w : World} {A : Around} {E : Value → Shared → Prop} {s : Shared} {X Y : List Addr} {env : Env} {k : Nat} {f : Fs} {s₀ : Shared} {hb h₀ : Heap} {mg mb : Str → Option Value}

theorem op_notin_str {a b : Str} : OP prog w X k .NotIn (.str a) (.str b) (!Txt.contains b a) := fun A s x y E g _ hx hy => by
  obtain ⟨t, rfl⟩ := D.den_str hx; obtain ⟨u, rfl⟩ := D.den_str hy; exact P.notIn_str ⟨rfl, .refl⟩

theorem bc_strip (hfn : DefAt h₀ 6 77) (hlim : h₀.NoLimit) (l : List Nat) (h34 : ∀ c ∈ l, c ≠ 34) : BC prog w h₀ X (k + 1) (.ref 77) [.str (T l)] (.str (T l)) := by
  refine bc_fn1 (x := "addr") hfn hlim (by rfl) ?_ 
  intro A s s₁ L cd E g kp dom ok S
  conv in execs _ _ => arg 1; whnf
  refine wpAny_execs_cons (ex_if (b := true) g S ((tv_cmp (ev_str (x := T [34])) (ev_name (d := .str (T l)) ok rfl rfl) op_notin_str).cast ?_) fun s₂ le S₂ => ?_)
  · rw [contains_one]
    have : 34 ∉ l := fun m => h34 34 m rfl
    simp [this]
  simp only [if_true]
  exact wpAny_execs_cons (ex_return g S₂ (ev_name (d := .str (T l)) ok rfl rfl) fun v s₃ hv _ S₃ => ⟨v, rfl, hv, S₃.keep, S₃.os, fun _ => S₃.gens⟩)

noncomputable def chk : List Nat → Int → Bool
  | [], o => o == 0
  | c :: r, o => if c = 40 then chk r (o + 1) else if c = 41 then (if o - 1 < 0 then false else chk r (o - 1)) else chk r o

/- the loop of _check_parenthesis, between two draws -/
structure CI (prog : Program) (w : World) (A : Around) (l : List Nat) (L C a : Addr) (g : Nat) (hB : Heap) (sE : Shared) (j : Nat) (o : Int) (s : Shared) : Prop where
  val : chk l 0 = chk (l.drop j) o
  ns : ∃ m t, s.heap.Ns L m ∧ m "opens" = some (.int o t)
  old : GB [] sE.heap s.heap
  os : s.os = sE.os
  isg : s.heap.IsGen a g
  lim : s.heap.NoLimit
  bare : AllBare s.gens
  gen : ∃ gs, s.gens[g]? = some gs ∧ ∀ s'' : Shared, (∀ b o, b ≠ L → s.heap.get? b = some o → s''.heap.get? b = some o) → (∃ o, s''.heap.get? L = some o) →
    gs.Goes (model prog w) A.in1 (gEnd C hB) (gProto l C L hB) (l.length - j) (.send .none) s''

theorem bare_set {g : Nat} {x : GenState} {s : Shared} (h : AllBare s.gens) (hx : x.bare = true) : AllBare (s.setGen g x).gens := by
  intro y hy
  obtain ⟨i, hi, rfl⟩ := Array.mem_iff_getElem.mp hy
  have hi' : i < s.gens.size := by simpa [Shared.setGen] using hi
  by_cases e : i = g
  · subst e
    simpa [Shared.setGen, hi'] using hx
  · simp only [Shared.setGen] at hi ⊢
    rw [Array.getElem_setIfInBounds hi', if_neg (Ne.symm e)]
    exact h _ (Array.getElem_mem _)

noncomputable def CHI (prog : Program) (w : World) (A : Around) (l : List Nat) (L C a : Addr) (g : Nat) (hB : Heap) (sE : Shared) (n : Nat) (s : Shared) : Prop := ∃ j o, j ≤ l.length ∧ n = l.length - j ∧ CI prog w A l L C a g hB sE j o s
theorem check_loop {l : List Nat} {L C a : Addr} {g : Nat} {hB : Heap} {sE : Shared} {R : Result → Shared → Prop} (hk : env.scope.kind = .function) (hL : env.locals = L) (gd : Good k A)
    (kpos : env.kindOf "pos" = some .local) (kch : env.kindOf "ch" = some .local) (kop : env.kindOf "opens" = some .local) (hLC : L ≠ C) (hsE : ∀ b o, sE.heap.get? b = some o → b ≠ C ∧ b ≠ L ∧ ∃ o', hB.get? b = some o') (hLB : ∃ o', hB.get? L = some o')
    (haB : ∃ o', hB.get? a = some o') (haC : a ≠ C) (hcs : ∃ o', hB.get? cStatics = some o') (hcC : cStatics ≠ C) (haL : a ≠ L) (hcL : cStatics ≠ L)
    (hret : ∀ s, chk l 0 = false → GB [] sE.heap s.heap → s.os = sE.os → AllBare s.gens → R (.ok (.ret (.bool false))) s)
    (hdone : ∀ o s, chk l 0 = (o == 0) → (∃ m t, s.heap.Ns L m ∧ m "opens" = some (.int o t)) → GB [] sE.heap s.heap → s.os = sE.os → AllBare s.gens → R (.ok .next) s)
    (s : Shared) (I : CI prog w A l L C a g hB sE 0 0 s) : 
    codeAny (model prog w) A (.forLoop (forTarget ((defBody (topDef 7)).getD 2 (.Pass default))) (.ref a) (forBody ((defBody (topDef 7)).getD 2 (.Pass default))) [] env) R s := by
  refine codeAny_forLoop_any (CHI prog w A l L C a g hB sE) ?_ l.length ⟨0, 0, Nat.zero_le _, rfl, I⟩
  rintro n s ⟨j, o, hj, rfl, I⟩
  obtain ⟨gs, hgs, hgo⟩ := I.gen
  obtain ⟨m, t, hm, ho⟩ := I.ns
  have hLa : ∃ o, s.heap.get? L = some o := by obtain ⟨o, _, _, e, _⟩ := hm; exact ⟨o, e⟩
  refine next_gen (P := fun n s₀ s₁ => n = 0 ∧ Since C hB s₀ s₁) gd.handled I.lim (by have := gd.depth; lia) I.isg hgs (hgo _ (fun _ _ _ e => e) hLa) ?_ ?_
  · rintro v s₁ gs' hb' ⟨⟨T, t1, u, i, c, hi, hc, rfl, hT⟩, ⟨h₁, tk₁, rfl, hk₁⟩, hkap⟩
    by_cases hjl : j = l.length
    · subst hjl
      rw [Nat.sub_self] at hkap
      exact (hkap _ fun _ _ _ e => e).elim
    have hlt : j < l.length := Nat.lt_of_le_of_ne hj hjl
    obtain ⟨n, hn⟩ : ∃ n, l.length - j = n + 1 := Nat.exists_eq_succ_of_ne_zero (Nat.sub_ne_zero_of_lt hlt)
    have hdec : l.length - (j + 1) < l.length - j := Nat.sub_lt_sub_left hlt (Nat.lt_succ_self j)
    rw [hn] at hkap hi
    have hij : i = j := by lia
    subst hij
    dsimp only [Shared.setGen] at hk₁ hT
    have hm₁ : h₁.Ns L m := hm.at' fun o x => hk₁ L o hLC hLB x
    have hg₁ : h₁.IsGen a g := by obtain ⟨o, nm, qn, e, r⟩ := I.isg; exact ⟨o, nm, qn, hk₁ a o haC haB e, r⟩
    have hl₁ : h₁.NoLimit := by obtain ⟨mc, hns, hnn⟩ := I.lim; exact ⟨mc, hns.at' fun o e => hk₁ cStatics o hcC hcs e, hnn⟩
    refine wp_go (by obtain ⟨o, nm, qn, e, c, _⟩ := hg₁; exact ⟨o, _, e, c, by decide⟩) ?_
    refine wpAny_assign_Tuple gd.handled hT (by rfl) (by rfl) fun h₂ he₂ => ?_
    have hm₂ : h₂.Ns L m := hm₁.at' fun o x => he₂ _ o (Nat.ne_of_lt (Heap.lt_size x)) x
    subst hL
    refine wpAny_bind (wpAny_holding (wpAny_assign_Name (wpAny_storeName_local kpos hm₂ (fun h₃ hm₃ hs₃ => ?_) (hp_of hk))))
    refine wpAny_bind (wpAny_holding (wpAny_assign_Name (wpAny_storeName_local kch hm₃ (fun h₄ hm₄ hs₄ => ?_) (hp_of hk))))
    refine wpAny_pure ?_
    have k4 : ∀ b o, b ≠ env.locals → h₁.get? b = some o → h₄.get? b = some o := fun b o b1 x => hs₄.extBut b o b1 (hs₃.extBut b o b1 (he₂ b o (Nat.ne_of_lt (Heap.lt_size x)) x))
    have old4 : ∀ h₅ : Heap, (∀ b o, b ≠ env.locals → h₄.get? b = some o → h₅.get? b = some o) → GB [] sE.heap h₅ := fun h₅ h5 b ob _ x => by
      obtain ⟨b1, b2, b3⟩ := hsE b ob x
      exact h5 b ob b2 (k4 b ob b2 (hk₁ b ob b1 b3 (I.old b ob nil_mem x)))
    have hgs' : ∀ (s : Shared) x y, g < s.gens.size → ((s.setGen g x).setGen g y).gens[g]? = some y := fun s x y hlt => by simp [Shared.setGen, hlt]
    have hgl : g < s.gens.size := by
      rcases Nat.lt_or_ge g s.gens.size with h | h
      · exact h
      · rw [Array.getElem?_eq_none h] at hgs; cases hgs
    have bare2 : AllBare ((s.setGen g .running).setGen g gs').gens := bare_set (bare_set I.bare rfl) hb'
    have mkI : ∀ (h₅ : Heap) (tk : Nat) (o' : Int), chk l 0 = chk (l.drop (i + 1)) o' → (∃ m t, h₅.Ns env.locals m ∧ m "opens" = some (.int o' t)) → (∀ b o, b ≠ env.locals → h₄.get? b = some o → h₅.get? b = some o) →
        CI prog w A l env.locals C a g hB sE (i + 1) o' { heap := h₅, gens := ((s.setGen g .running).setGen g gs').gens, drawn := s.drawn, toks := tk, os := s.os } := by
      intro h₅ tk o' hv hns h5
      refine ⟨hv, hns, old4 h₅ h5, I.os, ?_, ?_, bare2, gs', hgs' s _ _ hgl, fun s'' hal _ => ?_⟩
      · exact by obtain ⟨o, nm, qn, e, r⟩ := hg₁; exact ⟨o, nm, qn, h5 a o haL (k4 a o haL e), r⟩
      · exact by obtain ⟨mc, hns, hnn⟩ := hl₁; exact ⟨mc, hns.at' fun o e => h5 _ o hcL (k4 _ o hcL e), hnn⟩
      · have hnn : l.length - (i + 1) = n := by rw [Nat.sub_succ, hn]; rfl
        rw [hnn]
        exact hkap s'' fun b o b1 x => hal b o b1 (h5 b o b1 (k4 b o b1 x))
    have hdrop : l.drop i = c :: l.drop (i + 1) := by
      have hi' : i < l.length := hlt
      rw [List.drop_eq_getElem_cons hi']
      have : l[i] = c := by rw [List.getElem?_eq_getElem hi'] at hc; exact Option.some.inj hc
      rw [this]
    have hval := I.val
    rw [hdrop, chk] at hval
    have he1 : ∀ d, ((⟨#[c]⟩ : Str) == ⟨#[d]⟩) = decide (c = d) := fun d => by
      by_cases q : c = d
      · subst q; simp
      · have : (⟨#[c]⟩ : Str) ≠ ⟨#[d]⟩ := fun e => q (by simpa using e)
        simp [q]
    refine wpAny_execs_cons (wpAny_If (wpAny_isTrue_Compare1 (wpAny_Name (wpAny_loadName_local hk kch hm₄ (v := .str ⟨#[c]⟩ u) (by rfl) (wpAny_Constant_str (eq_str (wpAny_truthy_bool ?_)))) (by decide))))
    rw [show ((⟨#[c]⟩ : Str) == Str.ofString "(") = decide (c = 40) from he1 40]
    by_cases hc1 : c = 40
    · subst hc1
      simp only [decide_true, if_true] at hval ⊢
      refine wpAny_execs_cons (wpAny_AugAssign_Name (wpAny_loadName_local hk kop hm₄ (v := .int o t) ho (wpAny_Constant_int (PyProof.Rows.iadd_int (wpAny_storeName_local kop hm₄ (fun h₅ hm₅ hs₅ => ?_) (hp_of hk))))))
      refine wpAny_execs_nil (wpAny_execs_nil ?_)
      exact ⟨l.length - (i + 1), hdec, i + 1, o + 1, hlt, rfl, mkI h₅ _ _ hval ⟨_, _, hm₅, by rfl⟩ hs₅.extBut⟩
    · simp only [hc1, decide_false, Bool.false_eq_true, if_false] at hval ⊢
      refine wpAny_execs_cons (wpAny_If (wpAny_isTrue_Compare1 (wpAny_Name (wpAny_loadName_local hk kch hm₄ (v := .str ⟨#[c]⟩ u) (by rfl) (wpAny_Constant_str (eq_str (wpAny_truthy_bool ?_)))) (by decide))))
      rw [show ((⟨#[c]⟩ : Str) == Str.ofString ")") = decide (c = 41) from he1 41]
      by_cases hc2 : c = 41
      · subst hc2
        simp only [decide_true, if_true] at hval ⊢
        refine wpAny_execs_cons (wpAny_AugAssign_Name (wpAny_loadName_local hk kop hm₄ (v := .int o t) ho (wpAny_Constant_int (isub_int (wpAny_storeName_local kop hm₄ (fun h₅ hm₅ hs₅ => ?_) (hp_of hk))))))
        refine wpAny_execs_cons (wpAny_If (wpAny_isTrue_Compare1 (wpAny_Name (wpAny_loadName_local hk kop hm₅ (v := .int (o - 1) _) (by rfl) (wpAny_Constant_int (PyProof.Rows.lt_int (wpAny_truthy_bool ?_)))) (by decide))))
        by_cases ho1 : o - 1 < 0
        · simp only [ho1, decide_true, if_true] at hval ⊢
          refine wpAny_execs_cons (wpAny_Return_some (wpAny_Constant_bool ?_))
          exact hret _ hval (old4 _ hs₅.extBut) I.os bare2
        · simp only [ho1, decide_false, Bool.false_eq_true, if_false] at hval ⊢
          refine wpAny_execs_nil (wpAny_execs_nil (wpAny_execs_nil (wpAny_execs_nil ?_)))
          exact ⟨l.length - (i + 1), hdec, i + 1, o - 1, hlt, rfl, mkI h₅ _ _ hval ⟨_, _, hm₅, by rfl⟩ hs₅.extBut⟩
      · simp only [hc2, decide_false, Bool.false_eq_true, if_false] at hval ⊢
        refine wpAny_execs_nil (wpAny_execs_nil (wpAny_execs_nil ?_))
        exact ⟨l.length - (i + 1), hdec, i + 1, o, hlt, rfl, mkI h₄ _ _ hval ⟨_, _, hm₄, ho⟩ fun _ _ _ e => e⟩
  · rintro s₁ ⟨hn0, h₁, tk₁, rfl, hk₁⟩ h' hk'
    have hjl : j = l.length := by lia
    subst hjl
    have hval := I.val
    rw [List.drop_length] at hval
    dsimp only [Shared.setGen] at hk₁ hk'
    subst hL
    refine wpAny_execs_nil (hdone o _ hval ⟨m, t, hm.at' fun o x => hk' _ o (hk₁ _ o hLC hLB x), ho⟩ (fun b ob _ x => ?_) I.os (bare_set (bare_set I.bare rfl) rfl))
    obtain ⟨b1, b2, b3⟩ := hsE b ob x
    exact hk' b ob (hk₁ b ob b1 b3 (I.old b ob nil_mem x))
end
end Mine

namespace Mine
section
variable {prog : Program} {w : World} {A : Around} {E : Value → Shared → Prop} {s : Shared} {X Y : List Addr} {env : Env} {k : Nat} {f : Fs} {s₀ : Shared} {hb h₀ : Heap} {mg mb : Str → Option Value}

theorem wp_Call_fn {x : Str} {px pos : Pos} {es : List Expr} {a : Addr} {o : Obj} {fd : FuncData} {Q : Value → Shared → Prop} (h : wpAny (model prog w) A (eval (.Name x px) env) (fun v s₁ => v = .ref a ∧ wpAny (model prog w) A (spliced (backTo pos (starEach es env))) (fun vs s₂ => (s₂.heap.get? a = some o ∧ o.data = .func fd) ∧ wpAny (model prog w) A (call (.ref a) vs) Q E s₂) E s₁) E s)
    (hp : (starEach es env).any (·.1) = false) : wpAny (model prog w) A (eval (.Call (.Name x px) es [] pos) env) Q E s := by
  show wpAny _ A (do callWith pos (← eval (.Name x px) env) [] (backTo pos (starEach es env)) (backToKw pos (keywordEach [] env))) _ E s
  refine wpAny_bind (wpAny_mono h (fun v s₁ h₁ => ?_) fun _ _ e => e)
  obtain ⟨rfl, h₁⟩ := h₁
  exact Calls.callWith_function (evalArgs_spliced (backTo_any pos hp) h₁)

noncomputable def gEnv (L : Addr) (cd : Value) : Env := envOf (defName (topDef 5)) (defScope (topDef 5)) L 70 cd

theorem bc_check (hfn : DefAt h₀ 7 84) (hst : DefAt h₀ 6 77) (hge : DefAt h₀ 5 70) (hlim : h₀.NoLimit) (G : GF h₀ mg mb) (g1 : mg "_strip_quoted_realnames" = some (.ref 77)) (g2 : mg "_iter_escaped_chars" = some (.ref 70)) (g3 : mg "enumerate" = none ∧ mb "enumerate" = some (.type "enumerate"))
    (l : List Nat) (h34 : ∀ c ∈ l, c ≠ 34) (h92 : ∀ c ∈ l, c ≠ 92) : BC prog w h₀ X (k + 3) (.ref 84) [.str (T l)] (.bool (chk l 0)) := by
  refine bc_fn1 (x := "addr") hfn hlim (by rfl) ?_ 
  intro A s s₁ L cd E g kp dom ok S
  have G' := G.keep kp
  conv in execs _ _ => arg 1; whnf
  obtain ⟨o1, pm1, cd1, doc1, ho1, hd1, hc1⟩ := DefAt.keep kp hst
  refine wpAny_execs_cons (ex_assign (d := .str (T l)) ok g S ?_ (by rfl) fun s₂ S₂ _ => ?_)
  · exact ev_call_f ok G' ⟨rfl, .inl g1, rfl⟩ ho1 hd1 (evs_cons (ev_name ok rfl rfl) evs_nil) rfl (bc_strip (DefAt.keep kp hst) (NoLimit.keep kp hlim) l h34)
  refine wpAny_execs_cons (ex_assign (d := .int 0) ok g S₂ ev_int (by rfl) fun s₃ S₃ _ => ?_)
  obtain ⟨o2, pm2, cd2, doc2, ho2, hd2, hc2⟩ := DefAt.keep kp hge
  obtain ⟨m, hm, hv⟩ := S₃.ns
  obtain ⟨v1, e1, d1⟩ := hv "addr" (.str (T l)) rfl rfl
  obtain ⟨v2, e2, d2⟩ := hv "opens" (.int 0) rfl rfl
  obtain ⟨tt, rfl⟩ := D.den_str d1
  obtain ⟨t2, rfl⟩ := D.den_int d2
  have hm : s₃.heap.Ns L m := hm
  refine wpAny_execs_cons (wp_For ?_ (by intro _; rfl))
  refine wp_Call_fn (o := o2) (wp_glob ok G' ⟨rfl, .inl g2, rfl⟩ S₃ ⟨rfl, wpAny_items_cons (wpAny_Name (wpAny_loadName_local ok.kind (by rfl) hm e1 (wpAny_items_nil ⟨⟨S₃.keep _ _ nil_mem ho2, hd2⟩, ?_⟩)) (by decide))⟩) (by rfl)
  refine wpAny_call (codeAny_call_generator (body := genBody) (by have := g.depth; lia) (S₃.keep _ _ nil_mem ho2) hd2 (by rfl) (by rfl) (by rfl) (hc2.keeps fun b o e => S₃.keep b o nil_mem e) ?_)
  have hbind : bindArgs (Calls.docDef (defName (topDef 5)) (defParams (topDef 5)) (defBody (topDef 5)) (defScope (topDef 5)) pm2 cd2 doc2) ⟨[.str (T l) tt], []⟩ = pure [(Str.ofString "addr", Value.str (T l) tt)] := by rfl
  refine wpAny_of_eq hbind ?_
  have hnc : ∀ x ∈ (defScope (topDef 5)).names, x.2 ≠ .cell := by decide
  have hlc : ∀ x ∈ [(Str.ofString "addr", Value.str (T l) tt)], (defScope (topDef 5)).names.lookup x.1 = some .local := fun x hx => by rw [List.mem_singleton.mp hx]; rfl
  refine wpAny_newFunctionEnv hnc hlc (fun h₄ hm₄ hs₄ => ?_) (by rfl)
  have hL0 : s.heap.get? L = none := S.new L (.head _)
  have hfr := fresh_addr s₃.heap
  have hC0 : s.heap.get? s₃.heap.objs.size = none := S₃.none0 hfr
  have hCL : s₃.heap.objs.size ≠ L := fun q => by obtain ⟨o, _, _, e, _⟩ := hm; rw [← q, hfr] at e; cases e
  have k34 : ∀ b o, s₃.heap.get? b = some o → h₄.get? b = some o := fun b o e => hs₄.extBut b o (fun q => by subst q; rw [hfr] at e; cases e) (Heap.get?_push_of_some _ e)
  have hlim₃ : s₃.heap.NoLimit := NoLimit.keep S₃.keep (NoLimit.keep kp hlim)
  refine ⟨hlim₃.keeps k34, ?_⟩
  have hIG := Heap.get?_push_size h₄ (o := { cls := .type "generator", data := .fields #[.int s₃.gens.size 0, .str (defName (topDef 5)) (s₃.toks + 1), .str (defName (topDef 5)) (s₃.toks + 1 + 1)] }) rfl
  have k45 : ∀ b o, h₄.get? b = some o → (h₄.push { cls := .type "generator", data := .fields #[.int s₃.gens.size 0, .str (defName (topDef 5)) (s₃.toks + 1), .str (defName (topDef 5)) (s₃.toks + 1 + 1)] }).get? b = some o := fun b o e => Heap.get?_push_of_some _ e
  show wpAny _ A (pyIter (.ref h₄.objs.size)) _ _ { s₃ with heap := (h₄.push { cls := .type "generator", data := .fields #[.int s₃.gens.size 0, .str (defName (topDef 5)) (s₃.toks + 1), .str (defName (topDef 5)) (s₃.toks + 1 + 1)] }), gens := s₃.gens.push (.fresh (.func genBody (gEnv s₃.heap.objs.size cd2))), toks := s₃.toks + 1 + 1 + 1 }
  generalize (h₄.push { cls := .type "generator", data := .fields #[.int s₃.gens.size 0, .str (defName (topDef 5)) (s₃.toks + 1), .str (defName (topDef 5)) (s₃.toks + 1 + 1)] }) = h₅ at hIG k45 ⊢
  have k35 : ∀ b o, s₃.heap.get? b = some o → h₅.get? b = some o := fun b o e => k45 b o (k34 b o e)
  have isg : h₅.IsGen h₄.objs.size s₃.gens.size := ⟨_, _, _, hIG, rfl, rfl, rfl⟩
  refine wpAny_pyIter_gen isg ?_
  have hCa : ∃ o, h₄.get? s₃.heap.objs.size = some o := by obtain ⟨o, _, _, e, _⟩ := hm₄; exact ⟨o, e⟩
  have hCd : s₃.heap.objs.size < h₄.objs.size := by obtain ⟨o, e⟩ := hCa; exact Heap.lt_size e
  have hLd : L < h₄.objs.size := by obtain ⟨o, _, _, e, _⟩ := hm; exact Heap.lt_size (k34 _ _ e)
  have al : ∀ b o, s.heap.get? b = some o → b ≠ s₃.heap.objs.size ∧ b ≠ L ∧ ∃ o', h₅.get? b = some o' := fun b o e => ⟨fun q => (by rw [q, hC0] at e; cases e), fun q => (by rw [q, hL0] at e; cases e), o, k35 b o (S₃.keep b o nil_mem e)⟩
  have nsal : ∀ {a : Addr} {m : Str → Option Value}, s.heap.Ns a m → a ≠ s₃.heap.objs.size ∧ a ≠ L ∧ ∃ o', h₅.get? a = some o' := fun h => by obtain ⟨o, _, _, e, _⟩ := h; exact al _ o e
  have hmg := nsal G'.g
  have hmb := nsal G'.b
  have hcs := (NoLimit.keep kp hlim).elim fun _ h => nsal h.1
  refine check_loop (C := s₃.heap.objs.size) (hB := h₅) (sE := s) (l := l) (env := envOf (defName (topDef 7)) (defScope (topDef 7)) L 84 cd) (g := s₃.gens.size) rfl rfl g (by rfl) (by rfl) (by rfl) hCL.symm al (by obtain ⟨o, _, _, e, _⟩ := hm; exact ⟨o, k35 _ _ e⟩) ⟨_, hIG⟩ (Nat.ne_of_gt hCd) hcs.2.2 hcs.1 (Nat.ne_of_gt hLd) hcs.2.1 ?_ ?_ _ ?_
  · exact fun s' hv h1 h2 h3 => ⟨_, rfl, hv ▸ .bool, h1, h2, fun _ => h3⟩
  · rintro o s' hv ⟨m', t', hm', ho'⟩ h1 h2 h3
    refine wpAny_execs_cons (wpAny_Return_some (wpAny_Compare1 (wpAny_Name (wpAny_loadName_local ok.kind (by rfl) hm' ho' (wpAny_Constant_int (eq_int ?_))) (by decide))))
    exact ⟨_, rfl, hv ▸ .bool, h1, h2, fun _ => h3⟩
  · have hgs : (s₃.gens.push (.fresh (.func genBody (gEnv s₃.heap.objs.size cd2))))[s₃.gens.size]? = some (.fresh (.func genBody (gEnv s₃.heap.objs.size cd2))) := by simp
    refine ⟨rfl, ⟨m, t2, hm.keeps k35, e2⟩, fun b o _ e => k35 b o (S₃.keep b o nil_mem e), S₃.os, isg, hlim₃.keeps k35, S₃.gens.push rfl, _, hgs, fun s'' hal hLa => ⟨rfl, ?_⟩⟩
    refine gen_start (A := A.in1) (mg := mg) (mb := mb) (L := L) (hB := h₅) (tt := tt) (env := gEnv s₃.heap.objs.size cd2) ⟨rfl, by rfl, by rfl, by rfl, by rfl, by rfl⟩ ⟨rfl, rfl, rfl, fun p hp => nomatch hp⟩ g.handled h92 hCL ⟨by rfl, .inr g3, by rfl⟩ s'' s'' ?_ hLa ?_ ?_ .refl hmg.1 hmb.1
    · intro b o e
      by_cases q : b = L
      · exact q ▸ hLa
      · exact ⟨o, hal b o q e⟩
    · exact ⟨(G'.g.keeps fun b o e => k35 b o (S₃.keep b o nil_mem e)).at' fun o e => hal _ o hmg.2.1 e, (G'.b.keeps fun b o e => k35 b o (S₃.keep b o nil_mem e)).at' fun o e => hal _ o hmb.2.1 e⟩
    · exact ⟨_, (hm₄.keeps k45).at' fun o e => hal _ o hCL e, by rfl⟩
end
end Mine

namespace Mine

theorem pick_run {α : Type} (l : List α) (a : Nat) : ∀ c, a + c ≤ l.length → ((List.range c).map fun k => a + k).filterMap (l[·]?) = (l.drop a).take c
  | 0, _ => by rw [List.range_zero, List.map_nil, List.take_zero]; rfl
  | c + 1, h => by
    have h1 : a + c < l.length := h
    rw [List.range_succ, List.map_append, List.filterMap_append, pick_run l a c (Nat.le_of_lt h1), List.take_add_one, List.getElem?_drop]
    simp only [List.map_cons, List.map_nil, List.filterMap_cons, List.filterMap_nil, List.getElem?_eq_getElem h1, Option.toList]
set_option tactic.hygienic true in
theorem range_run (a b : Nat) : sliceRange (a : Int) (b : Int) 1 = (List.range (b - a)).map fun k => a + k := by
  unfold sliceRange
  rw [if_pos (show (1 : Int) > 0 by decide)]
  have e3 : (if (a : Int) < (b : Int) then ((b : Int) - (a : Int) + 1 - 1) / 1 else 0).toNat = b - a := by
    rw [Int.add_sub_cancel, Int.ediv_one]
    split
    · exact Int.toNat_sub b a
    · rename_i h; rw [Nat.sub_eq_zero_of_le (Int.ofNat_le.mp (Int.not_lt.mp h))]; rfl
  dsimp only
  rw [e3]
  refine List.map_congr_left fun k _ => ?_
  rw [Int.one_mul]; exact Int.toNat_natCast (a + k)
theorem clampN (i n : Nat) : max (0 : Int) (min (i : Int) (n : Int)) = ((min i n : Nat) : Int) := by omega
set_option tactic.hygienic true in
theorem slice_T (l : List Nat) (i j : Nat) : Txt.slice (T l) (some (i : Int)) (some (j : Int)) = T ((l.drop i).take (j - i)) := by
  have hl : (T l).length = l.length := T_length l
  have key : Builtin.Str.strSliceIndices (some (i : Int)) (some (j : Int)) 1 (T l).length = (List.range (min j l.length - min i l.length)).map fun k => min i l.length + k := by
    rw [hl]
    unfold Builtin.Str.strSliceIndices
    simp only [show (1 : Int) > 0 by decide, if_true, if_neg (Int.not_lt.mpr (Int.natCast_nonneg i)), if_neg (Int.not_lt.mpr (Int.natCast_nonneg j)), clampN]
    exact range_run _ _
  have hlen : ((List.range (min j l.length - min i l.length)).map fun k => min i l.length + k).length = min j l.length - min i l.length := by rw [List.length_map, List.length_range]
  have hmi : min i l.length ≤ l.length := Nat.min_le_right _ _
  have hmj : min j l.length ≤ l.length := Nat.min_le_right _ _
  have fin : (l.drop (min i l.length)).take (min j l.length - min i l.length) = (l.drop i).take (j - i) := by
    rcases Nat.le_total i l.length with h | h
    · rw [Nat.min_eq_left h]
      rcases Nat.le_total j l.length with h' | h'
      · rw [Nat.min_eq_left h']
      · rw [Nat.min_eq_right h', List.take_of_length_le (Nat.le_of_eq List.length_drop), List.take_of_length_le (by rw [List.length_drop]; exact Nat.sub_le_sub_right h' i)]
    · rw [Nat.min_eq_right h, List.drop_of_length_le (Nat.le_refl _), List.drop_of_length_le h, List.take_nil, List.take_nil]
  have hp := pick_run l (min i l.length) (min j l.length - min i l.length) (by
    generalize min i l.length = p at *; generalize min j l.length = q at *; clear key hlen fin hl; omega)
  unfold Txt.slice
  rw [key, hlen]
  split
  · rename_i hw
    simp only [beq_self_eq_true, Bool.true_and, beq_iff_eq] at hw
    rw [hl] at hw
    rw [← fin]
    have : min i l.length = 0 := by generalize min i l.length = p at *; generalize min j l.length = q at *; clear key hlen fin hl hp; omega
    rw [this, List.drop_zero, List.take_of_length_le (Nat.le_of_eq (by rw [← this]; exact hw.symm))]
  · show (⟨(List.filterMap (fun (x : Nat) => (T l).cps[x]?) _).toArray⟩ : Str) = T _
    have : (fun (x : Nat) => (T l).cps[x]?) = (fun (x : Nat) => l[x]?) := by funext x; exact List.getElem?_toArray
    rw [this, hp, fin]; rfl

theorem item_T (l : List Nat) (i : Nat) (c : Nat) (h : l[i]? = some c) : Txt.item (T l) (i : Int) = T [c] := by
  have hi : i < l.length := by
    rcases Nat.lt_or_ge i l.length with h' | h'
    · exact h'
    · rw [List.getElem?_eq_none h'] at h; cases h
  unfold Txt.item Txt.charAt seqIndex?
  rw [T_length]
  have h1 : ¬ ((i : Int) < 0) := by omega
  simp only [h1, if_false]
  have h2 : (decide (0 ≤ (i : Int)) && decide ((i : Int) < (l.length : Int))) = true := by simp; omega
  rw [if_pos h2]
  simp [T, h]
end Mine

namespace Mine
section
variable {prog : Program} {w : World} {A : Around} {E : Value → Shared → Prop} {s : Shared} {X Y : List Addr} {env : Env} {k : Nat} {f : Fs} {s₀ : Shared} {hb h₀ : Heap} {mg mb : Str → Option Value}

theorem wp_newlist {pos : Pos} {Q : Value → Shared → Prop} (S : St s₀ hb X Y env f s) (h : ∀ a s', a ∉ X → a ∉ Y → s.heap.get? a = none → St s₀ hb (a :: X) (a :: Y) env (f.put a (some [])) s' → Q (.ref a) s') : wpAny (model prog w) A (eval (.List [] pos) env) Q E s := by
  refine wpAny_List (wpAny_items_nil ⟨Nat.zero_le _, ?_⟩)
  have hf := fresh_addr s.heap
  exact h _ _ (S.notX hf) (S.notY hf) hf (S.newOwn (vs := []) hf (.push _) (Heap.get?_push_size _ rfl) ⟨⟨0, rfl⟩, .nil⟩)

theorem ex_assign_own {x : Str} {px pos spos : Pos} {Q : Flow → Shared → Prop} (ok : EnvOk env) (S : St s₀ hb X Y env f s) (hx : env.kindOf x = some .local)
    (h : ∀ a s', a ∉ X → a ∉ Y → (∀ l, f.own a ≠ some l) → St s₀ hb (a :: X) (a :: Y) env ((f.put a (some [])).set x (.ref a)) s' → Q .next s') : wpAny (model prog w) A (exec (.Assign [.Name x px] (.List [] pos) spos) env) Q E s :=
  wpAny_Assign_Name (wp_newlist S fun a s' h1 h2 h3 S' => wp_storeLocal ok S' .ref hx fun s'' S'' _ _ => h a s'' h1 h2 (fun l hl => by obtain ⟨_, _, _, _, vs, n, e, _⟩ := S.own a l hl; rw [h3] at e; cases e) S'') (by rfl)

set_option tactic.hygienic true in
theorem St.freeze {a : Addr} {x : Str} {l : List D} (S : St s₀ hb (a :: X) (a :: Y) env f s) (ho : f.own a = some l) (haX : a ∉ X) (haY : a ∉ Y) (hx : f.ρ x = some (.ref a)) : St s₀ s.heap X Y env ((f.put a none).set x (.list l)) s := by
  obtain ⟨_, hne, _, hF, vs, n, hl, hds⟩ := S.own a l ho
  have hav : ∀ b ∈ X, b ∈ a :: X ∨ s.heap.get? b = none := fun b hb => .inl (.tail _ hb)
  have hd : Den X s.heap (.ref a) (.list l) := .list haX (hds.isList hl) (hds.dens.avoid hav)
  have key : ∀ y d v, ((f.put a none).set x (.list l)).ρ y = some d → (∀ d', f.ρ y = some d' → Den (a :: X) s.heap v d') → Den X s.heap v d := by
    intro y d v hy hv
    simp only [Fs.set, upd, Fs.put] at hy
    split at hy
    · rename_i q
      cases hy
      rw [D.den_ref (hv _ (q ▸ hx))]
      exact hd
    · exact (hv _ hy).avoid hav
  have has : ∀ y d, ((f.put a none).set x (.list l)).ρ y = some d → ∃ d', f.ρ y = some d' := by
    intro y d hy
    simp only [Fs.set, upd, Fs.put] at hy
    split at hy
    · rename_i q; exact ⟨_, q ▸ hx⟩
    · exact ⟨_, hy⟩
  refine { keep := S.keep, os := S.os, gens := S.gens, gb := .refl, new := fun b hb => S.new b (.tail _ hb), sub := fun b hb => ?_, dom := fun b hb => S.dom b (.tail _ hb), locY := ?_, cdom := S.cdom, ns := ?_, cell := ?_, own := ?_, ext := ?_ }
  · rcases List.mem_cons.mp (S.sub b (.tail _ hb)) with q | h
    · exact absurd (q ▸ hb) haY
    · exact h
  · rcases List.mem_cons.mp S.locY with q | h
    · exact absurd q.symm hne
    · exact h
  · obtain ⟨m, hm, hv⟩ := S.ns
    refine ⟨m, hm, fun y d hy hk => ?_⟩
    obtain ⟨d', hd'⟩ := has y d hy
    obtain ⟨v, e, _⟩ := hv y d' hd' hk
    exact ⟨v, e, key y d v hy fun d'' h'' => by obtain ⟨v', e', h'⟩ := hv y d'' h'' hk; exact by rw [e] at e'; cases e'; exact h'⟩
  · intro y d hy hk
    obtain ⟨d', hd'⟩ := has y d hy
    obtain ⟨c, v, e, hc, _⟩ := S.cell y d' hd' hk
    refine ⟨c, v, e, hc, key y d v hy fun d'' h'' => ?_⟩
    obtain ⟨c', v', e', hc', h'⟩ := S.cell y d'' h'' hk
    rw [e] at e'; cases e'
    obtain ⟨o1, q1, q2⟩ := hc
    obtain ⟨o2, q3, q4⟩ := hc'
    rw [q1] at q3; cases q3
    rw [q2] at q4; cases q4
    exact h'
  · intro b l' h
    simp only [Fs.set, Fs.put] at h
    split at h
    · cases h
    · rename_i q
      obtain ⟨h1, h2, h3, h4, us, n', h5, h6⟩ := S.own b l' h
      refine ⟨?_, h2, h3, h4, us, n', h5, h6.avoid hav⟩
      rcases List.mem_cons.mp h1 with q' | h
      · exact absurd q' q
      · exact h
  · refine ⟨S.ext.1, fun b hb => ⟨?_, (S.ext.2 b hb).2⟩⟩
    rcases List.mem_cons.mp (S.ext.2 b hb).1 with q | h
    · exact absurd (q ▸ hb) hF
    · exact h
end
end Mine

namespace Mine
section
variable {prog : Program} {w : World} {A : Around} {E : Value → Shared → Prop} {s : Shared} {X Y : List Addr} {env : Env} {k : Nat} {f : Fs} {s₀ : Shared} {hb h₀ : Heap} {mg mb : Str → Option Value}

theorem St.toG {g : Fs} (S : St s₀ hb X Y env f s) {l : List (Str × D)} (hρ : g.ρ = fun x => List.lookup x l) (h : AllN f.ρ l) (ho : ∀ b, g.own b = f.own b) (he : g.ext = f.ext) : St s₀ hb X Y env g s :=
  S.forget (fun x d hx => h.mem (mem_of_lookup (by rw [hρ] at hx; exact hx))) (funext ho) he

theorem rangeD_get {a c : Int} {n i : Nat} {d : D} (h : (rangeD a c n)[i]? = some d) : i < n ∧ d = .int (a + (i : Int) * c) := by
  have hi : i < n := by
    rcases Nat.lt_or_ge i n with h' | h'
    · exact h'
    · rw [List.getElem?_eq_none (by rw [rangeD_len]; exact h')] at h; cases h
  refine ⟨hi, ?_⟩
  simp [rangeD, hi] at h
  exact h.symm

noncomputable def ju (n i : Nat) : List Nat := (List.range ((n - i) / 2)).map fun k => i + 1 + 2 * k
noncomputable def pairOk (r : List Nat) (i j : Nat) : Bool := r[j]? == some 41 && chk ((r.drop (i + 1)).take (j - (i + 1))) 0
noncomputable def pairsAt (r : List Nat) (i : Nat) : List (Nat × Nat) := if r[i]? = some 40 then ((ju r.length i).filter (pairOk r i)).map fun j => (i, j) else []
noncomputable def pairsTo (r : List Nat) (i : Nat) : List (Nat × Nat) := (List.range i).flatMap (pairsAt r)
noncomputable def pairsOf (r : List Nat) : List (Nat × Nat) := pairsTo r r.length
noncomputable def pd : Nat × Nat → D := fun p => .list [.int p.1, .int p.2]

theorem beq_T (c d : Nat) : (T [c] == T [d]) = decide (c = d) := by
  by_cases q : c = d
  · subst q; simp
  · have : T [c] ≠ T [d] := fun e => q (by simpa [T] using e)
    simp [q, this]

theorem pairsAt_len (r : List Nat) (i : Nat) : (pairsAt r i).length ≤ r.length := by
  unfold pairsAt
  split
  · rw [List.length_map]
    refine Nat.le_trans (List.length_filter_le _ _) ?_
    simp [ju]; lia
  · simp
theorem pairsTo_len (r : List Nat) : ∀ i, (pairsTo r i).length ≤ i * r.length
  | 0 => by simp [pairsTo]
  | i + 1 => by
    have h := pairsTo_len r i
    have h2 := pairsAt_len r i
    have e : pairsTo r (i + 1) = pairsTo r i ++ pairsAt r i := by simp [pairsTo, List.range_succ, List.flatMap_append]
    rw [e, List.length_append, Nat.add_mul]
    lia
theorem sm1 : ∀ n : Nat, n < 64 → Builtin.Range.small 0 n 1 = true ∧ Builtin.Range.rangeSize 0 n 1 = n := by decide
theorem sm2 : ∀ i : Nat, i < 9 → ∀ n : Nat, n < 9 → Builtin.Range.small ((i : Int) + 1) n 2 = true ∧ Builtin.Range.rangeSize ((i : Int) + 1) n 2 = ((n - i) / 2 : Nat) ∧ Builtin.divisionGoesByPylong ((n : Int) - ((i : Int) + 1)) 2 = false := by decide
theorem fits9 : ∀ i : Nat, i < 64 → fitsSsize (i : Int) = true := by decide

theorem bc_pairs (hfn : DefAt h₀ 13 117) (hck : DefAt h₀ 7 84) (hst : DefAt h₀ 6 77) (hge : DefAt h₀ 5 70) (hlim : h₀.NoLimit) (G : GF h₀ mg mb) (g1 : mg "_strip_quoted_realnames" = some (.ref 77)) (g2 : mg "_iter_escaped_chars" = some (.ref 70)) (g3 : mg "enumerate" = none ∧ mb "enumerate" = some (.type "enumerate"))
    (g4 : mg "_check_parenthesis" = some (.ref 84)) (g5 : mg "range" = none ∧ mb "range" = some (.type "range")) (g6 : mg "len" = none ∧ mb "len" = some (.builtin "len"))
    (r : List Nat) (hr : ∀ c ∈ r, c = 40 ∨ c = 41) (hlen : r.length ≤ 8) : BC prog w h₀ X (k + 4) (.ref 117) [.str (T r)] (.list ((pairsOf r).map pd)) := by
  refine bc_fn1 (x := "row") hfn hlim (by rfl) ?_ 
  intro A s s₁ L cd E g kp dom ok S
  have G' := G.keep kp
  conv in execs _ _ => arg 1; whnf
  refine wpAny_execs_cons (ex_assign_own ok S (by rfl) fun a s₂ haX haY _ S₂ => ?_)
  have hLr : ∀ (l : List Nat), (T l).length = l.length := T_length
  refine wpAny_execs_cons (ex_for (ds := rangeD 0 1 r.length) (fun i => mkF [("row", .str (T r)), ("pairs", .ref a)] ((one "" .none).put a (some ((pairsTo r i).map pd)))) ok g (S₂.toG (l := [("row", .str (T r)), ("pairs", .ref a)]) rfl ⟨rfl, rfl, trivial⟩ ?_ rfl) ?_ (by rfl) ?_ ?_)
  · intro b; simp [mkF, Fs.put, Fs.set, one, pairsTo]
  · refine ei_range (ds := [.int (T r).length]) (a := 0) (b := (T r).length) (c := 1) ok G' ⟨rfl, .inr g5, rfl⟩ (evs_cons (ev_call_b ok G' ⟨rfl, .inr g6, rfl⟩ (evs_cons (ev_name ok rfl rfl) evs_nil) rfl (bc_len_str (by rw [hLr]; lia))) evs_nil) rfl range1 ?_ ?_
    · rw [hLr]; exact (sm1 _ (Nat.lt_of_le_of_lt hlen (by decide))).1
    · rw [hLr]; exact (sm1 _ (Nat.lt_of_le_of_lt hlen (by decide))).2
  · intro i d s₃ I hb' E' hI hd S₃
    obtain ⟨hi, rfl⟩ := rangeD_get hd
    rw [show (0 + (i : Int) * 1) = (i : Int) by lia] at S₃
    obtain ⟨c, hc⟩ : ∃ c, r[i]? = some c := ⟨r[i], by simp [hi]⟩
    have hIne : I ≠ a := fun q => hI (q ▸ .head _)
    refine wpAny_execs_cons (ex_if (b := decide (c = 40)) g S₃ ((tv_cmp (ev_char (x := T r) (n := (i : Int)) (ev_name ok rfl rfl) (ev_name ok rfl rfl) (Int.natCast_nonneg i) (by rw [hLr]; exact Int.ofNat_lt.mpr hi) (fits9 i (by lia))) (ev_str (x := T [40])) op_eq_str).cast (by rw [item_T r i c hc, beq_T])) fun s₄ _ S₄ => ?_)
    by_cases hc4 : c = 40
    · subst hc4
      simp only [decide_true, if_true]
      refine wpAny_execs_cons (ex_for (ds := rangeD ((i : Int) + 1) 2 ((r.length - i) / 2)) (fun k => mkF [("row", .str (T r)), ("pairs", .ref a), ("i", .int i)] ((one "" .none).put a (some (((pairsTo r i) ++ (((ju r.length i).take k).filter (pairOk r i)).map fun j => (i, j)).map pd)))) ok g
        (S₄.toG (l := [("row", .str (T r)), ("pairs", .ref a), ("i", .int i)]) rfl ⟨rfl, rfl, rfl, trivial⟩ (fun b => by simp [mkF, Fs.put, Fs.set, one]) rfl) ?_ (by rfl) ?_ ?_)
      · refine ei_range (ds := [.int ((i : Int) + 1), .int (T r).length, .int 2]) (a := (i : Int) + 1) (b := (T r).length) (c := 2) ok G' ⟨rfl, .inr g5, rfl⟩ (evs_cons (ev_add (ev_name ok rfl rfl) ev_int) (evs_cons (ev_call_b ok G' ⟨rfl, .inr g6, rfl⟩ (evs_cons (ev_name ok rfl rfl) evs_nil) rfl (bc_len_str (by rw [hLr]; lia))) (evs_cons ev_int evs_nil))) rfl (range3 (by decide) ?_) ?_ ?_
        · rw [hLr]; exact (sm2 i (Nat.lt_of_lt_of_le hi (Nat.le_succ_of_le hlen)) _ (Nat.lt_succ_of_le hlen)).2.2
        · rw [hLr]; exact (sm2 i (Nat.lt_of_lt_of_le hi (Nat.le_succ_of_le hlen)) _ (Nat.lt_succ_of_le hlen)).1
        · rw [hLr]; exact (sm2 i (Nat.lt_of_lt_of_le hi (Nat.le_succ_of_le hlen)) _ (Nat.lt_succ_of_le hlen)).2.1
      · intro k d s₅ I' hb'' E'' hI' hd' S₅
        obtain ⟨hk, rfl⟩ := rangeD_get hd'
        have hj : (ju r.length i)[k]? = some (i + 1 + 2 * k) := by simp [ju, hk]
        have hjl : i + 1 + 2 * k < r.length := by lia
        generalize hjq : i + 1 + 2 * k = j at hj hjl
        rw [show ((i : Int) + 1 + (k : Int) * 2) = (j : Int) by lia] at S₅
        obtain ⟨c', hc'⟩ : ∃ c', r[j]? = some c' := ⟨r[j], by simp [hjl]⟩
        have hset : ((ju r.length i).take (k + 1)).filter (pairOk r i) = ((ju r.length i).take k).filter (pairOk r i) ++ if pairOk r i j then [j] else [] := by
          rw [List.take_add_one, hj, List.filter_append]; simp [List.filter_cons]
        have hsub : ∀ c ∈ (r.drop (i + 1)).take (j - (i + 1)), c = 40 ∨ c = 41 := fun c hc => hr c (List.mem_of_mem_drop (List.mem_of_mem_take hc))
        obtain ⟨o2, pm2, cd2, doc2, ho2, hd2, hc2⟩ := DefAt.keep kp hck
        refine wpAny_execs_cons (ex_if (b := pairOk r i j) g S₅ ((tv_and (p := decide (c' = 41)) (q := chk ((r.drop (i + 1)).take (j - (i + 1))) 0) ?_ fun _ => ?_).cast ?_) fun s₆ _ S₆ => ?_)
        · exact (tv_cmp (ev_char (x := T r) (n := (j : Int)) (ev_name ok rfl rfl) (ev_name ok rfl rfl) (by lia) (by rw [hLr]; lia) (fits9 j (by lia))) (ev_str (x := T [41])) op_eq_str).cast (by rw [item_T r j c' hc', beq_T])
        · refine (tv_cmp (d₁ := .bool (chk ((r.drop (i + 1)).take (j - (i + 1))) 0)) (ev_call_f ok G' ⟨rfl, .inl g4, rfl⟩ ho2 hd2 (evs_cons ?_ evs_nil) rfl (bc_check (DefAt.keep kp hck) (DefAt.keep kp hst) (DefAt.keep kp hge) (NoLimit.keep kp hlim) G' g1 g2 g3 ((r.drop (i + 1)).take (j - (i + 1))) ?_ ?_)) ev_bool op_is_bool).cast ?_
          · refine (ev_sslice (x := T r) (i := (i : Int) + 1) (j := (j : Int)) (ev_name ok rfl rfl) (ev_add (ev_name ok rfl rfl) ev_int) (ev_name ok rfl rfl) (by rw [hLr]; unfold sizeLine; lia)).cast ?_
            rw [show (i : Int) + 1 = ((i + 1 : Nat) : Int) by lia, slice_T]
          · intro c hc; rcases hsub c hc with rfl | rfl <;> decide
          · intro c hc; rcases hsub c hc with rfl | rfl <;> decide
          · cases chk ((r.drop (i + 1)).take (j - (i + 1))) 0 <;> rfl
        · by_cases q : c' = 41 <;> simp [pairOk, hc', q]
        cases hpo : pairOk r i j
        · simp only [Bool.false_eq_true, if_false]
          refine wpAny_execs_nil (wpAny_execs_nil (S₆.toG (l := [("row", .str (T r)), ("pairs", .ref a), ("i", .int i)]) rfl ⟨rfl, rfl, rfl, trivial⟩ (fun b => ?_) rfl))
          simp [mkF, Fs.put, Fs.set, one, hset, hpo]
        · simp only [if_true]
          refine wpAny_execs_cons (ex_append (d := .list [.int i, .int j]) (l := ((pairsTo r i) ++ (((ju r.length i).take k).filter (pairOk r i)).map fun j => (i, j)).map pd) ok g S₆ (ev_name ok rfl rfl) (by simp [mkF, Fs.put, Fs.set]) (ev_list (evs_cons (ev_name ok rfl rfl) (evs_cons (ev_name ok rfl rfl) evs_nil)) (by simp [sizeLine])) ?_ fun s₇ S₇ => ?_)
          · have h1 := pairsTo_len r i
            have h2 : (((ju r.length i).take k).filter (pairOk r i)).length ≤ 8 := by
              refine Nat.le_trans (List.length_filter_le _ _) ?_
              have : (ju r.length i).length ≤ 8 := by simp [ju]; lia
              simp only [List.length_take]; exact Nat.le_trans (Nat.min_le_right _ _) this
            have h3 : i * r.length ≤ 64 := by
              have := Nat.mul_le_mul (Nat.le_of_lt_succ (Nat.lt_succ_of_lt (Nat.lt_of_lt_of_le hi hlen))) hlen
              exact this
            simp only [List.length_map, List.length_append]
            unfold sizeLine
            exact Nat.le_trans (Nat.add_le_add (Nat.le_trans h1 h3) h2) (by decide)
          · refine wpAny_execs_nil (wpAny_execs_nil (S₇.toG (l := [("row", .str (T r)), ("pairs", .ref a), ("i", .int i)]) rfl ⟨rfl, rfl, rfl, trivial⟩ (fun b => ?_) rfl))
            simp only [mkF, Fs.put, Fs.set, one, hset, hpo]
            split <;> simp [pd]
      · intro s₅ S₅
        refine wpAny_execs_nil (wpAny_execs_nil (S₅.toG (l := [("row", .str (T r)), ("pairs", .ref a)]) rfl ⟨rfl, rfl, trivial⟩ (fun b => ?_) rfl))
        have hju : (ju r.length i).length = (r.length - i) / 2 := by simp [ju]
        rw [rangeD_len, ← hju, List.take_length]
        simp only [mkF, Fs.put, Fs.set, one, pairsTo, List.range_succ, List.flatMap_append]
        split
        · simp [pairsAt, hc]
        · rfl
    · simp only [hc4, decide_false, Bool.false_eq_true, if_false]
      refine wpAny_execs_nil (wpAny_execs_nil (S₄.toG (l := [("row", .str (T r)), ("pairs", .ref a)]) rfl ⟨rfl, rfl, trivial⟩ (fun b => ?_) rfl))
      simp only [mkF, Fs.put, Fs.set, one, pairsTo, List.range_succ, List.flatMap_append]
      split
      · simp [pairsAt, hc, hc4]
      · rfl
  · intro s₃ S₃
    rw [rangeD_len] at S₃
    refine wpAny_execs_cons (ex_return (d := .ref a) g S₃ (ev_name ok rfl rfl) fun v s₄ hv _ S₄ => ?_)
    obtain rfl := D.den_ref hv
    obtain ⟨_, _, _, _, vs, n, hl, hds⟩ := S₄.own a ((pairsOf r).map pd) (by simp [mkF, Fs.put, pairsOf])
    exact ⟨_, rfl, .list haX (hds.isList hl) (hds.dens.avoid fun b hb => .inl (.tail _ hb)), S₄.keep, S₄.os, fun _ => S₄.gens⟩
end
end Mine

namespace Mine
section
variable {prog : Program} {w : World} {A : Around} {E : Value → Shared → Prop} {s : Shared} {X Y : List Addr} {env : Env} {k : Nat} {f : Fs} {s₀ : Shared} {hb h₀ : Heap} {mg mb : Str → Option Value}

theorem wp_next_list {it l : Addr} {i : Nat} {items : Array Value} {x : Value} {Q : Value → Shared → Prop} (hit : s.heap.IsListIter it l i) (hl : s.heap.IsList l items) (hx : items[i]? = some x)
    (hQ : ∀ h', h'.IsListIter it l (i + 1) → Heap.SameBut it s.heap h' → Q x { s with heap := h' }) : wpAny (model prog w) A (call (.builtin "next") [.ref it]) Q E s := by
  refine Calls.call_function_entry (by decide +kernel) (by decide +kernel) PySem.W.kdk_entry_next (PySem.W.kdk_args_next _) ?_
  unfold Builtin.«next»
  refine wpAny_bind (m := someArgs "next" 1 2 _) (wpAny_of_eq (a := [Value.ref it]) (by first | rfl | kernel_rfl!) ?_)
  dsimp only
  refine wpAny_bind (wpAny_specialOf (name := Str.ofString "__next__") hit.typeIs slot_listiter_next.lookup ?_)
  refine wpAny_ite_split (fun hab => absurd hab (by decide)) (fun _ => ?_)
  obtain ⟨o, ho, hc, hd⟩ := id hit
  obtain ⟨ol, hol, _, nl, hdl⟩ := hl
  refine wpAny_bind (wpAny_callSpecial?_slot (name := Str.ofString "__next__") hit.typeIs slot_listiter_next
    (wpAny_call_entry slot_listiter_next hit.typeIs entry_listiter_next ?_ (args_listiter_next _)))
  show wpAny _ _ (field (.ref it) 0 >>= _) _ _ s
  refine wpAny_bind (wpAny_field ho hd (x := .ref l) rfl ?_)
  show wpAny _ _ (if (Value.ref l == Value.none) = true then _ else _) _ _ s
  rw [if_neg (show ¬ ((Value.ref l == Value.none) = true) from Bool.false_ne_true)]
  show wpAny _ _ (field (.ref it) 1 >>= _) _ _ s
  refine wpAny_bind (wpAny_field ho hd (x := .int i 0) rfl ?_)
  show wpAny _ _ (seqItems? (.ref l) >>= _) _ _ s
  refine wpAny_bind (wpAny_seqItems hol hdl ?_)
  simp only [Int.toNat_natCast, hx]
  refine wpAny_bind (wpAny_setField ho hd (by simp) (wpAny_pure ⟨x, rfl, wpAny_pure ⟨_, rfl, hQ _ ?_ (Heap.SameBut.update ..)⟩⟩))
  exact ⟨_, Heap.get?_update_self _ ho (Obj.isFreed_of_fields (Obj.data_mapFields hd _)), (Obj.cls_mapFields ..).trans hc, by
    rw [Obj.data_mapFields hd]; simp [rawInt]⟩

theorem wp_iter_list {l : Addr} {items : Array Value} {Q : Value → Shared → Prop} (hl : s.heap.IsList l items)
    (h : Q (.ref s.heap.objs.size) { s with heap := s.heap.push { cls := .type "list_iterator", data := .fields #[.ref l, .int 0 0] } }) : wpAny (model prog w) A (call (.builtin "iter") [.ref l]) Q E s := by
  refine Calls.call_function_entry (by decide +kernel) (by decide +kernel) PySem.W.kdk_entry_iter (PySem.W.kdk_args_iter _) ?_
  unfold Builtin.«iter»
  refine wpAny_bind (m := someArgs "iter" 1 2 _) (wpAny_of_eq (a := [Value.ref l]) (by first | rfl | kernel_rfl!) ?_)
  show wpAny _ _ (pyIter (.ref l) >>= _) _ _ _
  exact wpAny_bind (wpAny_pyIter_list hl (wpAny_pure ⟨_, rfl, h⟩))

noncomputable def vv (l : List Nat) : Nat := l.foldl (fun v c => v * 64 + c % 64) 0
theorem vv_snoc (l : List Nat) (c : Nat) : vv (l ++ [c]) = vv l * 64 + c % 64 := by simp [vv]
theorem vv_hi (n : Nat) : vv (hi n) = n := by
  induction n using Nat.strongRecOn with
  | ind n ih =>
    rcases Nat.eq_zero_or_pos n with rfl | hp
    · simp [hi_zero, vv]
    · rw [hi_pos hp, vv_snoc, ih (n / 64) (by lia)]; lia
theorem vv_octets (n : Nat) : vv (octets n) = n := by
  rw [octets, vv_snoc, vv_hi]; lia
theorem hi_ge (n : Nat) : ∀ c ∈ hi n, 64 ≤ c ∧ c < 128 := by
  induction n using Nat.strongRecOn with
  | ind n ih =>
    intro c hc
    rcases Nat.eq_zero_or_pos n with rfl | hp
    · rw [hi_zero] at hc; cases hc
    · rw [hi_pos hp] at hc
      rcases List.mem_append.mp hc with h | h
      · exact ih (n / 64) (by lia) c h
      · rw [List.mem_singleton.mp h]; lia
theorem octets_lt (n : Nat) : ∀ c ∈ octets n, c < 128 := by
  intro c hc
  rcases List.mem_append.mp hc with h | h
  · exact (hi_ge _ c h).2
  · rw [List.mem_singleton.mp h]; lia
/- which octet is the last -/
theorem octets_last (n j c : Nat) (h : (octets n)[j]? = some c) : (64 ≤ c ↔ j + 1 < (octets n).length) := by
  unfold octets at h ⊢
  rw [List.length_append, List.length_singleton]
  rcases Nat.lt_or_ge j (hi (n / 64)).length with hj | hj
  · rw [List.getElem?_append_left hj] at h
    exact ⟨fun _ => by lia, fun _ => (hi_ge _ c (List.mem_of_getElem? h)).1⟩
  · rw [List.getElem?_append_right hj] at h
    have h0 : j - (hi (n / 64)).length = 0 := by
      rcases Nat.eq_zero_or_pos (j - (hi (n / 64)).length) with q | q
      · exact q
      · rw [List.getElem?_eq_none (by simp; lia)] at h; cases h
    rw [h0] at h
    simp at h
    lia
theorem and63 : ∀ b : Nat, b < 128 → Builtin.bitAnd (b : Int) 63 = ((b % 64 : Nat) : Int) ∧ (Builtin.bitAnd (b : Int) 64 != 0) = decide (64 ≤ b) := by decide
theorem or64 (v c : Nat) (hc : c < 64) : Builtin.bitOr ((v * 64 : Nat) : Int) (c : Int) = ((v * 64 + c : Nat) : Int) := by
  rw [PyProof.Rows.bitOr_and]
  have h0 : (v * 64) &&& c = 0 := by
    apply Nat.eq_of_testBit_eq
    intro i
    rw [Nat.testBit_and, Nat.zero_testBit]
    rcases Nat.lt_or_ge i 6 with h | h
    · have : (v * 64).testBit i = false := by
        rw [show v * 64 = v * 2 ^ 6 from rfl, Nat.testBit_mul_two_pow]
        simp; lia
      rw [this]; rfl
    · have : c.testBit i = false := Nat.testBit_lt_two_pow (Nat.lt_of_lt_of_le hc (by rw [show 64 = 2 ^ 6 from rfl]; exact Nat.pow_le_pow_right (by decide) h))
      rw [this, Bool.and_false]
  have h1 : Builtin.bitAnd ((v * 64 : Nat) : Int) (c : Int) = 0 := by
    unfold Builtin.bitAnd
    have e1 : decide ((0 : Int) ≤ ((v * 64 : Nat) : Int)) = true := by simp; lia
    have e2 : decide ((0 : Int) ≤ ((c : Nat) : Int)) = true := by simp
    rw [e1, e2]
    simp only [Int.toNat_natCast, h0]; rfl
  rw [h1]; lia
end
end Mine

namespace Mine
section
variable {prog : Program} {w : World} {A : Around} {E : Value → Shared → Prop} {s : Shared} {X Y : List Addr} {env : Env} {k : Nat} {f : Fs} {s₀ : Shared} {hb h₀ : Heap} {mg mb : Str → Option Value}

theorem wp_Call_builtin {x : Str} {px pos : Pos} {es : List Expr} {id : String} {Q : Value → Shared → Prop} (h : wpAny (model prog w) A (eval (.Name x px) env) (fun v s₁ => v = .builtin id ∧ wpAny (model prog w) A (spliced (backTo pos (starEach es env))) (fun vs s₂ => wpAny (model prog w) A (call (.builtin id) vs) Q E s₂) E s₁) E s)
    (hp : (starEach es env).any (·.1) = false) : wpAny (model prog w) A (eval (.Call (.Name x px) es [] pos) env) Q E s := by
  show wpAny _ A (do callWith pos (← eval (.Name x px) env) [] (backTo pos (starEach es env)) (backToKw pos (keywordEach [] env))) _ E s
  refine wpAny_bind (wpAny_mono h (fun v s₁ h₁ => ?_) fun _ _ e => e)
  obtain ⟨rfl, h₁⟩ := h₁
  exact Calls.callWith_builtin (backTo_any pos hp) (evalArgs_spliced (backTo_any pos hp) h₁)

theorem ns_ne_iter {h : Heap} {a it l : Addr} {m : Str → Option Value} {i : Nat} (hn : h.Ns a m) (hi : h.IsListIter it l i) : a ≠ it := by
  rintro rfl
  obtain ⟨o, es, ep, e1, e2, _⟩ := hn
  obtain ⟨o', e3, _, e4⟩ := hi
  rw [e1] at e3; cases e3
  rw [e2] at e4; cases e4

/- _parse_varint, between two octets -/
structure VI (s₁ : Shared) (L I ax : Addr) (items : Array Value) (l : List Nat) (j : Nat) (s : Shared) : Prop where
  ns : ∃ m t u c, s.heap.Ns L m ∧ m "iterator" = some (.ref I) ∧ m "b" = some (.int (c : Nat) t) ∧ m "val" = some (.int (vv (l.take (j + 1)) : Nat) u) ∧ l[j]? = some c
  it : s.heap.IsListIter I ax (j + 1)
  li : s.heap.IsList ax items
  old : ∀ b o, b ≠ I → b ≠ L → s₁.heap.get? b = some o → s.heap.get? b = some o
  os : s.os = s₁.os
  gens : s.gens = s₁.gens

theorem vv_lt (l : List Nat) : vv l < 64 ^ l.length := by
  suffices h : ∀ l : List Nat, ∀ m : List Nat, l = m.reverse → vv l < 64 ^ l.length from h l l.reverse (by simp)
  intro l m
  induction m generalizing l with
  | nil => rintro rfl; simp [vv]
  | cons c m ih =>
    rintro rfl
    have := ih m.reverse rfl
    rw [List.reverse_cons, vv_snoc, List.length_append, List.length_singleton, Nat.pow_succ]
    lia

noncomputable def VII (s : Shared) (h₁ : Heap) (L I ax : Addr) (items : Array Value) (l : List Nat) (N : Nat) (s' : Shared) : Prop := ∃ j, j < l.length ∧ N = l.length - j ∧ VI { s with heap := h₁, toks := s.toks + 1 } L I ax items l j s'
theorem wp_varint {I ax : Addr} {items : Array Value} {Q : Value → Shared → Prop} (hfn : DefAt s.heap 3 63) (hlim : s.heap.NoLimit) (G : GF s.heap mg mb) (hnx : mg "next" = none ∧ mb "next" = some (.builtin "next")) (n : Nat) (hn : n < 262144) (gd : Good (k + 1) A)
    (hit : s.heap.IsListIter I ax 0) (hl : s.heap.IsList ax items) (hitems : ∀ (j c : Nat), (octets n)[j]? = some c → ∃ t, items[j]? = some (Value.int (c : Nat) t)) (hne : ax ≠ I)
    (hQ : ∀ s' t, GB [I] s.heap s'.heap → s'.os = s.os → s'.gens = s.gens → Q (.int n t) s') : wpAny (model prog w) A (call (.ref 63) [.ref I]) Q E s := by
  obtain ⟨o, pm, cd, doc, ho, hdata, hcd⟩ := hfn
  have hbind : bindArgs (Calls.docDef (defName (topDef 3)) (defParams (topDef 3)) (defBody (topDef 3)) (defScope (topDef 3)) pm cd doc) ⟨[.ref I], []⟩ = pure [(Str.ofString "iterator", Value.ref I)] := by rfl
  refine wpAny_call (call_plain_ret (by have := gd.depth; lia) ho hdata hlim hcd hbind (fun y hy => by rw [List.mem_singleton.mp hy]; rfl) (fun h₁ F => ?_) (by rfl) (by rfl) (by rfl) (by decide))
  have g := gd.deeper (envOf (defName (topDef 3)) (defScope (topDef 3)) s.heap.objs.size 63 cd)
  have hL := fresh_addr s.heap
  generalize hLq : s.heap.objs.size = L at *
  have hIL : I ≠ L := fun q => by obtain ⟨o, e, _⟩ := hit; rw [q, hL] at e; cases e
  have haL : ax ≠ L := fun q => by obtain ⟨o, e, _⟩ := hl; rw [q, hL] at e; cases e
  have hgL : mainGlobals ≠ L := fun q => by obtain ⟨o, _, _, e, _⟩ := G.g; rw [q, hL] at e; cases e
  have hbL : builtinsNs ≠ L := fun q => by obtain ⟨o, _, _, e, _⟩ := G.b; rw [q, hL] at e; cases e
  have hgI := ns_ne_iter G.g hit
  have hbI := ns_ne_iter G.b hit
  have ok : EnvOk (envOf (defName (topDef 3)) (defScope (topDef 3)) L 63 cd) := ⟨rfl, rfl, rfl, fun p hp => nomatch hp⟩
  have hfin : ∀ h, (∀ b o, b ≠ I → b ≠ L → h₁.get? b = some o → h.get? b = some o) → GB [I] s.heap h := fun h hk b o hb e => hk b o (fun q => hb (q ▸ .head _)) (fun q => by rw [q, hL] at e; cases e) (F.keep b o e)
  have Gk : ∀ h, (∀ b o, b ≠ I → b ≠ L → h₁.get? b = some o → h.get? b = some o) → GF h mg mb := fun h hk => ⟨G.g.at' fun o e => hk _ o hgI hgL (F.keep _ o e), G.b.at' fun o e => hk _ o hbI hbL (F.keep _ o e)⟩
  have hlen := octets_len n hn
  have hpos : 0 < (octets n).length := by simp [octets]
  have hm₁ := F.ns
  have vvle : ∀ i, vv ((octets n).take i) < 64 ^ 3 := by
    intro i
    refine Nat.lt_of_lt_of_le (vv_lt _) (Nat.pow_le_pow_right (by decide) ?_)
    exact Nat.le_trans (List.length_take_le' _ _) hlen
  conv in execs _ _ => arg 1; whnf
  obtain ⟨c0, hc0⟩ : ∃ c, (octets n)[0]? = some c := ⟨(octets n)[0], by simp [hpos]⟩
  obtain ⟨t0, ht0⟩ := hitems 0 c0 hc0
  have hit₁ : h₁.IsListIter I ax 0 := by obtain ⟨o, e, r⟩ := hit; exact ⟨o, F.keep _ _ e, r⟩
  have hl₁ : h₁.IsList ax items := by obtain ⟨o, e, r⟩ := hl; exact ⟨o, F.keep _ _ e, r⟩
  refine wpAny_execs_cons (wpAny_Assign_Name (wp_Call_builtin (wp_glob' ok (Gk h₁ fun _ _ _ _ e => e) ⟨by rfl, .inr hnx, by rfl⟩ ⟨rfl, wpAny_items_cons (wpAny_Name (wpAny_loadName_local ok.kind (by rfl) hm₁ (v := .ref I) (by rfl) (wpAny_items_nil (wp_next_list hit₁ hl₁ ht0 fun h₂ hit₂ hs₂ => ?_))) (by decide))⟩) (by rfl)) (by rfl))
  refine wpAny_storeName_local (by rfl) (hm₁.sameBut hs₂ hIL.symm) (fun h₃ hm₃ hs₃ => ?_) (by rfl)
  refine wpAny_execs_cons (wpAny_Assign_Name (wpAny_BinOp (wpAny_Name (wpAny_loadName_local ok.kind (by rfl) hm₃ (v := .int (c0 : Nat) t0) (by rfl) (wpAny_Constant_int (and_int ?_))) (by decide))) (by rfl))
  refine wpAny_storeName_local (by rfl) hm₃ (fun h₄ hm₄ hs₄ => ?_) (by rfl)
  refine wpAny_execs_cons (wpAny_While ?_)
  have hb0 : (Builtin.bitAnd (c0 : Int) 63) = ((vv ((octets n).take 1) : Nat) : Int) := by
    rw [(and63 c0 (octets_lt n c0 (List.mem_of_getElem? hc0))).1]
    have : (octets n).take 1 = [c0] := by rw [List.take_add_one, hc0]; simp
    rw [this]; simp [vv]
  rw [hb0] at hm₄
  refine codeAny_whileLoop (VII s h₁ L I ax items (octets n)) ?_ (octets n).length ⟨0, hpos, rfl, ⟨_, t0, _, c0, hm₄, by rfl, by rfl, by rfl, hc0⟩, ?_, ?_, ?_, rfl, rfl⟩
  · rintro N s₅ ⟨j, hj, rfl, V⟩
    obtain ⟨m, t, u, c, hm, e1, e2, e3, hc⟩ := V.ns
    have hc128 := octets_lt n c (List.mem_of_getElem? hc)
    refine wpAny_isTrue_value (wpAny_BinOp (wpAny_Name (wpAny_loadName_local ok.kind (by rfl) hm e2 (wpAny_Constant_int (and_int (PyProof.Rows.truthy_int ?_)))) (by decide)))
    rw [(and63 c hc128).2]
    by_cases h64 : 64 ≤ c
    · simp only [h64, decide_true, if_true]
      have hj1 : j + 1 < (octets n).length := (octets_last n j c hc).mp h64
      obtain ⟨c', hc'⟩ : ∃ c', (octets n)[j + 1]? = some c' := ⟨(octets n)[j + 1], by simp [hj1]⟩
      obtain ⟨t', ht'⟩ := hitems (j + 1) c' hc'
      have hv3 := vvle (j + 1)
      refine wpAny_execs_cons (wpAny_AugAssign_Name (wpAny_loadName_local ok.kind (by rfl) hm e3 (wpAny_Constant_int (ilshift_int_small (by decide) (by decide) (by lia) (wpAny_storeName_local (by rfl) hm (fun h₆ hm₆ hs₆ => ?_) (by rfl))))))
      rw [show ((vv ((octets n).take (j + 1)) : Nat) : Int) * 2 ^ (Int.toNat 6) = ((vv ((octets n).take (j + 1)) * 64 : Nat) : Int) by exact (Int.natCast_mul _ 64).symm] at hm₆
      have it6 : h₆.IsListIter I ax (j + 1) := by obtain ⟨o, e, r⟩ := V.it; exact ⟨o, hs₆.extBut _ _ hIL e, r⟩
      have li6 : h₆.IsList ax items := by obtain ⟨o, e, r⟩ := V.li; exact ⟨o, hs₆.extBut _ _ haL e, r⟩
      refine wpAny_execs_cons (wpAny_Assign_Name (wp_Call_builtin (wp_glob' ok (Gk h₆ fun b o b1 b2 e => hs₆.extBut b o b2 (V.old b o b1 b2 e)) ⟨by rfl, .inr hnx, by rfl⟩ ⟨rfl, wpAny_items_cons (wpAny_Name (wpAny_loadName_local ok.kind (by rfl) hm₆ (v := .ref I) e1 (wpAny_items_nil (wp_next_list it6 li6 ht' fun h₇ it7 hs₇ => ?_))) (by decide))⟩) (by rfl)) (by rfl))
      refine wpAny_storeName_local (by rfl) (hm₆.sameBut hs₇ hIL.symm) (fun h₈ hm₈ hs₈ => ?_) (by rfl)
      refine wpAny_execs_cons (wpAny_AugAssign_Name (wpAny_loadName_local ok.kind (by rfl) hm₈ (v := .int ((vv ((octets n).take (j + 1)) * 64 : Nat) : Int) _) (by rfl) (wpAny_BinOp (wpAny_Name (wpAny_loadName_local ok.kind (by rfl) hm₈ (v := .int (c' : Nat) t') (by rfl) (wpAny_Constant_int (and_int (ior_int ?_)))) (by decide)))))
      refine wpAny_storeName_local (by rfl) hm₈ (fun h₉ hm₉ hs₉ => ?_) (by rfl)
      refine wpAny_execs_nil ⟨(octets n).length - (j + 1), Nat.sub_lt_sub_left hj (Nat.lt_succ_self j), j + 1, hj1, rfl, ?_⟩
      have hval : Builtin.bitOr ((vv ((octets n).take (j + 1)) * 64 : Nat) : Int) (Builtin.bitAnd (c' : Int) 63) = ((vv ((octets n).take (j + 1 + 1)) : Nat) : Int) := by
        rw [(and63 c' (octets_lt n c' (List.mem_of_getElem? hc'))).1, or64 _ _ (Nat.mod_lt _ (by decide)), List.take_add_one (i := j + 1), hc']
        simp only [Option.toList_some]
        rw [vv_snoc]
      rw [hval] at hm₉
      refine ⟨⟨_, t', _, c', hm₉, ?_, by rfl, by rfl, hc'⟩, ?_, ?_, ?_, V.os, V.gens⟩
      · exact e1
      · exact by obtain ⟨o, e, r⟩ := it7; exact ⟨o, hs₉.extBut _ _ hIL (hs₈.extBut _ _ hIL e), r⟩
      · exact by obtain ⟨o, e, r⟩ := li6; exact ⟨o, hs₉.extBut _ _ haL (hs₈.extBut _ _ haL (hs₇.extBut _ _ hne e)), r⟩
      · exact fun b o b1 b2 e => hs₉.extBut b o b2 (hs₈.extBut b o b2 (hs₇.extBut b o b1 (hs₆.extBut b o b2 (V.old b o b1 b2 e))))
    · simp only [h64, decide_false, Bool.false_eq_true, if_false]
      have hj1 : j + 1 = (octets n).length := by
        have := mt (octets_last n j c hc).mpr h64
        exact Nat.le_antisymm hj (Nat.not_lt.mp this)
      rw [hj1, List.take_length, vv_octets] at e3
      refine wpAny_execs_nil ?_
      refine wpAny_execs_cons (wpAny_Return_some (wpAny_Name (wpAny_loadName_local ok.kind (by rfl) hm e3 ?_) (by decide)))
      exact hQ _ u (hfin _ V.old) V.os V.gens
  · exact by obtain ⟨o, e, r⟩ := hit₂; exact ⟨o, hs₄.extBut _ _ hIL (hs₃.extBut _ _ hIL e), r⟩
  · exact by obtain ⟨o, e, r⟩ := hl₁; exact ⟨o, hs₄.extBut _ _ haL (hs₃.extBut _ _ haL (hs₂.extBut _ _ hne e)), r⟩
  · exact fun b o b1 b2 e => hs₄.extBut b o b2 (hs₃.extBut b o b2 (hs₂.extBut b o b1 e))
end
end Mine

namespace Mine
section
variable {prog : Program} {w : World} {A : Around} {E : Value → Shared → Prop} {s : Shared} {X Y : List Addr} {env : Env} {k : Nat} {f : Fs} {s₀ : Shared} {hb h₀ : Heap} {mg mb : Str → Option Value}

theorem wp_Call_fn' {x : Str} {px pos : Pos} {es : List Expr} {a : Addr} {o : Obj} {fd : FuncData} {Q : Value → Shared → Prop} (hd : o.data = .func fd) (hp : (starEach es env).any (·.1) = false) (h : wpAny (model prog w) A (eval (.Name x px) env) (fun v s₁ => v = .ref a ∧ wpAny (model prog w) A (spliced (backTo pos (starEach es env))) (fun vs s₂ => s₂.heap.get? a = some o ∧ wpAny (model prog w) A (call (.ref a) vs) Q E s₂) E s₁) E s) :
    wpAny (model prog w) A (eval (.Call (.Name x px) es [] pos) env) Q E s :=
  wp_Call_fn (wpAny_mono h (fun v s₁ h₁ => ⟨h₁.1, wpAny_mono h₁.2 (fun vs s₂ h₂ => ⟨⟨h₂.1, hd⟩, h₂.2⟩) fun _ _ e => e⟩) fun _ _ e => e) hp

/- a wp of an expression that stands for a datum, then on -/
theorem wp_ev {e : Expr} {d : D} {Q : Value → Shared → Prop} (he : EV prog w s₀ X Y env f k e d) (g : Good k A) (S : St s₀ hb X Y env f s) (h : ∀ v s', Den X s'.heap v d → Le s s' → Q v s') : wpAny (model prog w) A (eval e env) Q E s :=
  wpAny_mono (he A s hb E g S) (fun v s' p => h v s' p.1 p.2) fun _ _ e => e

theorem bc_number (hfn : DefAt h₀ 12 110) (hva : DefAt h₀ 3 63) (hlim : h₀.NoLimit) (G : GF h₀ mg mb) (g1 : mg "_parse_varint" = some (.ref 63)) (g2 : mg "next" = none ∧ mb "next" = some (.builtin "next")) (g3 : mg "iter" = none ∧ mb "iter" = some (.builtin "iter")) (g4 : mg "ord" = none ∧ mb "ord" = some (.builtin "ord"))
    (n : Nat) (hn : n < 262144) : BC prog w h₀ X (k + 2) (.ref 110) [.str (T (octets n))] (.int n) := by
  refine bc_fn1 (x := "word") hfn hlim (by rfl) ?_ 
  intro A s s₁ L cd E g kp dom ok S
  have G' := G.keep kp
  have hlen := octets_len n hn
  conv in execs _ _ => arg 1; whnf
  obtain ⟨o2, pm2, cd2, doc2, ho2, hd2, hc2⟩ := DefAt.keep kp hva
  refine wpAny_execs_cons (wpAny_Return_some ?_)
  refine wp_Call_fn' hd2 (by rfl) (wp_glob ok G' ⟨by rfl, .inl g1, by rfl⟩ S ⟨rfl, wpAny_items_cons ?_⟩)
  refine wp_Call_builtin (wp_glob ok G' ⟨by rfl, .inr g3, by rfl⟩ S ⟨rfl, wpAny_items_cons ?_⟩) (by rfl)
  refine wp_ev (k := k + 1) (d := .list ((octets n).map fun c => .int (c : Nat))) (ev_comp1 (ds := chars (T (octets n))) (cl := []) (ns := []) ok (ei_str (ev_name ok rfl rfl)) ⟨by rfl, rfl, by decide, by decide, (fun p hp => nomatch hp), (fun y hy => nomatch hy)⟩ (fun C => by rfl) ?_ ?_ ?_) g S fun v s₂ hv le => ?_
  · rw [chars_T]; simp
  · rw [chars_T, List.length_map]; unfold sizeLine; lia
  · intro I C D i d d' hd hd' okc
    rw [chars_T, List.getElem?_map] at hd
    obtain ⟨c, hc, rfl⟩ := Option.map_eq_some_iff.mp hd
    rw [List.getElem?_map, hc] at hd'
    simp only [Option.map_some, Option.some.injEq] at hd'
    subst hd'
    exact ev_call_b okc G' ⟨by rfl, .inr g4, by rfl⟩ (evs_cons (ev_name okc rfl rfl) evs_nil) rfl bc_ord
  · obtain ⟨ax, vs, rfl, haX, hl, hds⟩ := D.den_list hv
    refine wpAny_items_nil (wp_iter_list hl (wpAny_items_nil ?_))
    have S₂ := S.le le
    have hf := fresh_addr s₂.heap
    have kk : GB [] s.heap (s₂.heap.push { cls := .type "list_iterator", data := .fields #[.ref ax, .int 0 0] }) := S₂.keep.trans (GB.push _)
    refine ⟨kk _ _ nil_mem ho2, ?_⟩
    refine wp_varint (DefAt.keep kk (DefAt.keep kp hva)) (NoLimit.keep kk (NoLimit.keep kp hlim)) (G'.keep kk) g2 n hn g (I := s₂.heap.objs.size) (ax := ax) (items := vs.toArray) ⟨_, Heap.get?_push_size _ rfl, rfl, rfl⟩ (hl.push _) ?_ (fun q => by obtain ⟨o, e, _⟩ := hl; rw [q, hf] at e; cases e) fun s₃ t gb os gens => ?_
    · intro j c hc
      obtain ⟨v, hv', hvd⟩ := hds.get (i := j) (d := .int (c : Nat)) (by rw [List.getElem?_map, hc]; rfl)
      obtain ⟨t, rfl⟩ := D.den_int hvd
      exact ⟨t, by simpa using hv'⟩
    · refine ⟨_, rfl, .int, ?_, os.trans S₂.os, fun _ => by rw [gens]; exact S₂.gens⟩
      intro b o _ e
      exact gb.one (fun q => by rw [q, S₂.none0 hf] at e; cases e) (kk b o nil_mem e)
end
end Mine

namespace Mine
section
variable {prog : Program} {w : World} {A : Around} {E : Value → Shared → Prop} {s : Shared} {X Y : List Addr} {env : Env} {k : Nat} {f : Fs} {s₀ : Shared} {hb h₀ : Heap} {mg mb : Str → Option Value}

theorem ev_itemOwn {v i : Expr} {pos : Pos} {a : Addr} {l : List D} {n : Int} {d : D} (h1 : EV prog w s₀ X Y env f k v (.ref a)) (ho : f.own a = some l) (h2 : EV prog w s₀ X Y env f k i (.int n)) (h0 : 0 ≤ n) (hn : n < 2 ^ 63) (hd : l[n.toNat]? = some d)
    (hs : ∀ a t, subscripted i false (.ref a) (.int n t) = operate [.ref a, .int n t] (getItem (.ref a) (.int n t)) := by intros; with_unfolding_all rfl) :
    EV prog w s₀ X Y env f k (.Subscript v i pos) d := fun A s hb E g S =>
  Subscript_ (wpAny_mono (h1 A s hb E g S) (fun o s₁ p => wpAny_mono (h2 A s₁ hb E g (S.le p.2)) (fun j s₂ q => by
    obtain ⟨t, rfl⟩ := D.den_int q.1
    obtain rfl := D.den_ref p.1
    obtain ⟨_, _, _, _, vs, m, hl, hds⟩ := ((S.le p.2).le q.2).own a l ho
    have hl' : s₂.heap.IsList a vs.toArray := hds.isList hl
    obtain ⟨x, hx, hxd⟩ := hds.dens.get hd
    exact tail_any hl'.typeIs slot_list_getitem.lookup (wpAny_getItem_list hl' h0 hn (by simpa using hx) ⟨hxd, p.2.trans q.2⟩) (hs a t)) fun _ _ e => e) fun _ _ e => e)

theorem Dens.set {h : Heap} {vs ds} (x : Dens X h vs ds) (i : Nat) {v d} (q : Den X h v d) : Dens X h (vs.set i v) (ds.set i d) := by
  induction vs generalizing ds i with
  | nil => rw [x.nil_of]; exact .nil
  | cons u vs ih =>
    obtain ⟨e, es, rfl, a, b⟩ := x.cons_of
    cases i with
    | zero => exact .cons q b
    | succ i => exact .cons a (ih b i)

theorem set_plain (its : Array Value) (n j : Nat) (x : Value) : ∃ n', Obj.mapSeq (·.setIfInBounds j x) { cls := .type "list", data := .seq its n } = { cls := .type "list", data := .seq (its.setIfInBounds j x) n' } := by
  simp only [Obj.mapSeq]; exact ⟨_, rfl⟩
theorem wp_setItem {l : Addr} {items : Array Value} {n : Nat} {k : Int} {t : Tok} {v : Value} {Q : Unit → Shared → Prop} (ho : s.heap.get? l = some { cls := .type "list", data := .seq items n })
    (h0 : 0 ≤ k) (hfit : k < 2 ^ 63) (hn : k < items.size)
    (hQ : ∀ h' n', h'.get? l = some { cls := .type "list", data := .seq (items.setIfInBounds k.toNat v) n' } → Heap.SameBut l s.heap h' → Q () { s with heap := h' }) :
    wpAny (model prog w) A (setItem (.ref l) (.int k t) v) Q E s := by
  have hl : s.heap.IsList l items := ⟨_, ho, rfl, n, rfl⟩
  unfold setItem
  try with_reducible refine wpAny_holding ?_
  first | refine wpAny_bind (wpAny_pure ?_) | skip
  refine wpAny_bind (wpAny_sequenceKey hl.typeIs (by decide) ?_)
  refine wpAny_bind (wpAny_callSpecial?_slot (name := Str.ofString "__setitem__") hl.typeIs slot_list_setitem
    (wpAny_call_entry slot_list_setitem hl.typeIs entry_list_setitem ?_ (args_list_setitem _ _ _)))
  show wpAny _ _ (Builtin.List.listSubscript? (.int k t) >>= _) _ _ s
  refine wpAny_bind (wpAny_listSubscript_int (fitsIndex_of h0 hfit) ?_)
  clear hfit
  obtain ⟨j, rfl⟩ := Int.eq_ofNat_of_zero_le h0
  have hj : j < items.size := by lia
  have hx' : items[j]? = some items[j] := Array.getElem?_eq_getElem hj
  show wpAny _ _ ((seqItemAt l j >>= fun r => pure (r.map (j, ·))) >>= _) _ _ s
  refine wpAny_bind (wpAny_bind (wpAny_seqItemAt ho rfl (wpAny_pure ?_)))
  rw [hx']
  show wpAny _ _ (setSeqItemAt l j v >>= _) _ _ s
  obtain ⟨n', hm⟩ := set_plain items n j v
  have hfin : (s.heap.update l (Obj.mapSeq (·.setIfInBounds j v))).get? l = some { cls := .type "list", data := .seq (items.setIfInBounds j v) n' } := by
    rw [Heap.get?_update_self _ ho (by rw [hm]; rfl), hm]
  refine wpAny_bind (wpAny_setSeqItemAt ho rfl ?_)
  first
    | exact wpAny_bind (wpAny_pure (wpAny_pure ⟨.none, rfl, wpAny_pure (hQ _ n' hfin (Heap.SameBut.update ..))⟩))
    | exact wpAny_pure ⟨.none, rfl, wpAny_pure (hQ _ n' hfin (Heap.SameBut.update ..))⟩

/- o[i] = value, o an own list -/
theorem ex_setOwn {o i value : Expr} {pos' pos : Pos} {a : Addr} {l : List D} {n : Nat} {d : D} {Q : Flow → Shared → Prop} (g : Good k A) (S : St s₀ hb X Y env f s) (hv : EV prog w s₀ X Y env f k value d) (ho : EV prog w s₀ X Y env f k o (.ref a)) (hw : f.own a = some l)
    (hi : EV prog w s₀ X Y env f k i (.int (n : Nat))) (hn : n < 2 ^ 62) (hl : n < l.length) (h : ∀ s', St s₀ hb X Y env (f.put a (some (l.set n d))) s' → Q .next s')
    (hs : swapsWith value (some (.Subscript o i pos')) pos.line env = pure false := by rfl) : wpAny (model prog w) A (exec (.Assign [.Subscript o i pos'] value pos) env) Q E s := by
  refine wpAny_Assign_Subscript (wpAny_mono (hv A s hb E g S) (fun v s₁ p => wpAny_mono (ho A s₁ hb E g (S.le p.2)) (fun ov s₂ q => wpAny_mono (hi A s₂ hb E g ((S.le p.2).le q.2)) (fun iv s₃ r => ?_) fun _ _ e => e) fun _ _ e => e) fun _ _ e => e) hs
  obtain rfl := D.den_ref q.1
  obtain ⟨t, rfl⟩ := D.den_int r.1
  have S₃ := ((S.le p.2).le q.2).le r.2
  obtain ⟨_, _, _, _, vs, m, hl', hds⟩ := S₃.own a l hw
  obtain ⟨n0, rfl⟩ := hds.obj
  refine wp_setItem hl' (by lia) (by lia) (by simp [hds.dens.length]; exact hl) fun h' n' h1 h2 => ?_
  rw [Int.toNat_natCast] at h1
  have e : vs.toArray.setIfInBounds n v = (vs.set n v).toArray := by simp
  rw [e] at h1
  exact h _ (S₃.setOwn (tk := s₃.toks) hw ⟨⟨n', rfl⟩, hds.dens.set n ((p.1.grow q.2.heap).grow r.2.heap)⟩ h1 h2)

/- a def is entered: its frame's state -/
theorem st_call {h₁ : Heap} {L : Addr} {binds : List (Str × Value)} {tk : Nat} (hL : L = s.heap.objs.size) (hk : env.locals = L) (hn : h₁.Ns L (fun y => binds.reverse.lookup y)) (hkeep : ∀ b o, s.heap.get? b = some o → h₁.get? b = some o)
    (keep : GB [] s₀.heap s.heap) (os : s.os = s₀.os) (gens : AllBare s.gens) (dom : ∀ a ∈ X, ∃ o, s.heap.get? a = some o) (new : ∀ a ∈ Y, s₀.heap.get? a = none) (sub : ∀ a ∈ Y, a ∈ X) (cdom : ∀ p ∈ env.cells, ∃ u, CellAt s.heap p.2 u)
    (hloc : ∀ x d, f.ρ x = some d → env.kindOf x = some .local → ∃ v, binds.reverse.lookup x = some v ∧ Den X s.heap v d)
    (hcell : ∀ x d, f.ρ x = some d → (env.kindOf x = some .cell ∨ env.kindOf x = some .free) → ∃ c v, env.cells.lookup x = some c ∧ CellAt s.heap c (some v) ∧ Den X s.heap v d)
    (hown : ∀ a l, f.own a = some l → a ∈ Y ∧ (∀ p ∈ env.cells, p.2 ≠ a) ∧ a ∉ f.ext.F ∧ ∃ vs n, s.heap.get? a = some n ∧ LD X s.heap n vs l)
    (hext : f.ext.P s.heap ∧ ∀ a ∈ f.ext.F, a ∈ Y ∧ ∀ p ∈ env.cells, p.2 ≠ a) : St s₀ h₁ (L :: X) (L :: Y) env f { s with heap := h₁, toks := tk } := by
  have hf : s.heap.get? L = none := hL ▸ fresh_addr s.heap
  have g : GB [] s.heap h₁ := fun b o _ e => hkeep b o e
  have hav : ∀ b ∈ L :: X, b ∈ X ∨ s.heap.get? b = none := fun b hb => by
    rcases List.mem_cons.mp hb with rfl | h
    · exact .inr hf
    · exact .inl h
  have hdead : s₀.heap.get? L = none := by
    cases e : s₀.heap.get? L with
    | none => rfl
    | some o => rw [keep L o nil_mem e] at hf; cases hf
  have neL : ∀ a, (∃ o, s.heap.get? a = some o) → a ≠ L := fun a h q => by obtain ⟨o, e⟩ := h; rw [q, hf] at e; cases e
  refine { keep := keep.trans g, os := os, gens := gens, gb := .refl, new := ?_, sub := ?_, dom := ?_, locY := hk ▸ .head _, cdom := ?_, ns := ?_, cell := ?_, own := ?_, ext := ?_ }
  · intro a ha
    rcases List.mem_cons.mp ha with rfl | h
    · exact hdead
    · exact new a h
  · intro a ha
    rcases List.mem_cons.mp ha with rfl | h
    · exact .head _
    · exact .tail _ (sub a h)
  · intro a ha
    rcases List.mem_cons.mp ha with rfl | h
    · obtain ⟨o, _, _, e, _⟩ := hn; exact ⟨o, e⟩
    · obtain ⟨o, e⟩ := dom a h; exact ⟨o, hkeep a o e⟩
  · intro p hp
    obtain ⟨u, o, e, d⟩ := cdom p hp; exact ⟨u, o, hkeep _ o e, d⟩
  · rw [hk]
    exact ⟨_, hn, fun x d hx hkk => by obtain ⟨v, e, hd⟩ := hloc x d hx hkk; exact ⟨v, e, (hd.avoid hav).grow g⟩⟩
  · exact fun x d hx hkk => by obtain ⟨c, v, e, hc, hd⟩ := hcell x d hx hkk; exact ⟨c, v, e, g.cellAt nil_mem hc, (hd.avoid hav).grow g⟩
  · intro a l h
    obtain ⟨h1, h2, h3, vs, n, h4, h5⟩ := hown a l h
    exact ⟨.tail _ h1, hk ▸ neL a ⟨_, h4⟩, h2, h3, vs, n, hkeep a _ h4, (h5.avoid hav).grow g⟩
  · refine ⟨f.ext.st _ _ hext.1 fun b _ o e => hkeep b o e, fun b hb => ⟨.tail _ (hext.2 b hb).1, hk ▸ neL b (dom b (sub b (hext.2 b hb).1)), (hext.2 b hb).2⟩⟩
end
end Mine

namespace Mine
section
variable {prog : Program} {w : World} {A : Around} {E : Value → Shared → Prop} {s : Shared} {X Y : List Addr} {env : Env} {k : Nat} {f : Fs} {s₀ : Shared} {hb h₀ : Heap} {mg mb : Str → Option Value}

theorem wp_Call_meth {o : Expr} {name : Str} {apos pos : Pos} {args : List Expr} {Q : Value → Shared → Prop} (hbase : attributeBase o name env (eval o env) = eval o env)
    (hfew : methodCallForm (args.length + ([] : List Keyword).length) (backTo pos (starEach args env)) (backToKw pos (keywordEach [] env)) = true) (hline : (apos.endLine == pos.line) = true)
    (h : wpAny (model prog w) A (eval o env) (fun ov s₁ => wpAny (model prog w) A (getMethod ov name (do return (← importBound o env).getD true)) (fun fp s₂ =>
      wpAny (model prog w) A (callWith pos fp.1 fp.2 (backTo pos (starEach args env)) []) Q E s₂) E s₁) E s) :
    wpAny (model prog w) A (eval (.Call (.Attribute o name apos) args [] pos) env) Q E s := by
  rw [arm_eval_Call, hbase]
  refine wpAny_bind (wpAny_mono h (fun ov s₁ h₁ => ?_) fun _ _ e => e)
  refine wpAny_bind (wpAny_standAt ?_)
  have hpos : methodCallPos true o env apos pos = pure pos := by unfold methodCallPos; simp [hline]
  unfold methodCall
  rw [hfew]
  refine wpAny_bind (wpAny_holding (wpAny_mono h₁ (fun fp s₂ h₂ => ?_) fun _ _ e => e))
  obtain ⟨f, first⟩ := fp
  exact wpAny_bind (wpAny_of_eq hpos h₂)

theorem wp_Attr {value : Expr} {attr : Str} {pos : Pos} {Q : Value → Shared → Prop} (hbase : attributeBase value attr env (eval value env) = eval value env)
    (h : wpAny (model prog w) A (eval value env) (fun o s₁ => wpAny (model prog w) A (getAttr o attr true) Q E s₁) E s) : wpAny (model prog w) A (eval (.Attribute value attr pos) env) Q E s := by
  rw [arm_eval_Attribute, hbase]
  refine wpAny_bind (wpAny_mono h (fun o s₁ h₁ => ?_) fun _ _ e => e)
  exact wpAny_bind (wpAny_standAt (wpAny_bind (wpAny_holding (wpAny_mono h₁ (fun r s₂ h₂ => wpAny_bind (wpAny_letTemporaryGo (wpAny_pure h₂))) fun _ _ e => e))))

namespace FF
theorem lk_ga : typeLookup (.type "function") "__getattribute__" = pure (some (.builtin "object.__getattribute__")) := by rw [typeLookup_type, builtinLookup_eq_fast]; kernel_rfl
theorem lk_getattr : typeLookup (.type "function") "__getattr__" = pure none := by rw [typeLookup_type, builtinLookup_eq_fast]; kernel_rfl
theorem lk_read : typeLookup (.type "function") "read" = pure none := by rw [typeLookup_type, builtinLookup_eq_fast]; kernel_rfl
theorem slot_ga : Slot "function" "__getattribute__" "object.__getattribute__" :=
  .of (owner := "object") (n := "__getattribute__") (by rw [typeLookup_type, builtinLookup_eq_fast]; kernel_rfl) (by decide +kernel) (by decide +kernel) (by decide +kernel)
    (by first | exact .inl (by decide +kernel) | exact .inr (by decide +kernel)) (by rw [isSubtype_type]; kernel_rfl)
theorem slot_sa : Slot "function" "__setattr__" "object.__setattr__" :=
  .of (owner := "object") (n := "__setattr__") (by rw [typeLookup_type, builtinLookup_eq_fast]; kernel_rfl) (by decide +kernel) (by decide +kernel) (by decide +kernel)
    (by first | exact .inl (by decide +kernel) | exact .inr (by decide +kernel)) (by rw [isSubtype_type]; kernel_rfl)
end FF
theorem fn_object_entry {E : Value → Shared → Prop} {h : Heap} {g : Array GenState} {d : Drawn} {t : Nat} {os : OsState} {st sd : Addr} {rd : Value} {ofn : Obj} {md : Str → Option Value} {tk : Tok} {Q : PySem.Fin → Shared → Prop} (hst : h.get? st = some ofn) (hc : ofn.cls = .type "function") (hd : ofn.dict = some sd) (hfd : ∃ fd, ofn.data = .func fd) (hn : h.Ns sd md) (hf : md "read" = some rd)
    (hq : Q (.done (.ret rd)) ⟨h, g, d, t, os⟩) : wpAny (model prog w) A (Builtin.«object.__getattribute__» ⟨[.ref st, .str "read" tk], []⟩) Q E ⟨h, g, d, t, os⟩ := by
  obtain ⟨oc, od, oda, osl⟩ := ofn
  simp only at hc hd hfd
  obtain ⟨fd, rfl⟩ := hfd
  subst hc hd
  have hT : (⟨h, g, d, t, os⟩ : Shared).TypeIs (.ref st) "function" := ⟨_, hst, rfl⟩
  have f3 := FF.lk_read
  repeat (any_goals (first | assumption | with_reducible apply PySem.Flt.wpAny_nsGet_known | with_reducible apply PySem.Flt.wpAny_loadPart_known | wp_step))

theorem getMethod_fnattr {h : Heap} {g : Array GenState} {d : Drawn} {t : Nat} {os : OsState} {st sd : Addr} {rd : Value} {ofn : Obj} {md : Str → Option Value} {pl : Sem Bool} {Q : Value × List Value → Shared → Prop} (hst : h.get? st = some ofn) (hc : ofn.cls = .type "function") (hd : ofn.dict = some sd) (hfd : ∃ fd, ofn.data = .func fd) (hn : h.Ns sd md) (hf : md "read" = some rd) (hh : handedOut rd = pure rd)
    (hq : Q (rd, []) ⟨h, g, d, t + 1, os⟩) : wpAny (model prog w) A (getMethod (.ref st) "read" pl) Q E ⟨h, g, d, t, os⟩ := by
  have hT : (⟨h, g, d, t, os⟩ : Shared).TypeIs (.ref st) "function" := ⟨_, hst, hc⟩
  have hT1 : (⟨h, g, d, t + 1, os⟩ : Shared).TypeIs (.ref st) "function" := ⟨_, hst, hc⟩
  have f1 := FF.lk_ga
  have f2 := FF.lk_getattr
  have f3 := FF.lk_read
  have f4 := FF.slot_ga.bind (.ref st)
  unfold getMethod
  refine wpAny_bind (wpAny_specialOf hT f1 ?_)
  show wpAny _ A (if (Manifest.canonical "object.__getattribute__" != "object.__getattribute__") = true then _ else _) Q E _
  rw [PySem.F.canon_object_ga, if_neg (by decide)]
  repeat (any_goals (first | assumption | wp_step))
  refine codeAny_call_builtin FF.slot_ga.plain F.entry_object_getattribute (FF.slot_ga.check _ _ _ _ _ _ _ _ hT1 (F.args_object_getattribute_2 _ _) (fn_object_entry hst hc hd hfd hn hf ?_))
  repeat (any_goals (first | assumption | wp_step))
end
end Mine

namespace Mine
section
variable {prog : Program} {w : World} {A : Around} {E : Value → Shared → Prop} {s : Shared} {X Y : List Addr} {env : Env} {k : Nat} {f : Fs} {s₀ : Shared} {hb h₀ : Heap} {mg mb : Str → Option Value}
namespace FF
theorem mro : mroOf (.type "function") = pure [.type "function", .type "object"] := by kernel_rfl
theorem passes (self : Value) : refuseLoop self "__setattr__" [.type "function", .type "object"] = pure () := by kernel_rfl
theorem args_sa (a b c : Value) : argsOk "object.__setattr__" ⟨[a, b, c], []⟩ := by unfold argsOk; kernel_rfl
end FF
theorem fn_store_entry {E : Value → Shared → Prop} {h : Heap} {g : Array GenState} {d : Drawn} {t : Nat} {os : OsState} {st : Addr} {v : Value} {fd : FuncData} {sl : Array (Option Value)} {tk : Tok} {Q : PySem.Fin → Shared → Prop} (hst : h.get? st = some ⟨.type "function", none, .func fd, sl⟩)
    (hq : ∀ h' tk' sd, h.get? sd = none → h'.get? st = some ⟨.type "function", some sd, .func fd, sl⟩ → (∃ md, h'.Ns sd md ∧ md "read" = some v) → (∀ b o, b ≠ st → h.get? b = some o → h'.get? b = some o) → Q (.done (.ret .none)) ⟨h', g, d, tk', os⟩) : wpAny (model prog w) A (Builtin.«object.__setattr__» ⟨[.ref st, .str "read" tk, v], []⟩) Q E ⟨h, g, d, t, os⟩ := by
  have hT : (⟨h, g, d, t, os⟩ : Shared).TypeIs (.ref st) "function" := ⟨_, hst, rfl⟩
  have f1 := FF.mro
  have f2 := FF.passes (.ref st)
  have f3 := FF.lk_read
  rw [PySem.W.osa_eq, refuse_eq]
  refine wpAny_bind (wpAny_bind (wpAny_typeOf hT (wpAny_bind (wpAny_of_eq f1 ?_))))
  rw [f2]
  refine wpAny_pure (wpAny_bind (wpAny_typeOf hT (wpAny_bind (wpAny_of_eq f3 (wpAny_bind (wpAny_of_eq (a := none) rfl ?_))))))
  dsimp only
  have hss : st ≠ h.objs.size := Nat.ne_of_lt (Heap.lt_size hst)
  have hst₁ : (h.push { cls := .type "dict", data := .dict #[] }).get? st = some ⟨.type "function", none, .func fd, sl⟩ := Heap.get?_push_of_some _ hst
  have hdict : typeHasDict (.type "function") = true := by kernel_rfl
  have hfin : finalisedInACycleAlone "function" = false := by kernel_rfl
  have hgd : ∀ H : Heap, H = ((h.push { cls := .type "dict", data := .dict #[] }).update st fun o => { cls := o.cls, dict := some h.objs.size, data := o.data, slots := o.slots }) → H.get? h.objs.size = some { cls := .type "dict", data := .dict #[] } := by
    rintro H rfl
    exact (Heap.get?_update_ne _ _ _ _ hss.symm).trans (Heap.get?_push_at rfl rfl)
  have hgs : ∀ H : Heap, H = ((h.push { cls := .type "dict", data := .dict #[] }).update st fun o => { cls := o.cls, dict := some h.objs.size, data := o.data, slots := o.slots }) → H.get? st = some ⟨.type "function", some h.objs.size, .func fd, sl⟩ := by
    rintro H rfl
    exact Heap.get?_update_self _ hst₁ rfl
  have hnd : ∀ H : Heap, H = ((h.push { cls := .type "dict", data := .dict #[] }).update st fun o => { cls := o.cls, dict := some h.objs.size, data := o.data, slots := o.slots }) → H.Ns1 h.objs.size (fun _ => none) := fun H e =>
    Heap.Ns1.of_empty ⟨_, #[], _, hgd H e, rfl, fun e he => absurd he (by simp), fun _ => rfl⟩
  unfold Builtin.ObjectAttr.storeInOwnDict
  repeat (any_goals (first | assumption | (with_reducible refine wpAny_nsSet1 (hnd _ rfl) ?_) | with_reducible apply PySem.Flt.wpAny_nsGet_known | with_reducible apply PySem.Flt.wpAny_loadPart_known | wp_step))
  intro h' hn' hs
  obtain ⟨oD, esD, epD, hoD, hdD, hcD⟩ := hn'.count (Within.cons "read" v Within.nil)
  refine wpAny_bind (wpAny_lookBehind hoD (by rw [hdD]; exact pastItsLine_dict (Nat.le_trans hcD (by rw [List.length_cons, List.length_nil, sizeLine_eq]; lia))) ?_)
  refine wpAny_pure (hq h' _ h.objs.size (fresh_addr h) ((hs.2 st hss).trans (hgs _ rfl)) ⟨_, hn'.ns, by simp⟩ fun b o hb e => ?_)
  exact (hs.2 b (Nat.ne_of_lt (Heap.lt_size e))).trans ((Heap.get?_update_ne _ _ _ _ hb).trans (Heap.get?_push_of_some _ e))

theorem setAttr_fn {E : Value → Shared → Prop} {h : Heap} {g : Array GenState} {d : Drawn} {t : Nat} {os : OsState} {st : Addr} {v : Value} {fd : FuncData} {sl : Array (Option Value)} {Q : Unit → Shared → Prop} (hst : h.get? st = some ⟨.type "function", none, .func fd, sl⟩)
    (hq : ∀ h' tk' sd, h.get? sd = none → h'.get? st = some ⟨.type "function", some sd, .func fd, sl⟩ → (∃ md, h'.Ns sd md ∧ md "read" = some v) → (∀ b o, b ≠ st → h.get? b = some o → h'.get? b = some o) → Q () ⟨h', g, d, tk', os⟩) : wpAny (model prog w) A (setAttr (.ref st) "read" v) Q E ⟨h, g, d, t, os⟩ := by
  have hT : (⟨h, g, d, t, os⟩ : Shared).TypeIs (.ref st) "function" := ⟨_, hst, rfl⟩
  have hT1 : (⟨h, g, d, t + 1, os⟩ : Shared).TypeIs (.ref st) "function" := ⟨_, hst, rfl⟩
  have f1 := FF.slot_sa.lookup
  have f3 := FF.slot_sa.bind (.ref st)
  unfold setAttr callSpecial?
  repeat (any_goals (first | assumption | wp_step))
  refine codeAny_call_builtin FF.slot_sa.plain F.entry_object_sa (FF.slot_sa.check _ _ _ _ _ _ _ _ hT1 (FF.args_sa _ _ _) (fn_store_entry hst fun h' tk' sd a1 a2 a3 a4 => ?_))
  repeat (any_goals (first | assumption | wp_step))
  exact hq h' tk' sd a1 a2 a3 a4
end
end Mine

namespace Mine

noncomputable def bodyOfClass : Stmt → List Stmt | .ClassDef _ _ _ b .. => b | _ => []
noncomputable def meth (n : Nat) : Stmt := (bodyOfClass (topDef 1)).getD n (.Pass default)
/- the n-th statement of the class, a def, stands at a -/
noncomputable def MethAt (h : Heap) (n : Nat) (a : Addr) : Prop :=
  ∃ o qual doc pm cd ct, h.get? a = some o ∧ o.cls = .type "function" ∧ o.data = .func (PySem.W.fnX (defName (meth n)) qual (defParams (meth n)) (defBody (meth n)) (defScope (meth n)) [] .none .none doc pm none cd ct) ∧ h.CodeRec cd qual
theorem MethAt.keep {h h' : Heap} {n a} (g : GB [] h h') (x : MethAt h n a) : MethAt h' n a := by obtain ⟨o, q, d, pm, cd, ct, h1, h0, h2, h3⟩ := x; exact ⟨o, q, d, pm, cd, ct, g _ _ nil_mem h1, h0, h2, h3.keeps fun b o e => g b o nil_mem e⟩
noncomputable def rdDef : Stmt := (defBody (topDef 9)).getD 1 (.Pass default)

/- the lexer's objects -/
structure LA where
  x : Addr
  dx : Addr
  pb : Addr
  st : Addr
  sd : Addr
  rd : Addr
  c1 : Addr
  c2 : Addr
  pl : Addr
  cc : Addr
noncomputable def LA.F (a : LA) : List Addr := [a.x, a.dx, a.pb, a.st, a.sd, a.rd, a.c1, a.c2, a.pl, a.cc]

theorem LA.m0 {a : LA} : a.x ∈ a.F := .head _
theorem LA.m1 {a : LA} : a.dx ∈ a.F := .tail _ (.head _)
theorem LA.m2 {a : LA} : a.pb ∈ a.F := .tail _ (.tail _ (.head _))
theorem LA.m3 {a : LA} : a.st ∈ a.F := .tail _ (.tail _ (.tail _ (.head _)))
theorem LA.m4 {a : LA} : a.sd ∈ a.F := .tail _ (.tail _ (.tail _ (.tail _ (.head _))))
theorem LA.m5 {a : LA} : a.rd ∈ a.F := .tail _ (.tail _ (.tail _ (.tail _ (.tail _ (.head _)))))
theorem LA.m6 {a : LA} : a.c1 ∈ a.F := .tail _ (.tail _ (.tail _ (.tail _ (.tail _ (.tail _ (.head _))))))
theorem LA.m7 {a : LA} : a.c2 ∈ a.F := .tail _ (.tail _ (.tail _ (.tail _ (.tail _ (.tail _ (.tail _ (.head _)))))))
theorem LA.m8 {a : LA} : a.pl ∈ a.F := .tail _ (.tail _ (.tail _ (.tail _ (.tail _ (.tail _ (.tail _ (.tail _ (.head _))))))))
theorem LA.m9 {a : LA} : a.cc ∈ a.F := .tail _ (.tail _ (.tail _ (.tail _ (.tail _ (.tail _ (.tail _ (.tail _ (.tail _ (.head _)))))))))
/- the reading end: a text, and how far it is read -/
structure RX (a : LA) (text : List Nat) (pos : Nat) (h : Heap) : Prop where
  rd : ∃ o qual doc pm ct cl, h.get? a.rd = some o ∧ o.data = .func (PySem.W.fnX "_law_read" qual (defParams rdDef) (defBody rdDef) (defScope rdDef) cl .none .none doc pm none (.ref a.cc) ct) ∧ h.CodeRec (.ref a.cc) qual ∧ cl.lookup (Str.ofString "place") = some a.c1 ∧ cl.lookup (Str.ofString "text") = some a.c2 ∧ ∀ p ∈ cl, p.2 = a.c1 ∨ p.2 = a.c2
  c1 : CellAt h a.c1 (some (.ref a.pl))
  c2 : ∃ t, CellAt h a.c2 (some (.str (T text) t))
  pl : ∃ n t, h.get? a.pl = some { cls := .type "list", data := .seq #[.int (pos : Nat) t] n }
  ne : a.rd ≠ a.pl ∧ a.c1 ≠ a.pl ∧ a.c2 ≠ a.pl

section
variable {prog : Program} {w : World} {A : Around} {E : Value → Shared → Prop} {s : Shared} {X Y : List Addr} {env : Env} {k : Nat} {f : Fs} {s₀ : Shared} {hb h₀ : Heap} {mg mb : Str → Option Value}

set_option tactic.hygienic true in
theorem wp_law_read {a : LA} {text : List Nat} {pos : Nat} {t : Tok} {Q : Value → Shared → Prop} (R : RX a text pos s.heap) (hlim : s.heap.NoLimit) (gd : Good (k + 1) A) (hsz : text.length ≤ 1000) (hp : pos ≤ text.length) (bare : AllBare s.gens)
    (dead : s₀.heap.get? a.pl = none) (base : GB [] s₀.heap s.heap) (os : s.os = s₀.os)
    (hQ : ∀ s' t', GB [a.pl] s.heap s'.heap → s'.os = s.os → AllBare s'.gens → RX a text (pos + 1) s'.heap → Q (.str (T ((text.drop pos).take 1)) t') s') :
    wpAny (model prog w) A (call (.ref a.rd) [.int 1 t]) Q E s := by
  obtain ⟨o, qual, doc, pm, ct, cl, ho, hdata, hcd, hl1, hl2, hcl⟩ := R.rd
  obtain ⟨t2, hc2⟩ := R.c2
  obtain ⟨n, tp, hpl⟩ := R.pl
  have hbind : bindArgs (PySem.W.fnX "_law_read" qual (defParams rdDef) (defBody rdDef) (defScope rdDef) cl .none .none doc pm none (.ref a.cc) ct) ⟨[.int 1 t], []⟩ = pure [(Str.ofString "size", Value.int 1 t)] := by rfl
  have hnc : ∀ x ∈ (defScope rdDef).names, x.2 ≠ .cell := by decide
  refine wpAny_call (codeAny_call_plain (body := defBody rdDef) (by have := gd.depth; lia) ho hdata hlim hcd (by rfl) hbind hnc (fun y hy => by rw [List.mem_singleton.mp hy]; rfl) (fun h₁ hn hkeep => ?_) (by rfl) (by rfl) (by rfl))
  refine wpAny_mono (E := fun _ _ => False) ?_ (fun _ _ h => h) (fun _ _ h => h.elim)
  have g := gd.deeper (callEnv (PySem.W.fnX "_law_read" qual (defParams rdDef) (defBody rdDef) (defScope rdDef) cl .none .none doc pm none (.ref a.cc) ct) s.heap.objs.size a.rd)
  have cdom : ∀ p ∈ cl, ∃ u, CellAt s.heap p.2 u := fun p hp => by
    rcases hcl p hp with q | q
    · rw [q]; exact ⟨_, R.c1⟩
    · rw [q]; exact ⟨_, hc2⟩
  have cne : ∀ p ∈ cl, p.2 ≠ a.pl := fun p hp q => by
    rcases hcl p hp with e | e
    · exact R.ne.2.1 (e ▸ q)
    · exact R.ne.2.2 (e ▸ q)
  have S : St s₀ h₁ [s.heap.objs.size, a.pl] [s.heap.objs.size, a.pl] (callEnv (PySem.W.fnX "_law_read" qual (defParams rdDef) (defBody rdDef) (defScope rdDef) cl .none .none doc pm none (.ref a.cc) ct) s.heap.objs.size a.rd)
      ⟨fun x => List.lookup x [(Str.ofString "size", D.int 1), (Str.ofString "place", D.ref a.pl), (Str.ofString "text", D.str (T text))], fun b => if b = a.pl then some [.int (pos : Nat)] else none, .nil⟩ { s with heap := h₁, toks := s.toks + 1 } := by
    refine st_call (X := [a.pl]) (Y := [a.pl]) rfl rfl hn hkeep base os bare ?_ ?_ (fun _ h => h) cdom ?_ ?_ ?_ ⟨trivial, fun _ m => nomatch m⟩
    · intro b hb; rw [List.mem_singleton.mp hb]; exact ⟨_, hpl⟩
    · intro b hb; rw [List.mem_singleton.mp hb]; exact dead
    · intro x d hx hk
      have hm := mem_of_lookup hx
      simp only [List.mem_cons, Prod.mk.injEq, List.not_mem_nil, or_false] at hm
      rcases hm with ⟨rfl, rfl⟩ | ⟨rfl, rfl⟩ | ⟨rfl, rfl⟩
      · exact ⟨_, rfl, .int⟩
      · cases hk
      · cases hk
    · intro x d hx hk
      have hm := mem_of_lookup hx
      simp only [List.mem_cons, Prod.mk.injEq, List.not_mem_nil, or_false] at hm
      rcases hm with ⟨rfl, rfl⟩ | ⟨rfl, rfl⟩ | ⟨rfl, rfl⟩
      · rcases hk with h | h <;> cases h
      · exact ⟨_, _, hl1, R.c1, .ref⟩
      · exact ⟨_, _, hl2, hc2, .str⟩
    · intro b l hb
      dsimp only at hb
      split at hb
      · rename_i q; subst q; cases hb
        exact ⟨.head _, cne, (fun m => nomatch m), [.int (pos : Nat) tp], _, hpl, ⟨n, rfl⟩, .cons .int .nil⟩
      · cases hb
  have ok : EnvOk (callEnv (PySem.W.fnX "_law_read" qual (defParams rdDef) (defBody rdDef) (defScope rdDef) cl .none .none doc pm none (.ref a.cc) ct) s.heap.objs.size a.rd) := ⟨rfl, rfl, rfl, fun p hp q => by
    obtain ⟨_, o, e, _⟩ := cdom p hp
    rw [q] at e
    exact absurd (Heap.lt_size e) (Nat.lt_irrefl _)⟩
  conv in execs _ _ => arg 1; whnf
  refine wpAny_execs_cons (ex_assign (d := .int (pos : Nat)) ok g S ?_ (by rfl) fun s₂ S₂ _ => ?_)
  · exact ev_itemOwn (n := 0) (l := [.int (pos : Nat)]) (ev_cell ok rfl (.inr rfl)) (by simp) ev_int (by decide) (by decide) rfl
  refine wpAny_execs_cons (ex_setOwn (n := 0) (d := .int ((pos : Nat) + 1)) (l := [.int (pos : Nat)]) g S₂ (ev_add (ev_name ok rfl rfl) (ev_name ok rfl rfl)) (ev_cell ok rfl (.inr rfl)) (by simp [Fs.set]) ev_int (by decide) (by simp) fun s₃ S₃ => ?_)
  refine wpAny_execs_cons (ex_return (d := .str (T ((text.drop pos).take 1))) g S₃ ?_ fun v s₄ hv le S₄ => ?_)
  · refine (ev_sslice (x := T text) (i := (pos : Int)) (j := (pos : Int) + 1) (ev_cell ok rfl (.inr rfl)) (ev_name ok rfl rfl) (ev_add (ev_name ok rfl rfl) (ev_name ok rfl rfl)) (by rw [T_length]; unfold sizeLine; lia)).cast ?_
    rw [show (pos : Int) + 1 = ((pos + 1 : Nat) : Int) by lia, slice_T, Nat.add_sub_cancel_left]
  · obtain ⟨t', rfl⟩ := D.den_str hv
    have gb : GB [a.pl] s.heap s₄.heap := fun b o hb e => S₄.gb b o (fun m => by
      rcases List.mem_cons.mp m with q | m
      · rw [q] at e; exact absurd (Heap.lt_size e) (Nat.lt_irrefl _)
      · exact hb m) (hkeep b o e)
    obtain ⟨_, _, _, _, vs, o', hl', hds⟩ := S₄.own a.pl [.int ((pos : Nat) + 1)] (by simp [Fs.put, Fs.set])
    refine hQ s₄ t' gb (S₄.os.trans os.symm) S₄.gens ⟨⟨o, qual, doc, pm, ct, cl, gb.one R.ne.1 ho, hdata, ?_, hl1, hl2, hcl⟩, gb.cellAt (fun m => R.ne.2.1 (List.mem_singleton.mp m)) R.c1, ⟨t2, gb.cellAt (fun m => R.ne.2.2 (List.mem_singleton.mp m)) hc2⟩, ?_, R.ne⟩
    · obtain ⟨c, oc, vs', tq, e1, e2, e3, e4⟩ := hcd
      refine ⟨c, oc, vs', tq, e1, gb.one (fun q => ?_) e2, e3, e4⟩
      rw [q, hpl] at e2; cases e2; cases e3
    · obtain ⟨n', rfl⟩ := hds.obj
      cases hds.dens with
      | cons h1 h2 =>
        cases h2
        obtain ⟨tt, rfl⟩ := D.den_int h1
        exact ⟨n', tt, hl'⟩
end
end Mine

namespace Mine

noncomputable def lexNames : List Str := ["lineno", "instream", "whitespace", "pushback"]
theorem not_lex {m : Str → Option Value} (h : Within m lexNames) {n : Str} (hn : n ∉ lexNames) : m n = none := by
  cases e : m n with
  | none => rfl
  | some v => exact absurd (h n (by rw [e]; exact fun q => nomatch q)) hn

/- the lexer's class -/
structure CL (h : Heap) (mN : Str → Option Value) : Prop where
  cls : ∃ nm q bs sn sub col dd k0 k1 k2 k3 k5, h.get? 52 = some (excClassObj nm q 52 51 bs [.type "object"] true sn sub false col dd k0 k1 k2 k3 k5 "object.__new__")
  ns : h.Ns 51 mN
  no : mN "__getattribute__" = none ∧ mN "__getattr__" = none ∧ mN "__setattr__" = none ∧ mN "lineno" = none ∧ mN "instream" = none ∧ mN "whitespace" = none ∧ mN "pushback" = none
  fns : mN "__init__" = some (.ref 28) ∧ mN "_read_char" = some (.ref 35) ∧ mN "get_token" = some (.ref 42) ∧ mN "push_token" = some (.ref 49)
  m0 : MethAt h 0 28
  m1 : MethAt h 1 35
  m2 : MethAt h 2 42
  m3 : MethAt h 3 49
theorem CL.keep {h h' : Heap} {mN} (g : GB [] h h') (x : CL h mN) : CL h' mN :=
  ⟨(by obtain ⟨a1, a2, a3, a4, a5, a6, a7, a8, a9, b1, b2, b3, e⟩ := x.cls; exact ⟨a1, a2, a3, a4, a5, a6, a7, a8, a9, b1, b2, b3, g _ _ nil_mem e⟩), g.ns nil_mem x.ns, x.no, x.fns, x.m0.keep g, x.m1.keep g, x.m2.keep g, x.m3.keep g⟩

/- the lexer: what it has read, its line, what was pushed back -/
structure LX (a : LA) (text : List Nat) (pos : Nat) (line : Int) (push : List (List Nat)) (h : Heap) : Prop where
  ox : ∃ o, h.get? a.x = some o ∧ o.cls = .ref 52 ∧ (∀ c, o.data ≠ .cls c) ∧ o.dict = some a.dx
  at_ : ∃ mA t tw, h.Ns1 a.dx mA ∧ Within mA lexNames ∧ mA "lineno" = some (.int line t) ∧ mA "instream" = some (.ref a.st) ∧ mA "whitespace" = some (.str (T [10, 9, 13, 32]) tw) ∧ mA "pushback" = some (.ref a.pb)
  pb : ∃ vs n, h.get? a.pb = some { cls := .type "list", data := .seq (List.toArray vs) n } ∧ Dens [] h vs (push.map fun l => .str (T l))
  st : ∃ o, h.get? a.st = some o ∧ o.cls = .type "function" ∧ (∃ fd, o.data = .func fd) ∧ o.dict = some a.sd
  sd : ∃ md, h.Ns a.sd md ∧ md "read" = some (.ref a.rd)
  rx : RX a text pos h
  nd : a.F.Nodup

theorem Dens.strs {X X' : List Addr} {h h' : Heap} {vs} {l : List Str} (x : Dens X h vs (l.map D.str)) : Dens X' h' vs (l.map D.str) := by
  induction l generalizing vs with
  | nil => cases x; exact .nil
  | cons a l ih =>
    cases x with
    | cons a b =>
      obtain ⟨t, rfl⟩ := D.den_str a
      exact .cons .str (ih b)

theorem LX.inst {a : LA} {text pos line push h} (x : LX a text pos line push h) {mA} (hn : h.Ns1 a.dx mA) : h.Inst a.x 52 mA :=
  let ⟨o, e, c, d, dd⟩ := x.ox
  ⟨o, e, c, d, .inr ⟨a.dx, dd, fun q => by
    have := x.nd
    rw [LA.F, q] at this
    simp at this, hn⟩⟩

/- the base, and how the present lies above it -/
structure Cu (s₀ s : Shared) (mN : Str → Option Value) (a : LA) : Prop where
  cl : CL s₀.heap mN
  lim : s₀.heap.NoLimit
  base : GB [] s₀.heap s.heap
  os : s.os = s₀.os
  bare : AllBare s.gens
  dead : ∀ b ∈ a.F, s₀.heap.get? b = none
theorem Cu.to {s₀ s s' : Shared} {mN a} (c : Cu s₀ s mN a) (g : GB a.F s.heap s'.heap) (os : s'.os = s.os) (bare : AllBare s'.gens) : Cu s₀ s' mN a :=
  ⟨c.cl, c.lim, fun b o _ e => g b o (fun m => by rw [c.dead b m] at e; cases e) (c.base b o nil_mem e), os.trans c.os, bare, c.dead⟩

namespace FL
theorem instream : typeLookup (.type "object") "instream" = pure none := by rw [typeLookup_type, builtinLookup_eq_fast]; kernel_rfl
theorem lineno : typeLookup (.type "object") "lineno" = pure none := by rw [typeLookup_type, builtinLookup_eq_fast]; kernel_rfl
theorem whitespace : typeLookup (.type "object") "whitespace" = pure none := by rw [typeLookup_type, builtinLookup_eq_fast]; kernel_rfl
theorem pushback : typeLookup (.type "object") "pushback" = pure none := by rw [typeLookup_type, builtinLookup_eq_fast]; kernel_rfl
end FL

section
variable {prog : Program} {w : World} {A : Around} {E : Value → Shared → Prop} {s : Shared} {X Y : List Addr} {env : Env} {k : Nat} {f : Fs} {s₀ : Shared} {hb h₀ : Heap} {mg mb mN : Str → Option Value}

/- an attribute of the lexer -/
theorem wp_lexattr {a : LA} {text : List Nat} {pos : Nat} {line : Int} {push : List (List Nat)} {mA : Str → Option Value} {name : Str} {v : Value} {value : Expr} {ppos : Pos} {Q : Value → Shared → Prop} (C : CL s.heap mN) (Lx : LX a text pos line push s.heap) (hn : s.heap.Ns1 a.dx mA) (hv : mA name = some v)
    (hna : mN name = none) (hB : typeLookup (.type "object") name = pure none) (hh : handedOut v = pure v) (hq : ∀ tk, Q v { s with toks := tk })
    (hev : wpAny (model prog w) A (eval value env) (fun v' s' => v' = .ref a.x ∧ s' = s) E s) (hbase : attributeBase value name env (eval value env) = eval value env := by rfl) :
    wpAny (model prog w) A (eval (.Attribute value name ppos) env) Q E s := by
  refine wp_Attr hbase (wpAny_mono hev (fun v' s' p => ?_) fun _ _ e => e)
  obtain ⟨rfl, rfl⟩ := p
  obtain ⟨_, _, _, _, _, _, _, _, _, _, _, _, hC⟩ := C.cls
  exact load_attr hC C.ns C.no.1 hna hB (Lx.inst hn) hv hh (hq _)
end
end Mine

namespace Mine
section
variable {prog : Program} {w : World} {A : Around} {E : Value → Shared → Prop} {s : Shared} {X Y : List Addr} {env : Env} {k : Nat} {f : Fs} {s₀ : Shared} {hb h₀ : Heap} {mg mb mN : Str → Option Value}

theorem Dens.words {X X' : List Addr} {h h' : Heap} {vs} {l : List (List Nat)} (x : Dens X h vs (l.map fun l => D.str (T l))) : Dens X' h' vs (l.map fun l => D.str (T l)) := by
  have e : (l.map fun l => D.str (T l)) = (l.map T).map D.str := by rw [List.map_map]; rfl
  rw [e] at x ⊢
  exact x.strs

theorem nd_parts {a : LA} (nd : a.F.Nodup) : (a.x ≠ a.dx ∧ a.x ≠ a.pb ∧ a.x ≠ a.st ∧ a.x ≠ a.sd ∧ a.x ≠ a.rd ∧ a.x ≠ a.c1 ∧ a.x ≠ a.c2 ∧ a.x ≠ a.pl ∧ a.x ≠ a.cc) ∧ (a.dx ≠ a.pb ∧ a.dx ≠ a.st ∧ a.dx ≠ a.sd ∧ a.dx ≠ a.rd ∧ a.dx ≠ a.c1 ∧ a.dx ≠ a.c2 ∧ a.dx ≠ a.pl ∧ a.dx ≠ a.cc) ∧ (a.pb ≠ a.st ∧ a.pb ≠ a.sd ∧ a.pb ≠ a.rd ∧ a.pb ≠ a.c1 ∧ a.pb ≠ a.c2 ∧ a.pb ≠ a.pl ∧ a.pb ≠ a.cc) ∧ (a.st ≠ a.sd ∧ a.st ≠ a.rd ∧ a.st ≠ a.c1 ∧ a.st ≠ a.c2 ∧ a.st ≠ a.pl ∧ a.st ≠ a.cc) ∧ (a.sd ≠ a.rd ∧ a.sd ≠ a.c1 ∧ a.sd ≠ a.c2 ∧ a.sd ≠ a.pl ∧ a.sd ≠ a.cc) := by
  simp only [LA.F, List.nodup_cons, List.mem_cons, List.not_mem_nil, or_false, not_or, List.nodup_nil, and_true] at nd
  exact ⟨nd.1, nd.2.1, nd.2.2.1, nd.2.2.2.1, nd.2.2.2.2.1⟩

theorem LX.keep {a : LA} {text pos line push} {h h' : Heap} (x : LX a text pos line push h) (k : ∀ b ∈ a.F, ∀ o, h.get? b = some o → h'.get? b = some o) : LX a text pos line push h' := by
  have kF : ∀ b o, b ∈ a.F → h.get? b = some o → h'.get? b = some o := fun b o hb e => k b hb o e
  obtain ⟨o, e, r⟩ := x.ox
  obtain ⟨mA, t, tw, hn, r2⟩ := x.at_
  obtain ⟨vs, n, e3, d3⟩ := x.pb
  obtain ⟨o4, e4, r4⟩ := x.st
  obtain ⟨md, hmd, r5⟩ := x.sd
  obtain ⟨o6, qual, doc, pm, ct, cl, e6, r6, ⟨c7, oc, vs7, tq, q7, e7, d7⟩, r8⟩ := x.rx.rd
  obtain ⟨oc1, e9, d9⟩ := x.rx.c1
  obtain ⟨t2, oc2, e10, d10⟩ := x.rx.c2
  obtain ⟨n11, t11, e11⟩ := x.rx.pl
  cases q7
  refine ⟨⟨o, kF _ _ (by first | exact LA.m0 | exact LA.m1 | exact LA.m2 | exact LA.m3 | exact LA.m4 | exact LA.m5 | exact LA.m6 | exact LA.m7 | exact LA.m8 | exact LA.m9) e, r⟩, ⟨mA, t, tw, hn.at fun o e => kF _ _ (by first | exact LA.m0 | exact LA.m1 | exact LA.m2 | exact LA.m3 | exact LA.m4 | exact LA.m5 | exact LA.m6 | exact LA.m7 | exact LA.m8 | exact LA.m9) e, r2⟩, ⟨vs, n, kF _ _ (by first | exact LA.m0 | exact LA.m1 | exact LA.m2 | exact LA.m3 | exact LA.m4 | exact LA.m5 | exact LA.m6 | exact LA.m7 | exact LA.m8 | exact LA.m9) e3, d3.words⟩, ⟨o4, kF _ _ (by first | exact LA.m0 | exact LA.m1 | exact LA.m2 | exact LA.m3 | exact LA.m4 | exact LA.m5 | exact LA.m6 | exact LA.m7 | exact LA.m8 | exact LA.m9) e4, r4⟩, ⟨md, hmd.at' fun o e => kF _ _ (by first | exact LA.m0 | exact LA.m1 | exact LA.m2 | exact LA.m3 | exact LA.m4 | exact LA.m5 | exact LA.m6 | exact LA.m7 | exact LA.m8 | exact LA.m9) e, r5⟩,
    ⟨⟨o6, qual, doc, pm, ct, cl, kF _ _ (by first | exact LA.m0 | exact LA.m1 | exact LA.m2 | exact LA.m3 | exact LA.m4 | exact LA.m5 | exact LA.m6 | exact LA.m7 | exact LA.m8 | exact LA.m9) e6, r6, ⟨_, oc, vs7, tq, rfl, kF _ _ (by first | exact LA.m0 | exact LA.m1 | exact LA.m2 | exact LA.m3 | exact LA.m4 | exact LA.m5 | exact LA.m6 | exact LA.m7 | exact LA.m8 | exact LA.m9) e7, d7⟩, r8⟩, ⟨oc1, kF _ _ (by first | exact LA.m0 | exact LA.m1 | exact LA.m2 | exact LA.m3 | exact LA.m4 | exact LA.m5 | exact LA.m6 | exact LA.m7 | exact LA.m8 | exact LA.m9) e9, d9⟩, ⟨t2, oc2, kF _ _ (by first | exact LA.m0 | exact LA.m1 | exact LA.m2 | exact LA.m3 | exact LA.m4 | exact LA.m5 | exact LA.m6 | exact LA.m7 | exact LA.m8 | exact LA.m9) e10, d10⟩, ⟨n11, t11, kF _ _ (by first | exact LA.m0 | exact LA.m1 | exact LA.m2 | exact LA.m3 | exact LA.m4 | exact LA.m5 | exact LA.m6 | exact LA.m7 | exact LA.m8 | exact LA.m9) e11⟩, x.rx.ne⟩, x.nd⟩

theorem LX.reread {a : LA} {text pos pos' line push} {h h' : Heap} (x : LX a text pos line push h) (g : GB [a.pl] h h') (r : RX a text pos' h') : LX a text pos' line push h' := by
  have nd := nd_parts x.nd
  obtain ⟨⟨n1, n2, n3, n4, n5, n6, n7, n8, n9⟩, ⟨m1, m2, m3, m4, m5, m6, m7, m8⟩, ⟨p1, p2, p3, p4, p5, p6, p7⟩, ⟨q1, q2, q3, q4, q5, q6⟩, ⟨v1, v2, v3, v4, v5⟩⟩ := nd
  have k : ∀ b o, b ≠ a.pl → h.get? b = some o → h'.get? b = some o := fun b o hb e => g.one hb e
  obtain ⟨o, e, r0⟩ := x.ox
  obtain ⟨mA, t, tw, hn, r2⟩ := x.at_
  obtain ⟨vs, n, e3, d3⟩ := x.pb
  obtain ⟨o4, e4, r4⟩ := x.st
  obtain ⟨md, hmd, r5⟩ := x.sd
  exact ⟨⟨o, k _ _ n8 e, r0⟩, ⟨mA, t, tw, hn.at fun o e => k _ _ m7 e, r2⟩, ⟨vs, n, k _ _ p6 e3, d3.words⟩, ⟨o4, k _ _ q5 e4, r4⟩, ⟨md, hmd.at' fun o e => k _ _ v4 e, r5⟩, r, x.nd⟩

theorem LX.alive {a : LA} {text pos line push} {h : Heap} (Lx : LX a text pos line push h) : ∀ b ∈ a.F, ∃ o, h.get? b = some o := by
  intro b hb
  obtain ⟨o, e, _⟩ := Lx.ox
  obtain ⟨mA, t, tw, ⟨o2, _, _, e2, _⟩, _⟩ := Lx.at_
  obtain ⟨vs, n, e3, _⟩ := Lx.pb
  obtain ⟨o4, e4, _⟩ := Lx.st
  obtain ⟨md, ⟨o5, _, _, e5, _⟩, _⟩ := Lx.sd
  obtain ⟨o6, _, _, _, _, _, e6, _, ⟨c7, oc, _, _, q7, e7, _⟩, _⟩ := Lx.rx.rd
  obtain ⟨oc1, e9, _⟩ := Lx.rx.c1
  obtain ⟨t2, oc2, e10, _⟩ := Lx.rx.c2
  obtain ⟨n11, t11, e11⟩ := Lx.rx.pl
  cases q7
  simp only [LA.F, List.mem_cons, List.not_mem_nil, or_false] at hb
  rcases hb with q | q | q | q | q | q | q | q | q | q
  · exact q ▸ ⟨_, e⟩
  · exact q ▸ ⟨_, e2⟩
  · exact q ▸ ⟨_, e3⟩
  · exact q ▸ ⟨_, e4⟩
  · exact q ▸ ⟨_, e5⟩
  · exact q ▸ ⟨_, e6⟩
  · exact q ▸ ⟨_, e9⟩
  · exact q ▸ ⟨_, e10⟩
  · exact q ▸ ⟨_, e11⟩
  · exact q ▸ ⟨_, e7⟩

theorem code_read_char {a : LA} {text : List Nat} {pos : Nat} {line : Int} {push : List (List Nat)} {c : Nat} {R : Result → Shared → Prop} (U : Cu s₀ s mN a) (Lx : LX a text pos line push s.heap) (hc : text[pos]? = some c) (hsz : text.length ≤ 1000) (gd : Good (k + 2) A)
    (hQ : ∀ s' t', GB a.F s.heap s'.heap → s'.os = s.os → AllBare s'.gens → LX a text (pos + 1) (if c = 10 then line + 1 else line) push s'.heap → R (.ok (.ret (.str (T [c]) t'))) s') : codeAny (model prog w) A (.call (.ref 35) ⟨[.ref a.x], []⟩) R s := by
  have C := U.cl.keep U.base
  have lim := NoLimit.keep U.base U.lim
  obtain ⟨o, qual, doc, pm, cd, ct, ho, hcls, hdata, hcd⟩ := C.m1
  have hbind : bindArgs (PySem.W.fnX (defName (meth 1)) qual (defParams (meth 1)) (defBody (meth 1)) (defScope (meth 1)) [] .none .none doc pm none cd ct) ⟨[.ref a.x], []⟩ = pure [(Str.ofString "self", Value.ref a.x)] := by rfl
  have hnc : ∀ x ∈ (defScope (meth 1)).names, x.2 ≠ .cell := by decide
  refine codeAny_call_plain (body := defBody (meth 1)) (by have := gd.depth; lia) ho hdata lim hcd (by rfl) hbind hnc (fun y hy => by rw [List.mem_singleton.mp hy]; rfl) (fun h₁ hn hkeep => ?_) (by rfl) (by rfl) (by rfl)
  refine wpAny_mono (E := fun _ _ => False) ?_ (fun _ _ h => h) (fun _ _ h => h.elim)
  have g := gd.deeper (callEnv (PySem.W.fnX (defName (meth 1)) qual (defParams (meth 1)) (defBody (meth 1)) (defScope (meth 1)) [] .none .none doc pm none cd ct) s.heap.objs.size 35)
  obtain ⟨L, hLq⟩ : ∃ L, s.heap.objs.size = L := ⟨_, rfl⟩
  rw [hLq] at hn g ⊢
  have ok : EnvOk (callEnv (PySem.W.fnX (defName (meth 1)) qual (defParams (meth 1)) (defBody (meth 1)) (defScope (meth 1)) [] .none .none doc pm none cd ct) L 35) := ⟨rfl, rfl, rfl, fun p hp => nomatch hp⟩
  have kk : ∀ x, (callEnv (PySem.W.fnX (defName (meth 1)) qual (defParams (meth 1)) (defBody (meth 1)) (defScope (meth 1)) [] .none .none doc pm none cd ct) L 35).kindOf x = (defScope (meth 1)).names.lookup x := fun _ => rfl
  have hloc : (callEnv (PySem.W.fnX (defName (meth 1)) qual (defParams (meth 1)) (defBody (meth 1)) (defScope (meth 1)) [] .none .none doc pm none cd ct) L 35).locals = L := rfl
  obtain ⟨ev, hev⟩ : ∃ ev, callEnv (PySem.W.fnX (defName (meth 1)) qual (defParams (meth 1)) (defBody (meth 1)) (defScope (meth 1)) [] .none .none doc pm none cd ct) L 35 = ev := ⟨_, rfl⟩
  rw [hev] at ok hloc g ⊢
  replace kk : ∀ x, ev.kindOf x = (defScope (meth 1)).names.lookup x := hev ▸ kk
  obtain rfl : L = ev.locals := hloc.symm
  have hLf : s.heap.get? ev.locals = none := hLq ▸ fresh_addr s.heap
  have g1 : GB [] s.heap h₁ := fun b o _ e => hkeep b o e
  have Lx₁ : LX a text pos line push h₁ := Lx.keep fun b _ o e => hkeep b o e
  have U₁ : Cu s₀ { s with heap := h₁, toks := s.toks + 1 } mN a := U.to (g1.mono fun _ m => nomatch m) rfl U.bare
  have C₁ : CL h₁ mN := C.keep g1
  have alive := Lx.alive
  have neL : ∀ b ∈ a.F, ev.locals ≠ b := fun b hb q => by obtain ⟨o, e⟩ := alive b hb; rw [← q, hLf] at e; cases e
  obtain ⟨mA, tl, tw, hnA, hW, hA1, hA2, hA3, hA4⟩ := Lx₁.at_
  obtain ⟨o4, e4, c4, f4, d4⟩ := Lx₁.st
  obtain ⟨md, hmd, hrd⟩ := Lx₁.sd
  obtain ⟨o6, q6, doc6, pm6, ct6, cl6, e6, r6, _⟩ := Lx₁.rx.rd
  have hpos : pos ≤ text.length := by
    rcases Nat.lt_or_ge pos text.length with h | h
    · lia
    · rw [List.getElem?_eq_none h] at hc; cases hc
  have hself : ∀ (h : Heap) m tk px, h.Ns ev.locals m → m (Str.ofString "self") = some (.ref a.x) → ∀ A E, wpAny (model prog w) A (eval (.Name "self" px) ev) (fun v' s' => v' = .ref a.x ∧ s' = { s with heap := h, toks := tk }) E { s with heap := h, toks := tk } :=
    fun h m tk px hn hm A E => wpAny_Name (wpAny_loadName_local ok.kind (by first | rfl | exact kk _ | exact hp_of ok.kind) hn hm ⟨rfl, rfl⟩) (by decide)
  conv in execs _ _ => arg 1; whnf
  refine wpAny_execs_cons (wpAny_Assign_Name (wp_Call_meth (by first | rfl | exact kk _ | exact hp_of ok.kind) (by first | rfl | exact kk _ | exact hp_of ok.kind) (by first | rfl | exact kk _ | exact hp_of ok.kind) ?_) (by first | rfl | exact kk _ | exact hp_of ok.kind))
  refine wp_lexattr C₁ Lx₁ hnA hA2 C.no.2.2.2.2.1 FL.instream (by first | rfl | exact kk _ | exact hp_of ok.kind) (fun tk => ?_) (hself _ _ _ _ hn (by first | rfl | exact kk _ | exact hp_of ok.kind) _ _)
  refine getMethod_fnattr e4 c4 d4 f4 hmd hrd (by first | rfl | exact kk _ | exact hp_of ok.kind) ?_
  refine Calls.callWith_function (o := o6) (evalArgs_spliced (by first | rfl | exact kk _ | exact hp_of ok.kind) (wpAny_items_cons (wpAny_Constant_int (wpAny_items_nil ⟨⟨e6, r6⟩, ?_⟩))))
  refine wp_law_read (k := k) Lx₁.rx (NoLimit.keep g1 lim) g hsz hpos U₁.bare (U.dead _ (by first | exact LA.m0 | exact LA.m1 | exact LA.m2 | exact LA.m3 | exact LA.m4 | exact LA.m5 | exact LA.m6 | exact LA.m7 | exact LA.m8 | exact LA.m9)) U₁.base U₁.os fun s₂ t₂ gb₂ os₂ bare₂ R₂ => ?_
  have htk : (text.drop pos).take 1 = [c] := by
    have hlt : pos < text.length := by
      rcases Nat.lt_or_ge pos text.length with h | h
      · exact h
      · rw [List.getElem?_eq_none h] at hc; cases hc
    rw [List.drop_eq_getElem_cons hlt]
    rw [List.getElem?_eq_getElem hlt] at hc
    cases hc; rfl
  rw [htk]
  have Lx₂ := Lx₁.reread gb₂ R₂
  have nL2 : s₂.heap.Ns ev.locals _ := gb₂.ns (fun m => neL a.pl (by first | exact LA.m0 | exact LA.m1 | exact LA.m2 | exact LA.m3 | exact LA.m4 | exact LA.m5 | exact LA.m6 | exact LA.m7 | exact LA.m8 | exact LA.m9) (List.mem_singleton.mp m)) hn
  refine wpAny_storeName_local (by first | rfl | exact kk _ | exact hp_of ok.kind) nL2 (fun h₃ hn₃ hs₃ => ?_) (by first | rfl | exact kk _ | exact hp_of ok.kind)
  have hs₃ : Heap.SameBut ev.locals s₂.heap h₃ := hs₃
  have hn₃ : h₃.Ns ev.locals _ := hn₃
  have hL0 : s₀.heap.get? ev.locals = none := by
    cases q : s₀.heap.get? ev.locals with
    | none => rfl
    | some o => rw [U.base ev.locals o nil_mem q] at hLf; cases hLf
  have base₃ : GB [] s₀.heap h₃ := fun b o _ e => hs₃.extBut b o (fun q => by rw [q, hL0] at e; cases e) (gb₂.one (fun q => by rw [q, U.dead a.pl (by first | exact LA.m0 | exact LA.m1 | exact LA.m2 | exact LA.m3 | exact LA.m4 | exact LA.m5 | exact LA.m6 | exact LA.m7 | exact LA.m8 | exact LA.m9)] at e; cases e) (U₁.base b o nil_mem e))
  have Lx₃ : LX a text (pos + 1) line push h₃ := Lx₂.keep fun b hb o e => hs₃.extBut b o (fun q => neL b hb q.symm) e
  have C₃ : CL h₃ mN := U.cl.keep base₃
  have gF₃ : GB a.F s.heap h₃ := fun b o hb e => hs₃.extBut b o (fun q => by rw [q, hLf] at e; cases e) (gb₂.one (fun q => hb (q ▸ (by first | exact LA.m0 | exact LA.m1 | exact LA.m2 | exact LA.m3 | exact LA.m4 | exact LA.m5 | exact LA.m6 | exact LA.m7 | exact LA.m8 | exact LA.m9))) (hkeep b o e))
  refine wpAny_execs_cons (wpAny_If (wpAny_isTrue_Compare1 (wpAny_Name (wpAny_loadName_local ok.kind (by first | rfl | exact kk _ | exact hp_of ok.kind) hn₃ (v := .str (T [c]) t₂) (by first | rfl | exact kk _ | exact hp_of ok.kind) (wpAny_Constant_str (eq_str (wpAny_truthy_bool ?_)))) (by decide))))
  rw [show (T [c] == Str.ofString "\n") = decide (c = 10) from beq_T c 10]
  by_cases h10 : c = 10
  · subst h10
    simp only [decide_true, if_true] at hQ ⊢
    obtain ⟨mA₃, tl₃, tw₃, hnA₃, hW₃, hA1₃, hA2₃, hA3₃, hA4₃⟩ := Lx₃.at_
    obtain ⟨ox, eox, cox, dox, ddx⟩ := Lx₃.ox
    obtain ⟨_, _, _, _, _, _, _, _, _, _, _, _, hC⟩ := C₃.cls
    refine wpAny_execs_cons (wpAny_AugAssign_AttributeAny (wpAny_Name (wpAny_loadName_local ok.kind (by first | rfl | exact kk _ | exact hp_of ok.kind) hn₃ (v := .ref a.x) (by first | rfl | exact kk _ | exact hp_of ok.kind) (load_attr hC C₃.ns C.no.1 C.no.2.2.2.1 FL.lineno (Lx₃.inst hnA₃) hA1₃ (by first | rfl | exact kk _ | exact hp_of ok.kind) (wpAny_Constant_int (PyProof.Rows.iadd_int ?_)))) (by decide)))
    have hx52 : a.x ≠ 52 := fun q => by
      obtain ⟨_, _, _, _, _, _, _, _, _, _, _, _, h52⟩ := U.cl.cls
      rw [← q, U.dead a.x (by first | exact LA.m0 | exact LA.m1 | exact LA.m2 | exact LA.m3 | exact LA.m4 | exact LA.m5 | exact LA.m6 | exact LA.m7 | exact LA.m8 | exact LA.m9)] at h52; cases h52
    refine store_attr PySem.F.store_object hC C₃.ns C.no.2.2.1 C.no.2.2.2.1 FL.lineno hx52 (Lx₃.inst hnA₃) (fun h₄ tk₄ I₄ hk₄ hsame => ?_) hW₃ (by decide)
    have hk₄' : ∀ b o, b ≠ a.x → b ≠ a.dx → h₃.get? b = some o → h₄.get? b = some o := fun b o b1 b2 e => hk₄ b o b1 (fun o₀ dx q1 q2 => by rw [eox] at q1; cases q1; rw [ddx] at q2; cases q2; exact b2) e
    obtain ⟨ox₄, eox₄, cox₄, dox₄, _, ddx₄⟩ := hsame ox eox
    have nd := nd_parts Lx₃.nd
    obtain ⟨⟨n1, n2, n3, n4, n5, n6, n7, n8, n9⟩, ⟨m1, m2, m3, m4, m5, m6, m7, m8⟩, _⟩ := nd
    have Lx₄ : LX a text (pos + 1) (line + 1) push h₄ := by
      obtain ⟨o', e', _, _, hh⟩ := I₄
      rw [eox₄] at e'; cases e'
      rcases hh with ⟨hnone, _⟩ | ⟨d', hd', _, hns⟩
      · rw [ddx₄ a.dx ddx] at hnone; cases hnone
      · rw [ddx₄ a.dx ddx] at hd'; cases hd'
        obtain ⟨vs, n, e3, d3⟩ := Lx₃.pb
        obtain ⟨o4, e4, r4⟩ := Lx₃.st
        obtain ⟨md, hmd, r5⟩ := Lx₃.sd
        obtain ⟨o6, qual, doc, pm, ct, cl, e6, r6, ⟨c7, oc, vs7, tq, q7, e7, d7⟩, r8⟩ := Lx₃.rx.rd
        obtain ⟨oc1, e9, d9⟩ := Lx₃.rx.c1
        obtain ⟨t2, oc2, e10, d10⟩ := Lx₃.rx.c2
        obtain ⟨n11, t11, e11⟩ := Lx₃.rx.pl
        cases q7
        exact ⟨⟨ox₄, eox₄, cox₄.trans cox, fun c q => dox c (dox₄ ▸ q), ddx₄ a.dx ddx⟩, ⟨_, _, tw₃, hns, fun y hy => (by
            by_cases q : y = Str.ofString "lineno"
            · subst q; decide
            · exact hW₃ y (fun q' => hy (by dsimp only; rw [if_neg q]; exact q'))), by rfl, hA2₃, hA3₃, hA4₃⟩, ⟨vs, n, hk₄' _ _ (Ne.symm n2) (Ne.symm m1) e3, d3.words⟩, ⟨o4, hk₄' _ _ (Ne.symm n3) (Ne.symm m2) e4, r4⟩, ⟨md, hmd.at' fun o e => hk₄' _ _ (Ne.symm n4) (Ne.symm m3) e, r5⟩,
          ⟨⟨o6, qual, doc, pm, ct, cl, hk₄' _ _ (Ne.symm n5) (Ne.symm m4) e6, r6, ⟨_, oc, vs7, tq, rfl, hk₄' _ _ (Ne.symm n9) (Ne.symm m8) e7, d7⟩, r8⟩, ⟨oc1, hk₄' _ _ (Ne.symm n6) (Ne.symm m5) e9, d9⟩, ⟨t2, oc2, hk₄' _ _ (Ne.symm n7) (Ne.symm m6) e10, d10⟩, ⟨n11, t11, hk₄' _ _ (Ne.symm n8) (Ne.symm m7) e11⟩, Lx₃.rx.ne⟩, Lx₃.nd⟩
    have hn₄ : h₄.Ns ev.locals _ := hn₃.at' fun o e => hk₄' ev.locals o (neL a.x (by first | exact LA.m0 | exact LA.m1 | exact LA.m2 | exact LA.m3 | exact LA.m4 | exact LA.m5 | exact LA.m6 | exact LA.m7 | exact LA.m8 | exact LA.m9)) (neL a.dx (by first | exact LA.m0 | exact LA.m1 | exact LA.m2 | exact LA.m3 | exact LA.m4 | exact LA.m5 | exact LA.m6 | exact LA.m7 | exact LA.m8 | exact LA.m9)) e
    refine wpAny_execs_nil (wpAny_execs_cons (wpAny_Return_some (wpAny_Name (wpAny_loadName_local ok.kind (by first | rfl | exact kk _ | exact hp_of ok.kind) hn₄ (v := .str (T [10]) t₂) (by first | rfl | exact kk _ | exact hp_of ok.kind) ?_) (by decide))))
    exact hQ _ t₂ (fun b o hb e => hk₄' b o (fun q => hb (q ▸ (by first | exact LA.m0 | exact LA.m1 | exact LA.m2 | exact LA.m3 | exact LA.m4 | exact LA.m5 | exact LA.m6 | exact LA.m7 | exact LA.m8 | exact LA.m9))) (fun q => hb (q ▸ (by first | exact LA.m0 | exact LA.m1 | exact LA.m2 | exact LA.m3 | exact LA.m4 | exact LA.m5 | exact LA.m6 | exact LA.m7 | exact LA.m8 | exact LA.m9))) (gF₃ b o hb e)) os₂ bare₂ Lx₄
  · simp only [h10, decide_false, Bool.false_eq_true, if_false] at hQ ⊢
    refine wpAny_execs_nil (wpAny_execs_cons (wpAny_Return_some (wpAny_Name (wpAny_loadName_local ok.kind (by first | rfl | exact kk _ | exact hp_of ok.kind) hn₃ (v := .str (T [c]) t₂) (by first | rfl | exact kk _ | exact hp_of ok.kind) ?_) (by decide))))
    exact hQ _ t₂ gF₃ os₂ bare₂ Lx₃
theorem wp_read_char {a : LA} {text : List Nat} {pos : Nat} {line : Int} {push : List (List Nat)} {c : Nat} {Q : Value → Shared → Prop} (U : Cu s₀ s mN a) (Lx : LX a text pos line push s.heap) (hc : text[pos]? = some c) (hsz : text.length ≤ 1000) (gd : Good (k + 2) A)
    (hQ : ∀ s' t', GB a.F s.heap s'.heap → s'.os = s.os → AllBare s'.gens → LX a text (pos + 1) (if c = 10 then line + 1 else line) push s'.heap → Q (.str (T [c]) t') s') : wpAny (model prog w) A (call (.ref 35) [.ref a.x]) Q E s :=
  wpAny_call (code_read_char U Lx hc hsz gd hQ)
end
end Mine

namespace Mine
namespace FC
theorem slot_next : Slot "callable_iterator" "__next__" "callable_iterator.__next__" :=
  .of (owner := "callable_iterator") (n := "__next__") (by rw [typeLookup_type, builtinLookup_eq_fast]; kernel_rfl) (by decide +kernel) (by decide +kernel) (by decide +kernel)
    (by first | exact .inl (by decide +kernel) | exact .inr (by decide +kernel)) (by rw [isSubtype_type]; kernel_rfl)
theorem slot_iter : Slot "callable_iterator" "__iter__" "callable_iterator.__iter__" :=
  .of (owner := "callable_iterator") (n := "__iter__") (by rw [typeLookup_type, builtinLookup_eq_fast]; kernel_rfl) (by decide +kernel) (by decide +kernel) (by decide +kernel)
    (by first | exact .inl (by decide +kernel) | exact .inr (by decide +kernel)) (by rw [isSubtype_type]; kernel_rfl)
theorem entry_next : entryFor table "callable_iterator.__next__" = some Builtin.«callable_iterator.__next__» := entryFor_of_tree (by kernel_rfl)
theorem args_next (a : Value) : argsOk "callable_iterator.__next__" ⟨[a], []⟩ := by unfold argsOk; kernel_rfl
theorem args_iter (a : Value) : argsOk "callable_iterator.__iter__" ⟨[a], []⟩ := by unfold argsOk; kernel_rfl
end FC

section
variable {prog : Program} {w : World} {A : Around} {E : Value → Shared → Prop} {s : Shared} {X Y : List Addr} {env : Env} {k : Nat} {f : Fs} {s₀ : Shared} {hb h₀ : Heap} {mg mb mN : Str → Option Value}

/- the iterator over a method until an empty text -/
structure CI2 (h : Heap) (ci bm x : Addr) : Prop where
  ci : ∃ t, h.get? ci = some { cls := .type "callable_iterator", data := .fields #[.ref bm, .str Str.empty t, .bool false] }
  bm : h.get? bm = some { cls := .type "method", data := .fields #[.ref 35, .ref x] }
theorem wp_borrowed {M : Model} {fv : Value} {vs : List Value} {Q : Value → Shared → Prop} (hc : codeAny M A (.call fv ⟨vs, []⟩) (fun r s' => match r with | .ok (.ret v) => Q v s' | .ok _ => False | .error e => E e s') s) : wpAny M A (callBorrowed fv vs) Q E s := fun Γ p hΓ => by
  obtain ⟨r, s₁, h1, h2⟩ := hc _ p rfl (hΓ.enter (.call fv ⟨vs, []⟩) none p (by intro x; cases x))
  refine ⟨r, s₁, h1, ?_⟩
  rcases r with e | (v | _ | _ | _) <;> first | exact h2 | exact h2.elim

theorem next_ci {a : LA} {text : List Nat} {pos : Nat} {line : Int} {push : List (List Nat)} {c : Nat} {ci bm : Addr} {Q : Option Value → Shared → Prop} (I : CI2 s.heap ci bm a.x) (U : Cu s₀ s mN a) (Lx : LX a text pos line push s.heap) (hc : text[pos]? = some c) (hsz : text.length ≤ 1000) (gd : Good (k + 3) A)
    (hciF : ci ∉ a.F)
    (hQ : ∀ s' t', GB a.F s.heap s'.heap → s'.os = s.os → AllBare s'.gens → LX a text (pos + 1) (if c = 10 then line + 1 else line) push s'.heap → Q (some (.str (T [c]) t')) s') : wpAny (model prog w) A (pyNext (.ref ci)) Q E s := by
  obtain ⟨t, hci⟩ := I.ci
  have hT : s.TypeIs (.ref ci) "callable_iterator" := ⟨_, hci, rfl⟩
  obtain ⟨o35, q35, d35, pm35, cd35, ct35, h35, c35, f35, _⟩ := (U.cl.keep U.base).m1
  unfold pyNext
  refine wpAny_bind (wpAny_attempt (wpAny_callSpecial?_slot (name := Str.ofString "__next__") hT FC.slot_next (wpAny_call_entry FC.slot_next hT FC.entry_next ?_ (FC.args_next _))))
  unfold Builtin.«callable_iterator.__next__»
  refine wpAny_bind (wpAny_of_eq (a := (Value.ref ci, [])) (by rfl) ?_)
  dsimp only
  refine wpAny_bind (wpAny_field hci rfl (x := .bool false) rfl ?_)
  rw [if_neg (by decide)]
  refine wpAny_bind (wpAny_field hci rfl (x := .ref bm) rfl ?_)
  refine wpAny_bind (wpAny_attempt ?_)
  unfold callOutOfASlot
  have hbor : ∀ Q' : Bool → Shared → Prop, ∀ A' E', Q' true s → wpAny (model prog w) A' (borrowsExactly (.ref bm)) Q' E' s := by
    intro Q' A' E' hq
    unfold borrowsExactly
    refine wpAny_bind (wpAny_load I.bm ?_)
    dsimp only
    rw [if_pos (by decide)]
    refine wpAny_bind (wpAny_load h35 ?_)
    rw [f35]
    exact wpAny_pure hq
  refine wpAny_bind (hbor _ _ _ ?_)
  rw [if_pos rfl]
  refine wp_borrowed (codeAny_of_tree ?_)
  show wpAny _ _ (callAny (.ref bm) ⟨[], []⟩) _ _ s
  simp only [callAny]
  refine wpAny_bind (wpAny_load I.bm ?_)
  dsimp only
  refine wpAny_pure ⟨rfl, ?_⟩
  have g1 := gd.in1
  refine code_read_char (k := k) U Lx hc hsz ?_ fun s' t' gb os bare Lx' => ?_
  · exact ⟨g1.1, g1.2, g1.3⟩
  · have hci' : s'.heap.get? ci = some { cls := .type "callable_iterator", data := .fields #[.ref bm, .str Str.empty t, .bool false] } := gb _ _ hciF hci
    dsimp only
    refine wpAny_bind (wpAny_field hci' rfl (x := .bool false) rfl ?_)
    rw [if_neg (by decide)]
    refine wpAny_bind (wpAny_field hci' rfl (x := .str Str.empty t) rfl (wpAny_bind (wpAny_holding (eqBool_str ?_))))
    have hne : (Str.empty == T [c]) = false := by
      cases q : (Str.empty == T [c]) with
      | false => rfl
      | true =>
        have := eq_of_beq q
        simp [T, Str.empty] at this
    rw [hne]
    refine wpAny_pure ⟨_, rfl, wpAny_pure ?_⟩
    exact hQ s' t' gb os bare Lx'
end
end Mine

namespace Mine
namespace FL
theorem read_char : typeLookup (.type "object") "_read_char" = pure none := by rw [typeLookup_type, builtinLookup_eq_fast]; kernel_rfl
theorem get_token : typeLookup (.type "object") "get_token" = pure none := by rw [typeLookup_type, builtinLookup_eq_fast]; kernel_rfl
theorem push_token : typeLookup (.type "object") "push_token" = pure none := by rw [typeLookup_type, builtinLookup_eq_fast]; kernel_rfl
end FL

noncomputable def enc (e : Nat → Bool) (l : List Nat) : List Nat := l.flatMap fun c => if e c then [92, c] else [c]
noncomputable def nl (l : List Nat) : Int := (l.count 10 : Nat)

section
variable {prog : Program} {w : World} {A : Around} {E : Value → Shared → Prop} {s : Shared} {X Y : List Addr} {env : Env} {k : Nat} {f : Fs} {s₀ : Shared} {hb h₀ : Heap} {mg mb mN : Str → Option Value}

/- get_token while it reads: the lexer, the iterator -/
structure GL (s₀ : Shared) (mN : Str → Option Value) (a : LA) (L ci bm : Addr) (text : List Nat) (hE : Heap) (osE : OsState) (pos : Nat) (line : Int) (s : Shared) : Prop where
  lx : LX a text pos line [] s.heap
  cu : Cu s₀ s mN a
  it : CI2 s.heap ci bm a.x
  old : GB a.F hE s.heap
  os : s.os = osE
  ne : ci ∉ a.F ∧ bm ∉ a.F ∧ L ∉ a.F ∧ ci ≠ L ∧ bm ≠ L ∧ hE.get? L = none ∧ s₀.heap.get? L = none
theorem GL.read {s' : Shared} {a : LA} {L ci bm : Addr} {text : List Nat} {hE : Heap} {osE : OsState} {pos pos' : Nat} {line line' : Int} (I : GL s₀ mN a L ci bm text hE osE pos line s) (gb : GB a.F s.heap s'.heap) (os : s'.os = s.os) (bare : AllBare s'.gens) (lx : LX a text pos' line' [] s'.heap) : GL s₀ mN a L ci bm text hE osE pos' line' s' :=
  ⟨lx, I.cu.to gb os bare, ⟨by obtain ⟨t, e⟩ := I.it.ci; exact ⟨t, gb _ _ I.ne.1 e⟩, gb _ _ I.ne.2.1 I.it.bm⟩, I.old.trans gb, os.trans I.os, I.ne⟩
theorem GL.loc {a : LA} {L ci bm : Addr} {text : List Nat} {hE : Heap} {osE : OsState} {pos : Nat} {line : Int} {h' : Heap} {tk : Nat} (I : GL s₀ mN a L ci bm text hE osE pos line s) (hs : ∀ b o, b ≠ L → s.heap.get? b = some o → h'.get? b = some o) : GL s₀ mN a L ci bm text hE osE pos line { s with heap := h', toks := tk } :=
  ⟨I.lx.keep fun b hb o e => hs b o (fun q => I.ne.2.2.1 (q ▸ hb)) e, ⟨I.cu.cl, I.cu.lim, fun b o _ e => hs b o (fun q => by rw [q, I.ne.2.2.2.2.2.2] at e; cases e) (I.cu.base b o nil_mem e), I.cu.os, I.cu.bare, I.cu.dead⟩,
    ⟨by obtain ⟨t, e⟩ := I.it.ci; exact ⟨t, hs _ _ I.ne.2.2.2.1 e⟩, hs _ _ I.ne.2.2.2.2.1 I.it.bm⟩, fun b o hb e => hs b o (fun q => by rw [q, I.ne.2.2.2.2.2.1] at e; cases e) (I.old b o hb e), I.os, I.ne⟩

/- self._read_char() -/
theorem wp_self_read {a : LA} {text : List Nat} {pos : Nat} {line : Int} {c : Nat} {px apos ppos : Pos} {m : Str → Option Value} {Q : Value → Shared → Prop} (ok : EnvOk env) (hk : env.kindOf "self" = some .local) (hn : s.heap.Ns env.locals m) (hm : m "self" = some (.ref a.x)) (U : Cu s₀ s mN a) (Lx : LX a text pos line [] s.heap) (hc : text[pos]? = some c) (hsz : text.length ≤ 1000) (gd : Good (k + 2) A)
    (hline : (apos.endLine == ppos.line) = true)
    (hQ : ∀ s' t', GB a.F s.heap s'.heap → s'.os = s.os → AllBare s'.gens → LX a text (pos + 1) (if c = 10 then line + 1 else line) [] s'.heap → Q (.str (T [c]) t') s') :
    wpAny (model prog w) A (eval (.Call (.Attribute (.Name "self" px) "_read_char" apos) [] [] ppos) env) Q E s := by
  have C := U.cl.keep U.base
  obtain ⟨_, _, _, _, _, _, _, _, _, _, _, _, hC⟩ := C.cls
  obtain ⟨mA, tl, tw, hnA, hW, _⟩ := Lx.at_
  obtain ⟨o, qual, doc, pm, cd, ct, ho, hcls, hdata, hcd⟩ := C.m1
  refine wp_Call_meth (by rfl) (by rfl) hline (wpAny_Name (wpAny_loadName_local ok.kind hk hn hm ?_) (by decide))
  refine method_of hC C.ns C.no.1 C.no.2.1 C.fns.2.1 ho hcls FL.read_char (Lx.inst hnA) (not_lex hW (by decide)) ?_
  refine Calls.callWith_function (o := o) (evalArgs_spliced (by rfl) (wpAny_items_nil ⟨⟨ho, hdata⟩, ?_⟩))
  exact wp_read_char U Lx hc hsz gd hQ

noncomputable def TLI (s₀ : Shared) (mN : Str → Option Value) (a : LA) (L ci bm : Addr) (text : List Nat) (hE : Heap) (osE : OsState) (e : Nat → Bool) (term : Nat) (rest full : List Nat) (endp : Nat) (endl : Int) (n : Nat) (s : Shared) : Prop :=
  ∃ tok l pos line, n = l.length ∧ GL s₀ mN a L ci bm text hE osE pos line s ∧ (∃ m t, s.heap.Ns L m ∧ m "self" = some (.ref a.x) ∧ m "token" = some (.str (T tok) t)) ∧ text.drop pos = enc e l ++ term :: rest ∧ tok ++ l = full ∧ pos + (enc e l).length + 1 = endp ∧ line + nl (enc e l ++ [term]) = endl
theorem tok_loop {a : LA} {L ci bm : Addr} {text : List Nat} {hE : Heap} {osE : OsState} {test : Expr} {tm e : Nat → Bool} {term : Nat} {px p1 p2 p3 p4 p5 p6 p7 p8 p9 p0 q1 q2 q3 q4 q5 : Pos} {rest full : List Nat} {endp : Nat} {endl : Int} {R : Result → Shared → Prop} (ok : EnvOk env) (hL : env.locals = L) (gd : Good (k + 3) A) (hsz : text.length ≤ 1000) (hfull : full.length ≤ 1000)
    (kself : env.kindOf "self" = some .local) (kch : env.kindOf "ch" = some .local) (ktok : env.kindOf "token" = some .local) (hline : (q3.endLine == q4.line) = true)
    (htest : ∀ (pos : Nat) (line : Int) (c : Nat) (t : Tok) (m : Str → Option Value) (s : Shared) (E : Value → Shared → Prop), s.heap.Ns L m → m "self" = some (.ref a.x) → m "ch" = some (.str (T [c]) t) → LX a text pos line [] s.heap → Cu s₀ s mN a → wpAny (model prog w) A (isTrue test env (eval test env)) (fun b s' => b = tm c ∧ ∃ tk, s' = { s with toks := tk }) E s)
    (h1 : ∀ c, tm c = true → e c = true) (h2 : e 92 = true) (h3 : tm 92 = false) (h4 : tm term = true)
    (fin : ∀ t s', GL s₀ mN a L ci bm text hE osE endp endl s' → R (.ok (.ret (.str (T full) t))) s') 
    (tok l : List Nat) (pos : Nat) (line : Int) (I : GL s₀ mN a L ci bm text hE osE pos line s) (hn : ∃ m t, s.heap.Ns L m ∧ m "self" = some (.ref a.x) ∧ m "token" = some (.str (T tok) t)) (ht : text.drop pos = enc e l ++ term :: rest) (hf1 : tok ++ l = full) (hf2 : pos + (enc e l).length + 1 = endp) (hf3 : line + nl (enc e l ++ [term]) = endl) :
    codeAny (model prog w) A (.forLoop (.Name "ch" px) (.ref ci) [.If test [.Return (some (.Name "token" p1)) p2] [.If (.Compare (.Name "ch" p3) [.Eq] [.Constant (.str "\\") 0 p4] p5) [.Assign [.Name "ch" q1] (.Call (.Attribute (.Name "self" q2) "_read_char" q3) [] [] q4) q5] [] p6] p7, .AugAssign (.Name "token" p8) .Add (.Name "ch" p9) p0] [] env) R s := by
  subst hL
  refine codeAny_forLoop_any (TLI s₀ mN a env.locals ci bm text hE osE e term rest full endp endl) ?_ l.length ⟨tok, l, pos, line, rfl, I, hn, ht, hf1, hf2, hf3⟩
  clear I ht hf1 hf2 hf3 hn
  rintro n s ⟨tok, l, pos, line, rfl, I, ⟨m, t, hm, hms, hmt⟩, ht, hf1, hf2, hf3⟩
  have hget : ∀ p c r, text.drop p = c :: r → text[p]? = some c ∧ text.drop (p + 1) = r := fun p c r h => by
    have h0 : text[p]? = (text.drop p)[0]? := by simp
    refine ⟨by rw [h0, h]; rfl, ?_⟩
    have : text.drop (p + 1) = (text.drop p).drop 1 := by rw [List.drop_drop]
    rw [this, h]; rfl
  have heq : ∀ c, ((T [c]) == Str.ofString "\\") = decide (c = 92) := fun c => beq_T c 92
  have hLn : env.locals ∉ a.F := I.ne.2.2.1
  have htok : tok.length ≤ 1000 := by rw [← hf1] at hfull; simp at hfull; lia
  cases l with
  | nil =>
    have ht' : text.drop pos = term :: rest := ht
    obtain ⟨hc, _⟩ := hget pos term rest ht'
    refine next_ci I.it I.cu I.lx hc hsz gd I.ne.1 fun s₁ t₁ gb₁ os₁ bare₁ lx₁ => ?_
    have I₁ := I.read gb₁ os₁ bare₁ lx₁
    refine wpAny_pure (wpAny_assign_Name (wpAny_storeName_local kch (gb₁.ns hLn hm) (fun h₂ hm₂ hs₂ => ?_) (hp_of ok.kind)))
    have I₂ := I₁.loc (tk := s₁.toks + 1) hs₂.extBut
    refine wpAny_execs_cons (wpAny_If (wpAny_mono (htest _ _ term t₁ _ _ _ hm₂ hms (by rfl) I₂.lx I₂.cu) (fun b s₃ p => ?_) fun _ _ e => e))
    obtain ⟨rfl, tk₃, rfl⟩ := p
    rw [h4, if_pos rfl]
    refine wpAny_execs_cons (wpAny_Return_some (wpAny_Name (wpAny_loadName_local ok.kind ktok hm₂ hmt ?_) (by decide)))
    have e1 : tok = full := by simpa using hf1
    have e2 : pos + 1 = endp := by simpa [enc] using hf2
    have e3 : (if term = 10 then line + 1 else line) = endl := by
      rw [← hf3]; simp only [enc, nl, List.flatMap_nil, List.nil_append]
      by_cases q : term = 10
      · subst q; simp
      · rw [if_neg q, List.count_cons_of_ne (by simpa using q)]; simp
    rw [e1]
    exact fin _ _ (e2 ▸ e3 ▸ I₂.loc (tk := tk₃) fun _ _ _ e => e)
  | cons c l =>
    have hlen : tok.length + 1 ≤ 1000 := by rw [← hf1] at hfull; simp at hfull; lia
    have step : ∀ (s₉ : Shared) (h : Heap) (m₉ : Str → Option Value) (tk : Nat) (t₉ : Tok) (p₉ : Nat) (l₉ : Int) (E' : Value → Shared → Prop) (Q : Flow → Shared → Prop), s₉ = s₉ → h = s₉.heap → s₉.heap.Ns env.locals m₉ → m₉ "token" = some (.str (T tok) t) → m₉ "ch" = some (.str (T [c]) t₉) → 
        (∀ h' tk' tt, h'.Ns env.locals (fun y => if y = Str.ofString "token" then some (.str (T (tok ++ [c])) tt) else m₉ y) → Heap.SameBut env.locals s₉.heap h' → Q .next { s₉ with heap := h', toks := tk' }) →
        wpAny (model prog w) A (execs [.AugAssign (.Name "token" p8) .Add (.Name "ch" p9) p0] env) Q E' s₉ := by
      intro s₉ h m₉ tk t₉ p₉ l₉ E' Q _ _ hm₉ e1 e2 hQ
      refine wpAny_execs_cons (wpAny_AugAssign_Name (wpAny_loadName_local ok.kind ktok hm₉ e1 (wpAny_Name (wpAny_loadName_local ok.kind kch hm₉ e2 (iadd_str (fun t' tk' => ?_) (by rw [T_length, T_length]; unfold sizeLine; simp only [List.length_singleton]; lia))) (by decide))))
      rw [T_append]
      exact wpAny_storeName_local ktok hm₉ (fun h' hm' hs' => wpAny_execs_nil (hQ h' _ _ hm' hs')) (hp_of ok.kind)
    cases hec : e c with
    | false =>
      have ht' : text.drop pos = c :: (enc e l ++ term :: rest) := by
        rw [ht]; show (if e c then [92, c] else [c]) ++ enc e l ++ _ = _
        rw [hec]; rfl
      obtain ⟨hc, ht2⟩ := hget pos c _ ht'
      have htm : tm c = false := by
        cases q : tm c with
        | false => rfl
        | true => rw [h1 c q] at hec; cases hec
      have h92 : c ≠ 92 := fun q => by rw [q, h2] at hec; cases hec
      refine next_ci I.it I.cu I.lx hc hsz gd I.ne.1 fun s₁ t₁ gb₁ os₁ bare₁ lx₁ => ?_
      have I₁ := I.read gb₁ os₁ bare₁ lx₁
      refine wpAny_pure (wpAny_assign_Name (wpAny_storeName_local kch (gb₁.ns hLn hm) (fun h₂ hm₂ hs₂ => ?_) (hp_of ok.kind)))
      have I₂ := I₁.loc (tk := s₁.toks + 1) hs₂.extBut
      refine wpAny_execs_cons (wpAny_If (wpAny_mono (htest _ _ c t₁ _ _ _ hm₂ hms (by rfl) I₂.lx I₂.cu) (fun b s₃ p => ?_) fun _ _ e => e))
      obtain ⟨rfl, tk₃, rfl⟩ := p
      rw [htm, if_neg (by decide)]
      refine wpAny_execs_cons (wpAny_If (wpAny_isTrue_Compare1 (wpAny_Name (wpAny_loadName_local ok.kind kch hm₂ (v := .str (T [c]) t₁) (by rfl) (wpAny_Constant_str (eq_str (wpAny_truthy_bool ?_)))) (by decide))))
      rw [heq, decide_eq_false h92, if_neg (by decide)]
      refine wpAny_execs_nil (wpAny_execs_nil ?_)
      refine step _ _ _ 0 t₁ 0 0 _ _ rfl rfl hm₂ hmt (by rfl) fun h₄ tk₄ tt hm₄ hs₄ => ?_
      refine ⟨l.length, by simp, tok ++ [c], l, pos + 1, _, rfl, I₂.loc (tk := tk₄) hs₄.extBut, ⟨_, tt, hm₄, hms, by rfl⟩, ht2, by simpa using hf1, ?_, ?_⟩
      · have : (enc e (c :: l)).length = 1 + (enc e l).length := by
          show ((if e c then [92, c] else [c]) ++ enc e l).length = _
          rw [hec]; simp; lia
        lia
      · rw [← hf3]
        have : enc e (c :: l) = c :: enc e l := by
          show ((if e c then [92, c] else [c]) ++ enc e l) = _
          rw [hec]; rfl
        rw [this]
        simp only [nl, List.cons_append]
        by_cases q : c = 10
        · subst q; simp; lia
        · rw [if_neg q, List.count_cons_of_ne (by simpa using q)]
    | true =>
      have ht' : text.drop pos = 92 :: c :: (enc e l ++ term :: rest) := by
        rw [ht]; show (if e c then [92, c] else [c]) ++ enc e l ++ _ = _
        rw [hec]; rfl
      obtain ⟨hc, ht2⟩ := hget pos 92 _ ht'
      obtain ⟨hc2, ht3⟩ := hget (pos + 1) c _ ht2
      refine next_ci I.it I.cu I.lx hc hsz gd I.ne.1 fun s₁ t₁ gb₁ os₁ bare₁ lx₁ => ?_
      have I₁ := I.read gb₁ os₁ bare₁ lx₁
      refine wpAny_pure (wpAny_assign_Name (wpAny_storeName_local kch (gb₁.ns hLn hm) (fun h₂ hm₂ hs₂ => ?_) (hp_of ok.kind)))
      have I₂ := I₁.loc (tk := s₁.toks + 1) hs₂.extBut
      refine wpAny_execs_cons (wpAny_If (wpAny_mono (htest _ _ 92 t₁ _ _ _ hm₂ hms (by rfl) I₂.lx I₂.cu) (fun b s₃ p => ?_) fun _ _ e => e))
      obtain ⟨rfl, tk₃, rfl⟩ := p
      rw [h3, if_neg (by decide)]
      refine wpAny_execs_cons (wpAny_If (wpAny_isTrue_Compare1 (wpAny_Name (wpAny_loadName_local ok.kind kch hm₂ (v := .str (T [92]) t₁) (by rfl) (wpAny_Constant_str (eq_str (wpAny_truthy_bool ?_)))) (by decide))))
      rw [heq, decide_eq_true rfl, if_pos rfl]
      have I₃ := I₂.loc (tk := tk₃ + 1) fun _ _ _ e => e
      refine wpAny_execs_cons (wpAny_Assign_Name (wp_self_read (k := k + 1) ok kself hm₂ hms I₃.cu I₃.lx hc2 hsz gd hline fun s₄ t₄ gb₄ os₄ bare₄ lx₄ => ?_) (by rfl))
      have I₄ := I₃.read gb₄ os₄ bare₄ lx₄
      refine wpAny_storeName_local kch (gb₄.ns hLn hm₂) (fun h₅ hm₅ hs₅ => ?_) (hp_of ok.kind)
      have I₅ := I₄.loc (tk := s₄.toks + 1) hs₅.extBut
      refine wpAny_execs_nil (wpAny_execs_nil ?_)
      refine step _ _ _ 0 t₄ 0 0 _ _ rfl rfl hm₅ hmt (by rfl) fun h₆ tk₆ tt hm₆ hs₆ => ?_
      refine ⟨l.length, by simp, tok ++ [c], l, pos + 1 + 1, _, rfl, I₅.loc (tk := tk₆) hs₆.extBut, ⟨_, tt, hm₆, hms, by rfl⟩, ht3, by simpa using hf1, ?_, ?_⟩
      · have : (enc e (c :: l)).length = 2 + (enc e l).length := by
          show ((if e c then [92, c] else [c]) ++ enc e l).length = _
          rw [hec]; simp; lia
        lia
      · rw [← hf3]
        have : enc e (c :: l) = 92 :: c :: enc e l := by
          show ((if e c then [92, c] else [c]) ++ enc e l) = _
          rw [hec]; rfl
        rw [this]
        simp only [nl, List.cons_append]
        have e92 : (if (92 : Nat) = 10 then line + 1 else line) = line := if_neg (by decide)
        rw [List.count_cons_of_ne (show (92 : Nat) ≠ 10 by decide), e92]
        by_cases q : c = 10
        · subst q; simp; lia
        · rw [if_neg q, List.count_cons_of_ne (by simpa using q)]
end
end Mine

namespace Mine
namespace FF
theorem lk_get : typeLookup (.type "function") "__get__" = pure (some (.builtin "function.__get__")) := by rw [typeLookup_type, builtinLookup_eq_fast]; kernel_rfl
theorem lk_set : typeLookup (.type "function") "__set__" = pure none := by rw [typeLookup_type, builtinLookup_eq_fast]; kernel_rfl
theorem lk_delete : typeLookup (.type "function") "__delete__" = pure none := by rw [typeLookup_type, builtinLookup_eq_fast]; kernel_rfl
end FF
section
variable {prog : Program} {w : World} {A : Around} {E : Value → Shared → Prop} {h : Heap} {g : Array GenState} {d : Drawn} {t : Nat} {os : OsState}
variable {nm q : Str} {C N x : Addr} {bs : List Value} {sn : List Str} {sub : List Value} {ab : Bool} {col : Option Bool} {dd : Option Addr} {k0 k1 k2 k3 k5 : Option Value} {newId : String}
  {mN mA : Str → Option Value} {v : Value}
set_option tactic.hygienic true in
theorem load_bound {expr : Bool} {f : Addr} {of : Obj} {Q : Value → Shared → Prop}
    (hC : h.get? C = some (excClassObj nm q C N bs [.type "object"] true sn sub ab col dd k0 k1 k2 k3 k5 newId)) (hn : h.Ns N mN) (hng : mN "__getattribute__" = none) (hnh : mN "__getattr__" = none) (hf : mN "_read_char" = some (.ref f)) (hfo : h.get? f = some of) (hfc : of.cls = .type "function")
    (I : h.Inst x C mA) (hsh : mA "_read_char" = none) (hq : Q (.ref h.objs.size) ⟨h.push { cls := .type "method", data := .fields #[.ref f, .ref x] }, g, d, t + 1, os⟩) :
    wpAny (model prog w) A (getAttr (.ref x) "_read_char" expr) Q E ⟨h, g, d, t, os⟩ := by
  obtain ⟨o, hx, hc, hnc, hd⟩ := id I
  have hT : ∀ t, (⟨h, g, d, t, os⟩ : Shared).TypeIs (.ref f) "function" := fun t => ⟨_, hfo, hfc⟩
  have hT1 := hT (t + 1)
  have f1 := FF.lk_get
  have f2 := FF.lk_set
  have f3 := FF.lk_delete
  have X : PySem.W.Frag.In [(f, of)] h := by
    intro a o e
    simp only [List.lookup_cons, List.lookup_nil] at e
    split at e
    · rename_i q; cases e; rw [beq_iff_eq.mp q]; exact hfo
    · cases e
  have hp : PySem.W.typeIn [(f, of)] (.ref f) = some (.type "function") := by
    simp [PySem.W.typeIn, hfc]
  unfold getAttr getAttrBy
  repeat (first | (with_reducible refine wpAny_loadPart_at hx ?_; rw [hc]) | (with_reducible refine wpAny_typeLookup_exc hC hn F.mro_object F.lk_object_ga ?_; rw [hng]) | wp_step)
  show wpAny _ _ ((runValue (.builtin "proto.getattr_hooked" ⟨[.ref x, .str "_read_char" t], []⟩)).onRaise (noteIf true (.ref x) (.str "_read_char" t))) _ _ _
  refine wpAny_onRaise (wpAny_runValue (codeAny_builtin F.plainObj_entry_getattr_hooked ?_))
  unfold Builtin.«proto.getattr_hooked»
  repeat (first | (with_reducible refine wpAny_loadPart_at hx ?_; rw [hc]) | (with_reducible refine wpAny_typeLookup_exc hC hn F.mro_object FL.read_char ?_; rw [hf]) | wp_step)
  split
  · rename_i c hcd
    exact absurd hcd (hnc c)
  unfold instanceDict
  repeat (first | (with_reducible refine wpAny_loadPart_at hx ?_; rw [hc]) | with_reducible refine wpAny_loadPart_at hC ?_ | wp_step)
  rcases hd with ⟨hdn, _⟩ | ⟨dx, hdx, hne, hns⟩
  · rw [hdn]
    repeat (first | (with_reducible refine wpAny_loadPart_at hx ?_; rw [hc]) | with_reducible refine wpAny_loadPart_at hC ?_ | (with_reducible refine wpAny_typeLookup_exc hC hn F.mro_object F.lk_object_getattr ?_; rw [hnh]) | wp_step)
    refine PySem.W.fn_get (s := ⟨h, g, d, t + 1, os⟩) X hp (wpAny_pure ?_)
    exact wpAny_pure hq
  · rw [hdx]
    repeat (first | (with_reducible refine wpAny_nsGet hns.ns ?_; rw [hsh]) | (with_reducible refine wpAny_typeLookup_exc hC hn F.mro_object F.lk_object_getattr ?_; rw [hnh]) | wp_step)
    refine PySem.W.fn_get (s := ⟨h, g, d, t + 1, os⟩) X hp (wpAny_pure ?_)
    exact wpAny_pure hq
end
end Mine

namespace Mine
namespace FC
theorem lk_call : typeLookup (.type "method") "__call__" = pure (some (.builtin "method.__call__")) := by rw [typeLookup_type, builtinLookup_eq_fast]; kernel_rfl
theorem args_iter2 (a b : Value) : argsOk "iter" ⟨[a, b], []⟩ := by unfold argsOk; kernel_rfl
theorem entry_iter : entryFor table "callable_iterator.__iter__" = some Builtin.«dict_keyiterator.__iter__» :=
  entryFor_alias (id' := "dict_keyiterator.__iter__") (by kernel_rfl) rfl (by decide +kernel) (by kernel_rfl)
end FC
section
variable {prog : Program} {w : World} {A : Around} {E : Value → Shared → Prop} {s : Shared}
theorem wp_pyIter_ci {ci : Addr} {Q : Value → Shared → Prop} (hT : s.TypeIs (.ref ci) "callable_iterator") (h : Q (.ref ci) s) : wpAny (model prog w) A (pyIter (.ref ci)) Q E s := by
  refine wpAny_pyIter_slot hT FC.slot_iter (wpAny_call_entry FC.slot_iter hT FC.entry_iter ?_ (FC.args_iter _))
  show wpAny _ _ (ret (.ref ci)) _ _ s
  exact wpAny_pure ⟨_, rfl, "callable_iterator", _, hT, FC.slot_next.lookup, h⟩

theorem wp_iter2 {bm : Addr} {x : Str} {t : Tok} {Q : Value → Shared → Prop} (hT : s.TypeIs (.ref bm) "method")
    (h : Q (.ref s.heap.objs.size) { s with heap := s.heap.push { cls := .type "callable_iterator", data := .fields #[.ref bm, .str x t, .bool false] } }) : wpAny (model prog w) A (call (.builtin "iter") [.ref bm, .str x t]) Q E s := by
  refine Calls.call_function_entry (by decide +kernel) (by decide +kernel) PySem.W.kdk_entry_iter (FC.args_iter2 _ _) ?_
  unfold Builtin.«iter»
  refine wpAny_bind (m := someArgs "iter" 1 2 _) (wpAny_of_eq (a := [Value.ref bm, .str x t]) (by first | rfl | kernel_rfl!) ?_)
  dsimp only
  refine wpAny_bind (wpAny_specialOf (name := Str.ofString "__call__") hT FC.lk_call ?_)
  refine wpAny_ite_split (fun hab => absurd hab (by decide)) (fun _ => ?_)
  refine wpAny_bind (wpAny_rule ?_)
  simp only [newFields]
  exact wpAny_bind (wpAny_newObj_type (wpAny_pure ⟨_, rfl, h⟩) (by size_fits))
end
end Mine

namespace Mine
section
variable {prog : Program} {w : World} {A : Around} {E : Value → Shared → Prop} {s : Shared} {X Y : List Addr} {env : Env} {k : Nat} {f : Fs} {s₀ : Shared} {hb h₀ : Heap} {mg mb mN : Str → Option Value}

theorem written_bare {n : Nat} (h : bareOf n = true) : written n = enc (esc true) (octets n) ++ [10] := by unfold written; rw [h]; rfl
theorem written_quoted {n : Nat} (h : bareOf n = false) : written n = 34 :: (enc (esc false) (octets n) ++ [34]) := by unfold written; rw [h]; rfl
theorem written_len (n : Nat) (h : n < 262144) : (written n).length ≤ 8 := by
  have h1 := escd_len true (octets n)
  have h2 := escd_len false (octets n)
  have h3 := octets_len n h
  unfold written
  split <;> simp <;> lia

noncomputable def GP (s₀ : Shared) (mN : Str → Option Value) (a : LA) (L ci bm : Addr) (text : List Nat) (hE : Heap) (osE : OsState) (c0 : Nat) (l rest : List Nat) (pos : Nat) (line : Int) (fl : Flow) (s' : Shared) : Prop :=
  fl = .next ∧ ∃ p₉ l₉ m t t', GL s₀ mN a L ci bm text hE osE p₉ l₉ s' ∧ s'.heap.Ns L m ∧ m "token" = some (.str (T []) t) ∧ m "ch" = some (.str (T [c0]) t') ∧ m "self" = some (.ref a.x) ∧ m "fiter" = some (.ref ci) ∧ text.drop p₉ = enc (esc true) l ++ 10 :: rest ∧       p₉ + (enc (esc true) l).length + 1 = pos + (enc (esc true) (c0 :: l) ++ [10]).length ∧ l₉ + nl (enc (esc true) l ++ [10]) = line + nl (enc (esc true) (c0 :: l) ++ [10])
theorem code_get_read {a : LA} {text : List Nat} {pos : Nat} {line : Int} {rest : List Nat} {R : Result → Shared → Prop} (U : Cu s₀ s mN a) (Lx : LX a text pos line [] s.heap) (n : Nat) (hn : n < 262144) (ht : text.drop pos = written n ++ rest) (hsz : text.length ≤ 1000) (gd : Good (k + 4) A)
    (G : GF s₀.heap mg mb) (hiter : mg "iter" = none ∧ mb "iter" = some (.builtin "iter"))
    (hQ : ∀ s' t', GB a.F s.heap s'.heap → s'.os = s.os → AllBare s'.gens → LX a text (pos + (written n).length) (line + nl (written n)) [] s'.heap → R (.ok (.ret (.str (T (octets n)) t'))) s') :
    codeAny (model prog w) A (.call (.ref 42) ⟨[.ref a.x], []⟩) R s := by
  have C := U.cl.keep U.base
  have lim := NoLimit.keep U.base U.lim
  obtain ⟨o, qual, doc, pm, cd, ct, ho, hcls, hdata, hcd⟩ := C.m2
  have hbind : bindArgs (PySem.W.fnX (defName (meth 2)) qual (defParams (meth 2)) (defBody (meth 2)) (defScope (meth 2)) [] .none .none doc pm none cd ct) ⟨[.ref a.x], []⟩ = pure [(Str.ofString "self", Value.ref a.x)] := by rfl
  have hnc : ∀ x ∈ (defScope (meth 2)).names, x.2 ≠ .cell := by decide
  refine codeAny_call_plain (body := defBody (meth 2)) (by have := gd.depth; lia) ho hdata lim hcd (by rfl) hbind hnc (fun y hy => by rw [List.mem_singleton.mp hy]; rfl) (fun h₁ hn₁ hkeep => ?_) (by rfl) (by rfl) (by rfl)
  refine wpAny_mono (E := fun _ _ => False) ?_ (fun _ _ h => h) (fun _ _ h => h.elim)
  have g := gd.deeper (callEnv (PySem.W.fnX (defName (meth 2)) qual (defParams (meth 2)) (defBody (meth 2)) (defScope (meth 2)) [] .none .none doc pm none cd ct) s.heap.objs.size 42)
  obtain ⟨L, hLq⟩ : ∃ L, s.heap.objs.size = L := ⟨_, rfl⟩
  rw [hLq] at hn₁ g ⊢
  have ok : EnvOk (callEnv (PySem.W.fnX (defName (meth 2)) qual (defParams (meth 2)) (defBody (meth 2)) (defScope (meth 2)) [] .none .none doc pm none cd ct) L 42) := ⟨rfl, rfl, rfl, fun p hp => nomatch hp⟩
  have kk : ∀ x, (callEnv (PySem.W.fnX (defName (meth 2)) qual (defParams (meth 2)) (defBody (meth 2)) (defScope (meth 2)) [] .none .none doc pm none cd ct) L 42).kindOf x = (defScope (meth 2)).names.lookup x := fun _ => rfl
  have hloc : (callEnv (PySem.W.fnX (defName (meth 2)) qual (defParams (meth 2)) (defBody (meth 2)) (defScope (meth 2)) [] .none .none doc pm none cd ct) L 42).locals = L := rfl
  obtain ⟨ev, hev⟩ : ∃ ev, callEnv (PySem.W.fnX (defName (meth 2)) qual (defParams (meth 2)) (defBody (meth 2)) (defScope (meth 2)) [] .none .none doc pm none cd ct) L 42 = ev := ⟨_, rfl⟩
  rw [hev] at ok hloc g ⊢
  replace kk : ∀ x, ev.kindOf x = (defScope (meth 2)).names.lookup x := hev ▸ kk
  obtain rfl : L = ev.locals := hloc.symm
  have hLf : s.heap.get? ev.locals = none := hLq ▸ fresh_addr s.heap
  have hL0 : s₀.heap.get? ev.locals = none := by
    cases q : s₀.heap.get? ev.locals with
    | none => rfl
    | some o => rw [U.base ev.locals o nil_mem q] at hLf; cases hLf
  have g1 : GB [] s.heap h₁ := fun b o _ e => hkeep b o e
  have neL : ∀ b ∈ a.F, ev.locals ≠ b := fun b hb q => by obtain ⟨o, e⟩ := Lx.alive b hb; rw [← q, hLf] at e; cases e
  have Lx₁ : LX a text pos line [] h₁ := Lx.keep fun b _ o e => hkeep b o e
  have C₁ : CL h₁ mN := C.keep g1
  obtain ⟨mA, tl, tw, hnA, hW, hA1, hA2, hA3, hA4⟩ := Lx₁.at_
  obtain ⟨vs, n1, e3, d3⟩ := Lx₁.pb
  have hvs : vs = [] := by cases d3; rfl
  subst hvs
  have hself : ∀ (s' : Shared) m px, s'.heap.Ns ev.locals m → m (Str.ofString "self") = some (.ref a.x) → ∀ A E, wpAny (model prog w) A (eval (.Name "self" px) ev) (fun v' s'' => v' = .ref a.x ∧ s'' = s') E s' :=
    fun s' m px hn hm A E => wpAny_Name (wpAny_loadName_local ok.kind (by first | rfl | exact kk _ | exact hp_of ok.kind) hn hm ⟨rfl, rfl⟩) (by decide)
  conv in execs _ _ => arg 1; whnf
  refine wpAny_execs_cons (wpAny_If (wpAny_isTrue_value (wp_lexattr C₁ Lx₁ hnA hA4 C.no.2.2.2.2.2.2 FL.pushback (by first | rfl | exact kk _ | exact hp_of ok.kind) (fun tk => ?_) (hself _ _ _ hn₁ (by first | rfl | exact kk _ | exact hp_of ok.kind) _ _)) (by first | rfl | exact kk _ | exact hp_of ok.kind)))
  refine wpAny_truthy_list (items := #[]) ⟨_, e3, rfl, n1, rfl⟩ (by decide) ?_
  rw [if_neg (by decide)]
  refine wpAny_execs_nil ?_
  refine wpAny_execs_cons (wpAny_Assign_Name (wpAny_Constant_str (wpAny_storeName_local (by first | rfl | exact kk _ | exact hp_of ok.kind) hn₁ (fun h₂ hn₂ hs₂ => ?_) (by first | rfl | exact kk _ | exact hp_of ok.kind))) (by first | rfl | exact kk _ | exact hp_of ok.kind))
  have hs₂ : Heap.SameBut ev.locals h₁ h₂ := hs₂
  have hn₂ : h₂.Ns ev.locals _ := hn₂
  have base₂ : GB [] s₀.heap h₂ := fun b o _ e => hs₂.extBut b o (fun q => by rw [q, hL0] at e; cases e) (hkeep b o (U.base b o nil_mem e))
  have Lx₂ : LX a text pos line [] h₂ := Lx₁.keep fun b hb o e => hs₂.extBut b o (fun q => neL b hb q.symm) e
  have C₂ : CL h₂ mN := U.cl.keep base₂
  have G₂ : GF h₂ mg mb := ⟨G.g.keeps fun b o e => base₂ b o nil_mem e, G.b.keeps fun b o e => base₂ b o nil_mem e⟩
  obtain ⟨mA₂, tl₂, tw₂, hnA₂, hW₂, hA1₂, hA2₂, hA3₂, hA4₂⟩ := Lx₂.at_
  obtain ⟨_, _, _, _, _, _, _, _, _, _, _, _, hC⟩ := C₂.cls
  obtain ⟨o35, _, _, _, _, _, h35, c35, _, _⟩ := C₂.m1
  refine wpAny_execs_cons (wpAny_Assign_Name (wp_Call_builtin (wp_glob' ok G₂ ⟨(by first | rfl | exact kk _), .inr hiter, by rfl⟩ ⟨rfl, wpAny_items_cons (wp_Attr (by first | rfl | exact kk _ | exact hp_of ok.kind) (wpAny_Name (wpAny_loadName_local ok.kind (by first | rfl | exact kk _ | exact hp_of ok.kind) hn₂ (v := .ref a.x) (by first | rfl | exact kk _ | exact hp_of ok.kind) (load_bound hC C₂.ns C.no.1 C.no.2.1 C.fns.2.1 h35 c35 (Lx₂.inst hnA₂) (not_lex hW₂ (by decide)) (wpAny_items_cons (wpAny_Constant_str (wpAny_items_nil ?_))))) (by decide)))⟩) (by first | rfl | exact kk _ | exact hp_of ok.kind)) (by first | rfl | exact kk _ | exact hp_of ok.kind))
  refine wp_iter2 ⟨_, Heap.get?_push_size _ rfl, rfl⟩ ?_
  dsimp only
  have hbm := Heap.get?_push_size h₂ (o := { cls := .type "method", data := .fields #[.ref 35, .ref a.x] }) rfl
  have kbm : ∀ b o, h₂.get? b = some o → (h₂.push { cls := .type "method", data := .fields #[.ref 35, .ref a.x] }).get? b = some o := fun b o e => Heap.get?_push_of_some _ e
  have sbm : (h₂.push { cls := .type "method", data := .fields #[.ref 35, .ref a.x] }).objs.size = h₂.objs.size + 1 := Heap.size_push ..
  obtain ⟨h₃, eh₃⟩ : ∃ h, h₂.push { cls := .type "method", data := .fields #[.ref 35, .ref a.x] } = h := ⟨_, rfl⟩
  rw [eh₃] at hbm sbm ⊢
  replace kbm : ∀ b o, h₂.get? b = some o → h₃.get? b = some o := eh₃ ▸ kbm
  have hLlt : ev.locals < h₂.objs.size := by obtain ⟨o, _, _, e, _⟩ := hn₂; exact Heap.lt_size e
  refine wpAny_storeName_local (by first | rfl | exact kk _ | exact hp_of ok.kind) ((hn₂.keeps kbm).push _) (fun h₅ hn₅ hs₅ => ?_) (by first | rfl | exact kk _ | exact hp_of ok.kind)
  have hs₅ : Heap.SameBut ev.locals _ h₅ := hs₅
  have hn₅ : h₅.Ns ev.locals _ := hn₅
  have k5 : ∀ b o, b ≠ ev.locals → h₃.get? b = some o → h₅.get? b = some o := fun b o hb e => hs₅.extBut b o hb (Heap.get?_push_of_some _ e)
  have hciL : h₃.objs.size ≠ ev.locals := Nat.ne_of_gt (by rw [sbm]; exact Nat.lt_succ_of_lt hLlt)
  have hbmL : h₂.objs.size ≠ ev.locals := Nat.ne_of_gt hLlt
  have hci : ∃ t, h₅.get? h₃.objs.size = some { cls := .type "callable_iterator", data := .fields #[.ref h₂.objs.size, .str Str.empty t, .bool false] } := ⟨_, hs₅.extBut _ _ hciL (Heap.get?_push_size h₃ rfl)⟩
  have hLF : ev.locals ∉ a.F := fun m => neL ev.locals m rfl
  have ltF : ∀ b ∈ a.F, b < h₂.objs.size := fun b hb => by obtain ⟨o, e⟩ := Lx₂.alive b hb; exact Heap.lt_size e
  have I₅ : ∀ tk, GL s₀ mN a ev.locals h₃.objs.size h₂.objs.size text s.heap s.os pos line { s with heap := h₅, toks := tk } := fun tk => by
    refine ⟨Lx₂.keep fun b hb o e => k5 b o (fun q => neL b hb q.symm) (kbm b o e), ⟨U.cl, U.lim, fun b o _ e => k5 b o (fun q => by rw [q, hL0] at e; cases e) (kbm b o (base₂ b o nil_mem e)), U.os, U.bare, U.dead⟩, ⟨hci, k5 _ _ hbmL hbm⟩, fun b o hb e => k5 b o (fun q => by rw [q, hLf] at e; cases e) (kbm b o (hs₂.extBut b o (fun q => by rw [q, hLf] at e; cases e) (hkeep b o e))), rfl, fun m => absurd (ltF _ m) (Nat.not_lt.mpr (by rw [sbm]; exact Nat.le_succ _)), fun m => absurd (ltF _ m) (Nat.lt_irrefl _), hLF, hciL, hbmL, hLf, hL0⟩
  obtain ⟨ci, eci⟩ : ∃ x, h₃.objs.size = x := ⟨_, rfl⟩
  obtain ⟨bm, ebm⟩ : ∃ x, h₂.objs.size = x := ⟨_, rfl⟩
  replace I₅ : ∀ tk, GL s₀ mN a ev.locals ci bm text s.heap s.os pos line { s with heap := h₅, toks := tk } := eci ▸ ebm ▸ I₅
  rw [eci] at hn₅ hci
  rw [ebm] at hci
  refine wpAny_execs_cons (wp_For ?_ (by intro _; rfl))
  refine wpAny_Name (wpAny_loadName_local ok.kind (by first | rfl | exact kk _ | exact hp_of ok.kind) hn₅ (v := .ref ci) (by first | rfl | exact kk _ | exact hp_of ok.kind) (wp_pyIter_ci (by obtain ⟨_, e⟩ := hci; exact ⟨_, e, rfl⟩) ?_)) (by decide)
  refine codeAny_forLoop_any (fun _ s' => ∃ tk, s' = { s with heap := h₅, toks := tk }) ?_ 0 ⟨_, rfl⟩
  rintro _ _ ⟨tk, rfl⟩
  have I := I₅ tk
  have hget : ∀ p c r, text.drop p = c :: r → text[p]? = some c ∧ text.drop (p + 1) = r := fun p c r h => by
    have h0 : text[p]? = (text.drop p)[0]? := by simp
    refine ⟨by rw [h0, h]; rfl, ?_⟩
    have : text.drop (p + 1) = (text.drop p).drop 1 := by rw [List.drop_drop]
    rw [this, h]; rfl
  have hol := octets_len n hn
  have fin : ∀ t s', GL s₀ mN a ev.locals ci bm text s.heap s.os (pos + (written n).length) (line + nl (written n)) s' → R (.ok (.ret (.str (T (octets n)) t))) s' := fun t s' J => hQ s' t J.old J.os J.cu.bare J.lx
  -- the test for a white sign
  have white : ∀ (pos : Nat) (line : Int) (c : Nat) (t : Tok) (m : Str → Option Value) (s' : Shared) (E : Value → Shared → Prop) (p1 p2 p3 p4 : Pos), s'.heap.Ns ev.locals m → m "self" = some (.ref a.x) → m "ch" = some (.str (T [c]) t) → LX a text pos line [] s'.heap → Cu s₀ s' mN a →
      wpAny (model prog w) (A.deeper ev) (isTrue (.Compare (.Name "ch" p1) [.In] [.Attribute (.Name "self" p2) "whitespace" p3] p4) ev (eval (.Compare (.Name "ch" p1) [.In] [.Attribute (.Name "self" p2) "whitespace" p3] p4) ev)) (fun b s'' => b = [10, 9, 13, 32].contains c ∧ ∃ tk, s'' = { s' with toks := tk }) E s' := by
    intro pos line c t m s' E p1 p2 p3 p4 hm e1 e2 lx cu
    obtain ⟨mA', tl', tw', hnA', hW', hA1', hA2', hA3', hA4'⟩ := lx.at_
    refine wpAny_isTrue_Compare1 (wpAny_Name (wpAny_loadName_local ok.kind (by first | rfl | exact kk _ | exact hp_of ok.kind) hm e2 ?_) (by decide)) (by first | rfl | exact kk _ | exact hp_of ok.kind)
    refine wp_lexattr (U.cl.keep cu.base) lx hnA' hA3' C.no.2.2.2.2.2.1 FL.whitespace (by first | rfl | exact kk _ | exact hp_of ok.kind) (fun tk => ?_) (hself _ _ _ hm e1 _ _)
    refine in_str (wpAny_truthy_bool ⟨contains_one _ c, tk, rfl⟩)
  have heq : ∀ c d, ((T [c]) == T [d]) = decide (c = d) := fun c d => beq_T c d
  cases hbr : bareOf n with
  | false =>
    rw [written_quoted hbr] at ht fin
    obtain ⟨hc, ht2⟩ := hget pos 34 _ ht
    refine next_ci (k := k) I.it I.cu I.lx hc hsz g I.ne.1 fun s₁ t₁ gb₁ os₁ bare₁ lx₁ => ?_
    have I₁ := I.read gb₁ os₁ bare₁ lx₁
    refine wpAny_pure (wpAny_assign_Name (wpAny_storeName_local (by first | rfl | exact kk _ | exact hp_of ok.kind) (gb₁.ns hLF hn₅) (fun h₆ hm₆ hs₆ => ?_) (by first | rfl | exact kk _ | exact hp_of ok.kind)))
    have I₂ := I₁.loc (tk := s₁.toks + 1) hs₆.extBut
    refine wpAny_execs_cons (wpAny_If (wpAny_mono (white _ _ 34 t₁ _ _ _ _ _ _ _ hm₆ (by first | rfl | exact kk _ | exact hp_of ok.kind) (by first | rfl | exact kk _ | exact hp_of ok.kind) I₂.lx I₂.cu) (fun b s₃ p => ?_) fun _ _ e => e))
    obtain ⟨rfl, tk₃, rfl⟩ := p
    rw [if_neg (by decide)]
    refine wpAny_execs_nil ?_
    refine wpAny_execs_cons (wpAny_If (wpAny_isTrue_Compare1 (wpAny_Name (wpAny_loadName_local ok.kind (by first | rfl | exact kk _ | exact hp_of ok.kind) hm₆ (v := .str (T [34]) t₁) (by first | rfl | exact kk _ | exact hp_of ok.kind) (wpAny_Constant_str (eq_str (wpAny_truthy_bool ?_)))) (by decide))))
    rw [show (T [34] == Str.ofString "\"") = true from by rfl, if_pos rfl]
    refine wpAny_execs_cons (wp_For ?_ (by intro _; rfl))
    have I₃ := I₂.loc (tk := tk₃ + 1) fun _ _ _ e => e
    refine wpAny_Name (wpAny_loadName_local ok.kind (by first | rfl | exact kk _ | exact hp_of ok.kind) hm₆ (v := .ref ci) (by first | rfl | exact kk _ | exact hp_of ok.kind) (wp_pyIter_ci (by obtain ⟨_, e⟩ := I₃.it.ci; exact ⟨_, e, rfl⟩) ?_)) (by decide)
    refine tok_loop (k := k) (rest := rest) (tm := fun c => decide (c = 34)) (e := esc false) (term := 34) (full := octets n) (endp := pos + (34 :: (enc (esc false) (octets n) ++ [34])).length) (endl := line + nl (34 :: (enc (esc false) (octets n) ++ [34]))) ok rfl g hsz (by lia) (by first | rfl | exact kk _ | exact hp_of ok.kind) (by first | rfl | exact kk _ | exact hp_of ok.kind) (by first | rfl | exact kk _ | exact hp_of ok.kind) (by first | rfl | exact kk _ | exact hp_of ok.kind) ?_ ?_ (by decide) (by decide) (by decide) fin [] (octets n) (pos + 1) _ I₃ ⟨_, _, hm₆, by rfl, by rfl⟩ ?_ (by simp) ?_ ?_
    · intro pos' line' c t m s' E hm e1 e2 lx cu
      refine wpAny_isTrue_Compare1 (wpAny_Name (wpAny_loadName_local ok.kind (by first | rfl | exact kk _ | exact hp_of ok.kind) hm e2 (wpAny_Constant_str (eq_str (wpAny_truthy_bool ⟨heq c 34, _, rfl⟩)))) (by decide))
    · intro c hc; simp at hc; subst hc; decide
    · rw [ht2]; simp
    · simp; lia
    · simp only [nl]
      rw [if_neg (by decide), List.count_cons_of_ne (show (34 : Nat) ≠ 10 by decide)]
  | true =>
    rw [written_bare hbr] at ht fin
    obtain ⟨c0, l, hl⟩ : ∃ c0 l, octets n = c0 :: l := by
      cases q : octets n with
      | nil => simp [octets] at q
      | cons c l => exact ⟨c, l, rfl⟩
    rw [hl] at ht fin hol
    have hll : (c0 :: l).length ≤ 1000 := by lia
    obtain ⟨c1, r1, hc1, hw1, hq1⟩ : ∃ c1 r1, text.drop pos = c1 :: r1 ∧ [10, 9, 13, 32].contains c1 = false ∧ c1 ≠ 34 ∧ ((esc true c0 = true ∧ c1 = 92 ∧ r1 = c0 :: (enc (esc true) l ++ 10 :: rest)) ∨ (esc true c0 = false ∧ c1 = c0 ∧ r1 = enc (esc true) l ++ 10 :: rest)) := by
      cases he : esc true c0 with
      | true => 
        refine ⟨92, c0 :: (enc (esc true) l ++ 10 :: rest), ?_, by decide, by decide, .inl ⟨rfl, rfl, rfl⟩⟩
        rw [ht]; show (if esc true c0 then [92, c0] else [c0]) ++ enc (esc true) l ++ _ ++ _ = _
        rw [he]; simp
      | false =>
        refine ⟨c0, enc (esc true) l ++ 10 :: rest, ?_, ?_, ?_, .inr ⟨rfl, rfl, rfl⟩⟩
        · rw [ht]; show (if esc true c0 then [92, c0] else [c0]) ++ enc (esc true) l ++ _ ++ _ = _
          rw [he]; simp
        · simp only [esc, Bool.or_eq_false_iff, Bool.true_and] at he; exact he.2
        · rintro rfl; simp [esc] at he
    obtain ⟨hq1, hcase⟩ := hq1
    obtain ⟨hc, ht2⟩ := hget pos c1 _ hc1
    refine next_ci (k := k) I.it I.cu I.lx hc hsz g I.ne.1 fun s₁ t₁ gb₁ os₁ bare₁ lx₁ => ?_
    have I₁ := I.read gb₁ os₁ bare₁ lx₁
    refine wpAny_pure (wpAny_assign_Name (wpAny_storeName_local (by first | rfl | exact kk _ | exact hp_of ok.kind) (gb₁.ns hLF hn₅) (fun h₆ hm₆ hs₆ => ?_) (by first | rfl | exact kk _ | exact hp_of ok.kind)))
    have I₂ := I₁.loc (tk := s₁.toks + 1) hs₆.extBut
    refine wpAny_execs_cons (wpAny_If (wpAny_mono (white _ _ c1 t₁ _ _ _ _ _ _ _ hm₆ (by first | rfl | exact kk _ | exact hp_of ok.kind) (by first | rfl | exact kk _ | exact hp_of ok.kind) I₂.lx I₂.cu) (fun b s₃ p => ?_) fun _ _ e => e))
    obtain ⟨rfl, tk₃, rfl⟩ := p
    rw [hw1, if_neg (by decide)]
    refine wpAny_execs_nil ?_
    refine wpAny_execs_cons (wpAny_If (wpAny_isTrue_Compare1 (wpAny_Name (wpAny_loadName_local ok.kind (by first | rfl | exact kk _ | exact hp_of ok.kind) hm₆ (v := .str (T [c1]) t₁) (by first | rfl | exact kk _ | exact hp_of ok.kind) (wpAny_Constant_str (eq_str (wpAny_truthy_bool ?_)))) (by decide))))
    rw [show (T [c1] == Str.ofString "\"") = decide (c1 = 34) from heq c1 34, decide_eq_false hq1, if_neg (by decide)]
    have I₃ := I₂.loc (tk := tk₃ + 1) fun _ _ _ e => e
    refine wpAny_execs_cons (wpAny_mono (Q := GP s₀ mN a ev.locals ci bm text s.heap s.os c0 l rest pos line) ?_ (fun fl s₄ p => ?_) fun _ _ e => e)
    · refine wpAny_If (wpAny_isTrue_Compare1 (wpAny_Name (wpAny_loadName_local ok.kind (by first | rfl | exact kk _ | exact hp_of ok.kind) hm₆ (v := .str (T [c1]) t₁) (by first | rfl | exact kk _ | exact hp_of ok.kind) (wpAny_Constant_str (eq_str (wpAny_truthy_bool ?_)))) (by decide)))
      rw [show (T [c1] == Str.ofString "\\") = decide (c1 = 92) from heq c1 92]
      rcases hcase with ⟨he, rfl, rfl⟩ | ⟨he, rfl, rfl⟩
      · rw [decide_eq_true rfl, if_pos rfl]
        obtain ⟨hc2, ht3⟩ := hget (pos + 1) c0 _ ht2
        have I₄ := I₃.loc (tk := tk₃ + 1 + 1) fun _ _ _ e => e
        refine wpAny_execs_cons (wpAny_Assign_Name (wp_self_read (k := k + 1) ok (by first | rfl | exact kk _ | exact hp_of ok.kind) hm₆ (by first | rfl | exact kk _ | exact hp_of ok.kind) I₄.cu I₄.lx hc2 hsz g (by first | rfl | exact kk _ | exact hp_of ok.kind) fun s₅ t₅ gb₅ os₅ bare₅ lx₅ => ?_) (by first | rfl | exact kk _ | exact hp_of ok.kind))
        have I₅' := I₄.read gb₅ os₅ bare₅ lx₅
        refine wpAny_storeName_local (by first | rfl | exact kk _ | exact hp_of ok.kind) (gb₅.ns hLF hm₆) (fun h₇ hm₇ hs₇ => wpAny_execs_nil ⟨rfl, ?_⟩) (by first | rfl | exact kk _ | exact hp_of ok.kind)
        refine ⟨_, _, _, _, t₅, I₅'.loc (tk := s₅.toks + 1) hs₇.extBut, hm₇, by rfl, by rfl, by rfl, by rfl, ht3, ?_, ?_⟩
        · have : enc (esc true) (c0 :: l) = 92 :: c0 :: enc (esc true) l := by
            show ((if esc true c0 then [92, c0] else [c0]) ++ enc (esc true) l) = _
            rw [he]; rfl
          rw [this]; simp; lia
        · have : enc (esc true) (c0 :: l) = 92 :: c0 :: enc (esc true) l := by
            show ((if esc true c0 then [92, c0] else [c0]) ++ enc (esc true) l) = _
            rw [he]; rfl
          rw [this]
          simp only [nl, List.cons_append]
          have e92 : (if (92 : Nat) = 10 then line + 1 else line) = line := if_neg (by decide)
          rw [List.count_cons_of_ne (show (92 : Nat) ≠ 10 by decide), e92]
          by_cases q : c0 = 10
          · subst q; simp; lia
          · rw [if_neg q, List.count_cons_of_ne (by simpa using q)]
      · have h92 : c1 ≠ 92 := by rintro rfl; simp [esc] at he
        rw [decide_eq_false h92, if_neg (by decide)]
        refine wpAny_execs_nil ⟨rfl, _, _, _, _, t₁, I₃.loc (tk := tk₃ + 1 + 1) fun _ _ _ e => e, hm₆, by rfl, by rfl, by rfl, by rfl, ht2, ?_, ?_⟩
        · have : enc (esc true) (c1 :: l) = c1 :: enc (esc true) l := by
            show ((if esc true c1 then [92, c1] else [c1]) ++ enc (esc true) l) = _
            rw [he]; rfl
          rw [this]; simp; lia
        · have : enc (esc true) (c1 :: l) = c1 :: enc (esc true) l := by
            show ((if esc true c1 then [92, c1] else [c1]) ++ enc (esc true) l) = _
            rw [he]; rfl
          rw [this]
          simp only [nl, List.cons_append]
          by_cases q : c1 = 10
          · subst q; simp; lia
          · rw [if_neg q, List.count_cons_of_ne (by simpa using q)]
    · obtain ⟨rfl, p₉, l₉, m₉, t₉, t₉', I₉, hm₉, a1, a2, a3, a4, a5, a6, a7⟩ := p
      refine wpAny_execs_cons (wpAny_AugAssign_Name (wpAny_loadName_local ok.kind (by first | rfl | exact kk _ | exact hp_of ok.kind) hm₉ a1 (wpAny_Name (wpAny_loadName_local ok.kind (by first | rfl | exact kk _ | exact hp_of ok.kind) hm₉ a2 (iadd_str (fun t' tk' => ?_) (by rw [T_length, T_length]; unfold sizeLine; simp))) (by decide))))
      rw [T_append]
      refine wpAny_storeName_local (by first | rfl | exact kk _ | exact hp_of ok.kind) hm₉ (fun h₈ hm₈ hs₈ => ?_) (by first | rfl | exact kk _ | exact hp_of ok.kind)
      have I₈ := I₉.loc (tk := tk' + 1) hs₈.extBut
      refine wpAny_execs_cons (wp_For ?_ (by intro _; rfl))
      refine wpAny_Name (wpAny_loadName_local ok.kind (by first | rfl | exact kk _ | exact hp_of ok.kind) hm₈ (v := .ref ci) a4 (wp_pyIter_ci (by obtain ⟨_, e⟩ := I₈.it.ci; exact ⟨_, e, rfl⟩) ?_)) (by decide)
      refine tok_loop (k := k) (rest := rest) (tm := fun c => [10, 9, 13, 32].contains c) (e := esc true) (term := 10) (full := c0 :: l) (endp := pos + (enc (esc true) (c0 :: l) ++ [10]).length) (endl := line + nl (enc (esc true) (c0 :: l) ++ [10])) ok rfl g hsz hll (by first | rfl | exact kk _ | exact hp_of ok.kind) (by first | rfl | exact kk _ | exact hp_of ok.kind) (by first | rfl | exact kk _ | exact hp_of ok.kind) (by first | rfl | exact kk _ | exact hp_of ok.kind) ?_ ?_ (by decide) (by decide) (by decide) (fun t s' J => fin t s' J) [c0] l p₉ l₉ I₈ ⟨_, _, hm₈, a3, by rfl⟩ a5 (by simp) a6 a7
      · intro pos' line' c t m s' E hm e1 e2 lx cu
        exact white pos' line' c t m s' E _ _ _ _ hm e1 e2 lx cu
      · intro c hc; simp only [esc, Bool.true_and, hc, Bool.or_true]
end
end Mine

namespace Mine
section
variable {prog : Program} {w : World} {A : Around} {E : Value → Shared → Prop} {s : Shared} {X Y : List Addr} {env : Env} {k : Nat} {f : Fs} {s₀ : Shared} {hb h₀ : Heap} {mg mb mN : Str → Option Value}

theorem LX.repush {a : LA} {text pos line push push'} {h h' : Heap} {vs : List Value} {n : Nat} (x : LX a text pos line push h) (g : GB [a.pb] h h') (hp : h'.get? a.pb = some { cls := .type "list", data := .seq (List.toArray vs) n }) (hd : Dens [] h' vs (push'.map fun l => .str (T l))) : LX a text pos line push' h' := by
  have nd := nd_parts x.nd
  obtain ⟨⟨n1, n2, n3, n4, n5, n6, n7, n8, n9⟩, ⟨m1, m2, m3, m4, m5, m6, m7, m8⟩, ⟨p1, p2, p3, p4, p5, p6, p7⟩, _⟩ := nd
  have k : ∀ b o, b ≠ a.pb → h.get? b = some o → h'.get? b = some o := fun b o hb e => g.one hb e
  obtain ⟨o, e, r0⟩ := x.ox
  obtain ⟨mA, t, tw, hn, r2⟩ := x.at_
  obtain ⟨o4, e4, r4⟩ := x.st
  obtain ⟨md, hmd, r5⟩ := x.sd
  obtain ⟨o6, qual, doc, pm, ct, cl, e6, r6, ⟨c7, oc, vs7, tq, q7, e7, d7⟩, r8⟩ := x.rx.rd
  obtain ⟨oc1, e9, d9⟩ := x.rx.c1
  obtain ⟨t2, oc2, e10, d10⟩ := x.rx.c2
  obtain ⟨n11, t11, e11⟩ := x.rx.pl
  cases q7
  exact ⟨⟨o, k _ _ n2 e, r0⟩, ⟨mA, t, tw, hn.at fun o e => k _ _ m1 e, r2⟩, ⟨vs, n, hp, hd⟩, ⟨o4, k _ _ (Ne.symm p1) e4, r4⟩, ⟨md, hmd.at' fun o e => k _ _ (Ne.symm p2) e, r5⟩,
    ⟨⟨o6, qual, doc, pm, ct, cl, k _ _ (Ne.symm p3) e6, r6, ⟨_, oc, vs7, tq, rfl, k _ _ (Ne.symm p7) e7, d7⟩, r8⟩, ⟨oc1, k _ _ (Ne.symm p4) e9, d9⟩, ⟨t2, oc2, k _ _ (Ne.symm p5) e10, d10⟩, ⟨n11, t11, k _ _ (Ne.symm p6) e11⟩, x.rx.ne⟩, x.nd⟩

set_option tactic.hygienic true in
theorem code_get_pop {a : LA} {text : List Nat} {pos : Nat} {line : Int} {wd : List Nat} {ws : List (List Nat)} {R : Result → Shared → Prop} (U : Cu s₀ s mN a) (Lx : LX a text pos line (wd :: ws) s.heap) (hws : ws.length ≤ 100) (gd : Good (k + 4) A)
    (hQ : ∀ s' t', GB a.F s.heap s'.heap → s'.os = s.os → AllBare s'.gens → LX a text pos line ws s'.heap → R (.ok (.ret (.str (T wd) t'))) s') :
    codeAny (model prog w) A (.call (.ref 42) ⟨[.ref a.x], []⟩) R s := by
  have C := U.cl.keep U.base
  have lim := NoLimit.keep U.base U.lim
  obtain ⟨o, qual, doc, pm, cd, ct, ho, hcls, hdata, hcd⟩ := C.m2
  have hbind : bindArgs (PySem.W.fnX (defName (meth 2)) qual (defParams (meth 2)) (defBody (meth 2)) (defScope (meth 2)) [] .none .none doc pm none cd ct) ⟨[.ref a.x], []⟩ = pure [(Str.ofString "self", Value.ref a.x)] := by rfl
  have hnc : ∀ x ∈ (defScope (meth 2)).names, x.2 ≠ .cell := by decide
  refine codeAny_call_plain (body := defBody (meth 2)) (by have := gd.depth; lia) ho hdata lim hcd (by rfl) hbind hnc (fun y hy => by rw [List.mem_singleton.mp hy]; rfl) (fun h₁ hn₁ hkeep => ?_) (by rfl) (by rfl) (by rfl)
  refine wpAny_mono (E := fun _ _ => False) ?_ (fun _ _ h => h) (fun _ _ h => h.elim)
  generalize hLq : s.heap.objs.size = L at *
  have ok : EnvOk (callEnv (PySem.W.fnX (defName (meth 2)) qual (defParams (meth 2)) (defBody (meth 2)) (defScope (meth 2)) [] .none .none doc pm none cd ct) L 42) := ⟨rfl, rfl, rfl, fun p hp => nomatch hp⟩
  have g1 : GB [] s.heap h₁ := fun b o _ e => hkeep b o e
  have Lx₁ : LX a text pos line (wd :: ws) h₁ := Lx.keep fun b _ o e => hkeep b o e
  have C₁ : CL h₁ mN := C.keep g1
  obtain ⟨mA, tl, tw, hnA, hW, hA1, hA2, hA3, hA4⟩ := Lx₁.at_
  obtain ⟨vs, n1, e3, d3⟩ := Lx₁.pb
  have hself : ∀ (s' : Shared) m px, s'.heap.Ns L m → m (Str.ofString "self") = some (.ref a.x) → ∀ A E, wpAny (model prog w) A (eval (.Name "self" px) (callEnv (PySem.W.fnX (defName (meth 2)) qual (defParams (meth 2)) (defBody (meth 2)) (defScope (meth 2)) [] .none .none doc pm none cd ct) L 42)) (fun v' s'' => v' = .ref a.x ∧ s'' = s') E s' :=
    fun s' m px hn hm A E => wpAny_Name (wpAny_loadName_local ok.kind (by rfl) hn hm ⟨rfl, rfl⟩) (by decide)
  cases d3 with
  | cons hv hvs =>
    rename_i v vs
    obtain ⟨tv, rfl⟩ := D.den_str hv
    have hvl := hvs.length
    simp only [List.length_map] at hvl
    conv in execs _ _ => arg 1; whnf
    refine wpAny_execs_cons (wpAny_If (wpAny_isTrue_value (wp_lexattr C₁ Lx₁ hnA hA4 C.no.2.2.2.2.2.2 FL.pushback (by rfl) (fun tk => ?_) (hself _ _ _ hn₁ (by rfl) _ _)) (by rfl)))
    refine wpAny_truthy_list (items := (Value.str (T wd) tv :: vs).toArray) ⟨_, e3, rfl, n1, rfl⟩ (by simp; lia) ?_
    rw [if_pos (by simp)]
    refine wpAny_execs_cons (wpAny_Return_some (wp_Call_meth (by rfl) (by rfl) (by rfl) ?_))
    refine wp_lexattr C₁ Lx₁ hnA hA4 C.no.2.2.2.2.2.2 FL.pushback (by rfl) (fun tk' => ?_) (hself _ _ _ hn₁ (by rfl) _ _)
    refine getMethod_builtin (T := "list") ⟨_, e3, rfl⟩ PySem.F.plainAttrs_list PySem.F.slot_list_pop PySem.F.type_list_pop (fun b e => by cases e; exact ⟨_, e3, rfl⟩) ?_
    refine PySem.P.pop_at_list ?_
    rw [if_neg (by decide)]
    refine wpAny_Constant_int ?_
    refine ⟨(Value.str (T wd) tv :: vs).toArray, n1, 0, _, 0, .str (T wd) tv, by simp [sizeLine]; lia, rfl, e3, by decide, by simp [seqIndex?], by simp, ?_⟩
    have hup := PySem.IsL.update (h := h₁) (l := a.pb) e3 (fun xs => xs.eraseIdxIfInBounds 0)
    have he : ((Value.str (T wd) tv :: vs).toArray).eraseIdxIfInBounds 0 = vs.toArray := by
      have := PySem.W.kl_erase [] vs (Value.str (T wd) tv)
      simpa using this
    rw [he] at hup
    have gpb : GB [a.pb] h₁ (h₁.update a.pb (Obj.mapSeq fun xs => xs.eraseIdxIfInBounds 0)) := .same (Heap.SameBut.update ..) (.head _)
    refine hQ _ tv (fun b o hb e => gpb.one (fun q => hb (q ▸ (by first | exact LA.m0 | exact LA.m1 | exact LA.m2 | exact LA.m3 | exact LA.m4 | exact LA.m5 | exact LA.m6 | exact LA.m7 | exact LA.m8 | exact LA.m9))) (hkeep b o e)) rfl U.bare (Lx₁.repush gpb hup hvs.words)
end
end Mine

namespace Mine
section
variable {prog : Program} {w : World} {A : Around} {E : Value → Shared → Prop} {s : Shared} {X Y : List Addr} {env : Env} {k : Nat} {f : Fs} {s₀ : Shared} {hb h₀ : Heap} {mg mb mN : Str → Option Value}

theorem code_push_token {a : LA} {text : List Nat} {pos : Nat} {line : Int} {wd : List Nat} {tw : Tok} {ws : List (List Nat)} {R : Result → Shared → Prop} (U : Cu s₀ s mN a) (Lx : LX a text pos line ws s.heap) (hws : ws.length ≤ 100) (gd : Good (k + 4) A)
    (hQ : ∀ s', GB a.F s.heap s'.heap → s'.os = s.os → AllBare s'.gens → LX a text pos line (ws ++ [wd]) s'.heap → R (.ok (.ret .none)) s') :
    codeAny (model prog w) A (.call (.ref 49) ⟨[.ref a.x, .str (T wd) tw], []⟩) R s := by
  have C := U.cl.keep U.base
  have lim := NoLimit.keep U.base U.lim
  obtain ⟨o, qual, doc, pm, cd, ct, ho, hcls, hdata, hcd⟩ := C.m3
  have hbind : bindArgs (PySem.W.fnX (defName (meth 3)) qual (defParams (meth 3)) (defBody (meth 3)) (defScope (meth 3)) [] .none .none doc pm none cd ct) ⟨[.ref a.x, .str (T wd) tw], []⟩ = pure [(Str.ofString "self", Value.ref a.x), (Str.ofString "token", .str (T wd) tw)] := by rfl
  have hnc : ∀ x ∈ (defScope (meth 3)).names, x.2 ≠ .cell := by decide
  refine codeAny_call_plain (body := defBody (meth 3)) (by have := gd.depth; lia) ho hdata lim hcd (by rfl) hbind hnc (fun y hy => by
    rcases List.mem_cons.mp hy with rfl | hy
    · rfl
    · rw [List.mem_singleton.mp hy]; rfl) (fun h₁ hn₁ hkeep => ?_) (by rfl) (by rfl) (by rfl)
  refine wpAny_mono (E := fun _ _ => False) ?_ (fun _ _ h => h) (fun _ _ h => h.elim)
  generalize hLq : s.heap.objs.size = L at *
  have ok : EnvOk (callEnv (PySem.W.fnX (defName (meth 3)) qual (defParams (meth 3)) (defBody (meth 3)) (defScope (meth 3)) [] .none .none doc pm none cd ct) L 49) := ⟨rfl, rfl, rfl, fun p hp => nomatch hp⟩
  have g1 : GB [] s.heap h₁ := fun b o _ e => hkeep b o e
  have Lx₁ : LX a text pos line ws h₁ := Lx.keep fun b _ o e => hkeep b o e
  have C₁ : CL h₁ mN := C.keep g1
  obtain ⟨mA, tl, tw', hnA, hW, hA1, hA2, hA3, hA4⟩ := Lx₁.at_
  obtain ⟨vs, n1, e3, d3⟩ := Lx₁.pb
  have hvl := d3.length
  simp only [List.length_map] at hvl
  have hself : ∀ (s' : Shared) m px, s'.heap.Ns L m → m (Str.ofString "self") = some (.ref a.x) → ∀ A E, wpAny (model prog w) A (eval (.Name "self" px) (callEnv (PySem.W.fnX (defName (meth 3)) qual (defParams (meth 3)) (defBody (meth 3)) (defScope (meth 3)) [] .none .none doc pm none cd ct) L 49)) (fun v' s'' => v' = .ref a.x ∧ s'' = s') E s' :=
    fun s' m px hn hm A E => wpAny_Name (wpAny_loadName_local ok.kind (by rfl) hn hm ⟨rfl, rfl⟩) (by decide)
  conv in execs _ _ => arg 1; whnf
  have hi : interactive (callEnv (PySem.W.fnX (defName (meth 3)) qual (defParams (meth 3)) (defBody (meth 3)) (defScope (meth 3)) [] .none .none doc pm none cd ct) L 49) = false := by unfold interactive; rw [ok.kind]; rfl
  refine wpAny_execs_cons ?_
  refine wpAny_Expr_none (wpAny_Call_append (by rfl) (by rfl) (by rfl) (by rfl) ?_) hi
  refine wp_lexattr C₁ Lx₁ hnA hA4 C.no.2.2.2.2.2.2 FL.pushback (by rfl) (fun tk => ?_) (hself _ _ _ hn₁ (by rfl) _ _)
  refine ⟨a.pb, vs.toArray, rfl, ⟨_, n1, e3, rfl, rfl, rfl⟩, ?_⟩
  refine wpAny_Name (wpAny_loadName_local ok.kind (by rfl) hn₁ (v := .str (T wd) tw) (by rfl) ?_) (by decide)
  refine wpAny_list_append_plain ⟨n1, e3⟩ (fun h' hn hs => ?_) (by simp [sizeLine]; lia)
  obtain ⟨n', hn⟩ := hn
  have e : vs.toArray.push (.str (T wd) tw) = (vs ++ [Value.str (T wd) tw]).toArray := by simp
  rw [e] at hn
  have gpb : GB [a.pb] h₁ h' := .same hs (.head _)
  refine ⟨rfl, ?_⟩
  have hd : Dens [] h' (vs ++ [Value.str (T wd) tw]) ((ws ++ [wd]).map fun l => D.str (T l)) := by
    rw [List.map_append]
    exact d3.words.append (.cons .str .nil)
  refine wpAny_execs_nil ?_
  exact hQ _ (fun b o hb e => gpb.one (fun q => hb (q ▸ (by first | exact LA.m0 | exact LA.m1 | exact LA.m2 | exact LA.m3 | exact LA.m4 | exact LA.m5 | exact LA.m6 | exact LA.m7 | exact LA.m8 | exact LA.m9))) (hkeep b o e)) rfl U.bare (Lx₁.repush gpb hn hd)
end
end Mine

namespace Mine
section
variable {prog : Program} {w : World} {A : Around} {E : Value → Shared → Prop} {s : Shared} {X Y : List Addr} {env : Env} {k : Nat} {f : Fs} {s₀ : Shared} {hb h₀ : Heap} {mg mb mN : Str → Option Value}

noncomputable def StreamAt (h : Heap) : Prop := ∃ o pm doc, h.get? 91 = some o ∧ o.data = .func (Calls.docDef (defName (topDef 9)) (defParams (topDef 9)) (defBody (topDef 9)) (defScope (topDef 9)) pm (.ref 90) doc) ∧ h.CodeRec (.ref 90) (defName (topDef 9))

theorem nodup7 {L st sd rd pl cc : Nat} (h1 : L + 2 < pl) (h2 : pl < cc) (h3 : cc < rd) (h4 : rd < st) (n1 : sd ≠ L + 2) (n2 : sd ≠ L + 1) (n3 : sd ≠ pl) (n4 : sd ≠ rd) (n5 : sd ≠ cc) (n6 : sd ≠ st) : [st, sd, rd, L + 2, L + 1, pl, cc].Nodup := by
  have a1 : L + 1 < L + 2 := Nat.lt_succ_self _
  have a2 := Nat.lt_trans a1 h1
  have b1 := Nat.lt_trans h1 h2
  have b2 := Nat.lt_trans a2 h2
  have c1 := Nat.lt_trans b1 h3
  have c2 := Nat.lt_trans b2 h3
  have c3 := Nat.lt_trans h2 h3
  simp only [List.nodup_cons, List.mem_cons, List.not_mem_nil, or_false, not_or, List.nodup_nil, and_true]
  exact ⟨⟨Ne.symm n6, Nat.ne_of_gt h4, Nat.ne_of_gt (Nat.lt_trans c1 h4), Nat.ne_of_gt (Nat.lt_trans c2 h4), Nat.ne_of_gt (Nat.lt_trans c3 h4), Nat.ne_of_gt (Nat.lt_trans h3 h4)⟩, ⟨n4, n1, n2, n3, n5⟩, ⟨Nat.ne_of_gt c1, Nat.ne_of_gt c2, Nat.ne_of_gt c3, Nat.ne_of_gt h3⟩, ⟨Nat.ne_of_gt a1, Nat.ne_of_lt h1, Nat.ne_of_lt b1⟩, ⟨Nat.ne_of_lt a2, Nat.ne_of_lt b2⟩, Nat.ne_of_lt h2, nofun⟩

theorem code_law_stream {text : List Nat} {t : Tok} {R : Result → Shared → Prop} (F : StreamAt s.heap) (C : PySem.W.CodeHd s.heap 90 86) (hP : s.heap.get? 86 = some (PySem.W.tabObj #[])) (hg : s.heap.Ns mainGlobals mg) (hgP : mainGlobals ≠ 86) (hbm : s.heap.BuiltinsAt mg 86) (lim : s.heap.NoLimit) (bare : AllBare s.gens) (gd : Good (k + 3) A)
    (hQ : ∀ s' st sd rd c1 c2 pl cc, [st, sd, rd, c1, c2, pl, cc].Nodup → (∀ b ∈ [st, sd, rd, c1, c2, pl, cc], s.heap.get? b = none ∧ ∃ o, s'.heap.get? b = some o) → GB [86] s.heap s'.heap → (∃ ps, s'.heap.get? 86 = some (PySem.W.tabObj ps)) → s'.os = s.os → AllBare s'.gens →
      (∃ o, s'.heap.get? st = some o ∧ o.cls = .type "function" ∧ (∃ fd, o.data = .func fd) ∧ o.dict = some sd) → (∃ md, s'.heap.Ns sd md ∧ md "read" = some (.ref rd)) → (∀ x dx pb, RX ⟨x, dx, pb, st, sd, rd, c1, c2, pl, cc⟩ text 0 s'.heap) → R (.ok (.ret (.ref st))) s') :
    codeAny (model prog w) A (.call (.ref 91) ⟨[.str (T text) t], []⟩) R s := by
  obtain ⟨o, pm, doc, ho, hdata, hcd⟩ := F
  have hbind : bindArgs (Calls.docDef (defName (topDef 9)) (defParams (topDef 9)) (defBody (topDef 9)) (defScope (topDef 9)) pm (.ref 90) doc) ⟨[.str (T text) t], []⟩ = pure [(Str.ofString "text", Value.str (T text) t)] := by rfl
  refine codeAny_call_cells (body := defBody (topDef 9)) (by have := gd.depth; lia) ho hdata lim hcd (by rfl) hbind (by rfl) (fun x hx => by rw [List.mem_singleton.mp hx]; exact .inr ⟨rfl, rfl⟩) (fun s₁ I => ?_) (by rfl) (by rfl) (by rfl)
  refine wpAny_mono (E := fun _ _ => False) ?_ (fun _ _ h => h) (fun _ _ h => h.elim)
  generalize hLq : s.heap.objs.size = L at *
  obtain ⟨h₁, tk₁, rfl⟩ := I.toInCall.same
  have hns := I.toInCall.ns
  have keep1 := I.toInCall.keep
  have hc2 : h₁.IsCell (L + 1) (some (.str (T text) t)) := I.cell (Str.ofString "text") (L + 1) (by rfl)
  have hc1 : h₁.IsCell (L + 2) none := I.cell (Str.ofString "place") (L + 2) (by rfl)
  have hLn : ∀ b, L ≤ b → s.heap.get? b = none := fun b hb => Heap.get?_none_of_le (hLq ▸ hb)
  conv in execs _ _ => arg 1; whnf
  have kop : (callEnvC (Calls.docDef (defName (topDef 9)) (defParams (topDef 9)) (defBody (topDef 9)) (defScope (topDef 9)) pm (.ref 90) doc) L 91).scope.kind = .function := rfl
  refine wpAny_execs_cons (wpAny_Assign_Name (wpAny_List (wpAny_items_cons (wpAny_Constant_int (wpAny_items_nil ⟨by simp [sizeLine], ?_⟩)))) (by rfl))
  generalize hplq : h₁.objs.size = pl at *
  have hplLt : L + 2 < pl := hplq ▸ hc1.lt
  have hpl1 : (h₁.push { cls := .type "list", data := .seq [Value.int 0 tk₁].toArray }).get? pl = some { cls := .type "list", data := .seq #[.int 0 tk₁] } := hplq ▸ Heap.get?_push_size _ rfl
  refine wpAny_storeName_cell kop (by rfl) (c := L + 2) (by rfl) (hc1.keeps fun b o e => Heap.get?_push_of_some _ e) fun h₂ hc1' hs2 => ?_
  have keep2 : ∀ b o, b ≠ L + 2 → h₁.get? b = some o → h₂.get? b = some o := fun b o hb e => (hs2.2 b hb).trans (Heap.get?_push_of_some _ e)
  have hk2 : ∀ b o, s.heap.get? b = some o → h₂.get? b = some o := fun b o e => keep2 b o (fun q => by rw [q, hLn _ (Nat.le_add_right L 2)] at e; cases e) (keep1 b o e)
  have hns2 : h₂.Ns L _ := Heap.Ns.at' hns fun o e => keep2 _ o (Nat.ne_of_lt (Nat.lt_add_of_pos_right (by decide))) e
  have hc2' : h₂.IsCell (L + 1) (some (.str (T text) t)) := by obtain ⟨o, e, d⟩ := hc2; exact ⟨o, keep2 _ _ (Nat.ne_of_lt (Nat.lt_succ_self _)) e, d⟩
  have hpl2 : h₂.get? pl = some { cls := .type "list", data := .seq #[.int 0 tk₁] } := (hs2.2 pl (Nat.ne_of_gt hplLt)).trans hpl1
  refine wpAny_execs_cons (PySem.W.nestDef_K (by rfl) (by rfl) (by rfl) ?_)
  refine PySem.W.makeFunction_K (mg := mg) (c := 90) (P := 86) (ps := #[]) (clos := [(Str.ofString "text", L + 1), (Str.ofString "place", L + 2)]) (by rfl) rfl (hg.keeps hk2) rfl (C.keeps hk2) (hk2 _ _ hP) trivial (by rfl) hgP (hbm.keeps hk2) fun cc ctv doc3 h₃ tk₃ hx3 hge3 hlt3 hrec3 htb3 => ?_
  replace hge3 : h₂.objs.size ≤ cc := hge3
  have hge3' : L + 2 < cc := Nat.lt_of_lt_of_le hc1'.lt hge3
  have hplcc : pl < cc := Nat.lt_of_lt_of_le (Heap.lt_size hpl2) hge3
  have keep3 : ∀ b o, b ≠ 86 → h₂.get? b = some o → h₃.get? b = some o := hx3
  have h86 : 86 < L := hLq ▸ Heap.lt_size hP
  generalize hrdq : h₃.objs.size = rd at *
  have hns3 : (h₃.push (PySem.W.fnMade "_law_read" (qualnameIn (callEnvC (Calls.docDef (defName (topDef 9)) (defParams (topDef 9)) (defBody (topDef 9)) (defScope (topDef 9)) pm (.ref 90) doc) L 91) "_law_read" "_law_read") (defParams rdDef) (defBody rdDef) (defScope rdDef) [(Str.ofString "text", L + 1), (Str.ofString "place", L + 2)] doc3 ((mg "__name__").getD .none) cc ctv)).Ns L _ := (Heap.Ns.at' hns2 fun o e => keep3 L o (Nat.ne_of_gt h86) e).push _
  refine wpAny_storeName_local (by rfl) hns3 (fun h₄ hns4 hs4 => ?_) (by rfl)
  have keep4 : ∀ b o, b ≠ L → h₃.get? b = some o → h₄.get? b = some o := fun b o hb e => (hs4.2 b hb).trans (Heap.get?_push_of_some _ e)
  have hk4 : ∀ b o, b ≠ L → b ≠ 86 → h₂.get? b = some o → h₄.get? b = some o := fun b o h1 h2 e => keep4 b o h1 (keep3 b o h2 e)
  have hks : ∀ b o, b ≠ 86 → s.heap.get? b = some o → h₄.get? b = some o := fun b o h2 e => hk4 b o (fun q => by rw [q, hLn _ (Nat.le_refl _)] at e; cases e) h2 (hk2 b o e)
  have hLrd : L < rd := by lia
  have hcrd : cc < rd := by lia
  replace hs4 : Heap.SameBut L (h₃.push _) h₄ := hs4
  have hrd4 := (hs4.2 rd (Nat.ne_of_gt hLrd)).trans (hrdq ▸ Heap.get?_push_size h₃ rfl)
  refine wpAny_execs_cons (wpAny_Assign_Name (PySem.W.kla_eval (by rfl) ?_) (by rfl))
  have hbm4 : h₄.BuiltinsAt mg 86 := by obtain ⟨bm, o, a1, a2, a3, a4, a5, r⟩ := hbm; exact ⟨bm, o, a1, a2, a3, a4, hks _ _ a4 a5, r⟩
  have C4 : PySem.W.CodeHd h₄ 90 86 := by obtain ⟨o, vs, file, tf, flags, tg, inF, text, tt, e, r⟩ := C; exact ⟨o, vs, file, tf, flags, tg, inF, text, tt, hks _ _ (by decide) e, r⟩
  have hg4 : h₄.Ns mainGlobals mg := Heap.Ns.at' hg fun o e => hks _ _ hgP e
  refine PySem.W.kla_makeFunction (mg := mg) (c := 90) (P := 86) (clos := []) (by rfl) rfl hg4 rfl C4 (keep4 86 _ (Nat.ne_of_lt h86) htb3) (by trivial) (by rfl) hgP hbm4 fun cc2 ctv2 h₅ tk₅ hx5 hge5 hlt5 hrec5 htb5 => ?_
  replace hx5 : ∀ b o, b ≠ 86 → h₄.get? b = some o → h₅.get? b = some o := hx5
  replace hns4 : h₄.Ns L _ := hns4
  have hns5 := Heap.Ns.at' hns4 (h' := h₅) fun o e => hx5 L o (Nat.ne_of_gt h86) e
  generalize hstq : h₅.objs.size = st at *
  have hrdst : rd < st := by
    have hne : rd ≠ 86 := Nat.ne_of_gt (Nat.lt_trans h86 hLrd)
    have := Heap.lt_size (hx5 rd _ hne hrd4)
    rw [hstq] at this
    exact this
  have hLst : L < st := Nat.lt_trans hLrd hrdst
  refine wpAny_storeName_local (by rfl) (Heap.Ns.push hns5 _) (fun h₆ hns6 hs6 => ?_) (by rfl)
  replace hs6 : Heap.SameBut L (h₅.push _) h₆ := hs6
  replace hns6 : h₆.Ns L _ := hns6
  have keep6 : ∀ b o, b ≠ L → b ≠ 86 → h₄.get? b = some o → h₆.get? b = some o := fun b o h1 h2 e => (hs6.2 b h1).trans (Heap.get?_push_of_some _ (hx5 b o h2 e))
  have hst6 := (hs6.2 st (Nat.ne_of_gt hLst)).trans (hstq ▸ Heap.get?_push_size h₅ rfl)
  have htb6 := (hs6.2 86 (Nat.ne_of_lt h86)).trans (Heap.get?_push_of_some _ htb5)
  refine wpAny_execs_cons (plainObj_wpAny_Assign_Attribute (wpAny_Name (wpAny_loadName_local kop (by rfl) hns6 (v := .ref rd) (by rfl) (wpAny_Name (wpAny_loadName_local kop (by rfl) hns6 (v := .ref st) (by rfl) ?_) (by decide))) (by decide)) (by rfl))
  refine setAttr_fn hst6 fun h₇ tk₇ sd hsd hst7 hmd keep7 => ?_
  have k47 : ∀ b o, b ≠ L → b ≠ 86 → b ≠ st → h₄.get? b = some o → h₇.get? b = some o := fun b o h1 h2 h3 e => keep7 b o h3 (keep6 b o h1 h2 e)
  have hns7 : h₇.Ns L _ := Heap.Ns.at' hns6 fun o e => keep7 L o (Nat.ne_of_lt hLst) e
  refine wpAny_execs_cons (wpAny_Return_some (wpAny_Name (wpAny_loadName_local kop (by rfl) hns7 (v := .ref st) (by rfl) ?_) (by decide)))
  have between : ∀ b, L < b → b < st → b ≠ L ∧ b ≠ 86 ∧ b ≠ st := fun b x y => ⟨Nat.ne_of_gt x, Nat.ne_of_gt (Nat.lt_trans h86 x), Nat.ne_of_lt y⟩
  have o1 : L < L + 1 := Nat.lt_succ_self _
  have o2 : L + 1 < L + 2 := Nat.lt_succ_self _
  have o3 : cc < st := Nat.lt_trans hcrd hrdst
  have o4 : pl < st := Nat.lt_trans hplcc o3
  have o5 : L + 2 < st := Nat.lt_trans hplLt o4
  have o6 : L < pl := Nat.lt_trans (Nat.lt_trans o1 o2) hplLt
  have e1 := between (L + 2) (Nat.lt_trans o1 o2) o5
  have e2 := between (L + 1) o1 (Nat.lt_trans o2 o5)
  have e3 := between pl o6 o4
  have e4 := between rd hLrd hrdst
  have e5 := between cc (Nat.lt_trans o6 hplcc) o3
  obtain ⟨cc', occ, vcc, tcc, hq9, hocc, hdcc, hvcc⟩ := hrec3
  cases hq9
  have hcc4 := keep4 cc _ e5.1 hocc
  obtain ⟨o1, a1, d1⟩ := hc1'
  obtain ⟨o2, a2, d2⟩ := hc2'
  have b1 := hk4 _ _ e1.1 e1.2.1 a1
  have b2 := hk4 _ _ e2.1 e2.2.1 a2
  have b3 := hk4 _ _ e3.1 e3.2.1 hpl2
  have ns : ∀ b o, b ≠ L → b ≠ 86 → h₄.get? b = some o → sd ≠ b := fun b o h1 h2 e q => by
    have := keep6 b o h1 h2 e
    rw [← q, hsd] at this
    cases this
  have n1 := ns _ _ e1.1 e1.2.1 b1
  have n2 := ns _ _ e2.1 e2.2.1 b2
  have n3 := ns _ _ e3.1 e3.2.1 b3
  have n4 := ns _ _ e4.1 e4.2.1 hrd4
  have n5 := ns _ _ e5.1 e5.2.1 hcc4
  have n6 : sd ≠ st := fun q => by rw [q, hst6] at hsd; cases hsd
  have nsd : s.heap.get? sd = none := by
    cases e : s.heap.get? sd with
    | none => rfl
    | some o =>
      by_cases q : sd = 86
      · rw [q, htb6] at hsd; cases hsd
      · have := keep6 sd o (fun q2 => by rw [q2, hLn L (Nat.le_refl _)] at e; cases e) q (hks sd o q e)
        rw [hsd] at this; cases this
  obtain ⟨md, hmd1, hmd2⟩ := hmd
  refine hQ _ st sd rd (L + 2) (L + 1) pl cc ?_ ?_ (fun b o hb e => ?_) ⟨_, keep7 86 _ (Nat.ne_of_lt (Nat.lt_trans h86 hLst)) htb6⟩ rfl bare ⟨_, hst7, rfl, ⟨_, rfl⟩, rfl⟩ ⟨md, hmd1, hmd2⟩ fun x dx pb => ⟨?_, ?_, ?_, ?_, ?_⟩
  · exact nodup7 hplLt hplcc hcrd hrdst n1 n2 n3 n4 n5 n6
  · intro b hb
    simp only [List.mem_cons, List.not_mem_nil, or_false] at hb
    rcases hb with rfl | rfl | rfl | rfl | rfl | rfl | rfl
    · exact ⟨hLn _ (Nat.le_of_lt hLst), _, hst7⟩
    · obtain ⟨o, _, _, e, _⟩ := hmd1
      exact ⟨nsd, o, e⟩
    · exact ⟨hLn _ (Nat.le_of_lt hLrd), _, k47 _ _ e4.1 e4.2.1 e4.2.2 hrd4⟩
    · exact ⟨hLn _ (Nat.le_add_right _ _), _, k47 _ _ e1.1 e1.2.1 e1.2.2 b1⟩
    · exact ⟨hLn _ (Nat.le_add_right _ _), _, k47 _ _ e2.1 e2.2.1 e2.2.2 b2⟩
    · exact ⟨hLn _ (Nat.le_of_lt o6), _, k47 _ _ e3.1 e3.2.1 e3.2.2 b3⟩
    · exact ⟨hLn _ (Nat.le_of_lt (Nat.lt_trans o6 hplcc)), _, k47 _ _ e5.1 e5.2.1 e5.2.2 hcc4⟩
  · have hlt : b < L := hLq ▸ Heap.lt_size e
    exact k47 b o (Nat.ne_of_lt hlt) (fun q => hb (q ▸ .head _)) (Nat.ne_of_lt (Nat.lt_trans hlt hLst)) (hks b o (fun q => hb (q ▸ .head _)) e)
  · exact ⟨_, _, doc3, _, ctv, _, k47 _ _ e4.1 e4.2.1 e4.2.2 hrd4, rfl, ⟨cc, occ, vcc, tcc, rfl, k47 _ _ e5.1 e5.2.1 e5.2.2 hcc4, hdcc, hvcc⟩, rfl, rfl, fun p hp => by
      rcases List.mem_cons.mp hp with rfl | hp
      · exact .inr rfl
      · rw [List.mem_singleton.mp hp]; exact .inl rfl⟩
  · exact ⟨o1, k47 _ _ e1.1 e1.2.1 e1.2.2 b1, d1⟩
  · exact ⟨t, o2, k47 _ _ e2.1 e2.2.1 e2.2.2 b2, d2⟩
  · exact ⟨_, tk₁, k47 _ _ e3.1 e3.2.1 e3.2.2 b3⟩
  · exact ⟨Nat.ne_of_gt (Nat.lt_trans hplcc hcrd), Nat.ne_of_lt hplLt, Nat.ne_of_lt (Nat.lt_trans (Nat.lt_succ_self (L + 1)) hplLt)⟩
end
end Mine

namespace Mine
section
variable {prog : Program} {w : World} {A : Around} {E : Value → Shared → Prop} {s : Shared} {X Y : List Addr} {env : Env} {k : Nat} {f : Fs} {s₀ : Shared} {hb h₀ : Heap} {mg mb mN : Str → Option Value}

/- an object of the lexer's class, with its attributes -/
structure OB (x dx : Addr) (m : Str → Option Value) (h : Heap) : Prop where
  ox : ∃ o, h.get? x = some o ∧ o.cls = .ref 52 ∧ (∀ c, o.data ≠ .cls c) ∧ o.dict = some dx
  ne : dx ≠ x
  ns : h.Ns1 dx m
  wi : Within m lexNames
theorem OB.inst {x dx m} {h : Heap} (B : OB x dx m h) : h.Inst x 52 m := by obtain ⟨o, e, c, d, q⟩ := B.ox; exact ⟨o, e, c, d, .inr ⟨dx, q, B.ne, B.ns⟩⟩
theorem OB.keep {x dx m} {h h' : Heap} (B : OB x dx m h) (k1 : ∀ o, h.get? x = some o → h'.get? x = some o) (k2 : ∀ o, h.get? dx = some o → h'.get? dx = some o) : OB x dx m h' := ⟨by obtain ⟨o, e, r⟩ := B.ox; exact ⟨o, k1 _ e, r⟩, B.ne, B.ns.at k2, B.wi⟩
theorem Within.set {m : Str → Option Value} {ns : List Str} {n : Str} {v : Value} (W : Within m ns) (hn : n ∈ ns) : Within (fun y => if y = n then some v else m y) ns := fun y hy => by
  by_cases q : y = n
  · exact q ▸ hn
  · exact W y fun q' => hy (by dsimp only; rw [if_neg q]; exact q')

theorem wp_store {x dx : Addr} {m : Str → Option Value} {name : Str} {v : Value} {Q : Unit → Shared → Prop} (C : CL s.heap mN) (B : OB x dx m s.heap) (hna : mN name = none) (hB : typeLookup (.type "object") name = pure none) (hl : name ∈ lexNames) (hx : x ≠ 52)
    (hq : ∀ h' tk', OB x dx (fun y => if y = name then some v else m y) h' → (∀ b o, b ≠ x → b ≠ dx → s.heap.get? b = some o → h'.get? b = some o) → Q () { s with heap := h', toks := tk' }) : wpAny (model prog w) A (setAttr (.ref x) name v) Q E s := by
  obtain ⟨_, _, _, _, _, _, _, _, _, _, _, _, hC⟩ := C.cls
  obtain ⟨ox, eox, cox, dox, ddx⟩ := B.ox
  refine store_attr PySem.F.store_object hC C.ns C.no.2.2.1 hna hB hx B.inst (fun h₄ tk₄ I₄ hk₄ hsame => ?_) B.wi (by decide)
  have hk₄' : ∀ b o, b ≠ x → b ≠ dx → s.heap.get? b = some o → h₄.get? b = some o := fun b o b1 b2 e => hk₄ b o b1 (fun o₀ dx q1 q2 => by rw [eox] at q1; cases q1; rw [ddx] at q2; cases q2; exact b2) e
  obtain ⟨ox₄, eox₄, cox₄, dox₄, _, ddx₄⟩ := hsame ox eox
  refine hq h₄ tk₄ ⟨⟨ox₄, eox₄, cox₄.trans cox, fun c q => dox c (dox₄ ▸ q), ddx₄ dx ddx⟩, B.ne, ?_, Within.set B.wi hl⟩ hk₄'
  obtain ⟨o', e', _, _, hh⟩ := I₄
  rw [eox₄] at e'; cases e'
  rcases hh with ⟨hnone, _⟩ | ⟨d', hd', _, hns⟩
  · rw [ddx₄ dx ddx] at hnone; cases hnone
  · rw [ddx₄ dx ddx] at hd'; cases hd'; exact hns

theorem code_init {x dx st : Addr} {R : Result → Shared → Prop} (C : CL s.heap mN) (lim : s.heap.NoLimit) (B : OB x dx (fun _ => none) s.heap) (hx : x ≠ 52) (hx51 : x ≠ 51 ∧ dx ≠ 51 ∧ dx ≠ 52) (fresh : s₀.heap.get? x = none ∧ s₀.heap.get? dx = none) (C₀ : CL s₀.heap mN) (base : GB [] s₀.heap s.heap) (hst : ∃ o, s.heap.get? st = some o) (hroom : A.depth < recursionLimit)
    (hQ : ∀ h' tk' pb tl tw, (∃ m, OB x dx m h' ∧ m "lineno" = some (.int 1 tl) ∧ m "instream" = some (.ref st) ∧ m "whitespace" = some (.str (T [10, 9, 13, 32]) tw) ∧ m "pushback" = some (.ref pb)) → s.heap.get? pb = none → h'.get? pb = some { cls := .type "list", data := .seq #[] } → GB [x, dx] s.heap h' → R (.ok (.ret .none)) { s with heap := h', toks := tk' }) :
    codeAny (model prog w) A (.call (.ref 28) ⟨[.ref x, .ref st], []⟩) R s := by
  obtain ⟨o, qual, doc, pm, cd, ct, ho, hcls, hdata, hcd⟩ := C.m0
  have hbind : bindArgs (PySem.W.fnX (defName (meth 0)) qual (defParams (meth 0)) (defBody (meth 0)) (defScope (meth 0)) [] .none .none doc pm none cd ct) ⟨[.ref x, .ref st], []⟩ = pure [(Str.ofString "self", Value.ref x), (Str.ofString "fp", .ref st)] := by rfl
  have hnc : ∀ x ∈ (defScope (meth 0)).names, x.2 ≠ .cell := by decide
  refine codeAny_call_plain (body := defBody (meth 0)) hroom ho hdata lim hcd (by rfl) hbind hnc (fun y hy => by
    rcases List.mem_cons.mp hy with rfl | hy
    · rfl
    · rw [List.mem_singleton.mp hy]; rfl) (fun h₁ hn₁ hkeep => ?_) (by rfl) (by rfl) (by rfl)
  refine wpAny_mono (E := fun _ _ => False) ?_ (fun _ _ h => h) (fun _ _ h => h.elim)
  generalize hLq : s.heap.objs.size = L at *
  have hLf : s.heap.get? L = none := hLq ▸ fresh_addr s.heap
  have ok : EnvOk (callEnv (PySem.W.fnX (defName (meth 0)) qual (defParams (meth 0)) (defBody (meth 0)) (defScope (meth 0)) [] .none .none doc pm none cd ct) L 28) := ⟨rfl, rfl, rfl, fun p hp => nomatch hp⟩
  have neX : L ≠ x := fun q => by obtain ⟨o, e, _⟩ := B.ox; rw [← q, hLf] at e; cases e
  have neD : L ≠ dx := fun q => by obtain ⟨o, _, _, e, _⟩ := B.ns; rw [← q, hLf] at e; cases e
  have hld : ∀ (s' : Shared) m px n v, s'.heap.Ns L m → m n = some v → (callEnv (PySem.W.fnX (defName (meth 0)) qual (defParams (meth 0)) (defBody (meth 0)) (defScope (meth 0)) [] .none .none doc pm none cd ct) L 28).kindOf n = some .local → (n == ("__debug__" : Str)) = false → ∀ A E {Q : Value → Shared → Prop}, Q v s' → wpAny (model prog w) A (eval (.Name n px) (callEnv (PySem.W.fnX (defName (meth 0)) qual (defParams (meth 0)) (defBody (meth 0)) (defScope (meth 0)) [] .none .none doc pm none cd ct) L 28)) Q E s' :=
    fun s' m px n v hn hm hk hd A E Q hq => wpAny_Name (wpAny_loadName_local ok.kind hk hn hm hq) hd
  conv in execs _ _ => arg 1; whnf
  have kCL : ∀ h', (∀ b o, b ≠ x → b ≠ dx → s.heap.get? b = some o → h'.get? b = some o) → CL h' mN := fun h' kk => C₀.keep fun b o _ e => kk b o (fun q => by rw [q, fresh.1] at e; cases e) (fun q => by rw [q, fresh.2] at e; cases e) (base b o nil_mem e)
  have B1 : OB x dx (fun _ => none) h₁ := B.keep (fun o e => hkeep _ o e) (fun o e => hkeep _ o e)
  refine wpAny_execs_cons (plainObj_wpAny_Assign_Attribute (wpAny_Constant_int (hld _ _ _ _ (.ref x) hn₁ (by rfl) (by rfl) (by decide) _ _ ?_)) (by rfl))
  refine wp_store (kCL _ fun b o _ _ e => hkeep b o e) B1 C.no.2.2.2.1 FL.lineno (by decide) hx fun h₂ tk₂ B2 k2 => ?_
  have hn₂ : h₂.Ns L _ := Heap.Ns.at' hn₁ fun o e => k2 L o neX neD e
  refine wpAny_execs_cons (plainObj_wpAny_Assign_Attribute (hld _ _ _ _ (.ref st) hn₂ (by rfl) (by rfl) (by decide) _ _ (hld _ _ _ _ (.ref x) hn₂ (by rfl) (by rfl) (by decide) _ _ ?_)) (by rfl))
  refine wp_store (kCL _ fun b o b1 b2 e => k2 b o b1 b2 (hkeep b o e)) B2 C.no.2.2.2.2.1 FL.instream (by decide) hx fun h₃ tk₃ B3 k3 => ?_
  have hn₃ : h₃.Ns L _ := Heap.Ns.at' hn₂ fun o e => k3 L o neX neD e
  refine wpAny_execs_cons (plainObj_wpAny_Assign_Attribute (wpAny_Constant_str (hld _ _ _ _ (.ref x) hn₃ (by rfl) (by rfl) (by decide) _ _ ?_)) (by rfl))
  refine wp_store (kCL _ fun b o b1 b2 e => k3 b o b1 b2 (k2 b o b1 b2 (hkeep b o e))) B3 C.no.2.2.2.2.2.1 FL.whitespace (by decide) hx fun h₄ tk₄ B4 k4 => ?_
  have hn₄ : h₄.Ns L _ := Heap.Ns.at' hn₃ fun o e => k4 L o neX neD e
  refine wpAny_execs_cons (plainObj_wpAny_Assign_Attribute (wpAny_List (wpAny_items_nil ⟨Nat.zero_le _, hld _ _ _ _ (.ref x) (hn₄.push _) (by rfl) (by rfl) (by decide) _ _ ?_⟩)) (by rfl))
  have B4' : OB x dx _ (h₄.push { cls := .type "list", data := .seq #[] }) := B4.keep (fun o e => Heap.get?_push_of_some _ e) (fun o e => Heap.get?_push_of_some _ e)
  refine wp_store (kCL _ fun b o b1 b2 e => Heap.get?_push_of_some _ (k4 b o b1 b2 (k3 b o b1 b2 (k2 b o b1 b2 (hkeep b o e))))) B4' C.no.2.2.2.2.2.2 FL.pushback (by decide) hx fun h₅ tk₅ B5 k5 => ?_
  refine wpAny_execs_nil ?_
  have hpf := fresh_addr h₄
  have nx : h₄.objs.size ≠ x := fun q => by obtain ⟨o, e, _⟩ := B4.ox; rw [← q, hpf] at e; cases e
  have nd : h₄.objs.size ≠ dx := fun q => by obtain ⟨o, _, _, e, _⟩ := B4.ns; rw [← q, hpf] at e; cases e
  refine hQ h₅ _ h₄.objs.size _ _ ⟨_, B5, by rfl, by rfl, by rfl, by rfl⟩ ?_ (k5 _ _ nx nd (Heap.get?_push_size _ rfl)) fun b o hb e => ?_
  · cases q : s.heap.get? h₄.objs.size with
    | none => rfl
    | some o => rw [k4 _ o nx nd (k3 _ o nx nd (k2 _ o nx nd (hkeep _ o q)))] at hpf; cases hpf
  · have b1 : b ≠ x := fun q => hb (q ▸ .head _)
    have b2 : b ≠ dx := fun q => hb (q ▸ .tail _ (.head _))
    exact k5 _ _ b1 b2 (Heap.get?_push_of_some _ (k4 b o b1 b2 (k3 b o b1 b2 (k2 b o b1 b2 (hkeep b o e)))))

theorem nodup10 {x dx pb : Nat} {l : List Nat} (h : l.Nodup) (h1 : x ≠ dx) (h2 : x ≠ pb) (h3 : dx ≠ pb) (hx : x ∉ l) (hd : dx ∉ l) (hp : pb ∉ l) : (x :: dx :: pb :: l).Nodup :=
  List.nodup_cons.mpr ⟨by simp [h1, h2, hx], List.nodup_cons.mpr ⟨by simp [h3, hd], List.nodup_cons.mpr ⟨hp, h⟩⟩⟩

theorem wp_netrclex {text : List Nat} {st sd rd c1 c2 pl cc : Addr} {Q : Value → Shared → Prop} (C₀ : CL s₀.heap mN) (lim : s₀.heap.NoLimit) (base : GB [] s₀.heap s.heap) (gd : Good (k + 4) A)
    (nd : [st, sd, rd, c1, c2, pl, cc].Nodup) (al : ∀ b ∈ [st, sd, rd, c1, c2, pl, cc], ∃ o, s.heap.get? b = some o)
    (hst : ∃ o, s.heap.get? st = some o ∧ o.cls = .type "function" ∧ (∃ fd, o.data = .func fd) ∧ o.dict = some sd) (hsd : ∃ md, s.heap.Ns sd md ∧ md "read" = some (.ref rd)) (hrx : ∀ x dx pb, RX ⟨x, dx, pb, st, sd, rd, c1, c2, pl, cc⟩ text 0 s.heap)
    (hQ : ∀ s' x dx pb, GB [] s.heap s'.heap → s.heap.get? x = none → s.heap.get? dx = none → s.heap.get? pb = none → s'.gens = s.gens → s'.os = s.os → LX ⟨x, dx, pb, st, sd, rd, c1, c2, pl, cc⟩ text 0 1 [] s'.heap → Q (.ref x) s') :
    wpAny (model prog w) A (call (.ref 52) [.ref st]) Q E s := by
  have C := C₀.keep base
  obtain ⟨_, _, _, _, _, _, _, _, _, _, _, _, hC⟩ := C.cls
  obtain ⟨oI, qual, doc, pm, cd, ct, hoI, hclsI, _⟩ := C.m0
  refine wpAny_call_obj_init PySem.F.objNew hC C.ns C.fns.1 hoI hclsI fun h' x dx hm => ?_
  have hw : (Code.builtin "type.__call__" ⟨[.ref 52, .ref st], []⟩).weight = 1 := rfl
  have nx : ∀ b o, s.heap.get? b = some o → x ≠ b := fun b o e q => by rw [← q, hm.newX] at e; cases e
  have ndx : ∀ b o, s.heap.get? b = some o → dx ≠ b := fun b o e q => by rw [← q, hm.newD] at e; cases e
  have f0 : ∀ b, s.heap.get? b = none → s₀.heap.get? b = none := fun b e => by
    cases q : s₀.heap.get? b with
    | none => rfl
    | some o => rw [base b o nil_mem q] at e; cases e
  obtain ⟨om51, _, _, e51, _⟩ := C.ns
  have B : OB x dx (fun _ => none) h' := by
    obtain ⟨o, e, c, d, q⟩ := hm.inst
    have hd := hm.dict o e
    rcases q with ⟨q, _⟩ | ⟨d', q, ne, ns⟩
    · rw [hd] at q; cases q
    · rw [hd] at q; cases q
      exact ⟨⟨o, e, c, d, hd⟩, ne, ns, fun y hy => absurd rfl hy⟩
  have g' : GB [] s.heap h' := fun b o _ e => hm.keeps b o e
  obtain ⟨ost, est, rst⟩ := hst
  refine wpAny_call (code_init (s := ⟨h', s.gens, s.drawn, s.toks, s.os⟩) (s₀ := s₀) (C.keep g') (NoLimit.keep g' (NoLimit.keep base lim)) B (nx _ _ hC) ⟨nx _ _ e51, ndx _ _ e51, ndx _ _ hC⟩ ⟨f0 _ hm.newX, f0 _ hm.newD⟩ C₀ (fun b o m e => g' b o m (base b o m e)) ⟨ost, hm.keeps _ _ est⟩ (by have := gd.depth; show A.depth + (Code.builtin "type.__call__" ⟨[.ref 52, .ref st], []⟩).weight < _; rw [hw]; lia) fun h₂ tk₂ pb tl tw hB hpb0 hpb hg => ?_)
  obtain ⟨m, hB2, m1, m2, m3, m4⟩ := hB
  have npb : ∀ b o, s.heap.get? b = some o → pb ≠ b := fun b o e q => by
    have := hm.keeps b o e
    rw [← q] at this
    exact absurd (hpb0.symm.trans this) (fun q => nomatch q)
  have hpbs : s.heap.get? pb = none := by
    cases q : s.heap.get? pb with
    | none => rfl
    | some o => exact absurd rfl (npb pb o q)
  have nxp : x ≠ pb := fun q => by
    obtain ⟨o, e, _⟩ := B.ox
    rw [q] at e
    exact absurd (hpb0.symm.trans e) (fun q => nomatch q)
  have ndp : dx ≠ pb := fun q => by
    obtain ⟨o, _, _, e, _⟩ := B.ns
    rw [q] at e
    exact absurd (hpb0.symm.trans e) (fun q => nomatch q)
  have kk : ∀ b o, s.heap.get? b = some o → h₂.get? b = some o := fun b o e => hg b o (fun q => by
    simp only [List.mem_cons, List.not_mem_nil, or_false] at q
    rcases q with q | q
    · exact nx _ _ e q.symm
    · exact ndx _ _ e q.symm) (hm.keeps b o e)
  have mem : ∀ y, (∀ b o, s.heap.get? b = some o → y ≠ b) → y ∉ [st, sd, rd, c1, c2, pl, cc] := fun y hy q => by
    obtain ⟨o, e⟩ := al y q
    exact hy y o e rfl
  refine ⟨rfl, hQ _ x dx pb (fun b o _ e => kk b o e) hm.newX hm.newD hpbs rfl rfl ⟨hB2.ox, ⟨m, tl, tw, hB2.ns, hB2.wi, m1, m2, m3, m4⟩, ⟨[], _, hpb, .nil⟩, ?_, ?_, ?_, ?_⟩⟩
  · exact ⟨ost, kk _ _ est, rst⟩
  · obtain ⟨md, e, r⟩ := hsd
    exact ⟨md, e.keeps kk, r⟩
  · obtain ⟨⟨o6, qual, doc, pm, ct, cl, e6, r6, c7, r8⟩, ⟨oc1, e9, d9⟩, ⟨t2, oc2, e10, d10⟩, ⟨n11, t11, e11⟩, ne⟩ := hrx x dx pb
    exact ⟨⟨o6, qual, doc, pm, ct, cl, kk _ _ e6, r6, c7.keeps kk, r8⟩, ⟨oc1, kk _ _ e9, d9⟩, ⟨t2, oc2, kk _ _ e10, d10⟩, ⟨n11, t11, kk _ _ e11⟩, ne⟩
  · exact nodup10 nd (Ne.symm B.ne) nxp ndp (mem _ nx) (mem _ ndx) (mem _ npb)
end
end Mine

namespace Mine

/- the plain law: every way lies between the queue and the pile -/
noncomputable def phi (c x : Int) : Int := if c ≤ x then x - c else 0
noncomputable def phis (c : Int) (l : List Int) : Int := (l.map (phi c)).sum
theorem phis_cons (c x : Int) (l : List Int) : phis c (x :: l) = phi c x + phis c l := by simp [phis]
theorem phi_cases (c x : Int) : (c ≤ x ∧ phi c x = x - c) ∨ (x < c ∧ phi c x = 0) := by
  unfold phi
  split
  · exact .inl ⟨‹_›, rfl⟩
  · exact .inr ⟨Int.not_le.mp ‹_›, rfl⟩
theorem phi_lb (c x : Int) : x - c ≤ phi c x ∧ 0 ≤ phi c x := by
  rcases phi_cases c x with h | h
  · rw [h.2]; exact ⟨Int.le_refl _, Int.sub_nonneg_of_le h.1⟩
  · rw [h.2]; exact ⟨Int.sub_nonpos_of_le (Int.le_of_lt h.1), Int.le_refl _⟩
theorem swap_phi {c a1 a2 b1 b2 : Int} (ha : a1 ≤ a2) (hb : b1 ≤ b2) : phi c (b1 - a1) + phi c (b2 - a2) ≤ phi c (b1 - a2) + phi c (b2 - a1) := by
  obtain ⟨u1, u2⟩ := phi_lb c (b1 - a2)
  obtain ⟨z1, z2⟩ := phi_lb c (b2 - a1)
  rcases phi_cases c (b1 - a1) with ⟨v, e⟩ | ⟨v, e⟩ <;> rcases phi_cases c (b2 - a2) with ⟨w, e'⟩ | ⟨w, e'⟩ <;> rw [e, e'] <;> clear e e' <;> lia

noncomputable def lin : List (Bool × Int) → List Int → List Int
  | [], _ => []
  | (true, h) :: r, o => lin r (o ++ [h])
  | (false, h) :: r, a :: o => (h - a) :: lin r o
  | (false, _) :: r, [] => lin r []
/- the pile's top comes first -/
noncomputable def pilR : List (Bool × Int) → List Int → List Int
  | [], _ => []
  | (true, h) :: r, o => pilR r (h :: o)
  | (false, h) :: r, a :: o => (h - a) :: pilR r o
  | (false, _) :: r, [] => pilR r []
noncomputable def bal : List (Bool × Int) → Nat → Prop
  | [], n => n = 0
  | (true, _) :: r, n => bal r (n + 1)
  | (false, _) :: r, n => 0 < n ∧ bal r (n - 1)
inductive Way : List (Bool × Int) → List Int → List Int → Prop
  | nil {o} : Way [] o []
  | opn {h r o st} : Way r (o ++ [h]) st → Way ((true, h) :: r) o st
  | cls {h r o A a B st} : o = A ++ a :: B → Way r (A ++ B) st → Way ((false, h) :: r) o ((h - a) :: st)

theorem lin_rep (c : Int) : ∀ (evs : List (Bool × Int)) (A : List Int) (a b : Int) (B : List Int), bal evs (A.length + 1 + B.length) →
    ∃ t, (false, t) ∈ evs ∧ phis c (lin evs (A ++ a :: B)) + phi c (t - b) = phis c (lin evs (A ++ b :: B)) + phi c (t - a)
  | [], A, a, b, B, h => by simp only [bal] at h; lia
  | (true, h) :: r, A, a, b, B, hb => by
    have := lin_rep c r A a b (B ++ [h]) (by simp only [bal] at hb; simpa [Nat.add_assoc] using hb)
    obtain ⟨t, m, e⟩ := this
    exact ⟨t, .tail _ m, by simpa [lin] using e⟩
  | (false, h) :: r, [], a, b, B, _ => ⟨h, .head _, by simp only [List.nil_append, lin, phis_cons]; lia⟩
  | (false, h) :: r, x :: A, a, b, B, hb => by
    obtain ⟨t, m, e⟩ := lin_rep c r A a b B (by have h2 := hb.2; rwa [show (x :: A).length + 1 + B.length - 1 = A.length + 1 + B.length by simp only [List.length_cons]; lia] at h2)
    exact ⟨t, .tail _ m, by simp only [List.cons_append, lin, phis_cons]; lia⟩

theorem pilR_rep (c : Int) : ∀ (evs : List (Bool × Int)) (A : List Int) (a b : Int) (B : List Int), bal evs (A.length + 1 + B.length) →
    ∃ t, (false, t) ∈ evs ∧ phis c (pilR evs (A ++ a :: B)) + phi c (t - b) = phis c (pilR evs (A ++ b :: B)) + phi c (t - a)
  | [], A, a, b, B, h => by simp only [bal] at h; lia
  | (true, h) :: r, A, a, b, B, hb => by
    have := pilR_rep c r (h :: A) a b B (by simp only [bal] at hb; rw [List.length_cons]; rwa [show A.length + 1 + 1 + B.length = A.length + 1 + B.length + 1 by lia])
    obtain ⟨t, m, e⟩ := this
    exact ⟨t, .tail _ m, by simpa [pilR] using e⟩
  | (false, h) :: r, [], a, b, B, _ => ⟨h, .head _, by simp only [List.nil_append, pilR, phis_cons]; lia⟩
  | (false, h) :: r, x :: A, a, b, B, hb => by
    obtain ⟨t, m, e⟩ := pilR_rep c r A a b B (by have h2 := hb.2; rwa [show (x :: A).length + 1 + B.length - 1 = A.length + 1 + B.length by simp only [List.length_cons]; lia] at h2)
    exact ⟨t, .tail _ m, by simp only [List.cons_append, pilR, phis_cons]; lia⟩

/- to choose a later one costs more -/
theorem later {c h : Int} {n : Nat} {S : List Int → Int}
    (rep : ∀ A a b B, A.length + 1 + B.length = n → ∃ t, h ≤ t ∧ S (A ++ a :: B) + phi c (t - b) = S (A ++ b :: B) + phi c (t - a)) :
    ∀ (M A : List Int) (a b : Int) (B : List Int), (a :: M ++ b :: B).Pairwise (· ≤ ·) → A.length + M.length + 1 + B.length = n →
      phi c (h - a) + S (A ++ (M ++ b :: B)) ≤ phi c (h - b) + S (A ++ a :: (M ++ B))
  | [], A, a, b, B, hp, hn => by
    obtain ⟨t, ht, e⟩ := rep A a b B (by simpa using hn)
    have hab : a ≤ b := (List.pairwise_cons.mp hp).1 b (by simp)
    have := swap_phi (c := c) hab ht
    simp only [List.nil_append]
    lia
  | m :: M, A, a, b, B, hp, hn => by
    obtain ⟨t, ht, e⟩ := rep A a m (M ++ b :: B) (by simp at hn ⊢; lia)
    have ham : a ≤ m := (List.pairwise_cons.mp hp).1 m (by simp)
    have s1 := swap_phi (c := c) ham ht
    have s2 := later rep M (A ++ [a]) m b B (List.pairwise_cons.mp hp).2 (by simp at hn ⊢; lia)
    simp only [List.append_assoc, List.cons_append, List.nil_append] at s2 ⊢
    lia

noncomputable def evOk (evs : List (Bool × Int)) (o : List Int) : Prop := (o ++ evs.map (·.2)).Pairwise (· ≤ ·)
theorem evOk.opn {b h r o} (x : evOk ((b, h) :: r) o) : evOk r (o ++ [h]) := by unfold evOk at *; simpa using x
theorem evOk.cls {b h r o o'} (x : evOk ((b, h) :: r) o) (hs : List.Sublist o' o) : evOk r o' :=
  List.Pairwise.sublist ((hs.append (List.sublist_cons_self _ _)) : List.Sublist (o' ++ r.map (·.2)) (o ++ ((b, h) :: r).map (·.2))) x
theorem evOk.le {b h r o t} (x : evOk ((b, h) :: r) o) {b'} (m : (b', t) ∈ r) : h ≤ t := by
  unfold evOk at x
  rw [List.pairwise_append] at x
  exact (List.pairwise_cons.mp x.2.1).1 t (List.mem_map_of_mem (f := (·.2)) m)

theorem lin_low (c : Int) {evs o st} (W : Way evs o st) (hb : bal evs o.length) (ok : evOk evs o) : phis c (lin evs o) ≤ phis c st := by
  induction W with
  | nil => exact Int.le_refl _
  | opn _ ih => exact ih (by simpa [bal] using hb) ok.opn
  | @cls h r o A a B st e W ih =>
    subst e
    have hb' : bal r (A ++ B).length := by
      have := hb.2
      simp at this ⊢
      exact this
    have i := ih hb' (ok.cls (by simp))
    rw [phis_cons]
    cases A with
    | nil => simp only [List.nil_append, lin, phis_cons] at i ⊢; lia
    | cons x A =>
      have l := later (c := c) (h := h) (n := (A ++ a :: B).length) (S := fun o => phis c (lin r o)) (fun A' a' b' B' hn => by
        obtain ⟨t, m, q⟩ := lin_rep c r A' a' b' B' (by rw [hn]; simp at hb' ⊢; rwa [show A.length + (B.length + 1) = A.length + B.length + 1 by lia] ; )
        exact ⟨t, ok.le m, q⟩) A [] x a B (by
          have := ok
          unfold evOk at this
          rw [List.pairwise_append] at this
          simpa using this.1) (by simp; lia)
      simp only [List.cons_append, List.nil_append, lin, phis_cons] at l i ⊢
      lia

theorem pil_high (c : Int) {evs o st} (W : Way evs o st) (hb : bal evs o.length) (ok : evOk evs o) : phis c st ≤ phis c (pilR evs o.reverse) := by
  induction W with
  | nil => exact Int.le_refl _
  | opn _ ih => simpa [pilR] using ih (by simpa [bal] using hb) ok.opn
  | @cls h r o A a B st e W ih =>
    subst e
    have hb' : bal r (A ++ B).length := by
      have := hb.2
      simp at this ⊢
      exact this
    have i := ih hb' (ok.cls (by simp))
    rw [phis_cons]
    rcases List.eq_nil_or_concat B with q | ⟨M, y, q⟩
    · subst q
      simp only [List.reverse_append, List.reverse_cons, List.reverse_nil, List.nil_append, List.cons_append, pilR, phis_cons, List.append_nil] at i ⊢
      lia
    · subst q
      have l := later (c := c) (h := h) (n := (A ++ M ++ [y]).length) (S := fun o => phis c (pilR r o.reverse)) (fun A' a' b' B' hn => by
        obtain ⟨t, m, q⟩ := pilR_rep c r B'.reverse a' b' A'.reverse (by
          simp only [List.length_reverse]
          rw [show B'.length + 1 + A'.length = A'.length + 1 + B'.length by lia, hn]
          simpa using hb')
        refine ⟨t, ok.le m, ?_⟩
        simpa using q) M A a y [] (by
          have := ok
          unfold evOk at this
          rw [List.pairwise_append] at this
          have := (List.pairwise_append.mp this.1).2.1
          simpa using this) (by simp; lia)
      simp at l i ⊢
      simp only [pilR, phis_cons]
      lia
end Mine

namespace Mine
theorem phis_perm (c : Int) {l l' : List Int} (p : l.Perm l') : phis c l = phis c l' := by
  induction p with
  | nil => rfl
  | cons x _ ih => rw [phis_cons, phis_cons, ih]
  | swap x y l => simp only [phis_cons]; lia
  | trans _ _ h1 h2 => exact h1.trans h2
theorem sortI_perm (l : List Int) : (sortI l).Perm l := List.mergeSort_perm ..
theorem sortI_pw (l : List Int) : (sortI l).Pairwise (· ≤ ·) := by
  have := List.pairwise_mergeSort (le := fun a b : Int => decide (a ≤ b)) (by intro a b c; simp; lia) (by intro a b; simp; lia) l
  exact this.imp fun h => by simpa using h
theorem sort4 (l : List Int) (h : l.length = 4) : ∃ a b c d, sortI l = [a, b, c, d] ∧ a ≤ b ∧ b ≤ c ∧ c ≤ d := by
  have h4 := sortI_len l
  rw [h] at h4
  have hp := sortI_pw l
  match e : sortI l, h4 with
  | [a, b, c, d], _ =>
    rw [e] at hp
    simp at hp
    exact ⟨a, b, c, d, rfl, hp.1.1, hp.2.1.1, hp.2.2⟩
theorem phi_ge (c x : Int) : x - c ≤ phi c x := by unfold phi; split <;> lia
theorem phi_nn (c x : Int) : 0 ≤ phi c x := by unfold phi; split <;> lia
theorem phi_lo {c x : Int} (h : x ≤ c) : phi c x = 0 := by unfold phi; split <;> lia
theorem phi_hi {c x : Int} (h : c ≤ x) : phi c x = x - c := if_pos h
theorem phis4 (c a b d e : Int) : phis c [a, b, d, e] = phi c a + (phi c b + (phi c d + phi c e)) := by
  rw [phis_cons, phis_cons, phis_cons, phis_cons, show phis c [] = 0 from rfl, Int.add_zero]
theorem longest_le {x y : List Int} (hx : x.length = 4) (hy : y.length = 4) (h : ∀ c, phis c x ≤ phis c y) :
    ∃ a b c a' b' c', longest x = [a, b, c] ∧ longest y = [a', b', c'] ∧ a ≤ a' ∧ b ≤ b' ∧ c ≤ c' := by
  obtain ⟨x1, x2, x3, x4, ex, h1, h2, h3⟩ := sort4 x hx
  obtain ⟨y1, y2, y3, y4, ey, g1, g2, g3⟩ := sort4 y hy
  have hh : ∀ c, phi c x1 + (phi c x2 + (phi c x3 + phi c x4)) ≤ phi c y1 + (phi c y2 + (phi c y3 + phi c y4)) := fun c => by
    rw [← phis4, ← phis4, ← ex, ← ey, phis_perm c (sortI_perm x), phis_perm c (sortI_perm y)]
    exact h c
  refine ⟨x4, x4 + x3, x4 + x3 + x2, y4, y4 + y3, y4 + y3 + y2, by unfold longest; rw [ex], by unfold longest; rw [ey], ?_, ?_, ?_⟩
  · have a := hh y4
    rw [phi_lo (Int.le_trans (Int.le_trans g1 g2) g3), phi_lo (Int.le_trans g2 g3), phi_lo g3, phi_lo (Int.le_refl _)] at a
    have b1 := phi_nn y4 x1; have b2 := phi_nn y4 x2; have b3 := phi_nn y4 x3; have b4 := phi_ge y4 x4
    clear hh h ex ey h1 h2 h3 g1 g2 g3
    lia
  · have a := hh y3
    rw [phi_lo (Int.le_trans g1 g2), phi_lo g2, phi_lo (Int.le_refl _), phi_hi g3] at a
    have b1 := phi_nn y3 x1; have b2 := phi_nn y3 x2; have b3 := phi_ge y3 x3; have b4 := phi_ge y3 x4
    clear hh h ex ey h1 h2 h3 g1 g2 g3
    lia
  · have a := hh y2
    rw [phi_lo g1, phi_lo (Int.le_refl _), phi_hi g2, phi_hi (Int.le_trans g2 g3)] at a
    have b1 := phi_nn y2 x1; have b2 := phi_ge y2 x2; have b3 := phi_ge y2 x3; have b4 := phi_ge y2 x4
    clear hh h ex ey h1 h2 h3 g1 g2 g3
    lia
end Mine

namespace Mine
noncomputable abbrev WS := List (List Int × List Int)
noncomputable def wstep (W : WS) : Bool × Int → WS
  | (true, h) => W.map fun p => (p.1 ++ [h], p.2)
  | (false, h) => W.flatMap fun p => (List.range p.1.length).map fun k => (p.1.take k ++ p.1.drop (k + 1), p.2 ++ [h - p.1.getD k 0])
noncomputable def waysFrom (W : WS) (evs : List (Bool × Int)) : WS := evs.foldl wstep W
theorem mem_ways : ∀ {evs : List (Bool × Int)} {W : WS} {p : List Int × List Int}, p ∈ waysFrom W evs → ∃ q ∈ W, ∃ st, p.2 = q.2 ++ st ∧ Way evs q.1 st
  | [], W, p, h => ⟨p, h, [], by simp, .nil⟩
  | (true, x) :: r, W, p, h => by
    obtain ⟨q, hq, st, e, w⟩ := mem_ways (evs := r) (W := wstep W (true, x)) h
    simp only [wstep, List.mem_map] at hq
    obtain ⟨q0, hq0, rfl⟩ := hq
    exact ⟨q0, hq0, st, e, .opn w⟩
  | (false, x) :: r, W, p, h => by
    obtain ⟨q, hq, st, e, w⟩ := mem_ways (evs := r) (W := wstep W (false, x)) h
    simp only [wstep, List.mem_flatMap, List.mem_map, List.mem_range] at hq
    obtain ⟨q0, hq0, k, hk, rfl⟩ := hq
    refine ⟨q0, hq0, _, ?_, .cls (A := q0.1.take k) (a := q0.1.getD k 0) (B := q0.1.drop (k + 1)) ?_ w⟩
    · rw [e]; simp
    · rw [List.getD_eq_getElem?_getD, List.getElem?_eq_getElem hk]
      simp
theorem ways_mem {evs : List (Bool × Int)} {o st : List Int} (w : Way evs o st) : ∀ {W : WS} {s : List Int}, (o, s) ∈ W → ∃ o', (o', s ++ st) ∈ waysFrom W evs := by
  induction w with
  | nil => intro W s h; exact ⟨_, by simpa [waysFrom] using h⟩
  | @opn h r o st w ih => 
    intro W s hm
    obtain ⟨o', q⟩ := ih (W := wstep W (true, h)) (s := s) (by simp only [wstep, List.mem_map]; exact ⟨_, hm, rfl⟩)
    exact ⟨o', q⟩
  | @cls h r o A a B st e w ih =>
    intro W s hm
    obtain ⟨o', q⟩ := ih (W := wstep W (false, h)) (s := s ++ [h - a]) (by
      simp only [wstep, List.mem_flatMap, List.mem_map, List.mem_range]
      refine ⟨_, hm, A.length, by subst e; simp, ?_⟩
      subst e
      simp)
    refine ⟨o', ?_⟩
    rw [List.append_assoc] at q
    exact q
theorem way_lin : ∀ (evs : List (Bool × Int)) (o : List Int), bal evs o.length → Way evs o (lin evs o)
  | [], _, _ => .nil
  | (true, h) :: r, o, hb => .opn (way_lin r _ (by simpa [bal] using hb))
  | (false, h) :: r, a :: o, hb => .cls (A := []) rfl (way_lin r _ (by simpa [bal] using hb))
  | (false, h) :: r, [], hb => by simp [bal] at hb
theorem way_pil : ∀ (evs : List (Bool × Int)) (o : List Int), bal evs o.length → Way evs o.reverse (pilR evs o)
  | [], _, _ => .nil
  | (true, h) :: r, o, hb => .opn (by have := way_pil r (h :: o) (by simpa [bal] using hb); simpa [pilR] using this)
  | (false, h) :: r, a :: o, hb => .cls (A := o.reverse) (B := []) (by simp) (by simpa using way_pil r o (by simpa [bal] using hb))
  | (false, h) :: r, [], hb => by simp [bal] at hb
noncomputable def closes (evs : List (Bool × Int)) : Nat := (evs.filter fun e => !e.1).length
theorem Way.length {evs o st} (w : Way evs o st) : st.length = closes evs := by
  induction w with
  | nil => rfl
  | opn _ ih => simpa [closes] using ih
  | cls _ _ ih => simp [closes] at ih ⊢; exact ih

noncomputable def told (evs : List (Bool × Int)) : List (List Int) := (waysFrom [([], [])] evs).map (·.2)
theorem told_way {evs st} : st ∈ told evs ↔ Way evs [] st := by
  constructor
  · intro h
    obtain ⟨p, hp, rfl⟩ := List.mem_map.mp h
    obtain ⟨q, hq, st, e, w⟩ := mem_ways hp
    rw [List.mem_singleton.mp hq] at e w
    rw [e]; simpa using w
  · intro w
    obtain ⟨o', h⟩ := ways_mem w (W := [([], [])]) (s := []) (.head _)
    exact List.mem_map.mpr ⟨_, h, by simp⟩

/- the law -/
theorem the_law {evs : List (Bool × Int)} (hb : bal evs 0) (ok : (evs.map (·.2)).Pairwise (· ≤ ·)) (h4 : closes evs = 4) :
    lin evs [] ∈ told evs ∧ pilR evs [] ∈ told evs ∧ ∀ st ∈ told evs, ∃ a b c a' b' c' a'' b'' c'', longest (lin evs []) = [a, b, c] ∧ longest st = [a', b', c'] ∧ longest (pilR evs []) = [a'', b'', c''] ∧ (a ≤ a' ∧ a' ≤ a'') ∧ (b ≤ b' ∧ b' ≤ b'') ∧ (c ≤ c' ∧ c' ≤ c'') := by
  have wl := way_lin evs [] hb
  have wp := way_pil evs [] hb
  have ok' : evOk evs [] := by simpa [evOk] using ok
  refine ⟨told_way.mpr wl, told_way.mpr wp, fun st hs => ?_⟩
  have ws := told_way.mp hs
  obtain ⟨a, b, c, a', b', c', e1, e2, l1, l2, l3⟩ := longest_le (wl.length.trans h4) (ws.length.trans h4) fun c => lin_low c ws hb ok'
  obtain ⟨x, y, z, x', y', z', f1, f2, m1, m2, m3⟩ := longest_le (ws.length.trans h4) (wp.length.trans h4) fun c => pil_high c ws hb ok'
  rw [e2] at f1
  cases f1
  exact ⟨a, b, c, a', b', c', x', y', z', e1, e2, f2, ⟨l1, m1⟩, ⟨l2, m2⟩, ⟨l3, m3⟩⟩
end Mine

namespace Mine
/- rows -/
noncomputable def rstep (r : List Nat) (even : Bool) : List Nat := if r.count 40 < 4 ∧ (even = true ∨ 2 * r.count 40 = r.length) then r ++ [40] else r ++ [41]
noncomputable def rowOf (es : List Bool) : List Nat := es.foldl rstep []
noncomputable def opensOf (r : List Nat) : List Bool := r.map (· == 40)
noncomputable def evsAt (h : Nat → Int) (bs : List Bool) (i : Nat) : List (Bool × Int) := (List.range i).map fun k => (bs.getD k false, h k)
theorem evsAt_succ (h : Nat → Int) (bs : List Bool) (i : Nat) : evsAt h bs (i + 1) = evsAt h bs i ++ [(bs.getD i false, h i)] := by simp [evsAt, List.range_succ]
noncomputable def evsFrom (h : Nat → Int) : List Bool → Nat → List (Bool × Int)
  | [], _ => []
  | b :: r, i => (b, h i) :: evsFrom h r (i + 1)
theorem evsAt_all (h : Nat → Int) (bs : List Bool) : evsAt h bs bs.length = evsFrom h bs 0 := by
  have : ∀ (bs : List Bool) (i : Nat), evsFrom h bs i = (List.range bs.length).map fun k => (bs.getD k false, h (i + k)) := by
    intro bs
    induction bs with
    | nil => intro i; rfl
    | cons b r ih =>
      intro i
      rw [evsFrom, ih, List.length_cons, List.range_succ_eq_map, List.map_cons, List.map_map]
      simp [Function.comp_def, Nat.add_assoc, Nat.add_comm 1]
  rw [this bs 0]
  simp [evsAt]
noncomputable def balB : List Bool → Nat → Bool
  | [], n => n == 0
  | true :: r, n => balB r (n + 1)
  | false :: r, n => decide (0 < n) && balB r (n - 1)
theorem bal_of (h : Nat → Int) : ∀ (bs : List Bool) (i n : Nat), balB bs n = true → bal (evsFrom h bs i) n
  | [], _, _, e => by simpa [balB, bal, evsFrom] using e
  | true :: r, i, n, e => by simpa [evsFrom, bal] using bal_of h r (i + 1) (n + 1) (by simpa [balB] using e)
  | false :: r, i, n, e => by
    simp only [balB, Bool.and_eq_true, decide_eq_true_eq] at e
    exact ⟨e.1, bal_of h r (i + 1) (n - 1) e.2⟩
noncomputable def pilIdx : List Bool → Nat → List Nat → List (Nat × Nat)
  | [], _, _ => []
  | true :: r, i, st => pilIdx r (i + 1) (i :: st)
  | false :: r, i, a :: st => (a, i) :: pilIdx r (i + 1) st
  | false :: r, i, [] => pilIdx r (i + 1) []
theorem pil_idx (h : Nat → Int) : ∀ (bs : List Bool) (i : Nat) (st : List Nat), pilR (evsFrom h bs i) (st.map h) = (pilIdx bs i st).map fun p => h p.2 - h p.1
  | [], _, _ => rfl
  | true :: r, i, st => by simpa [evsFrom, pilR, pilIdx] using pil_idx h r (i + 1) (i :: st)
  | false :: r, i, a :: st => by simp [evsFrom, pilR, pilIdx, pil_idx h r (i + 1) st]
  | false :: r, i, [] => by simpa [evsFrom, pilR, pilIdx] using pil_idx h r (i + 1) []
noncomputable def lstep (p : List Int × List Int) : Bool × Int → List Int × List Int
  | (true, h) => (p.1 ++ [h], p.2)
  | (false, h) => match p.1 with
    | a :: o => (o, p.2 ++ [h - a])
    | [] => ([], p.2)
theorem lstep_lin : ∀ (evs : List (Bool × Int)) (o s : List Int), (evs.foldl lstep (o, s)).2 = s ++ lin evs o
  | [], _, s => by simp [lin]
  | (true, h) :: r, o, s => by simpa [lstep, lin] using lstep_lin r (o ++ [h]) s
  | (false, h) :: r, a :: o, s => by simpa [lstep, lin] using lstep_lin r o (s ++ [h - a])
  | (false, h) :: r, [], s => by simpa [lstep, lin] using lstep_lin r [] s
noncomputable def net (bs : List Bool) : Nat := bs.foldl (fun n b => if b then n + 1 else n - 1) 0
theorem lstep_len : ∀ (evs : List (Bool × Int)) (p : List Int × List Int), (evs.foldl lstep p).1.length = (evs.map (·.1)).foldl (fun n b => if b then n + 1 else n - 1) p.1.length
  | [], _ => rfl
  | (true, h) :: r, p => by simpa [lstep] using lstep_len r (lstep p (true, h))
  | (false, h) :: r, (a :: o, s) => by simpa [lstep] using lstep_len r (o, s ++ [h - a])
  | (false, h) :: r, ([], s) => by simpa [lstep] using lstep_len r ([], s)
/- what is to be known of a row -/
noncomputable def rowGood (r : List Nat) : Bool :=
  r.length == 8 && balB (opensOf r) 0 && ((opensOf r).filter fun b => !b).length == 4 && (List.range 8).all (fun i => (opensOf r).getD i false || decide (0 < net ((opensOf r).take i)))
theorem rows_good : ∀ a b c d e f g h : Bool, rowGood (rowOf [a, b, c, d, e, f, g, h]) = true := by decide +kernel
end Mine

namespace Mine
section
variable {prog : Program} {w : World} {A : Around} {E : Value → Shared → Prop} {s : Shared} {X Y : List Addr} {env : Env} {k : Nat} {f : Fs} {s₀ : Shared} {hb h₀ : Heap} {mg mb mN : Str → Option Value}

noncomputable abbrev lawEnv (q : Str) (fa L : Addr) (cd : Value) : Env := newEnv (defScope (topDef 15)) L mainGlobals (cellsFrom (L + 1) (defScope (topDef 15)).names []) (q ++ ".<locals>.") (some fa) cd none builtinsNs
theorem law_cells (q : Str) (fa L : Addr) (cd : Value) : (lawEnv q fa L cd).cells = [(Str.ofString "times", L + 4), (Str.ofString "lexer", L + 3), (Str.ofString "i", L + 2), (Str.ofString "hours", L + 1)] := by rfl
theorem law_ok (q : Str) (fa L : Addr) (cd : Value) : EnvOk (lawEnv q fa L cd) := ⟨rfl, rfl, rfl, fun p hp => by
  rw [law_cells] at hp
  simp only [List.mem_cons, List.not_mem_nil, or_false] at hp
  rcases hp with rfl | rfl | rfl | rfl
  · exact Nat.ne_of_gt (Nat.lt_add_of_pos_right (by decide))
  · exact Nat.ne_of_gt (Nat.lt_add_of_pos_right (by decide))
  · exact Nat.ne_of_gt (Nat.lt_add_of_pos_right (by decide))
  · exact Nat.ne_of_gt (Nat.lt_add_of_pos_right (by decide))⟩

/- the table of the places of one code, that grows -/
noncomputable def TB : Ext := ⟨[86], fun h => h.get? 86 = some (PySem.W.tabObj #[]), fun _ _ e k => k 86 (.head _) _ e⟩
noncomputable def lawX (L : Addr) : List Addr := [L, L + 1, L + 2, L + 3, L + 4, 86]
noncomputable def lawF (d : D) : Fs := ⟨fun y => if y = Str.ofString "script" then some d else none, fun _ => none, TB⟩

set_option tactic.hygienic true in
theorem st_law {q : Str} {fa L : Addr} {cd v : Value} {d : D} {s₁ : Shared} {m cm : Str → Option Value} (hL : s.heap.objs.size = L) (I : InCallC s L m (lawEnv q fa L cd).cells cm s₁) (hm : m (Str.ofString "script") = some v)
    (hd : ∀ h X', (∀ b o, s.heap.get? b = some o → b ≠ 86 → h.get? b = some o) → (∀ a ∈ X', a = 86 ∨ s.heap.get? a = none) → Den X' h v d) (hP : s.heap.get? 86 = some (PySem.W.tabObj #[])) (gens : AllBare s.gens) :
    St { s with heap := s.heap.hide 86 } s₁.heap (lawX L) (lawX L) (lawEnv q fa L cd) (lawF d) s₁ := by
  obtain ⟨h₁, tk, rfl⟩ := I.toInCall.same
  have keep := I.toInCall.keep
  have h86 : 86 < L := hL ▸ Heap.lt_size hP
  have hLn : ∀ b, L ≤ b → s.heap.get? b = none := fun b hb => Heap.get?_none_of_le (hL ▸ hb)
  have c1 : CellAt h₁ (L + 1) (cm (Str.ofString "hours")) := I.cell _ _ (by rfl)
  have c2 : CellAt h₁ (L + 2) (cm (Str.ofString "i")) := I.cell _ _ (by rfl)
  have c3 : CellAt h₁ (L + 3) (cm (Str.ofString "lexer")) := I.cell _ _ (by rfl)
  have c4 : CellAt h₁ (L + 4) (cm (Str.ofString "times")) := I.cell _ _ (by rfl)
  have hcl : ∀ p ∈ (lawEnv q fa L cd).cells, ∃ u, CellAt h₁ p.2 u := fun p hp => by
    rw [law_cells] at hp
    simp only [List.mem_cons, List.not_mem_nil, or_false] at hp
    rcases hp with rfl | rfl | rfl | rfl
    · exact ⟨_, c4⟩
    · exact ⟨_, c3⟩
    · exact ⟨_, c2⟩
    · exact ⟨_, c1⟩
  have hX : ∀ a ∈ lawX L, a = 86 ∨ s.heap.get? a = none := fun a ha => by
    simp only [lawX, List.mem_cons, List.not_mem_nil, or_false] at ha
    rcases ha with rfl | rfl | rfl | rfl | rfl | rfl
    · exact .inr (hLn _ (Nat.le_refl _))
    · exact .inr (hLn _ (Nat.le_add_right _ _))
    · exact .inr (hLn _ (Nat.le_add_right _ _))
    · exact .inr (hLn _ (Nat.le_add_right _ _))
    · exact .inr (hLn _ (Nat.le_add_right _ _))
    · exact .inl rfl
  exact
  { keep := fun b o _ e => by
      have hb : b ≠ 86 := fun q => by rw [q] at e; exact absurd ((Heap.hide_self s.heap 86).symm.trans e) (fun q => nomatch q)
      exact keep b o ((Heap.hide_ne s.heap hb).symm.trans e)
    os := rfl
    gens := gens
    gb := .refl
    new := fun a ha => by
      by_cases q : a = 86
      · rw [q]; exact Heap.hide_self s.heap 86
      · exact (Heap.hide_ne s.heap q).trans ((hX a ha).resolve_left q)
    sub := fun _ h => h
    dom := fun a ha => by
      simp only [lawX, List.mem_cons, List.not_mem_nil, or_false] at ha
      rcases ha with rfl | rfl | rfl | rfl | rfl | rfl
      · obtain ⟨o, _, _, e, _⟩ := I.toInCall.ns; exact ⟨o, e⟩
      · obtain ⟨o, e, _⟩ := c1; exact ⟨o, e⟩
      · obtain ⟨o, e, _⟩ := c2; exact ⟨o, e⟩
      · obtain ⟨o, e, _⟩ := c3; exact ⟨o, e⟩
      · obtain ⟨o, e, _⟩ := c4; exact ⟨o, e⟩
      · exact ⟨_, keep _ _ hP⟩
    locY := .head _
    cdom := hcl
    ns := ⟨m, I.toInCall.ns, fun x d' hx _ => by
      simp only [lawF] at hx
      split at hx
      · rename_i e; subst e; cases hx
        exact ⟨v, hm, hd _ _ (fun b o e _ => keep b o e) hX⟩
      · cases hx⟩
    cell := fun x d' hx hk => by
      simp only [lawF] at hx
      split at hx
      · rename_i e; subst e
        rcases hk with hk | hk <;> exact absurd ((show (lawEnv q fa L cd).kindOf (Str.ofString "script") = some .local from rfl).symm.trans hk) (fun q => nomatch q)
      · cases hx
    own := fun a l h => nomatch h
    ext := ⟨keep _ _ hP, fun a ha => by
      simp only [lawF, TB, List.mem_singleton] at ha
      subst ha
      refine ⟨by simp [lawX], (Nat.ne_of_lt h86), fun p hp e => ?_⟩
      rw [law_cells] at hp
      simp only [List.mem_cons, List.not_mem_nil, or_false] at hp
      rcases hp with rfl | rfl | rfl | rfl <;> exact absurd e (Nat.ne_of_gt (Nat.lt_of_lt_of_le h86 (Nat.le_add_right _ _)))⟩ }
end
end Mine

namespace Mine
section
variable {prog : Program} {w : World} {A : Around} {E : Value → Shared → Prop} {s : Shared} {X Y : List Addr} {env : Env} {k : Nat} {f : Fs} {s₀ : Shared} {hb h₀ : Heap} {mg mb mN : Str → Option Value}

theorem St.cellAt (S : St s₀ hb X Y env f s) {x : Str} {c : Addr} (hcx : env.cells.lookup x = some c) : ∃ u, CellAt s.heap c u := S.cdom _ (mem_of_lookup hcx)

theorem ex_assign_cell {x : Str} {px pos : Pos} {e : Expr} {c : Addr} {d : D} {Q : Flow → Shared → Prop} (ok : EnvOk env) (g : Good k A) (S : St s₀ hb X Y env f s) (he : EV prog w s₀ X Y env f k e d) (hx : env.kindOf x = some .cell)
    (hcx : env.cells.lookup x = some c) (hcY : c ∈ Y) (hinj : ∀ y, env.cells.lookup y = some c → y = x)
    (h : ∀ s', St s₀ hb X Y env (f.set x d) s' → Q .next s') (hs : swapsWith e (some (.Name x px)) pos.line env = pure false := by rfl) : wpAny (model prog w) A (exec (.Assign [.Name x px] e pos) env) Q E s :=
  wpAny_Assign_Name (wpAny_mono (he A s hb E g S) (fun v s₁ p => by
    obtain ⟨u, hu⟩ := (S.le p.2).cellAt hcx
    exact wp_storeCell ok (S.le p.2) p.1 hx hcx hcY hinj hu fun s' S' _ _ => h s' S') fun _ _ e => e) hs

theorem ex_assign_ownC {x : Str} {px pos spos : Pos} {c : Addr} {Q : Flow → Shared → Prop} (ok : EnvOk env) (S : St s₀ hb X Y env f s) (hx : env.kindOf x = some .cell)
    (hcx : env.cells.lookup x = some c) (hcY : c ∈ Y) (hinj : ∀ y, env.cells.lookup y = some c → y = x)
    (h : ∀ a s', a ∉ X → a ∉ Y → (∀ l, f.own a ≠ some l) → St s₀ hb (a :: X) (a :: Y) env ((f.put a (some [])).set x (.ref a)) s' → Q .next s') (hs : swapsWith (.List [] pos) (some (.Name x px)) spos.line env = pure false := by rfl) : wpAny (model prog w) A (exec (.Assign [.Name x px] (.List [] pos) spos) env) Q E s :=
  wpAny_Assign_Name (wp_newlist S fun a s' h1 h2 h3 S' => by
    obtain ⟨u, hu⟩ := S'.cellAt hcx
    exact wp_storeCell ok S' .ref hx hcx (.tail _ hcY) hinj hu fun s'' S'' _ _ => h a s'' h1 h2 (fun l hl => by obtain ⟨_, _, _, _, vs, n, e, _⟩ := S.own a l hl; rw [h3] at e; cases e) S'') hs
end
end Mine

namespace Mine
section
variable {prog : Program} {w : World} {A : Around} {E : Value → Shared → Prop} {s : Shared} {X Y : List Addr} {env : Env} {k : Nat} {f : Fs} {s₀ : Shared} {hb h₀ : Heap} {mg mb mN : Str → Option Value}

theorem ints_arr : ∀ {us : List Value} {ns : List Int}, IntsAre us ns → ∃ ys : List (Int × Tok), us = (ys.map fun p => Value.int p.1 p.2) ∧ ys.map (·.1) = ns := by
  intro us ns h
  induction h with
  | nil => exact ⟨[], rfl, rfl⟩
  | cons a t r ih => obtain ⟨ys, e1, e2⟩ := ih; exact ⟨(a, t) :: ys, by simp [e1], by simp [e2]⟩

theorem bc_sum {ns : List Int} : BC prog w h₀ X k (.builtin "sum") [.list (ns.map .int)] (.int ns.sum) := fun A s vs E g _ dom hd => by
  cases hd with
  | cons a b =>
    cases b; obtain ⟨p, us, rfl, hp, hl', hds⟩ := D.den_list a
    obtain ⟨ys, e1, e2⟩ := ints_arr (hds.ints rfl)
    have hl2 : s.heap.IsList p (intItems ys.toArray) := by
      rw [e1] at hl'
      simpa [intItems] using hl'
    refine sum_intListG g.handled hl2 fun h' tk t' hk => ?_
    rw [preSum_eq, List.take_of_length_le (by simp), e2]
    exact ⟨.int, .of fun b o _ e => hk b o e⟩

end
end Mine

namespace Mine
theorem occ_count (x : Str) (c lim : Nat) : ∀ (m i : Nat) (fnd : Array Nat) (free : Nat), i + m = x.length + 1 → free ≤ i → fnd.size + m ≤ lim →
    (forIn (List.range' i m) (fnd, free) (PySem.StrLaws.occBody x ⟨#[c]⟩ x.length lim)).run.fst.size = fnd.size + (x.cps.toList.drop i).count c
  | 0, i, fnd, free, h, _, _ => by
    have : x.cps.toList.drop i = [] := List.drop_eq_nil_of_le (by show x.cps.toList.length ≤ i; have : x.cps.toList.length = x.length := by simp [Str.length]
                                                                  lia)
    simp [this]
  | m + 1, i, fnd, free, h, hf, hl => by
    rw [List.range'_succ, List.forIn_cons]
    unfold PySem.StrLaws.occBody
    have h1 := PySem.StrLaws.subAt_one x c i
    have hlen : x.cps.toList.length = x.length := by simp [Str.length]
    by_cases hc : x.cps.toList[i]? = some c
    · have q := h1.mpr hc
      rw [if_pos ⟨⟨⟨by dsimp only; lia, hf⟩, q.1⟩, q.2⟩]
      have hi : i < x.cps.toList.length := by
        rcases Nat.lt_or_ge i x.cps.toList.length with h | h
        · exact h
        · rw [List.getElem?_eq_none h] at hc; cases hc
      have := occ_count x c lim m (i + 1) (fnd.push i) (i + (⟨#[c]⟩ : Str).length) (by lia) (Nat.le_refl _) (by simp; lia)
      refine Eq.trans this ?_
      rw [List.drop_eq_getElem_cons hi]
      rw [List.getElem?_eq_getElem hi] at hc
      cases hc
      simp only [Array.size_push, List.count_cons_self]
      lia
    · rw [if_neg (fun q => hc (h1.mp ⟨q.1.2, q.2⟩))]
      have := occ_count x c lim m (i + 1) fnd free (by lia) (by lia) (by lia)
      refine Eq.trans this ?_
      congr 1
      rcases Nat.lt_or_ge i x.cps.toList.length with hi | hi
      · rw [List.drop_eq_getElem_cons hi, List.count_cons_of_ne]
        intro e
        exact hc (by rw [List.getElem?_eq_getElem hi, e])
      · rw [List.drop_eq_nil_of_le hi, List.drop_eq_nil_of_le (by lia)]
theorem count_one (r : List Nat) (c : Nat) : Txt.count (T r) (T [c]) = (r.count c : Nat) := by
  unfold Txt.count
  rw [PySem.StrLaws.occ_eq, Array.length_toList]
  have := occ_count (T r) c ((T r).length + 1) ((T r).length + 1) 0 #[] 0 (by lia) (Nat.le_refl _) (by simp)
  rw [Nat.sub_zero]
  refine congrArg Int.ofNat (Eq.trans this ?_)
  simp [T]
end Mine

namespace Mine
section
variable {prog : Program} {w : World} {A : Around} {E : Value → Shared → Prop} {s : Shared} {X Y : List Addr} {env : Env} {k : Nat} {f : Fs} {s₀ : Shared} {hb h₀ : Heap} {mg mb mN : Str → Option Value}

theorem ev_count {o e : Expr} {apos pos : Pos} {r : List Nat} {c : Nat} (h1 : EV prog w s₀ X Y env f k o (.str (T r))) (h2 : EV prog w s₀ X Y env f k e (.str (T [c])))
    (hbase : attributeBase o "count" env (eval o env) = eval o env := by rfl) (hfew : methodCallForm (([e] : List Expr).length + ([] : List Keyword).length) (backTo pos (starEach [e] env)) (backToKw pos (keywordEach [] env)) = true := by rfl) (hline : (apos.endLine == pos.line) = true := by rfl)
    (hp : (starEach [e] env).any (·.1) = false := by rfl) (he : starEach (e :: []) env = (false, eval e env) :: starEach [] env := by rfl) : EV prog w s₀ X Y env f k (.Call (.Attribute o "count" apos) [e] [] pos) (.int (r.count c : Nat)) := fun A s hb E g S => by
  refine wp_Call_meth hbase hfew hline (wpAny_mono (h1 A s hb E g S) (fun v s₁ p => ?_) fun _ _ e => e)
  obtain ⟨t, rfl⟩ := D.den_str p.1
  refine GM.count ?_
  refine Calls.callWith_builtin (backTo_any pos hp) (evalArgs_spliced (backTo_any pos hp) ?_)
  refine wpAny_items_cons (wpAny_mono (h2 A s₁ hb E g (S.le p.2)) (fun u s₂ q => wpAny_items_nil ?_) fun _ _ e => e) he
  obtain ⟨t', rfl⟩ := D.den_str q.1
  refine SC.count ?_
  rw [count_one]
  exact ⟨.int, (p.2.trans q.2).trans (.toks _)⟩
end
end Mine

namespace Mine
noncomputable def pickN (ns : List Int) (lo hi st : Option Int) : List Int := (sliceRange (sliceBounds lo hi st ns.length).1 (sliceBounds lo hi st ns.length).2.1 (sliceBounds lo hi st ns.length).2.2).filterMap (ns[·]?)
theorem pickN_eq (ns : List Int) (i j c : Option Int) : pickD (ns.map .int) i j c = (pickN ns i j c).map .int := by
  unfold pickD pickN
  rw [List.length_map, List.map_filterMap]
  congr 1
  funext x
  rw [List.getElem?_map]
noncomputable def givens : List Int := [66, 3534, 61, 0, 44, 125, 17, 7999]
/- what the i-th turn draws -/
noncomputable def dn (sc : List Int) (i : Nat) : Nat := ((givens.getD i 0 + (pickN sc (some (i : Int)) none (some 8)).sum).fmod 8192).toNat
theorem dn_eq (sc : List Int) (i : Nat) : ((dn sc i : Nat) : Int) = (givens.getD i 0 + (pickN sc (some (i : Int)) none (some 8)).sum).fmod 8192 := by
  unfold dn
  rw [Int.toNat_of_nonneg]
  exact Int.fmod_nonneg_of_pos _ (by decide)
theorem dn_lt (sc : List Int) (i : Nat) : dn sc i < 8192 := by
  have := dn_eq sc i
  have h2 : (givens.getD i 0 + (pickN sc (some (i : Int)) none (some 8)).sum).fmod 8192 < 8192 := Int.fmod_lt_of_pos _ (by decide)
  lia
noncomputable def hourTo (sc : List Int) : Nat → Nat
  | 0 => 0
  | i + 1 => hourTo sc i + (dn sc i / 2 + 1)
noncomputable def rowTo (sc : List Int) : Nat → List Nat
  | 0 => []
  | i + 1 => rstep (rowTo sc i) (dn sc i % 2 == 0)
theorem hourTo_lt (sc : List Int) : ∀ i, hourTo sc i ≤ i * 4096
  | 0 => Nat.le_refl _
  | i + 1 => by
    have := hourTo_lt sc i
    have := dn_lt sc i
    simp only [hourTo]
    lia
theorem rowTo_eq (sc : List Int) (i : Nat) : rowTo sc i = rowOf ((List.range i).map fun k => dn sc k % 2 == 0) := by
  induction i with
  | zero => rfl
  | succ i ih => rw [rowTo, ih, List.range_succ, List.map_append, rowOf, rowOf, List.foldl_append]; rfl
theorem row8 (sc : List Int) : ∃ a b c d e f g h, rowTo sc 8 = rowOf [a, b, c, d, e, f, g, h] := ⟨_, _, _, _, _, _, _, _, rowTo_eq sc 8⟩
theorem row_good (sc : List Int) : rowGood (rowTo sc 8) = true := by obtain ⟨a, b, c, d, e, f, g, h, q⟩ := row8 sc; rw [q]; exact rows_good ..
end Mine

namespace Mine
section
variable {prog : Program} {w : World} {A : Around} {E : Value → Shared → Prop} {s : Shared} {X Y : List Addr} {env : Env} {k : Nat} {f : Fs} {s₀ : Shared} {hb h₀ : Heap} {mg mb mN : Str → Option Value}
noncomputable def lstmt (i : Nat) : Stmt := (defBody (topDef 15)).getD i (.Pass default)
noncomputable def hoursTo (sc : List Int) (i : Nat) : List D := (List.range i).map fun j => D.int (hourTo sc (j + 1) : Nat)
noncomputable def f1 (sc : List Int) (a : Addr) (f : Fs) (i : Nat) : Fs := ⟨fun x => List.lookup x [(Str.ofString "script", .list (sc.map .int)), (Str.ofString "given", .list (givens.map .int)), (Str.ofString "row", .str (T (rowTo sc i))), (Str.ofString "hours", .ref a), (Str.ofString "hour", .int (hourTo sc i : Nat))], fun b => if b = a then some (hoursTo sc i) else f.own b, f.ext⟩

theorem rowTo_len (sc : List Int) : ∀ i, (rowTo sc i).length = i
  | 0 => rfl
  | i + 1 => by
    have := rowTo_len sc i
    unfold rowTo rstep
    split <;> simp [this]
theorem law_inj {q : Str} {fa L : Addr} {cd : Value} : ∀ {x y : Str} {c : Addr}, (lawEnv q fa L cd).cells.lookup x = some c → (lawEnv q fa L cd).cells.lookup y = some c → y = x := by
  intro x y c hx hy
  have mx := Mine.mem_of_lookup hx
  have my := Mine.mem_of_lookup hy
  rw [law_cells] at mx my
  have h : ∀ i j : Nat, (L : Nat) + i = L + j → i = j := fun i j e => Nat.add_left_cancel e
  simp only [List.mem_cons, Prod.mk.injEq, List.not_mem_nil, or_false] at mx my
  rcases mx with ⟨rfl, rfl⟩ | ⟨rfl, rfl⟩ | ⟨rfl, rfl⟩ | ⟨rfl, rfl⟩ <;> rcases my with ⟨rfl, e⟩ | ⟨rfl, e⟩ | ⟨rfl, e⟩ | ⟨rfl, e⟩ <;> first | rfl | exact absurd (h _ _ e) (by decide)

theorem row_if {c d i : Nat} : (c < 4 ∧ (d = 0 ∨ 2 * c = i)) ↔ ((c : Int) < 4 ∧ ((d : Int) = 0 ∨ 2 * (c : Int) = (i : Int))) := by
  constructor
  · rintro ⟨x, y⟩
    exact ⟨Int.ofNat_lt.mpr x, y.imp (fun e => by rw [e]; rfl) fun e => by rw [← e]; rfl⟩
  · rintro ⟨x, y⟩
    exact ⟨Int.ofNat_lt.mp x, y.imp (fun e => Int.ofNat_inj.mp e) fun e => Int.ofNat_inj.mp (by rw [← e]; rfl)⟩
theorem first_loop {sc : List Int} {a : Addr} {q : Str} {fa L : Addr} {cd : Value} {Q : Flow → Shared → Prop} (gd : Good (k + 2) A) (G : GF s₀.heap mg mb) (hr : mg "range" = none ∧ mb "range" = some (.type "range")) (hs : mg "sum" = none ∧ mb "sum" = some (.builtin "sum")) (hsc : sc.length ≤ sizeLine)
    (hc : L + 2 ∈ Y) (S : St s₀ hb X Y (lawEnv q fa L cd) (f1 sc a f 0) s) (h : ∀ s', St s₀ hb X Y (lawEnv q fa L cd) (f1 sc a f 8) s' → Q .next s') :
    wpAny (model prog w) A (exec (lstmt 4) (lawEnv q fa L cd)) Q E s := by
  have ok := law_ok q fa L cd
  conv in exec _ _ => arg 1; whnf
  refine ex_forC (c := L + 2) (f1 sc a f) ok gd S (ei_range (ds := [.int 8]) (a := 0) (b := 8) (c := 1) (n := 8) ok G ⟨rfl, .inr hr, rfl⟩ (evs_cons ev_int evs_nil) rfl range1 (by decide) (by rfl)) (by rfl) (by rfl) hc (fun y hy => ?_) (fun _ _ _ _ S => S.cellAt (x := Str.ofString "i") (by rfl)) (fun i d s I hb' E' hI hd S => ?_) h
  · exact law_inj (by rfl) hy
  · obtain ⟨hi8, rfl⟩ := rangeD_get hd
    have hdi : D.int (0 + (i : Int) * 1) = .int (i : Nat) := by rw [Int.zero_add, Int.mul_one]
    rw [hdi] at S
    have gd1 : Good (k + 1) A := gd.less (by lia)
    refine wpAny_execs_cons (ex_assign (k := k + 1) (d := .int (dn sc i : Nat)) ok gd1 S ?_ (by rfl) fun s₂ S₂ _ => ?_)
    · rw [dn_eq]
      have e1 : ∀ {px}, EV prog w s₀ (I :: X) Y (lawEnv q fa L cd) ((f1 sc a f i).set (Str.ofString "i") (.int (i : Nat))) (k + 1) (.Name (Str.ofString "i") px) (.int (i : Nat)) := ev_cell ok rfl (.inl rfl)
      refine ev_mod (ev_add (ev_item (d := .int (givens.getD i 0)) (ev_name ok rfl rfl) e1 (by lia) (by lia) ?_) (ev_call_b ok G ⟨rfl, .inr hs, rfl⟩ (evs_cons (EV.cast (ev_lslice (i := some (i : Int)) (j := none) (c := some 8) (ev_name ok rfl rfl) e1 trivial (show EV _ _ _ _ _ _ _ _ _ _ from ev_int) (by decide) (by simpa using hsc)) (congrArg D.list (pickN_eq ..))) evs_nil) rfl bc_sum)) ev_int (by decide)
      have hg : i < givens.length := hi8
      rw [Int.toNat_natCast, List.getElem?_map, List.getElem?_eq_getElem hg, List.getD_eq_getElem?_getD, List.getElem?_eq_getElem hg]; rfl
    refine wpAny_execs_cons (ex_aug (d₁ := .int (hourTo sc i : Nat)) (d₂ := .int ((dn sc i / 2 : Nat) + 1)) ok gd1 S₂ (by rfl) rfl (ev_add (ev_fdiv' (a := dn sc i) (b := 2) (ev_name ok rfl rfl) ev_nat (by decide) ?_) ev_int) iop_add_int fun s₃ S₃ _ => ?_)
    · exact PyProof.noPylong_small (by have := dn_lt sc i; lia)
    refine wpAny_execs_cons (ex_append (a := a) (l := hoursTo sc i) ok gd1 S₃ (ev_cell ok rfl (.inl rfl)) (by simp [f1, Fs.set]) (ev_name ok rfl rfl) (by simp [hoursTo, sizeLine]; lia) fun s₄ S₄ => ?_)
    refine wpAny_execs_cons (ex_assign (d := .int ((rowTo sc i).count 40 : Nat)) ok gd1 S₄ (ev_count (ev_name ok rfl rfl) ev_str) (by rfl) fun s₅ S₅ _ => ?_)
    refine wpAny_execs_cons (ex_if (b := decide (((rowTo sc i).count 40 : Int) < 4) && ((((dn sc i % 2 : Nat) : Int) == 0) || (2 * ((rowTo sc i).count 40 : Int) == (i : Int)))) gd1 S₅ (tv_and (tv_cmp (ev_name ok rfl rfl) ev_int op_lt_int) fun _ => tv_or (tv_cmp (ev_mod' (a := dn sc i) (b := 2) (ev_name ok rfl rfl) ev_nat (by decide)) ev_int op_eq_int) fun _ => tv_cmp (ev_mul ev_int (ev_name ok rfl rfl) ?_) (ev_cell ok rfl (.inl rfl)) op_eq_int) fun s₆ _ S₆ => ?_)
    · exact IntMulOk.of_left (by decide +kernel)
    have hr6 : rowTo sc (i + 1) = if (decide (((rowTo sc i).count 40 : Int) < 4) && ((((dn sc i % 2 : Nat) : Int) == 0) || (2 * ((rowTo sc i).count 40 : Int) == (i : Int)))) = true then rowTo sc i ++ [40] else rowTo sc i ++ [41] := by
      have hl := rowTo_len sc i
      rw [rowTo]
      unfold rstep
      rw [hl]
      refine ite_congr (propext ?_) (fun _ => rfl) (fun _ => rfl)
      simp only [Bool.and_eq_true, Bool.or_eq_true, decide_eq_true_eq, beq_iff_eq]
      exact row_if
    have hlen : (rowTo sc i).length ≤ 16 := by rw [rowTo_len]; lia
    have done : ∀ s' , St s₀ hb' (I :: X) Y (lawEnv q fa L cd) ((((((f1 sc a f i).set (Str.ofString "i") (.int (i : Nat))).set (Str.ofString "drawn") (.int (dn sc i : Nat))).set (Str.ofString "hour") (.int (hourTo sc i + ((dn sc i / 2 : Nat) + 1)))).put a (some (hoursTo sc i ++ [.int (hourTo sc i + ((dn sc i / 2 : Nat) + 1))]))).set (Str.ofString "came") (.int ((rowTo sc i).count 40 : Nat)) |>.set (Str.ofString "row") (.str (T (rowTo sc (i + 1))))) s' → St s₀ hb' (I :: X) Y (lawEnv q fa L cd) (f1 sc a f (i + 1)) s' := fun s' S' => by
      have hh : (hourTo sc (i + 1) : Int) = hourTo sc i + ((dn sc i / 2 : Nat) + 1) := by rw [hourTo]; lia
      rw [← hh] at S'
      refine S'.toG rfl ⟨rfl, rfl, rfl, rfl, rfl, trivial⟩ (fun b => ?_) rfl
      by_cases q : b = a
      · simp [f1, Fs.set, Fs.put, q, hoursTo, List.range_succ]
      · simp [f1, Fs.set, Fs.put, q]
    by_cases hb : (decide (((rowTo sc i).count 40 : Int) < 4) && ((((dn sc i % 2 : Nat) : Int) == 0) || (2 * ((rowTo sc i).count 40 : Int) == (i : Int)))) = true
    · rw [if_pos hb] at hr6 ⊢
      refine wpAny_execs_cons (ex_aug (d₁ := .str (T (rowTo sc i))) (d₂ := .str (T [40])) (d := .str (T (rowTo sc (i + 1)))) ok gd1 S₆ (by rfl) rfl ev_str (by rw [hr6]; exact iop_add_T (by simp; lia)) fun s₇ S₇ _ => wpAny_execs_nil (wpAny_execs_nil (done _ S₇)))
    · rw [if_neg hb] at hr6 ⊢
      refine wpAny_execs_cons (ex_aug (d₁ := .str (T (rowTo sc i))) (d₂ := .str (T [41])) (d := .str (T (rowTo sc (i + 1)))) ok gd1 S₆ (by rfl) rfl ev_str (by rw [hr6]; exact iop_add_T (by simp; lia)) fun s₇ S₇ _ => wpAny_execs_nil (wpAny_execs_nil (done _ S₇)))
end
end Mine

namespace Mine
section
variable {prog : Program} {w : World} {A : Around} {E : Value → Shared → Prop} {s : Shared} {X Y : List Addr} {env : Env} {k : Nat} {f : Fs} {s₀ : Shared} {hb h₀ : Heap} {mg mb mN : Str → Option Value}
theorem strs_arr {h : Heap} : ∀ {us : List Value} {ts : List Str}, Dens X h us (ts.map .str) → ∃ l : List (Str × Tok), us = strValues l ∧ l.map (·.1) = ts := by
  intro us ts
  induction ts generalizing us with
  | nil => intro h; cases h; exact ⟨[], rfl, rfl⟩
  | cons t ts ih =>
    intro h
    cases h with
    | cons a b =>
      obtain ⟨tk, rfl⟩ := D.den_str a
      obtain ⟨l, e1, e2⟩ := ih b
      exact ⟨(t, tk) :: l, by simp [strValues, e1], by simp [e2]⟩
theorem ev_join {o e : Expr} {apos pos : Pos} {x : Str} {ts : List Str} (h1 : EV prog w s₀ X Y env f k o (.str x)) (h2 : EV prog w s₀ X Y env f k e (.list (ts.map .str))) (hok : JoinOk x ts = true)
    (hbase : attributeBase o "join" env (eval o env) = eval o env := by rfl) (hfew : ((backTo pos (starEach [e] env)).all (fun x => !x.1) && (backToKw pos (keywordEach [] env)).all (fun x => x.1.isSome)
      && decide (([e] : List Expr).length + ([] : List Keyword).length + (if ([] : List Keyword).isEmpty then 0 else 1) < 30)) = true := by rfl) (hline : (apos.endLine == pos.line) = true := by rfl)
    (he : backTo pos (starEach [e] env) = [(false, eval e env)] := by rfl) : EV prog w s₀ X Y env f k (.Call (.Attribute o "join" apos) [e] [] pos) (.str (Txt.join x ts)) := fun A s hb E g S => by
  refine wpAny_Call_method_lateS hbase hfew hline (wpAny_mono (h1 A s hb E g S) (fun v s₁ p => ?_) fun _ _ e => e)
  obtain ⟨t, rfl⟩ := D.den_str p.1
  rw [he]
  refine SB.join (wpAny_mono (h2 A s₁ hb E g (S.le p.2)) (fun u s₂ q => ?_) fun _ _ e => e)
  obtain ⟨a, us, rfl, _, hl, hds⟩ := D.den_list q.1
  obtain ⟨l, rfl, e2⟩ := strs_arr hds
  exact ⟨a, l, rfl, hl, ts, e2, hok, fun t' kk => ⟨.str, (p.2.trans q.2).trans (.toks _)⟩⟩
end
end Mine

namespace Mine
theorem join_T (ws : List (List Nat)) : Txt.join (T []) (ws.map T) = T ws.flatten := by
  unfold Txt.join
  show Builtin.Str.glued (T []) (ws.map T) = _
  unfold Builtin.Str.glued
  cases ws with
  | nil => rfl
  | cons w r =>
    have : ∀ (l : List (List Nat)) (acc : Array Nat), (l.map T).foldl (fun acc p => acc ++ (T []).cps ++ p.cps) acc = acc ++ l.flatten.toArray := by
      intro l
      induction l with
      | nil => intro acc; simp
      | cons x l ih => intro acc; rw [List.map_cons, List.foldl_cons, ih]; simp [T]
    simp only [List.map_cons, List.drop_succ_cons, List.drop_zero, List.headD_cons]
    rw [this]
    simp [T]
end Mine

namespace Mine
/- the globals that the law reaches -/
structure LG (h : Heap) (mg mb : Str → Option Value) : Prop where
  lim : h.NoLimit
  gf : GF h mg mb
  chr : mg "chr" = none ∧ mb "chr" = some (.builtin "chr")
  d10 : DefAt h 10 98
  oct : mg "_law_octets" = some (.ref 98)
  d11 : DefAt h 11 105
  wri : mg "_law_written" = some (.ref 105)
section
variable {prog : Program} {w : World} {A : Around} {E : Value → Shared → Prop} {s : Shared} {X Y : List Addr} {env : Env} {k : Nat} {f : Fs} {s₀ : Shared} {hb h₀ : Heap} {mg mb mN : Str → Option Value}
noncomputable def hN (sc : List Int) : List Nat := (List.range 8).map fun j => hourTo sc (j + 1)
noncomputable def textOf (sc : List Int) : List Nat := ((hN sc).map written).flatten
theorem hoursTo8 (sc : List Int) : hoursTo sc 8 = (hN sc).map fun (n : Nat) => D.int (n : Nat) := by simp [hoursTo, hN]
theorem hN_lt {sc : List Int} {n : Nat} (h : n ∈ hN sc) : n < 262144 := by
  obtain ⟨j, hj, rfl⟩ := List.mem_map.mp h
  have := hourTo_lt sc (j + 1)
  have := List.mem_range.mp hj
  lia
/- `[fn(one) for one in hours]` -/
theorem ev_map1 {fn : Str} {a : Addr} {n : Nat} {sc : List Int} {scope : Scope} {pos p1 p2 p3 p4 p5 : Pos} {g : Nat → D} (ok : EnvOk env) (G : GF s₀.heap mg mb) (hfa : DefAt s₀.heap n a) (hm : mg fn = some (.ref a))
    (hH : ∀ {px}, EV prog w s₀ X Y env f k (.Name "hours" px) (.list (hoursTo sc 8))) (co : CompOk scope env [] []) (hx : ∀ C, (compEnvC scope [] C env).kindOf "one" = some .local) (hgl : ∀ C, (compEnvC scope [] C env).kindOf fn = some .globalImplicit) (hdbg : (fn == ("__debug__" : Str)) = false)
    (hc : ∀ X m, m ∈ hN sc → BC prog w s₀.heap X k (.ref a) [.int (m : Nat)] (g m)) (hs : ∀ x, foldedSetIterable (.Name "hours" p5) env x = pure x := by intro _; rfl) :
    EV prog w s₀ X Y env f k (.ListComp (.Call (.Name fn p1) [.Name "one" p2] [] p3) [⟨.Name "one" p4, .Name "hours" p5, [], 0⟩] scope pos) (.list ((hN sc).map g)) := by
  obtain ⟨o, pm, cd, doc, ho, hd, _⟩ := hfa
  refine ev_comp1 (ds := hoursTo sc 8) (cl := []) (ns := []) ok (ei_list hH) co hx ?_ ?_ ?_ hs
  · simp [hoursTo, hN]
  · simp [hoursTo, sizeLine]
  · intro I C D i d d' h1 h2 okc
    rw [hoursTo8, List.getElem?_map] at h1
    obtain ⟨m, hm1, rfl⟩ := Option.map_eq_some_iff.mp h1
    rw [List.getElem?_map, hm1] at h2
    cases h2
    exact ev_call_f okc G ⟨hgl C, .inl hm, hdbg⟩ ho hd (evs_cons (ev_name okc rfl (hx C)) evs_nil) rfl (hc _ m (List.mem_of_getElem? hm1))
end
end Mine

namespace Mine
section
variable {prog : Program} {w : World} {A : Around} {E : Value → Shared → Prop} {s : Shared} {X Y : List Addr} {env : Env} {k : Nat} {f : Fs} {s₀ : Shared} {hb h₀ : Heap} {mg mb mN : Str → Option Value}
theorem flat_len : ∀ (l : List (List Nat)), (∀ x ∈ l, x.length ≤ 100) → l.flatten.length ≤ l.length * 100
  | [], _ => by simp
  | x :: r, h => by
    have h1 := h x (.head _)
    have h2 := flat_len r fun y hy => h y (.tail _ hy)
    simp only [List.flatten_cons, List.length_append, List.length_cons]
    lia
theorem join_ok {ws : List (List Nat)} (h : ∀ x ∈ ws, x.length ≤ 100) (hl : ws.length ≤ 10) : JoinOk (T []) (ws.map T) = true := by
  unfold JoinOk
  rw [PySem.StrLaws.joinTotal]
  have e : ((ws.map T).map (·.length)).sum = ws.flatten.length := by
    rw [List.map_map, List.length_flatten]
    congr 1
  rw [e]
  have := flat_len ws h
  have h0 : (T []).length = 0 := rfl
  rw [h0]
  have hs : ws.flatten.length + (ws.map T).length * 0 ≤ 1000 := by lia
  have h2 : ¬ (ws.flatten.length + (ws.map T).length * 0 > sizeLine) := by unfold sizeLine; lia
  unfold Builtin.Str.tooLong
  rw [decide_eq_false h2]; rfl
theorem written_short {n : Nat} (hn : n < 262144) : (written n).length ≤ 100 := Nat.le_trans (written_len n hn) (by decide)
theorem ex_text {sc : List Int} {q : Str} {fa L : Addr} {cd : Value} {Q : Flow → Shared → Prop} (gd : Good (k + 4) A) (G : LG s₀.heap mg mb) (S : St s₀ hb X Y (lawEnv q fa L cd) f s) (hH : f.ρ (Str.ofString "hours") = some (.list (hoursTo sc 8)))
    (h : ∀ s', St s₀ hb X Y (lawEnv q fa L cd) (f.set "text" (.str (T (textOf sc)))) s' → Q .next s') : wpAny (model prog w) A (exec (lstmt 5) (lawEnv q fa L cd)) Q E s := by
  have ok := law_ok q fa L cd
  conv in exec _ _ => arg 1; whnf
  refine ex_assign (k := k + 4) (d := .str (T (textOf sc))) ok gd S ?_ (by rfl) fun s' S' _ => h s' S'
  refine EV.cast (ev_join (x := T []) (ts := ((hN sc).map written).map T) ev_str (EV.cast (ev_map1 (sc := sc) (g := fun n => .str (T (written n))) ok G.gf G.d11 G.wri (ev_cell ok hH (.inl rfl)) ⟨by rfl, rfl, by decide, by decide, (fun p hp => nomatch hp), (fun y hy => nomatch hy)⟩ (fun C => by rfl) (fun C => by rfl) (by decide) (fun X m hm => bc_written (k := k + 2) G.d11 G.d10 G.lim G.gf G.chr G.oct m (hN_lt hm))) ?_) ?_) ?_
  · simp [Function.comp_def]
  · refine join_ok (fun x hx => ?_) (by simp [hN])
    obtain ⟨m, hm, rfl⟩ := List.mem_map.mp hx
    exact written_short (hN_lt hm)
  · rw [join_T]; rfl
end
end Mine

namespace Mine
/- all that the law reaches of the top -/
structure LH (h : Heap) (mg mb mN : Str → Option Value) : Prop extends LG h mg mb where
  cl : CL h mN
  stream : StreamAt h
  hd : PySem.W.CodeHd h 90 86
  bm : h.BuiltinsAt mg 86
  lex : mg "_netrclex" = some (.ref 52)
  str : mg "_law_stream" = some (.ref 91)
  range : mg "range" = none ∧ mb "range" = some (.type "range")
  iter : mg "iter" = none ∧ mb "iter" = some (.builtin "iter")
  next : mg "next" = none ∧ mb "next" = some (.builtin "next")
  ord : mg "ord" = none ∧ mb "ord" = some (.builtin "ord")
  len : mg "len" = none ∧ mb "len" = some (.builtin "len")
  sorted : mg "sorted" = none ∧ mb "sorted" = some (.builtin "sorted")
  sum : mg "sum" = none ∧ mb "sum" = some (.builtin "sum")
  enum : mg "enumerate" = none ∧ mb "enumerate" = some (.type "enumerate")
  d3 : DefAt h 3 63
  var : mg "_parse_varint" = some (.ref 63)
  d5 : DefAt h 5 70
  esc : mg "_iter_escaped_chars" = some (.ref 70)
  d6 : DefAt h 6 77
  strip : mg "_strip_quoted_realnames" = some (.ref 77)
  d7 : DefAt h 7 84
  chk : mg "_check_parenthesis" = some (.ref 84)
  d12 : DefAt h 12 110
  num : mg "_law_number" = some (.ref 110)
  d13 : DefAt h 13 117
  prs : mg "_law_pairs" = some (.ref 117)
  d14 : DefAt h 14 124
  lon : mg "_law_longest" = some (.ref 124)

/- the table, and the lexer -/
noncomputable def LE (a : LA) (text : List Nat) (pos : Nat) (line : Int) (push : List (List Nat)) : Ext := ⟨86 :: a.F, fun h => (∃ ps, h.get? 86 = some (PySem.W.tabObj ps)) ∧ LX a text pos line push h, fun _ _ ⟨⟨ps, e⟩, l⟩ k => ⟨⟨ps, k 86 (.head _) _ e⟩, l.keep fun b hb o e => k b (.tail _ hb) o e⟩⟩

section
variable {prog : Program} {w : World} {A : Around} {E : Value → Shared → Prop} {s : Shared} {X Y : List Addr} {env : Env} {k : Nat} {f : Fs} {s₀ : Shared} {hb h₀ : Heap} {mg mb mN : Str → Option Value}

/- new objects with a word of their own join the frame -/
theorem St.adopt {N : List Addr} {e : Ext} {s' : Shared} (S : St s₀ hb X Y env f s) (g : GB f.ext.F s.heap s'.heap) (os : s'.os = s.os) (gens : AllBare s'.gens)
    (hN : ∀ a ∈ N, s.heap.get? a = none ∧ ∃ o, s'.heap.get? a = some o) (hF : ∀ a ∈ e.F, a ∈ f.ext.F ∨ a ∈ N) (hold : ∀ a ∈ f.ext.F, ∃ o, s'.heap.get? a = some o) (hP : e.P s'.heap) : St s₀ hb (N ++ X) (N ++ Y) env { f with ext := e } s' := by
  have keep1 : ∀ a o, a ∉ f.ext.F → s.heap.get? a = some o → s'.heap.get? a = some o := fun a o hF ho => g a o hF ho
  have hF' : ∀ a ∈ f.ext.F, a ∈ X := fun a ha => S.sub _ (S.ext.2 a ha).1
  have hav : ∀ b ∈ N ++ X, b ∈ X ∨ s.heap.get? b = none := fun b hb => by
    rcases List.mem_append.mp hb with h | h
    · exact .inr (hN b h).1
    · exact .inl h
  have dn : ∀ {v d}, Den X s.heap v d → Den (N ++ X) s'.heap v d := fun h => (h.avoid hav).gb (fun a ha => List.mem_append.mpr (.inr (hF' a ha))) g
  have dns : ∀ {o v d}, LD X s.heap o v d → LD (N ++ X) s'.heap o v d := fun h => (h.avoid hav).gb (fun a ha => List.mem_append.mpr (.inr (hF' a ha))) g
  have new0 : ∀ {a o}, s₀.heap.get? a = some o → a ∉ f.ext.F := fun {a o} h m => by rw [S.new _ (S.ext.2 a m).1] at h; cases h
  refine { keep := ?_, os := os.trans S.os, gens := gens, gb := ?_, new := ?_, sub := ?_, dom := ?_, locY := List.mem_append.mpr (.inr S.locY), cdom := ?_, ns := ?_, cell := ?_, own := ?_, ext := ?_ }
  · exact fun b o _ h => keep1 b o (new0 h) (S.keep b o nil_mem h)
  · exact fun b o hY h => keep1 b o (fun m => hY (List.mem_append.mpr (.inr (S.ext.2 b m).1))) (S.gb b o (fun m => hY (List.mem_append.mpr (.inr m))) h)
  · intro a ha
    rcases List.mem_append.mp ha with h | h
    · exact S.none0 (hN a h).1
    · exact S.new a h
  · intro a ha
    rcases List.mem_append.mp ha with h | h
    · exact List.mem_append.mpr (.inl h)
    · exact List.mem_append.mpr (.inr (S.sub a h))
  · intro a ha
    rcases List.mem_append.mp ha with h | h
    · exact (hN a h).2
    · by_cases q : a ∈ f.ext.F
      · exact hold a q
      · obtain ⟨o, e⟩ := S.dom a h; exact ⟨o, keep1 a o q e⟩
  · intro p hp
    obtain ⟨u, o, e, d⟩ := S.cdom p hp
    exact ⟨u, o, keep1 _ o (fun m => (S.ext.2 _ m).2.2 p hp rfl) e, d⟩
  · obtain ⟨m, hm, hv⟩ := S.ns
    exact ⟨m, g.ns (fun q => (S.ext.2 _ q).2.1 rfl) hm, fun x d hx hk => by obtain ⟨v, e, h⟩ := hv x d hx hk; exact ⟨v, e, dn h⟩⟩
  · intro x d hx hk
    obtain ⟨c, v, e, hc, h⟩ := S.cell x d hx hk
    exact ⟨c, v, e, g.cellAt (fun q => (S.ext.2 _ q).2.2 _ (mem_of_lookup e) rfl) hc, dn h⟩
  · intro a l h
    obtain ⟨h1, h2, h3, h4, vs, n, h5, h6⟩ := S.own a l h
    refine ⟨List.mem_append.mpr (.inr h1), h2, h3, fun m => ?_, vs, n, keep1 a _ h4 h5, dns h6⟩
    rcases hF a m with q | q
    · exact h4 q
    · rw [(hN a q).1] at h5; cases h5
  · refine ⟨hP, fun b hb => ?_⟩
    rcases hF b hb with q | q
    · exact ⟨List.mem_append.mpr (.inr (S.ext.2 b q).1), (S.ext.2 b q).2⟩
    · have hn := (hN b q).1
      refine ⟨List.mem_append.mpr (.inl q), fun e => ?_, fun p hp e => ?_⟩
      · obtain ⟨o, h⟩ := S.dom _ (S.sub _ S.locY)
        rw [← e, hn] at h; cases h
      · exact S.cne hn p hp e

theorem ex_lexer {text : List Nat} {q : Str} {fa L : Addr} {cd : Value} {Q : Flow → Shared → Prop} (gd : Good (k + 6) A) (G : LH s₀.heap mg mb mN) (S : St s₀ hb X Y (lawEnv q fa L cd) f s) (hT : f.ρ (Str.ofString "text") = some (.str (T text))) (hext : f.ext = TB) (hc : L + 3 ∈ Y)
    (h : ∀ a s', a.F.Nodup → (∀ b ∈ a.F, b ∉ X) → St s₀ hb (a.F ++ X) (a.F ++ Y) (lawEnv q fa L cd) ({ f with ext := LE a text 0 1 [] }.set "lexer" (.ref a.x)) s' → Q .next s') : wpAny (model prog w) A (exec (lstmt 6) (lawEnv q fa L cd)) Q E s := by
  have ok := law_ok q fa L cd
  conv in exec _ _ => arg 1; whnf
  refine wpAny_Assign_Name ?_ (by rfl)
  show wpAny _ A (do callWith _ (← eval (.Name _ _) (lawEnv q fa L cd)) [] (backTo _ (starEach [_] (lawEnv q fa L cd))) (backToKw _ (keywordEach [] (lawEnv q fa L cd)))) _ E s
  refine wpAny_bind (wp_glob ok G.gf ⟨rfl, .inl G.lex, rfl⟩ S ?_)
  refine callWith_cls (h₀ := s₀.heap) (C := 52) (N := 51) (mN := mN) ⟨G.cl.cls, G.cl.ns⟩ (wpAny_items_cons ?_)
  obtain ⟨o91, pm91, doc91, h91, d91, c91⟩ := id G.stream
  refine wp_Call_fn' d91 (by rfl) (wp_glob ok G.gf ⟨by rfl, .inl G.str, by rfl⟩ S ⟨rfl, wpAny_items_cons ?_⟩)
  refine wp_ev (k := k + 6) (ev_name ok hT rfl) gd S fun v s₁ hv le => wpAny_items_nil ?_
  obtain ⟨t, rfl⟩ := D.den_str hv
  have S₁ := S.le le
  have kk : ∀ b o, s₀.heap.get? b = some o → s₁.heap.get? b = some o := fun b o e => S₁.keep b o nil_mem e
  refine ⟨kk _ _ h91, ?_⟩
  have hE := S₁.ext
  rw [hext] at hE
  have F₁ : StreamAt s₁.heap := ⟨o91, pm91, doc91, kk _ _ h91, d91, c91.keeps kk⟩
  refine wpAny_call (code_law_stream (k := k + 3) F₁ (G.hd.keeps kk) hE.1 (G.gf.g.keeps kk) (by decide) (G.bm.keeps kk) (NoLimit.keep S₁.keep G.lim) S₁.gens gd fun s₂ st sd rd c1 c2 pl cc nd hal g2 htab os2 bare2 hst hsd hrx => ?_)
  dsimp only
  have keep2 : GB [] s₀.heap s₂.heap := fun b o _ e => g2 b o (fun m => by
    rw [List.mem_singleton.mp m] at e
    have h86 := S₁.new 86 (hE.2 86 (.head _)).1
    rw [h86] at e; cases e) (kk b o e)
  refine wpAny_items_nil ⟨fun b o e => keep2 b o nil_mem e, ?_⟩
  refine wp_netrclex (k := k + 2) G.cl G.lim keep2 gd nd (fun b hb => (hal b hb).2) hst hsd hrx fun s₃ x dx pb g3 nx ndx npb ge3 os3 Lx => ?_
  have g13 : GB [86] s₁.heap s₃.heap := fun b o hb e => g3 b o nil_mem (g2 b o hb e)
  have al3 : ∀ b ∈ [x, dx, pb, st, sd, rd, c1, c2, pl, cc], s₁.heap.get? b = none ∧ ∃ o, s₃.heap.get? b = some o := fun b hb => by
    refine ⟨?_, Lx.alive b hb⟩
    have dead : s₂.heap.get? b = none → b ≠ 86 → s₁.heap.get? b = none := fun hn h86 => by
      cases e : s₁.heap.get? b with
      | none => rfl
      | some o => rw [g2 b o (fun m => h86 (List.mem_singleton.mp m)) e] at hn; cases hn
    have n86 : ∀ b, s₂.heap.get? b = none → b ≠ 86 := fun b hn q => by obtain ⟨ps, e⟩ := htab; rw [q, e] at hn; cases hn
    rcases List.mem_cons.mp hb with rfl | hb
    · exact dead nx (n86 _ nx)
    rcases List.mem_cons.mp hb with rfl | hb
    · exact dead ndx (n86 _ ndx)
    rcases List.mem_cons.mp hb with rfl | hb
    · exact dead npb (n86 _ npb)
    · exact (hal b hb).1
  obtain ⟨ps, htab⟩ := htab
  have S₃ : St s₀ hb (LA.F ⟨x, dx, pb, st, sd, rd, c1, c2, pl, cc⟩ ++ X) (LA.F ⟨x, dx, pb, st, sd, rd, c1, c2, pl, cc⟩ ++ Y) (lawEnv q fa L cd) { f with ext := LE ⟨x, dx, pb, st, sd, rd, c1, c2, pl, cc⟩ text 0 1 [] } s₃ := by
    refine S₁.adopt (by rw [hext]; exact g13) (os3.trans os2) (by rw [ge3]; exact bare2) al3 (fun b hb => ?_) (fun b hb => ?_) ⟨⟨ps, g3 _ _ nil_mem htab⟩, Lx⟩
    · rcases List.mem_cons.mp hb with q | hb
      · exact .inl (by rw [hext, q]; exact .head _)
      · exact .inr hb
    · rw [hext] at hb
      rw [List.mem_singleton.mp hb]
      exact ⟨_, g3 _ _ nil_mem htab⟩
  obtain ⟨u, hu⟩ := S₃.cellAt (x := Str.ofString "lexer") (c := L + 3) (by rfl)
  exact wp_storeCell ok S₃ .ref (by rfl) (c := L + 3) (by rfl) (List.mem_append.mpr (.inr hc)) (fun y hy => law_inj (by rfl) hy) hu fun s' S' _ _ => h _ s' Lx.nd (fun b hb m => S₁.notX (al3 b hb).1 m) S'
end
end Mine

namespace Mine
section
variable {prog : Program} {w : World} {A : Around} {E : Value → Shared → Prop} {s : Shared} {X Y : List Addr} {env : Env} {k : Nat} {f : Fs} {s₀ : Shared} {hb h₀ : Heap} {mg mb mN : Str → Option Value}

theorem St.cu {a : LA} {text : List Nat} {pos : Nat} {line : Int} {push : List (List Nat)} (S : St s₀ hb X Y env f s) (hext : f.ext = LE a text pos line push) (G : LH s₀.heap mg mb mN) : Cu s₀ s mN a :=
  ⟨G.cl, G.lim, S.keep, S.os, S.gens, fun b hb => S.new b (S.ext.2 b (by rw [hext]; exact .tail _ hb)).1⟩
theorem St.lx {a : LA} {text : List Nat} {pos : Nat} {line : Int} {push : List (List Nat)} (S : St s₀ hb X Y env f s) (hext : f.ext = LE a text pos line push) : LX a text pos line push s.heap := by
  have := S.ext.1
  rw [hext] at this
  exact this.2
/- the lexer has turned -/
theorem St.lexer {a : LA} {text : List Nat} {pos pos' : Nat} {line line' : Int} {push push' : List (List Nat)} {s' : Shared} (S : St s₀ hb X Y env f s) (hext : f.ext = LE a text pos line push) (g : GB a.F s.heap s'.heap) (os : s'.os = s.os) (gens : AllBare s'.gens) (Lx : LX a text pos' line' push' s'.heap) (h86 : 86 ∉ a.F) :
    St s₀ hb X Y env { f with ext := LE a text pos' line' push' } s' := by
  have hE := S.ext.1
  rw [hext] at hE
  obtain ⟨⟨ps, htab⟩, _⟩ := hE
  refine S.resume (W := []) (Z := a.F) (e := LE a text pos' line' push') g (fun b hb => .inl (by rw [hext]; exact .tail _ hb)) os gens (fun b m => nomatch m) (by rw [hext]; rfl) (fun b hb => ?_) ⟨⟨ps, g 86 _ h86 htab⟩, Lx⟩
  rcases List.mem_cons.mp hb with q | hb
  · rw [q]; exact ⟨_, g 86 _ h86 htab⟩
  · exact Lx.alive b hb

/- lexer.get_token(), which reads -/
theorem wp_get_read {a : LA} {text : List Nat} {pos : Nat} {line : Int} {rest : List Nat} {e : Expr} {apos ppos : Pos} {Q : Value → Shared → Prop} (he : EV prog w s₀ X Y env f k e (.ref a.x)) (hext : f.ext = LE a text pos line []) (h86 : 86 ∉ a.F) (n : Nat) (hn : n < 262144) (ht : text.drop pos = written n ++ rest) (hsz : text.length ≤ 1000) (gd : Good (k + 4) A)
    (G : LH s₀.heap mg mb mN) (S : St s₀ hb X Y env f s) (h : ∀ s' t', St s₀ hb X Y env { f with ext := LE a text (pos + (written n).length) (line + nl (written n)) [] } s' → Q (.str (T (octets n)) t') s')
    (hbase : attributeBase e "get_token" env (eval e env) = eval e env := by rfl) (hline : (apos.endLine == ppos.line) = true := by rfl) : wpAny (model prog w) A (eval (.Call (.Attribute e "get_token" apos) [] [] ppos) env) Q E s := by
  refine wp_Call_meth hbase (by rfl) hline (wp_ev (k := k) he (gd.less (by lia)) S fun v s₁ hv le => ?_)
  obtain rfl := D.den_ref hv
  have S₁ := S.le le
  have U := S₁.cu hext G
  have Lx := S₁.lx hext
  have C := U.cl.keep U.base
  obtain ⟨_, _, _, _, _, _, _, _, _, _, _, _, hC⟩ := C.cls
  obtain ⟨mA, tl, tw, hnA, hW, _⟩ := Lx.at_
  obtain ⟨o, qual, doc, pm, cd, ct, ho, hcls, hdata, hcd⟩ := C.m2
  refine method_of hC C.ns C.no.1 C.no.2.1 C.fns.2.2.1 ho hcls FL.get_token (Lx.inst hnA) (not_lex hW (by decide)) ?_
  refine Calls.callWith_function (o := o) (evalArgs_spliced (by rfl) (wpAny_items_nil ⟨⟨ho, hdata⟩, ?_⟩))
  exact wpAny_call (code_get_read (k := k) U Lx n hn ht hsz gd G.gf G.iter fun s₂ t₂ g os gens Lx₂ => h s₂ t₂ (S₁.lexer hext g os gens Lx₂ h86))

/- lexer.get_token(), which takes a word that was put in -/
theorem wp_get_pop {a : LA} {text : List Nat} {pos : Nat} {line : Int} {wd : List Nat} {ws : List (List Nat)} {e : Expr} {apos ppos : Pos} {Q : Value → Shared → Prop} (he : EV prog w s₀ X Y env f k e (.ref a.x)) (hext : f.ext = LE a text pos line (wd :: ws)) (h86 : 86 ∉ a.F) (hws : ws.length ≤ 100) (gd : Good (k + 4) A)
    (G : LH s₀.heap mg mb mN) (S : St s₀ hb X Y env f s) (h : ∀ s' t', St s₀ hb X Y env { f with ext := LE a text pos line ws } s' → Q (.str (T wd) t') s')
    (hbase : attributeBase e "get_token" env (eval e env) = eval e env := by rfl) (hline : (apos.endLine == ppos.line) = true := by rfl) : wpAny (model prog w) A (eval (.Call (.Attribute e "get_token" apos) [] [] ppos) env) Q E s := by
  refine wp_Call_meth hbase (by rfl) hline (wp_ev (k := k) he (gd.less (by lia)) S fun v s₁ hv le => ?_)
  obtain rfl := D.den_ref hv
  have S₁ := S.le le
  have U := S₁.cu hext G
  have Lx := S₁.lx hext
  have C := U.cl.keep U.base
  obtain ⟨_, _, _, _, _, _, _, _, _, _, _, _, hC⟩ := C.cls
  obtain ⟨mA, tl, tw, hnA, hW, _⟩ := Lx.at_
  obtain ⟨o, qual, doc, pm, cd, ct, ho, hcls, hdata, hcd⟩ := C.m2
  refine method_of hC C.ns C.no.1 C.no.2.1 C.fns.2.2.1 ho hcls FL.get_token (Lx.inst hnA) (not_lex hW (by decide)) ?_
  refine Calls.callWith_function (o := o) (evalArgs_spliced (by rfl) (wpAny_items_nil ⟨⟨ho, hdata⟩, ?_⟩))
  exact wpAny_call (code_get_pop (k := k) U Lx hws gd fun s₂ t₂ g os gens Lx₂ => h s₂ t₂ (S₁.lexer hext g os gens Lx₂ h86))

/- lexer.push_token(e) -/
theorem ex_push {a : LA} {text : List Nat} {pos : Nat} {line : Int} {wd : List Nat} {ws : List (List Nat)} {e e1 : Expr} {apos ppos spos : Pos} {Q : Flow → Shared → Prop} (ok : EnvOk env) (he : EV prog w s₀ X Y env f k e (.ref a.x)) (hext : f.ext = LE a text pos line ws) (h86 : 86 ∉ a.F) (hws : ws.length ≤ 100) (gd : Good (k + 4) A)
    (he1 : EV prog w s₀ X Y env f k e1 (.str (T wd))) (G : LH s₀.heap mg mb mN) (S : St s₀ hb X Y env f s) (h : ∀ s', St s₀ hb X Y env { f with ext := LE a text pos line (ws ++ [wd]) } s' → Q .next s')
    (hbase : attributeBase e "push_token" env (eval e env) = eval e env := by rfl) (hline : (apos.endLine == ppos.line) = true := by rfl) (hst : starEach [e1] env = [(false, eval e1 env)] := by rfl) : wpAny (model prog w) A (exec (.Expr (.Call (.Attribute e "push_token" apos) [e1] [] ppos) spos) env) Q E s := by
  have hi : interactive env = false := by unfold interactive; rw [ok.kind]; rfl
  refine wpAny_Expr_none ?_ hi
  refine wp_Call_meth hbase (by rw [hst]; rfl) hline (wp_ev (k := k) he (gd.less (by lia)) S fun v s₁ hv le => ?_)
  obtain rfl := D.den_ref hv
  have S₁ := S.le le
  have U := S₁.cu hext G
  have Lx := S₁.lx hext
  have C := U.cl.keep U.base
  obtain ⟨_, _, _, _, _, _, _, _, _, _, _, _, hC⟩ := C.cls
  obtain ⟨mA, tl, tw, hnA, hW, _⟩ := Lx.at_
  obtain ⟨o, qual, doc, pm, cd, ct, ho, hcls, hdata, hcd⟩ := C.m3
  refine method_of hC C.ns C.no.1 C.no.2.1 C.fns.2.2.2 ho hcls FL.push_token (Lx.inst hnA) (not_lex hW (by decide)) ?_
  refine Calls.callWith_function (o := o) (evalArgs_spliced (backTo_any _ (by rw [hst]; rfl)) (wpAny_items_cons (wp_ev (k := k) he1 (gd.less (by lia)) S₁ fun v₂ s₂ hv₂ le₂ => wpAny_items_nil ⟨⟨le₂.heap _ _ nil_mem ho, hdata⟩, ?_⟩) hst))
  obtain ⟨t, rfl⟩ := D.den_str hv₂
  have S₂ := S₁.le le₂
  exact wpAny_call (code_push_token (k := k) (S₂.cu hext G) (S₂.lx hext) hws gd fun s₃ g os gens Lx₃ => ⟨rfl, h s₃ (S₂.lexer hext g os gens Lx₃ h86)⟩)

/- y = [..], with a turn that changes what has a word of its own -/
theorem use_storeX {y : Str} {py : Pos} {C D : Addr} {Z Yc : List Addr} {s' : Shared} {cenv : Env} {f' : Fs} {es : DL} {hb' : Heap} {Q : Value → Shared → Prop} (ok : EnvOk env) (S : St s₀ hb X Y env f s) (S' : St s₀ hb' (C :: D :: X) Yc cenv f' s') (hCe : cenv.locals = C) (ho : f'.own D = some es)
    (g : GB Z s.heap s'.heap) (hZ : ∀ a ∈ Z, a ∈ f.ext.F ∨ s.heap.get? a = none) (os : s'.os = s.os) (hC : s.heap.get? C = none) (hD : s.heap.get? D = none) (hF : f'.ext.F = f.ext.F) (hy : env.kindOf y = some .local)
    (h : ∀ s₂, St s₀ hb X Y env ({ f with ext := f'.ext }.set y (.list es)) s₂ → Q .none s₂) : compPost (model prog w) A E (some (assign (.Name y py) env)) Q (.ref D) C (.ok .next) s' := by
  obtain ⟨m, hm, _⟩ := S'.ns
  rw [hCe] at hm
  obtain ⟨_, hne, _, _, vs, n, hl, hds⟩ := S'.own D es ho
  rw [hCe] at hne
  obtain ⟨oC, hoC⟩ := S'.dom C (.head _)
  have SC : St s₀ hb (C :: X) Y env { f with ext := f'.ext } s' := S.resume (W := [C]) g hZ os S'.gens (fun b hb => by rw [List.mem_singleton.mp hb]; exact ⟨hC, oC, hoC⟩) hF (fun b hb => S'.dom b (S'.sub b (S'.ext.2 b hb).1)) S'.ext.1
  have hCX : C ∉ X := S.notX hC
  have hDv : Den (C :: X) s'.heap (.ref D) (.list es) := .list (fun m => by
    rcases List.mem_cons.mp m with q | m
    · exact hne q
    · exact S.notX hD m) (hds.isList hl) (hds.dens.avoid fun b hb => .inl (by
      rcases List.mem_cons.mp hb with rfl | hb
      · exact .head _
      · exact .tail _ (.tail _ hb)))
  have hCL : C ≠ env.locals := fun q => by obtain ⟨o, e⟩ := S.dom _ (S.sub _ S.locY); rw [← q, hC] at e; cases e
  show wpAny _ A (do standAt py; bindName env y (.ref D)) _ E s'
  refine wpAny_bind (wpAny_standAt (wpAny_bindName (wp_storeLocal ok SC hDv hy fun s₂ S₂ g₂ _ => ?_)))
  refine ⟨m, g₂.ns (fun q => hCL (List.mem_singleton.mp q)) hm, fun h' hs => ?_⟩
  exact h _ (S₂.fin (tk := s₂.toks) hCX S.sub (S.none0 hC) (S.noneb hC) (S.cne hC) (.same hs (.head _)))
end
end Mine

namespace Mine
noncomputable def wsOf (sc : List Int) : List (List Nat) := (hN sc).map written
noncomputable def posAt (sc : List Int) (i : Nat) : Nat := ((wsOf sc).take i).flatten.length
noncomputable def lineAt (sc : List Int) (i : Nat) : Int := 1 + nl ((wsOf sc).take i).flatten
noncomputable def wordsTo (sc : List Int) (i : Nat) : List D := ((hN sc).take i).map fun n => D.str (T (octets n))
noncomputable def wordsOf (sc : List Int) : List D := (hN sc).map fun n => D.str (T (octets n))
theorem set_ne {f : Fs} {x y : Str} {d : D} (h : y ≠ x) : (f.set x d).ρ y = f.ρ y := if_neg h
noncomputable def fW (sc : List Int) (f : Fs) (a : LA) (D : Addr) (i : Nat) : Fs := ⟨fun y => if y ∈ ([Str.ofString "lexer"] : List Str) then f.ρ y else none, fun b => if b = D then some (wordsTo sc i) else none, LE a (textOf sc) (posAt sc i) (lineAt sc i) []⟩
theorem fW_lex {sc : List Int} {f : Fs} {a : LA} {D : Addr} {i : Nat} {d : Mine.D} : ((fW sc f a D i).set (Str.ofString "i") d).ρ (Str.ofString "lexer") = f.ρ (Str.ofString "lexer") := by unfold fW Fs.set upd; dsimp only; rw [if_neg (by decide)]; exact if_pos (List.mem_singleton.mpr rfl)
noncomputable def compScope : Stmt → Scope | .Assign _ (.ListComp _ _ s _) _ => s | _ => default
theorem hN_len (sc : List Int) : (hN sc).length = 8 := by simp [hN]
theorem drop_flat {α : Type} : ∀ (l : List (List α)) (i : Nat), l.flatten.drop (l.take i).flatten.length = (l.drop i).flatten
  | l, 0 => by simp
  | [], i + 1 => by simp
  | x :: r, i + 1 => by
    have := drop_flat r i
    simp only [List.take_succ_cons, List.flatten_cons, List.length_append, List.drop_succ_cons]
    rw [← List.drop_drop, List.drop_left]
    exact this
theorem nl_app (a b : List Nat) : nl (a ++ b) = nl a + nl b := by simp [nl, List.count_append]
theorem ws_at {sc : List Int} {i n : Nat} (h : (hN sc)[i]? = some n) : (textOf sc).drop (posAt sc i) = written n ++ ((wsOf sc).drop (i + 1)).flatten ∧ posAt sc (i + 1) = posAt sc i + (written n).length ∧ lineAt sc (i + 1) = lineAt sc i + nl (written n) := by
  have hw : (wsOf sc)[i]? = some (written n) := by simp [wsOf, h]
  have hlt : i < (wsOf sc).length := by
    rcases Nat.lt_or_ge i (wsOf sc).length with h | h
    · exact h
    · rw [List.getElem?_eq_none h] at hw; cases hw
  have hx : (wsOf sc)[i] = written n := by rw [List.getElem?_eq_getElem hlt] at hw; exact Option.some.inj hw
  have ht : (wsOf sc).take (i + 1) = (wsOf sc).take i ++ [written n] := by rw [List.take_add_one, hw]; rfl
  refine ⟨?_, ?_, ?_⟩
  · show (wsOf sc).flatten.drop _ = _
    rw [posAt, drop_flat, List.drop_eq_getElem_cons hlt, hx]; rfl
  · simp [posAt, ht]
  · simp only [lineAt, ht, List.flatten_append, List.flatten_cons, List.flatten_nil, List.append_nil, nl_app]; lia
theorem text_len (sc : List Int) : (textOf sc).length ≤ 800 := by
  have := flat_len ((hN sc).map written) (fun x hx => by
    obtain ⟨m, hm, rfl⟩ := List.mem_map.mp hx
    exact written_short (hN_lt hm))
  rw [List.length_map, hN_len] at this
  exact this
section
variable {prog : Program} {w : World} {A : Around} {E : Value → Shared → Prop} {s : Shared} {X Y : List Addr} {env : Env} {k : Nat} {f : Fs} {s₀ : Shared} {hb h₀ : Heap} {mg mb mN : Str → Option Value}

theorem ex_assign_core {elt target iter : Expr} {ifs : List Expr} {rest : List Comprehension} {y : Str} {py : Pos} {scope : Scope} {pos spos : Pos} {Q : Flow → Shared → Prop}
    (key : wpAny (model prog w) A (comprehension (.ListComp elt (⟨target, iter, ifs, 0⟩ :: rest) scope pos) scope env (firstIterPos (⟨target, iter, ifs, 0⟩ :: rest) pos) (newList []) false (eval iter env) (some (assign (.Name y py) env))) (fun _ s' => Q .next s') E s)
    (hsw : swapsWith (.ListComp elt (⟨target, iter, ifs, 0⟩ :: rest) scope pos) (some (.Name y py)) spos.line env = pure true := by rfl) :
    wpAny (model prog w) A (exec (.Assign [.Name y py] (.ListComp elt (⟨target, iter, ifs, 0⟩ :: rest) scope pos) spos) env) Q E s := by
  rw [exec_Assign_Name_used _ _ _ _ hsw]
  refine wpAny_bind (wpAny_standAt (wpAny_bind ?_))
  show wpAny _ A (do let _ ← comprehension (.ListComp elt (⟨target, iter, ifs, 0⟩ :: rest) scope pos) scope env _ (newList []) false (eval iter env) (some (assign (.Name y py) env))) _ _ s
  exact wpAny_bind (wpAny_mono key (fun _ s' hq => wpAny_pure (wpAny_pure hq)) fun _ _ e => e)

set_option tactic.hygienic true in
theorem ex_words {sc : List Int} {a : LA} {q : Str} {fa L : Addr} {cd : Value} {Q : Flow → Shared → Prop} (gd : Good (k + 4) A) (G : LH s₀.heap mg mb mN) (S : St s₀ hb X Y (lawEnv q fa L cd) f s) (hl : f.ρ (Str.ofString "lexer") = some (.ref a.x)) (hext : f.ext = LE a (textOf sc) 0 1 []) (h86 : 86 ∉ a.F)
    (h : ∀ s', St s₀ hb X Y (lawEnv q fa L cd) ({ f with ext := LE a (textOf sc) (posAt sc 8) (lineAt sc 8) [] }.set "words" (.list (wordsOf sc))) s' → Q .next s') : wpAny (model prog w) A (exec (lstmt 7) (lawEnv q fa L cd)) Q E s := by
  have ok := law_ok q fa L cd
  conv in exec _ _ => arg 1; whnf
  have co : CompOk (compScope (lstmt 7)) (lawEnv q fa L cd) [(Str.ofString "lexer", L + 3)] ["lexer"] := ⟨by rfl, by rfl, by decide, by decide, fun p hp => by rw [List.mem_singleton.mp hp, law_cells]; simp, fun y hy => by rw [List.mem_singleton.mp hy]; exact ⟨by rfl, .inl (by rfl), fun C => .inl (by rfl)⟩⟩
  refine ex_assign_core ?_
  refine comp_core (k := k + 4) (e := LE a (textOf sc) 0 1 []) (ds := rangeD 0 1 8) (emit := fun C D => eval (.Call (.Attribute (.Name "lexer" _) "get_token" _) [] [] _) (compEnvC _ [(Str.ofString "lexer", L + 3)] C (lawEnv q fa L cd)) >>= fun x => call (.builtin "list.append") [.ref D, x] >>= fun _ => pure ())
      (fun D i => fW sc f a D i) gd S
      (ei_range (ds := [.int 8]) (a := 0) (b := 8) (c := 1) (n := 8) ok G.gf ⟨rfl, .inr G.range, rfl⟩ (evs_cons ev_int evs_nil) rfl range1 (by decide) (by rfl)) co ⟨hext ▸ S.ext.1, fun b hb => by rw [hext]; exact hb⟩ (fun D => by rfl) (by rfl) (fun I C D => by rfl) ?_ ?_
  · intro I C D i d v s1 hb' E' hI hcl hd hv S1 _
    obtain ⟨hi8, rfl⟩ := rangeD_get hd
    have okc := comp_env_ok ok co hcl
    refine wpAny_pure ?_
    show wpAny _ A (do standAt _; bindName _ _ v) _ E' s1
    refine wpAny_bind (wpAny_standAt (wpAny_bindName (wp_storeLocal okc S1 hv (by rfl) fun s₃ S₃ _ _ => ?_)))
    have hn : (hN sc)[i]? = some ((hN sc)[i]'(by rw [hN_len]; exact hi8)) := by simp [hN_len, hi8]
    obtain ⟨w1, w2, w3⟩ := ws_at hn
    refine wpAny_bind (wp_get_read (k := k) (f := (fW sc f a D i).set (Str.ofString "i") _) (ev_cell okc (fW_lex.trans hl) (.inl (by rfl))) (by rfl) h86 _ (hN_lt (List.mem_of_getElem? hn)) w1 (Nat.le_trans (text_len sc) (by decide)) gd G S₃ fun s₄ t₄ S₄ => wpAny_bind ?_)
    refine wp_append (a := D) (l := wordsTo sc i) (d := .str (T (octets _))) S₄ (by simp [Fs.set, fW]) .str (by simp [wordsTo, sizeLine]; lia) fun s₅ S₅ => wpAny_pure ?_
    refine S₅.forget (fun y d' hy => ?_) (funext fun b => ?_) (by rw [fW, w2, w3]; rfl)
    · dsimp only [fW] at hy
      split at hy
      · rename_i hm
        have hne : y ≠ Str.ofString "i" := fun q => by rw [q] at hm; exact absurd hm (by decide)
        show upd (fW sc f a D i).ρ _ _ y = some d'
        unfold upd fW
        rw [if_neg hne]
        exact (if_pos hm).trans hy
      · cases hy
    · simp only [Fs.put, Fs.set, fW]
      split
      · simp only [wordsTo, List.take_add_one, hn, List.map_append]; rfl
      · rfl
  · intro C D Z s' S' g hZ os hC hD _
    rw [rangeD_len] at S'
    refine use_storeX (es := wordsOf sc) ok S S' rfl ?_ g (fun b hb => (hZ b hb).imp_left fun m => by rw [hext]; exact m) os hC hD (by rw [hext]; rfl) (by rfl) fun s₂ S₂ => h s₂ S₂
    have : wordsTo sc 8 = wordsOf sc := by rw [wordsTo, List.take_of_length_le (by rw [hN_len]; exact Nat.le_refl _)]; rfl
    simp [fW, this]
end
end Mine

namespace Mine
noncomputable def Flatd : D → Prop | .int _ => True | .str _ => True | _ => False
theorem eq_flat {A : Around} {s : Shared} {X : List Addr} {h : Heap} {v u : Value} {d : D} (hp : Flatd d) (hv : Den X h v d) (hu : Den X h u d) : PySem.SeqAt.EqAt A s v u true := by
  cases hv with
  | @int i t₀ => obtain ⟨t, rfl⟩ := D.den_int hu; have := PySem.SeqAt.EqAt.int_int (A := A) (s := s) i t₀ i t; rw [beq_self_eq_true] at this; exact this
  | @str i t₀ => obtain ⟨t, rfl⟩ := D.den_str hu; have := PySem.SeqAt.EqAt.str_str (A := A) (s := s) i t₀ i t; rw [beq_self_eq_true] at this; exact this
  | _ => exact hp.elim
section
variable {prog : Program} {w : World} {A : Around} {E : Value → Shared → Prop} {s : Shared} {X Y : List Addr} {env : Env} {k : Nat} {f : Fs} {s₀ : Shared} {hb h₀ : Heap} {mg mb mN : Str → Option Value}
theorem op_ne_same {l : List D} (hp : ∀ d ∈ l, Flatd d) : OP prog w X k .NotEq (.list l) (.list l) false := fun A s x y E g _ hx hy => by
  obtain ⟨p, vs, rfl, _, hl, hd⟩ := D.den_list hx
  obtain ⟨q, us, rfl, _, hl', hd'⟩ := D.den_list hy
  have hu : A.units < cLine := by have := g.units; lia
  refine PySem.SeqAt.RcNeAt.lists (e := fun _ => true) hl hl' (by simp [hd.length, hd'.length]) hu (fun j h1 h2 => ?_) prog w E _ ?_
  · have hj : j < l.length := by simpa [hd.length] using h1
    have hdj : l[j]? = some l[j] := by simp [hj]
    obtain ⟨v, e1, d1⟩ := hd.get hdj
    obtain ⟨u, e2, d2⟩ := hd'.get hdj
    have ev : vs.toArray[j] = v := by
      have : vs[j]? = some vs.toArray[j] := by simp
      rw [this] at e1; exact Option.some.inj e1
    have eu : us.toArray[j] = u := by
      have : us[j]? = some us.toArray[j] := by simp
      rw [this] at e2; exact Option.some.inj e2
    rw [ev, eu]
    exact eq_flat (hp _ (List.getElem_mem hj)) d1 d2
  · have : (List.range vs.toArray.size).all (fun _ => true) = true := by simp
    rw [this]
    exact ⟨rfl, .refl⟩
theorem op_ne_int {a b : Int} : OP prog w X k .NotEq (.int a) (.int b) (!(a == b)) := fun A s x y E g _ hx hy => by
  obtain ⟨t, rfl⟩ := D.den_int hx; obtain ⟨u, rfl⟩ := D.den_int hy
  exact PySem.SeqAt.RcNeAt.int_int a t b u prog w E _ ⟨rfl, .refl⟩

theorem ev_lineno {a : LA} {text : List Nat} {pos : Nat} {line : Int} {push : List (List Nat)} {e : Expr} {apos : Pos} (G : LH s₀.heap mg mb mN) (he : EV prog w s₀ X Y env f k e (.ref a.x)) (hext : f.ext = LE a text pos line push)
    (hbase : attributeBase e "lineno" env (eval e env) = eval e env := by rfl) : EV prog w s₀ X Y env f k (.Attribute e "lineno" apos) (.int line) := fun A s hb E g S => by
  refine wp_Attr hbase (wp_ev he g S fun v s₁ hv le => ?_)
  obtain rfl := D.den_ref hv
  have S₁ := S.le le
  have C := G.cl.keep S₁.keep
  have Lx := S₁.lx hext
  obtain ⟨mA, tl, tw, hnA, hW, hA1, hA2, hA3, hA4⟩ := Lx.at_
  obtain ⟨_, _, _, _, _, _, _, _, _, _, _, _, hC⟩ := C.cls
  exact load_attr hC C.ns C.no.1 C.no.2.2.2.1 FL.lineno (Lx.inst hnA) hA1 (by rfl) ⟨.int, le.trans (.toks _)⟩

theorem lineAt8 (sc : List Int) : lineAt sc 8 = 1 + ((textOf sc).count 10 : Nat) := by
  unfold lineAt
  rw [List.take_of_length_le (by simp [wsOf, hN_len])]; rfl
theorem ex_check1 {sc : List Int} {a : LA} {q : Str} {fa L : Addr} {cd : Value} {Q : Flow → Shared → Prop} {pos : Nat} {push : List (List Nat)} (gd : Good (k + 4) A) (G : LH s₀.heap mg mb mN) (S : St s₀ hb X Y (lawEnv q fa L cd) f s)
    (hw : f.ρ (Str.ofString "words") = some (.list (wordsOf sc))) (hH : f.ρ (Str.ofString "hours") = some (.list (hoursTo sc 8))) (hl : f.ρ (Str.ofString "lexer") = some (.ref a.x)) (ht : f.ρ (Str.ofString "text") = some (.str (T (textOf sc)))) (hext : f.ext = LE a (textOf sc) pos (lineAt sc 8) push)
    (h : ∀ s', St s₀ hb X Y (lawEnv q fa L cd) f s' → Q .next s') : wpAny (model prog w) A (exec (lstmt 8) (lawEnv q fa L cd)) Q E s := by
  have ok := law_ok q fa L cd
  conv in exec _ _ => arg 1; whnf
  refine ex_if (k := k + 4) (b := false) gd S (tv_or (p := false) (q := false) ?_ fun _ => ?_) fun s₁ _ S₁ => wpAny_execs_nil (h s₁ S₁)
  · refine tv_cmp (d₁ := .list (wordsOf sc)) (d₂ := .list (wordsOf sc)) (ev_name ok hw rfl) ?_ (op_ne_same fun d hd => ?_)
    · exact ev_map1 (sc := sc) (g := fun n => .str (T (octets n))) ok G.gf G.d10 G.oct (ev_cell ok hH (.inl rfl)) ⟨by rfl, rfl, by decide, by decide, (fun p hp => nomatch hp), (fun y hy => nomatch hy)⟩ (fun C => by rfl) (fun C => by rfl) (by decide) (fun X m hm => bc_octets (k := k + 3) G.d10 G.lim G.gf G.chr m (hN_lt hm))
    · obtain ⟨n, _, rfl⟩ := List.mem_map.mp hd
      trivial
  · refine TV.cast (tv_cmp (d₁ := .int (lineAt sc 8)) (d₂ := .int (1 + ((textOf sc).count 10 : Nat))) (ev_lineno G (ev_cell ok hl (.inl rfl)) hext) (ev_add ev_int (ev_count (ev_name ok ht rfl) ev_str)) op_ne_int) ?_
    rw [lineAt8]; simp
end
end Mine

namespace Mine
section
variable {prog : Program} {w : World} {A : Around} {E : Value → Shared → Prop} {s : Shared} {X Y : List Addr} {env : Env} {k : Nat} {f : Fs} {s₀ : Shared} {hb h₀ : Heap} {mg mb mN : Str → Option Value}
theorem ex_times {sc : List Int} {q : Str} {fa L : Addr} {cd : Value} {Q : Flow → Shared → Prop} (gd : Good (k + 4) A) (G : LH s₀.heap mg mb mN) (S : St s₀ hb X Y (lawEnv q fa L cd) f s)
    (hw : f.ρ (Str.ofString "words") = some (.list (wordsOf sc))) (hc : L + 4 ∈ Y)
    (h : ∀ s', St s₀ hb X Y (lawEnv q fa L cd) (f.set "times" (.list (hoursTo sc 8))) s' → Q .next s') : wpAny (model prog w) A (exec (lstmt 9) (lawEnv q fa L cd)) Q E s := by
  have ok := law_ok q fa L cd
  conv in exec _ _ => arg 1; whnf
  refine ex_assign_cell (k := k + 4) (c := L + 4) (d := .list (hoursTo sc 8)) ok gd S ?_ (by rfl) (by rfl) hc (fun y hy => law_inj (by rfl) hy) h
  obtain ⟨o, pm, cd', doc, ho, hd, _⟩ := id G.d12
  refine ev_comp1 (ds := wordsOf sc) (cl := []) (ns := []) ok (ei_list (ev_name ok hw rfl)) ⟨by rfl, rfl, by decide, by decide, (fun p hp => nomatch hp), (fun y hy => nomatch hy)⟩ (fun C => by rfl) ?_ ?_ ?_
  · simp [wordsOf, hoursTo8]
  · simp [wordsOf, hN_len, sizeLine]
  · intro I C D i d d' h1 h2 okc
    rw [wordsOf, List.getElem?_map] at h1
    obtain ⟨m, hm1, rfl⟩ := Option.map_eq_some_iff.mp h1
    rw [hoursTo8, List.getElem?_map, hm1] at h2
    cases h2
    exact ev_call_f okc G.gf ⟨rfl, .inl G.num, rfl⟩ ho hd (evs_cons (ev_name okc rfl rfl) evs_nil) rfl (bc_number (k := k + 2) G.d12 G.d3 G.lim G.gf G.var G.next G.iter G.ord m (hN_lt (List.mem_of_getElem? hm1)))
theorem ex_check2 {sc : List Int} {q : Str} {fa L : Addr} {cd : Value} {Q : Flow → Shared → Prop} (gd : Good (k + 4) A) (S : St s₀ hb X Y (lawEnv q fa L cd) f s)
    (hw : f.ρ (Str.ofString "times") = some (.list (hoursTo sc 8))) (hH : f.ρ (Str.ofString "hours") = some (.list (hoursTo sc 8)))
    (h : ∀ s', St s₀ hb X Y (lawEnv q fa L cd) f s' → Q .next s') : wpAny (model prog w) A (exec (lstmt 10) (lawEnv q fa L cd)) Q E s := by
  have ok := law_ok q fa L cd
  conv in exec _ _ => arg 1; whnf
  refine ex_if (k := k + 4) (b := false) gd S ?_ fun s₁ _ S₁ => wpAny_execs_nil (h s₁ S₁)
  refine tv_cmp (d₁ := .list (hoursTo sc 8)) (d₂ := .list (hoursTo sc 8)) (ev_cell ok hw (.inl rfl)) (ev_cell ok hH (.inl rfl)) (op_ne_same fun d hd => ?_)
  obtain ⟨n, _, rfl⟩ := List.mem_map.mp hd
  trivial
end
end Mine

namespace Mine
/- the i-th hour -/
noncomputable def hr (sc : List Int) (i : Nat) : Int := (hourTo sc (i + 1) : Nat)
noncomputable def bits (sc : List Int) : List Bool := opensOf (rowTo sc 8)
noncomputable def evs (sc : List Int) (i : Nat) : List (Bool × Int) := evsAt (hr sc) (bits sc) i
noncomputable def qstep (sc : List Int) (p : List Nat × List Int) (i : Nat) : List Nat × List Int := if (bits sc).getD i false then (p.1 ++ [hourTo sc (i + 1)], p.2) else match p.1 with
  | a :: o => (o, p.2 ++ [hr sc i - a])
  | [] => ([], p.2)
noncomputable def qTo (sc : List Int) : Nat → List Nat × List Int
  | 0 => ([], [])
  | i + 1 => qstep sc (qTo sc i) i
theorem qTo_eq (sc : List Int) : ∀ i, (evs sc i).foldl lstep ([], []) = ((qTo sc i).1.map fun n => ((n : Nat) : Int), (qTo sc i).2)
  | 0 => rfl
  | i + 1 => by
    have ih := qTo_eq sc i
    rw [evs, evsAt_succ, List.foldl_append]
    show (List.foldl lstep (List.foldl lstep ([], []) (evs sc i)) [_]) = _
    rw [ih, qTo, qstep]
    cases hb : (bits sc).getD i false
    · simp only [List.foldl_cons, List.foldl_nil, lstep, Bool.false_eq_true, if_false]
      cases (qTo sc i).1 with
      | nil => rfl
      | cons a o => rfl
    · simp only [List.foldl_cons, List.foldl_nil, lstep, if_true, List.map_append]
      rfl
theorem good_parts (sc : List Int) : balB (bits sc) 0 = true ∧ ((bits sc).filter fun b => !b).length = 4 ∧ ∀ i, i < 8 → (bits sc).getD i false = true ∨ 0 < net ((bits sc).take i) := by
  have h := row_good sc
  unfold rowGood at h
  simp only [Bool.and_eq_true, List.all_eq_true, List.mem_range, Bool.or_eq_true, decide_eq_true_eq, beq_iff_eq] at h
  exact ⟨h.1.1.2, h.1.2, h.2⟩
theorem bits_len (sc : List Int) : (bits sc).length = 8 := by simp [bits, opensOf, rowTo_len]
theorem q_ne {sc : List Int} {i : Nat} (hi : i < 8) (hb : (bits sc).getD i false = false) : ∃ a o, (qTo sc i).1 = a :: o := by
  have h := (good_parts sc).2.2 i hi
  rw [hb] at h
  have h := h.resolve_left (fun q => nomatch q)
  have hl := lstep_len (evs sc i) ([], [])
  rw [qTo_eq] at hl
  have hm : (evs sc i).map (·.1) = (bits sc).take i := by
    simp only [evs, evsAt, List.map_map]
    apply List.ext_getElem?
    intro j
    rw [List.getElem?_map, List.getElem?_take]
    by_cases hj : j < i
    · have : j < (bits sc).length := by rw [bits_len]; lia
      simp [hj, this]
    · simp [hj]
  rw [hm] at hl
  simp only [List.length_map, List.length_nil] at hl
  have : 0 < (qTo sc i).1.length := by rw [hl]; exact h
  cases q : (qTo sc i).1 with
  | nil => rw [q] at this; simp at this
  | cons a o => exact ⟨a, o, rfl⟩
set_option tactic.hygienic true in
theorem q_len (sc : List Int) : ∀ i, (qTo sc i).1.length ≤ i
  | 0 => Nat.le_refl _
  | i + 1 => by
    have := q_len sc i
    rw [qTo, qstep]
    split
    · simp; lia
    · split
      · rename_i e; rw [e] at this; simp only [List.length_cons] at this; dsimp only; lia
      · simp
theorem s_len (sc : List Int) : ∀ i, (qTo sc i).2.length ≤ i
  | 0 => Nat.le_refl _
  | i + 1 => by
    have := s_len sc i
    rw [qTo, qstep]
    split
    · dsimp only; lia
    · split
      · simp; lia
      · dsimp only; lia
set_option tactic.hygienic true in
theorem q_lt (sc : List Int) : ∀ i, i ≤ 8 → ∀ n ∈ (qTo sc i).1, n < 262144
  | 0, _, n, h => nomatch h
  | i + 1, hi, n, h => by
    have ih := q_lt sc i (by lia)
    rw [qTo, qstep] at h
    split at h
    · rcases List.mem_append.mp h with h | h
      · exact ih n h
      · rw [List.mem_singleton.mp h]
        have := hourTo_lt sc (i + 1)
        lia
    · split at h
      · rename_i e
        exact ih n (by rw [e]; exact .tail _ h)
      · cases h
noncomputable def f2 (sc : List Int) (a : LA) (b : Addr) (i : Nat) : Fs := ⟨fun x => List.lookup x [(Str.ofString "row", .str (T (rowTo sc 8))), (Str.ofString "hours", .list (hoursTo sc 8)), (Str.ofString "words", .list (wordsOf sc)), (Str.ofString "lexer", .ref a.x), (Str.ofString "times", .list (hoursTo sc 8)), (Str.ofString "line", .ref b)],
  fun c => if c = b then some ((qTo sc i).2.map .int) else none, LE a (textOf sc) (posAt sc 8) (lineAt sc 8) ((qTo sc i).1.map octets)⟩
theorem rows_mem : ∀ a b c d e f g h : Bool, ((rowOf [a, b, c, d, e, f, g, h]).all fun c => c == 40 || c == 41) = true := by decide +kernel
theorem row_mem (sc : List Int) : ∀ c ∈ rowTo sc 8, c = 40 ∨ c = 41 := by
  obtain ⟨a, b, c, d, e, f, g, h, q⟩ := row8 sc
  have := rows_mem a b c d e f g h
  rw [← q] at this
  simpa using this
section
variable {prog : Program} {w : World} {A : Around} {E : Value → Shared → Prop} {s : Shared} {X Y : List Addr} {env : Env} {k : Nat} {f : Fs} {s₀ : Shared} {hb h₀ : Heap} {mg mb mN : Str → Option Value}

/- x.append(e), where e may turn the frame -/
theorem ex_appendX {x : Str} {px apos pos pos' : Pos} {e : Expr} {a : Addr} {l : List D} {Q : Flow → Shared → Prop} (ok : EnvOk env) (gd : Good k A) (S : St s₀ hb X Y env f s) (hx : EV prog w s₀ X Y env f k (.Name x px) (.ref a)) (ho : f.own a = some l)
    (he : ∀ s₁ E', St s₀ hb X Y env f s₁ → wpAny (model prog w) A (eval e env) (fun y s₂ => ∃ d f', St s₀ hb X Y env f' s₂ ∧ Den X s₂.heap y d ∧ f'.own a = some l ∧ ∀ s', St s₀ hb X Y env (f'.put a (some (l ++ [d]))) s' → Q .next s') E' s₁) (hsz : l.length ≤ sizeLine)
    (hbase : attributeBase (.Name x px) "append" env (eval (.Name x px) env) = eval (.Name x px) env := by rfl) (hline : (apos.endLine == pos.line) = true := by rfl)
    (htrees : backTo pos (starEach [e] env) = [(false, eval e env)] := by rfl) :
    wpAny (model prog w) A (exec (.Expr (.Call (.Attribute (.Name x px) "append" apos) [e] [] pos) pos') env) Q E s := by
  have hi : interactive env = false := by unfold interactive; rw [ok.kind]; rfl
  refine wpAny_Expr_none (wpAny_Call_append hbase (by rw [htrees]; rfl) hline htrees (wpAny_mono (hx A s hb E gd S) (fun v s₁ p => ?_) fun _ _ e => e)) hi
  obtain rfl := D.den_ref p.1
  have S₁ := S.le p.2
  obtain ⟨_, _, _, _, vs, n, hl, hds⟩ := S₁.own a l ho
  obtain ⟨n, rfl⟩ := hds.obj
  refine ⟨a, vs.toArray, rfl, ⟨_, n, hl, rfl, rfl, rfl⟩, ?_⟩
  refine wpAny_mono (he s₁ E S₁) (fun y s₂ q => ?_) fun _ _ e => e
  obtain ⟨d, f', S₂, hd, ho', hq⟩ := q
  exact wp_append S₂ ho' hd hsz fun s' S' => ⟨rfl, hq s' S'⟩

theorem line_loop {sc : List Int} {a : LA} {b : Addr} {q : Str} {fa L : Addr} {cd : Value} {Q : Flow → Shared → Prop} (gd : Good (k + 5) A) (G : LH s₀.heap mg mb mN) (h86 : 86 ∉ a.F)
    (hc : L + 2 ∈ Y) (S : St s₀ hb X Y (lawEnv q fa L cd) (f2 sc a b 0) s) (h : ∀ s', St s₀ hb X Y (lawEnv q fa L cd) (f2 sc a b 8) s' → Q .next s') :
    wpAny (model prog w) A (exec (lstmt 12) (lawEnv q fa L cd)) Q E s := by
  have ok := law_ok q fa L cd
  conv in exec _ _ => arg 1; whnf
  refine ex_forC (k := k + 5) (c := L + 2) (f2 sc a b) ok gd S (ei_range (ds := [.int 8]) (a := 0) (b := 8) (c := 1) (n := 8) ok G.gf ⟨rfl, .inr G.range, rfl⟩ (evs_cons ev_int evs_nil) rfl range1 (by decide) (by rfl)) (by rfl) (by rfl) hc (fun y hy => ?_) (fun _ _ _ _ S => S.cellAt (x := Str.ofString "i") (by rfl)) (fun i d s I hb' E' hI hd S => ?_) h
  · exact law_inj (by rfl) hy
  · obtain ⟨hi8, rfl⟩ := rangeD_get hd
    have hdi : D.int (0 + (i : Int) * 1) = .int (i : Nat) := by rw [Int.zero_add, Int.mul_one]
    rw [hdi] at S
    have hrl : (rowTo sc 8).length = 8 := rowTo_len sc 8
    obtain ⟨c, hc⟩ : ∃ c, (rowTo sc 8)[i]? = some c := ⟨_, List.getElem?_eq_getElem (by rw [hrl]; exact hi8)⟩
    have hbit : (bits sc).getD i false = decide (c = 40) := by
      rw [bits, opensOf, List.getD_eq_getElem?_getD, List.getElem?_map, hc]
      by_cases q : c = 40 <;> simp [q]
    have hn : (hN sc)[i]? = some (hourTo sc (i + 1)) := by simp [hN, hi8]
    have ei : ∀ {px f'}, f'.ρ (Str.ofString "i") = some (D.int (i : Nat)) → EV prog w s₀ (I :: X) Y (lawEnv q fa L cd) f' (k + 1) (.Name (Str.ofString "i") px) (.int (i : Nat)) := fun h => ev_cell ok h (.inl rfl)
    refine wpAny_execs_cons (ex_if (k := k + 1) (b := decide (c = 40)) (gd.less (by lia)) S ((tv_cmp (ev_char (x := T (rowTo sc 8)) (n := (i : Int)) (ev_name ok rfl rfl) (ei rfl) (by lia) (by rw [T_length, hrl]; lia) (fits9 i (by lia))) (ev_str (x := T [40])) op_eq_str).cast (by rw [item_T _ i c hc, beq_T])) fun s₁ _ S₁ => ?_)
    by_cases h4 : c = 40
    · have hb1 : (bits sc).getD i false = true := by rw [hbit, h4]; rfl
      rw [decide_eq_true h4, if_pos rfl]
      refine wpAny_execs_cons (ex_push (k := k + 1) (f := (f2 sc a b i).set (Str.ofString "i") (.int (i : Nat))) (a := a) (text := textOf sc) (pos := posAt sc 8) (line := lineAt sc 8) (ws := (qTo sc i).1.map octets) (wd := octets (hourTo sc (i + 1))) ok (ev_cell ok rfl (.inl rfl)) rfl h86 (by have := q_len sc i; simp; lia) gd (ev_item (n := (i : Int)) (l := wordsOf sc) (ev_name ok rfl rfl) (ei rfl) (by lia) (by lia) ?_) G S₁ fun s₂ S₂ => wpAny_execs_nil (wpAny_execs_nil ?_))
      · rw [Int.toNat_natCast, wordsOf, List.getElem?_map, hn]; rfl
      · have e1 : qTo sc (i + 1) = ((qTo sc i).1 ++ [hourTo sc (i + 1)], (qTo sc i).2) := by rw [qTo, qstep, if_pos hb1]
        refine S₂.toG (l := [(Str.ofString "row", .str (T (rowTo sc 8))), (Str.ofString "hours", .list (hoursTo sc 8)), (Str.ofString "words", .list (wordsOf sc)), (Str.ofString "lexer", .ref a.x), (Str.ofString "times", .list (hoursTo sc 8)), (Str.ofString "line", .ref b)]) rfl ⟨rfl, rfl, rfl, rfl, rfl, rfl, trivial⟩ (fun b' => ?_) ?_
        · simp only [f2, e1, Fs.set]
        · simp only [f2, e1, List.map_append, List.map_cons, List.map_nil]
    · have hb0 : (bits sc).getD i false = false := by rw [hbit, decide_eq_false h4]
      rw [decide_eq_false h4, if_neg (by decide)]
      obtain ⟨n, o, hq⟩ := q_ne hi8 hb0
      have e1 : qTo sc (i + 1) = (o, (qTo sc i).2 ++ [hr sc i - n]) := by rw [qTo, qstep, if_neg (by rw [hb0]; decide), hq]
      have hnl : n < 262144 := q_lt sc i (by lia) n (by rw [hq]; exact .head _)
      obtain ⟨o12, pm, cd', doc, ho, hd12, _⟩ := id G.d12
      refine wpAny_execs_cons (ex_appendX (k := k + 1) (a := b) (l := (qTo sc i).2.map .int) ok (gd.less (by lia)) S₁ (ev_name ok rfl rfl) (by simp [f2, Fs.set]) (fun s₂ E₂ S₂ => ?_) (by have := s_len sc i; simp [sizeLine]; lia))
      refine wpAny_BinOp (wp_ev (k := k + 1) (d := .int (hr sc i)) (ev_item (n := (i : Int)) (l := hoursTo sc 8) (ev_cell ok rfl (.inl rfl)) (ei rfl) (by lia) (by lia) ?_) (gd.less (by lia)) S₂ fun v₃ s₃ hv₃ le₃ => ?_)
      · rw [Int.toNat_natCast, hoursTo8, List.getElem?_map, hn]; rfl
      have S₃ := S₂.le le₃
      refine wp_Call_fn' hd12 (by rfl) (wp_glob ok G.gf ⟨by rfl, .inl G.num, by rfl⟩ S₃ ⟨rfl, wpAny_items_cons ?_⟩)
      refine wp_get_pop (k := k + 1) (f := (f2 sc a b i).set (Str.ofString "i") (.int (i : Nat))) (a := a) (text := textOf sc) (pos := posAt sc 8) (line := lineAt sc 8) (wd := octets n) (ws := o.map octets) (ev_cell ok rfl (.inl rfl)) (by simp only [f2, Fs.set, hq, List.map_cons]) h86 (by have := q_len sc i; rw [hq] at this; simp at this ⊢; lia) gd G S₃ fun s₄ t₄ S₄ => wpAny_items_nil ⟨S₄.keep _ _ nil_mem ho, ?_⟩
      refine wpAny_mono (bc_number (k := k + 3) (X := I :: X) G.d12 G.d3 G.lim G.gf G.var G.next G.iter G.ord n hnl A s₄ [.str (T (octets n)) t₄] _ gd S₄.keep ⟨S₄.gens, S₄.dom⟩ (.cons .str .nil)) (fun v₅ s₅ p => ?_) fun _ _ e => e
      obtain ⟨t₅, rfl⟩ := D.den_int p.1
      obtain ⟨t₃, rfl⟩ := D.den_int hv₃
      refine sub_int ⟨.int (hr sc i - (n : Nat)), _, (S₄.le p.2).le (.toks _), .int, ?_, fun s₆ S₆ => wpAny_execs_nil (wpAny_execs_nil ?_)⟩
      · simp [f2, Fs.set]
      · refine S₆.toG (l := [(Str.ofString "row", .str (T (rowTo sc 8))), (Str.ofString "hours", .list (hoursTo sc 8)), (Str.ofString "words", .list (wordsOf sc)), (Str.ofString "lexer", .ref a.x), (Str.ofString "times", .list (hoursTo sc 8)), (Str.ofString "line", .ref b)]) rfl ⟨rfl, rfl, rfl, rfl, rfl, rfl, trivial⟩ (fun b' => ?_) ?_
        · simp only [f2, e1, Fs.put, Fs.set, List.map_append, List.map_cons, List.map_nil]
          by_cases qb : b' = b <;> simp [qb]
        · simp only [f2, e1, Fs.put, Fs.set]
end
end Mine

namespace Mine
/- the order of two lists whose first items are unlike ints -/
theorem lt_loop0 (l b : Addr) (items items2 : Array Value) (n n2 : Nat) (dd dd2 : Option Addr) (sl sl2 : Array (Option Value)) (x y : Int) (t u : Tok) (h1 : items[0]? = some (.int x t)) (h2 : items2[0]? = some (.int y u)) (hne : x ≠ y) :
    Meets (Builtin.«list.__eq__.loop» ⟨[.ref l, .ref b, rawInt 0, rawInt 0], []⟩)
      (fun A R s => s.heap.get? l = some { cls := .type "list", dict := dd, data := .seq items n, slots := sl } ∧ s.heap.get? b = some { cls := .type "list", dict := dd2, data := .seq items2 n2, slots := sl2 } ∧
        R (.ok (.ret (.bool (decide (x < y))))) s) := by
  intro prog w A R s h
  obtain ⟨hp, g, d, tk, os⟩ := s; obtain ⟨hl, hb, h⟩ := h
  wp_walk using AutoSeq1.wpAny_loadPart' hl, AutoSeq1.wpAny_loadPart' hb
  have hi1 : items[((0 : Int)).toNat]? = some (.int x t) := h1
  have hi2 : items2[((0 : Int)).toNat]? = some (.int y u) := h2
  rw [hi1, hi2]
  refine wpAny_bind (PySem.SeqAt.EqAt.int_int x t y u prog w _ _ ?_)
  have hxy : (x == y) = false := by simpa using hne
  rw [hxy]
  wp_walk using AutoSeq1.wpAny_loadPart' hl, AutoSeq1.wpAny_loadPart' hb
  rw [hi1, hi2]
  dsimp only
  refine wpAny_bind (show wpAny _ _ (compareOp .Lt (.int x t) (.int y u)) _ _ _ from lt_int ?_)
  wp_walk
  exact h

theorem list_lt0 (l b : Addr) (items items2 : Array Value) (n n2 : Nat) (dd dd2 : Option Addr) (sl sl2 : Array (Option Value)) (x y : Int) (t u : Tok) (h1 : items[0]? = some (.int x t)) (h2 : items2[0]? = some (.int y u)) (hne : x ≠ y) :
    Meets (Builtin.«list.__lt__» ⟨[.ref l, .ref b], []⟩)
      (fun _ R s => s.heap.get? l = some { cls := .type "list", dict := dd, data := .seq items n, slots := sl } ∧ s.heap.get? b = some { cls := .type "list", dict := dd2, data := .seq items2 n2, slots := sl2 } ∧
        R (.ok (.ret (.bool (decide (x < y))))) s) := by
  intro prog w A R s h
  obtain ⟨hp, g, d, tk, os⟩ := s; obtain ⟨hl, hb, h⟩ := h
  have f3 := AutoSeq1.sub_list_list
  wp_walk using AutoSeq1.wpAny_loadPart' hl, AutoSeq1.wpAny_loadPart' hb
  exact ⟨plainId_quiet PySem.MeetsSeq3.plain_eq_loop _, codeAny_builtin PySem.MeetsSeq3.entry_eq_loop (by
    rw [Around.under_plainId PySem.MeetsSeq3.plain_eq_loop _]
    exact lt_loop0 l b items items2 n n2 dd dd2 sl sl2 x y t u h1 h2 hne prog w A R _ ⟨hl, hb, h⟩)⟩
section
variable {prog : Program} {w : World} {A : Around} {E : Value → Shared → Prop} {s : Shared}
theorem key_lt0 {l b : Addr} {items items2 : Array Value} {x y : Int} {t u : Tok} {Q : Bool → Shared → Prop} (hl : s.heap.IsList l items) (hb : s.heap.IsList b items2) (h1 : items[0]? = some (.int x t)) (h2 : items2[0]? = some (.int y u)) (hne : x ≠ y) (hu : A.units < cLine)
    (h : Q (decide (x < y)) s) : wpAny (model prog w) A (keyLt' oneType' (.ref l) (.ref b)) Q E s := by
  obtain ⟨⟨cls, dd, data, sl⟩, ho, hc, n, hd⟩ := id hl
  obtain ⟨⟨cls2, dd2, data2, sl2⟩, ho2, hc2, n2, hd2⟩ := id hb
  simp only at hc hd hc2 hd2
  subst hc hd hc2 hd2
  rw [keyLt'_oneType, oneLt'_eq]
  simp only [if_true]
  refine wpAny_bind (wpAny_cRoomFor hu ?_)
  refine wpAny_bind (wpAny_callSpecialIfBound?_slot (name := Str.ofString "__lt__") ⟨_, ho, rfl⟩ PySem.F.slot_list_lt ?_)
  have hm := list_lt0 l b items items2 n n2 dd dd2 sl sl2 x y t u h1 h2 hne
  refine call_meets PySem.F.slot_list_lt ⟨_, ho, rfl⟩ PySem.F.entry_list_lt (PySem.F.args_list_lt_2 _ _) hm ⟨ho, ho2, ?_⟩
  exact wpAny_truthy_bool h
end
end Mine

namespace Mine
noncomputable def runT {α : Type} (lt : Nat → Nat → Option Bool) : PySem.W.KasT α → Option α
  | .ret a => some a
  | .ask i j k => match lt i j with
    | some b => runT lt (k b)
    | none => none
set_option tactic.hygienic true in
theorem run_wp {α : Type} {cmp : Nat → Nat → (Bool → Shared → Prop) → Shared → Prop} {lt : Nat → Nat → Option Bool} {G : α → Shared → Prop} {s : Shared} {a : α} (h : ∀ i j b C, lt i j = some b → C b s → cmp i j C s) (hG : G a s) : ∀ t : PySem.W.KasT α, runT lt t = some a → t.kasWp cmp G s
  | .ret _, e => by cases e; exact hG
  | .ask i j k, e => by
    unfold runT at e
    split at e
    · rename_i b hb
      exact h i j b _ hb (run_wp h hG (k b) e)
    · cases e
section
variable {prog : Program} {w : World} {A : Around} {E : Value → Shared → Prop} {s : Shared} {X Y : List Addr} {env : Env} {k : Nat} {f : Fs} {s₀ : Shared} {hb h₀ : Heap} {mg mb mN : Str → Option Value}

theorem wp_lsort {a : Addr} {vs : List Value} {n : Nat} {P : PySem.Fin → Shared → Prop} {lt : Nat → Nat → Option Bool} {p : Array Nat} (ho : s.heap.get? a = some (seqObj "list" vs.toArray n)) (h2 : 2 ≤ vs.length) (h64 : vs.length < 64)
    (hT : ∀ v ∈ vs, ∃ b o, v = .ref b ∧ b ≠ a ∧ s.heap.get? b = some o ∧ o.cls = .type "list")
    (hcmp : ∀ i j b s' C, (∀ c o, c ≠ a → s.heap.get? c = some o → s'.heap.get? c = some o) → lt i j = some b → C b s' → PySem.W.kas_ask prog w A oneType' vs i j C s')
    (hrun : runT lt (PySem.W.kas_sort vs.length) = some p) (hp : p.size = vs.length)
    (h : P (.done (.ret .none)) { s with heap := sortedHeap s.heap a vs (List.toArray (p.toList.map fun i => vs.getD i Value.none)) }) : wpAny (model prog w) A (Builtin.«list.sort» ⟨[.ref a], []⟩) P E s := by
  rw [list_sort_plain]
  have ha : a < s.heap.objs.size := Heap.lt_size ho
  have hl : vs.length ≤ sizeLine := by unfold sizeLine; lia
  refine wpAny_bind (listItems_at ho rfl ?_)
  refine wpAny_bind (listUpdate_at ho rfl ?_ (by simpa using hl) (Nat.zero_le _))
  obtain ⟨e1, ho1⟩ : ∃ e1, (s.heap.update a (Obj.mapSeq fun _ => (#[] : Array Value))).get? a = some (seqObj "list" #[] e1) := ⟨_, get?_update_seq ho fun _ => #[]⟩
  refine wpAny_bind (seqEpoch_at ho1 rfl ?_)
  refine wpAny_bind (wpAny_newTuple ?_ (by simpa using hl))
  refine wpAny_bind (wpAny_newList ?_ (Nat.zero_le _))
  refine wpAny_holding ?_
  have ho6 : (((s.heap.update a (Obj.mapSeq fun _ => (#[] : Array Value))).push (seqObj "tuple" vs.toArray 0)).push (seqObj "list" #[] 0)).get? a = some (seqObj "list" #[] e1) := Heap.get?_push_of_some _ (Heap.get?_push_of_some _ ho1)
  have kp : ∀ c o, c ≠ a → s.heap.get? c = some o → (((s.heap.update a (Obj.mapSeq fun _ => (#[] : Array Value))).push (seqObj "tuple" vs.toArray 0)).push (seqObj "list" #[] 0)).get? c = some o := fun c o hc e => Heap.get?_push_of_some _ (Heap.get?_push_of_some _ ((Heap.get?_update_ne _ _ _ _ hc).trans e))
  show wpAny (model prog w) A _ P E { s with heap := ((s.heap.update a (Obj.mapSeq fun _ => (#[] : Array Value))).push (seqObj "tuple" vs.toArray 0)).push (seqObj "list" #[] 0) }
  dsimp only
  have hn2 : ¬ vs.toArray.size < 2 := by rw [List.size_toArray]; lia
  rw [if_neg hn2, if_neg hn2]
  refine wpAny_bind (PySem.W.kas_kind h2 (T := .type "list") (fun v hv => ?_) (by decide) (by decide) ?_)
  · obtain ⟨b, o, rfl, hb, hob, hc⟩ := hT v hv
    exact fun A Q E s' kk q => wpAny_typeOf ⟨o, kk _ _ (kp _ _ hb hob), hc⟩ q
  have est : SortSt.mk' oneType' (vs.toArray.zip vs.toArray) #[] 7 none = PySem.W.kas_st oneType' (PyProof.Rows.pairsOf vs) (List.toArray (List.range vs.length)) := by
    have e := PySem.W.kas_range (PyProof.Rows.pairsOf vs)
    rw [PyProof.Rows.pairsOf_size] at e
    show SortSt.mk' oneType' (PyProof.Rows.pairsOf vs) #[] 7 none = SortSt.mk' oneType' ((List.toArray (List.range vs.length)).map (PySem.W.kas_item (PyProof.Rows.pairsOf vs))) #[] 7 none
    rw [e]
  have hask := run_wp (cmp := PySem.W.kas_ask prog w A oneType' vs) (lt := lt) (a := p) (G := fun p' s' => p' = p ∧ s' = { s with heap := ((s.heap.update a (Obj.mapSeq fun _ => (#[] : Array Value))).push (seqObj "tuple" vs.toArray 0)).push (seqObj "list" #[] 0) }) (s := { s with heap := ((s.heap.update a (Obj.mapSeq fun _ => (#[] : Array Value))).push (seqObj "tuple" vs.toArray 0)).push (seqObj "list" #[] 0) })
    (fun i j b C hb hC => hcmp i j b _ C kp hb hC) ⟨rfl, rfl⟩ _ hrun
  rw [PySem.W.kas_ask_eq] at hask
  have run := PySem.W.kas_runs (E := E) (Q := fun _ st' s' => s' = { s with heap := ((s.heap.update a (Obj.mapSeq fun _ => (#[] : Array Value))).push (seqObj "tuple" vs.toArray 0)).push (seqObj "list" #[] 0) } ∧ arrOf st' = p.map (PySem.W.kas_item (PyProof.Rows.pairsOf vs)) ∧ failedOf st' = none)
    h2 h64 (fun p' st' s' a1 a2 a3 a4 => ⟨a4.2, by rw [a2, a4.1], a3⟩) hask
  rw [← est] at run
  refine wpAny_bind (wpAny_mono run ?_ fun _ _ e => e)
  rintro ⟨⟨⟩, st'⟩ s' ⟨rfl, har, hf⟩
  dsimp only
  have hout : (arrOf st').map (·.2) = List.toArray (p.toList.map fun i => vs.getD i Value.none) := by
    apply Array.toList_inj.mp
    rw [har, Array.map_map, Array.toList_map]
    exact List.map_congr_left fun i _ => by show (PySem.W.kas_item (PyProof.Rows.pairsOf vs) i).2 = _; rw [PySem.W.kas_item_eq]
  rw [hout]
  refine wpAny_bind (seqEpoch_at ho6 rfl ?_)
  refine wpAny_bind (listUpdate_at ho6 rfl ?_ (Nat.zero_le _) (by rw [List.size_toArray, List.length_map, Array.length_toList, hp]; lia))
  rw [hf]
  simp only [bne_self_eq_false, Bool.false_eq_true, if_false]
  exact wpAny_pure h

theorem wp_sorted {l : Addr} {vs : List Value} {Q : Value → Shared → Prop} {lt : Nat → Nat → Option Bool} {p : Array Nat} (hl : s.heap.IsList l vs.toArray) (h2 : 2 ≤ vs.length) (h64 : vs.length < 64)
    (hT : ∀ v ∈ vs, ∃ b o, v = .ref b ∧ s.heap.get? b = some o ∧ o.cls = .type "list")
    (hcmp : ∀ i j b s' C, (∀ c o, s.heap.get? c = some o → s'.heap.get? c = some o) → lt i j = some b → C b s' → PySem.W.kas_ask prog w A.in1.in1 oneType' vs i j C s')
    (hrun : runT lt (PySem.W.kas_sort vs.length) = some p) (hp : p.size = vs.length)
    (h : Q (.ref (s.heap.objs.size + 1)) { s with heap := sortedAll s.heap vs (List.toArray (p.toList.map fun i => vs.getD i Value.none)) }) : wpAny (model prog w) A (call (.builtin "sorted") [.ref l]) Q E s := by
  have hl9 : vs.length ≤ sizeLine := by unfold sizeLine; lia
  refine Calls.call_function_entry kind_sorted plain_sorted entry_sorted (args_sorted1 _) ?_
  unfold Builtin.«sorted»
  refine wpAny_bind (m := checkCount "sorted" 1 1 _) (wpAny_pure ?_)
  refine wpAny_bind (collect_list hl ?_ hl9)
  refine wpAny_bind (wpAny_newList ?_ hl9)
  have hsz : ((s.heap.push (seqObj "list" #[] 0)).update s.heap.objs.size (Obj.mapSeq (· ++ vs.toArray))).objs.size = s.heap.objs.size + 1 := by
    rw [Heap.size_update, size_push']
  have hoL : (((s.heap.push (seqObj "list" #[] 0)).update s.heap.objs.size (Obj.mapSeq (· ++ vs.toArray))).push (seqObj "list" vs.toArray 0)).get? (s.heap.objs.size + 1) = some (seqObj "list" vs.toArray 0) := by
    rw [← hsz]; exact Heap.get?_push_size _ rfl
  have keep : ∀ b o, s.heap.get? b = some o → b ≠ s.heap.objs.size + 1 ∧ (((s.heap.push (seqObj "list" #[] 0)).update s.heap.objs.size (Obj.mapSeq (· ++ vs.toArray))).push (seqObj "list" vs.toArray 0)).get? b = some o := fun b o e => by
    have hlt := Heap.lt_size e
    exact ⟨Nat.ne_of_lt (Nat.lt_succ_of_lt hlt), Heap.get?_push_of_some _ ((Heap.get?_update_ne _ _ _ _ (Nat.ne_of_lt hlt)).trans (Heap.get?_push_of_some _ e))⟩
  show wpAny _ _ _ _ _ { s with heap := ((s.heap.push (seqObj "list" #[] 0)).update s.heap.objs.size (Obj.mapSeq (· ++ vs.toArray))).push (seqObj "list" vs.toArray 0) }
  rw [hsz]
  refine wpAny_bind (wpAny_holding (wpAny_call_entry slot_list_sort ⟨_, hoL, rfl⟩ entry_list_sort (wp_lsort (lt := lt) hoL h2 h64 (fun v hv => ?_) (fun i j b s' C kk hb hC => ?_) hrun hp ?_) (args_list_sort _)))
  · obtain ⟨b, o, rfl, hob, hc⟩ := hT v hv
    exact ⟨b, o, rfl, (keep b o hob).1, (keep b o hob).2, hc⟩
  · exact hcmp i j b s' C (fun c o e => kk c o (keep c o e).1 (keep c o e).2) hb hC
  · exact ⟨_, rfl, wpAny_pure ⟨_, rfl, h⟩⟩
end
end Mine

namespace Mine
noncomputable def ltOf (js : List Int) (i j : Nat) : Option Bool := match js[i]?, js[j]? with
  | some a, some b => if a = b then none else some (decide (a < b))
  | _, _ => none
noncomputable def pdI : Int × Int → D := fun p => .list [.int p.1, .int p.2]
section
variable {prog : Program} {w : World} {A : Around} {E : Value → Shared → Prop} {s : Shared} {X Y : List Addr} {env : Env} {k : Nat} {f : Fs} {s₀ : Shared} {hb h₀ : Heap} {mg mb mN : Str → Option Value}

theorem den_pair {h : Heap} {v : Value} {d1 d2 : D} (hv : Den X h v (.list [d1, d2])) : ∃ b v1 v2, v = .ref b ∧ h.IsList b #[v1, v2] ∧ Den X h v1 d1 ∧ Den X h v2 d2 := by
  obtain ⟨b, us, rfl, _, hl, hd⟩ := D.den_list hv
  cases hd with
  | cons a r => cases r with
    | cons b' r => cases r; exact ⟨_, _, _, rfl, hl, a, b'⟩

set_option tactic.hygienic true in
theorem bc_sortedP {ps : List (Int × Int)} {p : Array Nat} (h2 : 2 ≤ ps.length) (h64 : ps.length < 64) (hrun : runT (ltOf (ps.map (·.1))) (PySem.W.kas_sort ps.length) = some p) (hp : p.size = ps.length) (hin : ∀ i ∈ p.toList, i < ps.length) :
    BC prog w h₀ X (k + 1) (.builtin "sorted") [.list (ps.map pdI)] (.list (p.toList.map fun i => pdI (ps.getD i (0, 0)))) := fun A s vs E g _ dom hd => by
  cases hd with
  | cons a b =>
    cases b
    obtain ⟨l, us, rfl, hlX, hl, hds⟩ := D.den_list a
    have hlen : us.length = ps.length := by rw [hds.length, List.length_map]
    have get : ∀ i q, ps[i]? = some q → ∃ v, us[i]? = some v ∧ Den X s.heap v (pdI q) := fun i q e => hds.get (by rw [List.getElem?_map, e]; rfl)
    refine wp_sorted (p := p) (lt := ltOf (ps.map (·.1))) hl (by lia) (by lia) (fun v hv => ?_) (fun i j b s' C kk hb hC => ?_) (by rw [hlen]; exact hrun) (by rw [hlen]; exact hp) ?_
    · obtain ⟨i, hi⟩ := List.getElem?_of_mem hv
      have hlt : i < ps.length := by
        rcases Nat.lt_or_ge i us.length with h | h
        · lia
        · rw [List.getElem?_eq_none h] at hi; cases hi
      obtain ⟨v', e', hd'⟩ := get i ps[i] (by simp [hlt])
      rw [hi] at e'; cases e'
      obtain ⟨b, _, _, rfl, ⟨o, ho, hc, _⟩, _⟩ := den_pair hd'
      exact ⟨b, o, rfl, ho, hc⟩
    · unfold ltOf at hb
      rw [List.getElem?_map, List.getElem?_map] at hb
      cases hi : ps[i]? with
      | none => rw [hi] at hb; cases hb
      | some pi =>
        cases hj : ps[j]? with
        | none => rw [hi, hj] at hb; cases hb
        | some pj =>
          rw [hi, hj] at hb
          simp only [Option.map_some] at hb
          split at hb
          · cases hb
          · rename_i hne
            cases hb
            obtain ⟨vi, ei, di⟩ := get i pi hi
            obtain ⟨vj, ej, dj⟩ := get j pj hj
            obtain ⟨bi, v1, v2, rfl, li, d1, _⟩ := den_pair di
            obtain ⟨bj, u1, u2, rfl, lj, e1, _⟩ := den_pair dj
            obtain ⟨t, rfl⟩ := D.den_int d1
            obtain ⟨u, rfl⟩ := D.den_int e1
            have gi : us.getD i Value.none = .ref bi := by rw [List.getD_eq_getElem?_getD, ei]; rfl
            have gj : us.getD j Value.none = .ref bj := by rw [List.getD_eq_getElem?_getD, ej]; rfl
            unfold PySem.W.kas_ask
            rw [gi, gj]
            have kl : ∀ {b its}, s.heap.IsList b its → s'.heap.IsList b its := fun ⟨o, ho, r⟩ => ⟨o, kk _ _ ho, r⟩
            exact key_lt0 (kl li) (kl lj) rfl rfl hne (by have := g.units; show A.units + 1 + 1 < cLine; lia) hC
    · obtain ⟨e, he⟩ := sortedAll_at s.heap us (List.toArray (p.toList.map fun i => us.getD i Value.none))
      refine ⟨.list (fun hm => ?_) ⟨_, he, rfl, e, rfl⟩ ?_, .of fun b o _ h => sortedAll_old h⟩
      · obtain ⟨o, ho⟩ := dom.2 _ hm
        exact absurd (Heap.lt_size ho) (Nat.not_lt.mpr (Nat.le_succ _))
      · have gg : GB [] s.heap (sortedAll s.heap us (List.toArray (p.toList.map fun i => us.getD i Value.none))) := fun b o _ h => sortedAll_old h
        have : ∀ l : List Nat, (∀ i ∈ l, i < ps.length) → Dens X (sortedAll s.heap us (List.toArray (p.toList.map fun i => us.getD i Value.none))) (l.map fun i => us.getD i Value.none) (l.map fun i => pdI (ps.getD i (0, 0))) := by
          intro l
          induction l with
          | nil => intro _; exact .nil
          | cons i r ih =>
            intro h
            have hlt := h i (.head _)
            obtain ⟨v, e1, d1⟩ := get i ps[i] (by simp [hlt])
            have g1 : us.getD i Value.none = v := by rw [List.getD_eq_getElem?_getD, e1]; rfl
            have g2 : ps.getD i (0, 0) = ps[i] := by rw [List.getD_eq_getElem?_getD, List.getElem?_eq_getElem hlt]; rfl
            show Dens _ _ (us.getD i Value.none :: _) (pdI (ps.getD i (0, 0)) :: _)
            rw [g1, g2]
            exact .cons (d1.grow gg) (ih fun j hj => h j (.tail _ hj))
        exact this _ hin

/- unpacking a list of two -/
theorem wp_unpack2 {a : Addr} {v1 v2 : Value} {targets : List (Bool × (Value → Sem Unit))} {Q : Unit → Shared → Prop} (hh : A.handled = none) (hl : s.heap.IsList a #[v1, v2]) (hn : targets.length = 2) (hstar : targets.findIdx? (·.1) = none)
    (h : ∀ s', Le s s' → wpAny (model prog w) A (assignInOrder (targets.map (·.2)) [v1, v2]) Q E s') : wpAny (model prog w) A (unpack (.ref a) targets) Q E s := by
  have hne : a ≠ s.heap.objs.size := fun q => by obtain ⟨o, e, _⟩ := hl; rw [q, fresh_addr] at e; cases e
  have W := Walks.list (prog := prog) (w := w) hh s.heap.objs.size a hne #[v1, v2]
  unfold unpack
  rw [hn, hstar]
  refine wpAny_bind (wpAny_holding ?_)
  unfold unpackItems
  refine wpAny_bind ?_
  unfold notIterableAtAll
  refine wpAny_bind (wpAny_specialOf hl.typeIs PySem.F.slot_list_iter.lookup ?_)
  refine wpAny_pure ?_
  simp only [Bool.false_eq_true, if_false]
  refine wpAny_bind (wpAny_holding (wpAny_pyIter_list hl ?_))
  have g0 : GB [] s.heap (s.heap.push { cls := .type "list_iterator", data := .fields #[.ref a, .int 0 0] }) := GB.push _
  have hI := fresh_addr s.heap
  have up : ∀ h', (∀ b o, b ∉ [s.heap.objs.size] → (s.heap.push { cls := .type "list_iterator", data := .fields #[.ref a, .int 0 0] }).get? b = some o → h'.get? b = some o) → GB [] s.heap h' := fun h' k b o _ e => k b o (fun m => by rw [List.mem_singleton.mp m, hI] at e; cases e) (g0 b o nil_mem e)
  refine wpAny_bind (wpAny_holding ?_)
  show wpAny _ A (pyNext _ >>= _) _ _ _
  refine wpAny_bind (W.item 0 _ _ _ (by simp) ⟨⟨_, Heap.get?_push_size _ rfl, rfl, rfl⟩, hl.push _⟩ fun w1 h1 t1 p1 st1 k1 => ?_)
  cases (show some v1 = some w1 from p1)
  refine wpAny_bind (wpAny_holding ?_)
  show wpAny _ A (pyNext _ >>= _) _ _ _
  refine wpAny_bind (W.item 1 _ _ _ (by simp) st1 fun w2 h2 t2 p2 st2 k2 => ?_)
  cases (show some v2 = some w2 from p2)
  refine wpAny_bind (wpAny_holding (wpAny_pure (wpAny_pure (wpAny_pure ?_))))
  rw [if_neg (by simp)]
  refine wpAny_bind (wpAny_holding (W.done _ _ _ st2 fun h3 t3 k3 => ?_))
  simp only [Option.isSome_none, Bool.false_eq_true, if_false]
  refine wpAny_pure (h _ (.of (up _ fun b o hb e => k3 b o hb (k2 b o hb (k1 b o hb e)))))
end
end Mine

namespace Mine
section
variable {prog : Program} {w : World} {A : Around} {E : Value → Shared → Prop} {s : Shared} {X Y : List Addr} {env : Env} {k : Nat} {f : Fs} {s₀ : Shared} {hb h₀ : Heap} {mg mb mN : Str → Option Value}

/- x, y = a list of two -/
theorem wp_assign2 {x y : Str} {px py tpos : Pos} {x1 : Nat} {v : Value} {d1 d2 : D} {Q : Unit → Shared → Prop} (ok : EnvOk env) (hh : A.handled = none) (S : St s₀ hb X Y env f s) (hv : Den X s.heap v (.list [d1, d2])) (hx : env.kindOf x = some .local) (hy : env.kindOf y = some .local)
    (h : ∀ s', St s₀ hb X Y env ((f.set x d1).set y d2) s' → Q () s') : wpAny (model prog w) A (assign (.Tuple [.Name x px, .Name y py] x1 tpos) env v) Q E s := by
  obtain ⟨b, v1, v2, rfl, hl, h1, h2⟩ := den_pair hv
  rw [arm_assign_Tuple]
  refine wpAny_bind (wpAny_standAt (wp_unpack2 hh hl (by rfl) (by rfl) fun s₁ le => ?_))
  show wpAny _ A (holding [v2] (assign (.Name x px) env v1) >>= fun _ => holding [] (assign (.Name y py) env v2) >>= fun _ => pure ()) _ E s₁
  have S₁ := S.le le
  refine wpAny_bind (wpAny_holding ?_)
  show wpAny _ A (do standAt px; bindName env x v1) _ E s₁
  refine wpAny_bind (wpAny_standAt (wpAny_bindName (wp_storeLocal ok S₁ (h1.grow le.heap) hx fun s₂ S₂ g₂ _ => ?_)))
  refine wpAny_bind (wpAny_holding ?_)
  show wpAny _ A (do standAt py; bindName env y v2) _ E s₂
  have h2' : Den X s₂.heap v2 d2 := (h2.grow le.heap).gb (fun a ha => by rw [List.mem_singleton.mp ha]; exact S.sub _ S.locY) g₂
  refine wpAny_bind (wpAny_standAt (wpAny_bindName (wp_storeLocal ok S₂ h2' hy fun s₃ S₃ _ _ => wpAny_pure (h s₃ S₃))))

/- [elt for x, y in iter], pure -/
set_option tactic.hygienic true in
theorem ev_compP {elt iter : Expr} {x y : Str} {px py tpos : Pos} {x1 : Nat} {scope : Scope} {pos : Pos} {cl : List (Str × Addr)} {ns : List Str} {ps : List (D × D)} {es : DL}
    (ok : EnvOk env) (hi : EI prog w s₀ X Y env f k iter (ps.map fun p => .list [p.1, p.2])) (co : CompOk scope env cl ns) (hx : ∀ C, (compEnvC scope cl C env).kindOf x = some .local) (hy : ∀ C, (compEnvC scope cl C env).kindOf y = some .local) (hlen : es.length = ps.length) (hsz : ps.length ≤ sizeLine)
    (helt : ∀ I C D i p d', ps[i]? = some p → es[i]? = some d' → EnvOk (compEnvC scope cl C env) → EV prog w s₀ (I :: C :: D :: X) [C, D] (compEnvC scope cl C env) (((fcompN ns f D .nil (es.take i)).set x p.1).set y p.2) k elt d')
    (hs : ∀ x, foldedSetIterable iter env x = pure x := by intro _; rfl) : EV prog w s₀ X Y env f k (.ListComp elt [⟨.Tuple [.Name x px, .Name y py] x1 tpos, iter, [], 0⟩] scope pos) (.list es) := fun A s hb E gd S => by
  rw [eval_ListComp]
  have hxn : x ∉ ns := fun m => by rcases (co.ns x m).2.2 0 with h | h <;> (rw [hx 0] at h; cases h)
  have hyn : y ∉ ns := fun m => by rcases (co.ns y m).2.2 0 with h | h <;> (rw [hy 0] at h; cases h)
  refine comp_core (e := .nil) (p := iter.pos) (ifs := []) (target := .Tuple [.Name x px, .Name y py] x1 tpos) (emit := fun C D => eval elt (compEnvC scope cl C env) >>= fun y => call (.builtin "list.append") [.ref D, y] >>= fun _ => pure ()) (fun D i => fcompN ns f D .nil (es.take i)) gd S hi co ⟨trivial, fun _ m => nomatch m⟩ (fun D => by simp [fcompN, fcomp]) rfl (fun I C D => by rfl) ?_ ?_ hs
  · intro I C D i d v s1 hb' E' hI hcl hd hv S1 go
    rw [List.getElem?_map] at hd
    obtain ⟨p, hp, rfl⟩ := Option.map_eq_some_iff.mp hd
    have hlt : i < ps.length := by
      rcases Nat.lt_or_ge i ps.length with h | h
      · exact h
      · rw [List.getElem?_eq_none h] at hp; cases hp
    have okc := comp_env_ok ok co hcl
    obtain ⟨b, v1, v2, rfl, _⟩ := den_pair hv
    refine go _ _ _ _ _ _ (wp_assign2 okc gd.handled S1 hv (hx C) (hy C) fun s₃ S₃ => ?_)
    have hd' : es[i]? = some (es[i]'(hlen ▸ hlt)) := by simp [hlen ▸ hlt]
    refine wpAny_mono (emit_append (I := I) (C := C) gd S₃ (es := es.take i) (by simp [fcompN, Fs.set]) (helt I C D i p _ hp hd' okc) (by simp; lia)) (fun _ s₄ S₄ => ?_) fun _ _ e => e
    refine (S₄.forget (f' := fcompN ns f D .nil (es.take (i + 1))) ?_ ?_ ?_)
    · intro z d' hz
      simp only [fcompN] at hz
      split at hz
      · rename_i hm
        have hne : z ≠ x := fun q => hxn (q ▸ hm)
        have hne' : z ≠ y := fun q => hyn (q ▸ hm)
        simp [fcompN, Fs.set, Fs.put, upd, hne, hne', hm, hz]
      · cases hz
    · funext b
      simp only [fcompN, Fs.put, Fs.set]
      split
      · rw [List.take_add_one, hd']; rfl
      · rfl
    · rfl
  · intro C D Z s' S' g hZ os hC hD _
    rw [List.length_map, ← hlen, List.take_length] at S'
    exact comp_value S' rfl (by simp [fcompN]) S.dom g (fun a ha => (hZ a ha).elim (fun m => nomatch m) id) os hC hD
end
end Mine

namespace Mine
noncomputable def sortGood (r : List Nat) : Bool := (pairsOf r).length == 4 && match runT (ltOf ((pairsOf r).map fun p => ((p.2 : Nat) : Int))) (PySem.W.kas_sort 4) with
  | some p => p.size == 4 && (p.toList.all fun i => decide (i < 4)) && ((p.toList.map fun i => (pairsOf r).getD i (0, 0)) == pilIdx (opensOf r) 0 []) && (pairsOf r).all fun q => decide (q.1 < 8) && decide (q.2 < 8)
  | none => false
theorem rows_sort : ∀ a b c d e f g h : Bool, sortGood (rowOf [a, b, c, d, e, f, g, h]) = true := by decide +kernel
noncomputable def lineOf (sc : List Int) : List Int := lin (evs sc 8) []
noncomputable def pileOf (sc : List Int) : List Int := pilR (evs sc 8) []
theorem evs_from (sc : List Int) : evs sc 8 = evsFrom (hr sc) (bits sc) 0 := by
  have := evsAt_all (hr sc) (bits sc)
  rw [bits_len] at this
  exact this
noncomputable def psOf (sc : List Int) : List (Int × Int) := (pairsOf (rowTo sc 8)).map fun p => (((p.2 : Nat) : Int), hr sc p.2 - hr sc p.1)
theorem sort_ok (sc : List Int) : (psOf sc).length = 4 ∧ (∀ q ∈ pairsOf (rowTo sc 8), q.1 < 8 ∧ q.2 < 8) ∧ ∃ p : Array Nat, runT (ltOf ((psOf sc).map (·.1))) (PySem.W.kas_sort 4) = some p ∧ p.size = 4 ∧ (∀ i ∈ p.toList, i < 4) ∧ (p.toList.map fun i => ((psOf sc).getD i (0, 0)).2) = pileOf sc := by
  have h : sortGood (rowTo sc 8) = true := by
    obtain ⟨a, b, c, d, e, f, g, h, q⟩ := row8 sc
    rw [q]; exact rows_sort ..
  unfold sortGood at h
  rw [Bool.and_eq_true, beq_iff_eq] at h
  obtain ⟨h4, h⟩ := h
  have hm : (psOf sc).map (·.1) = (pairsOf (rowTo sc 8)).map fun p => ((p.2 : Nat) : Int) := by rw [psOf, List.map_map]; rfl
  have hl : (psOf sc).length = 4 := by rw [psOf, List.length_map]; exact h4
  cases hr9 : runT (ltOf ((pairsOf (rowTo sc 8)).map fun p => ((p.2 : Nat) : Int))) (PySem.W.kas_sort 4) with
  | none => rw [hr9] at h; cases h
  | some p =>
    rw [hr9] at h
    simp only [Bool.and_eq_true, beq_iff_eq, List.all_eq_true, decide_eq_true_eq] at h
    obtain ⟨⟨⟨a1, a2⟩, a3⟩, a4⟩ := h
    refine ⟨hl, a4, p, by rw [hm]; exact hr9, a1, a2, ?_⟩
    have hp := pil_idx (hr sc) (bits sc) 0 []
    rw [pileOf, evs_from]
    refine Eq.trans ?_ hp.symm
    show _ = (pilIdx (opensOf (rowTo sc 8)) 0 []).map _
    rw [← a3, List.map_map]
    refine List.map_congr_left fun i hi => ?_
    have hi4 := a2 i hi
    have hi5 : i < (pairsOf (rowTo sc 8)).length := by rw [h4]; exact hi4
    show ((psOf sc).getD i (0, 0)).2 = hr sc ((pairsOf (rowTo sc 8)).getD i (0, 0)).2 - hr sc ((pairsOf (rowTo sc 8)).getD i (0, 0)).1
    rw [List.getD_eq_getElem?_getD, List.getD_eq_getElem?_getD, psOf, List.getElem?_map, List.getElem?_eq_getElem hi5]
    simp only [Option.map_some, Option.getD_some]
section
variable {prog : Program} {w : World} {A : Around} {E : Value → Shared → Prop} {s : Shared} {X Y : List Addr} {env : Env} {k : Nat} {f : Fs} {s₀ : Shared} {hb h₀ : Heap} {mg mb mN : Str → Option Value}
theorem fcompN_ρ {ns : List Str} {f : Fs} {D : Addr} {e : Ext} {l : DL} {y : Str} (h : y ∈ ns) : (fcompN ns f D e l).ρ y = f.ρ y := if_pos h
theorem hours_at {sc : List Int} {i : Nat} (h : i < 8) : (hoursTo sc 8)[i]? = some (D.int (hr sc i)) := by
  simp [hoursTo, h, hr]
noncomputable def compScope2 : Stmt → Scope | .Assign _ (.ListComp _ [⟨_, .Call _ [.ListComp _ _ s _] _ _, _, _⟩] _ _) _ => s | _ => default
theorem ex_pile {sc : List Int} {q : Str} {fa L : Addr} {cd : Value} {Q : Flow → Shared → Prop} (gd : Good (k + 5) A) (G : LH s₀.heap mg mb mN) (S : St s₀ hb X Y (lawEnv q fa L cd) f s)
    (hR : f.ρ (Str.ofString "row") = some (.str (T (rowTo sc 8)))) (hT : f.ρ (Str.ofString "times") = some (.list (hoursTo sc 8)))
    (h : ∀ s', St s₀ hb X Y (lawEnv q fa L cd) (f.set "pile" (.list ((pileOf sc).map .int))) s' → Q .next s') : wpAny (model prog w) A (exec (lstmt 13) (lawEnv q fa L cd)) Q E s := by
  have ok := law_ok q fa L cd
  have co2 : CompOk (compScope2 (lstmt 13)) (lawEnv q fa L cd) [(Str.ofString "times", L + 4)] ["times"] := ⟨by rfl, by rfl, by decide, by decide, fun p hp => by rw [List.mem_singleton.mp hp, law_cells]; simp, fun y hy => by rw [List.mem_singleton.mp hy]; exact ⟨by rfl, .inl (by rfl), fun C => .inl (by rfl)⟩⟩
  obtain ⟨hl4, hpr, p, p1, p2, p3, p4⟩ := sort_ok sc
  conv in exec _ _ => arg 1; whnf
  obtain ⟨o13, pm, cd', doc, ho, hd, _⟩ := id G.d13
  refine ex_assign_comp1 (k := k + 5) (ds := p.toList.map fun i => pdI ((psOf sc).getD i (0, 0))) (es := (pileOf sc).map .int) (cl := []) (ns := []) ok gd S (ei_list ?_) ⟨by rfl, rfl, by decide, by decide, (fun p hp => nomatch hp), (fun y hy => nomatch hy)⟩ (fun C => by rfl) ?_ ?_ ?_ (by rfl) h
  · refine ev_call_b (k := k + 5) ok G.gf ⟨rfl, .inr G.sorted, rfl⟩ (evs_cons ?_ evs_nil) rfl (bc_sortedP (k := k + 4) (ps := psOf sc) (by lia) (by lia) (by rw [hl4]; exact p1) (by rw [hl4]; exact p2) (by rw [hl4]; exact p3))
    refine ev_compP (k := k + 5) (cl := [(Str.ofString "times", L + 4)]) (ns := ["times"]) (ps := (pairsOf (rowTo sc 8)).map fun p => (D.int p.1, D.int p.2)) ok (ei_list (EV.cast (ev_call_f ok G.gf ⟨rfl, .inl G.prs, rfl⟩ ho hd (evs_cons (ev_name ok hR rfl) evs_nil) rfl (bc_pairs (k := k + 1) G.d13 G.d7 G.d6 G.d5 G.lim G.gf G.strip G.esc G.enum G.chk G.range G.len (rowTo sc 8) (row_mem sc) (by rw [rowTo_len]; exact Nat.le_refl _))) ?_)) co2 (fun C => by rfl) (fun C => by rfl) ?_ ?_ ?_
    · rw [List.map_map]; rfl
    · simp [psOf]
    · rw [psOf, List.length_map] at hl4
      rw [List.length_map, hl4]; decide
    · intro I C D i pp d' h1 h2 okc
      rw [List.getElem?_map] at h1
      obtain ⟨pq, hq, rfl⟩ := Option.map_eq_some_iff.mp h1
      rw [List.getElem?_map, psOf, List.getElem?_map, hq] at h2
      cases h2
      obtain ⟨b1, b2⟩ := hpr pq (List.mem_of_getElem? hq)
      have et : ∀ {px}, EV prog w s₀ (I :: C :: D :: X) [C, D] (compEnvC (compScope2 (lstmt 13)) [(Str.ofString "times", L + 4)] C (lawEnv q fa L cd)) (((fcompN [Str.ofString "times"] f D .nil (List.take i ((psOf sc).map pdI))).set (Str.ofString "i") (.int pq.1)).set (Str.ofString "j") (.int pq.2)) (k + 5) (.Name (Str.ofString "times") px) (.list (hoursTo sc 8)) := by
        refine ev_cell okc ?_ (.inl (by rfl))
        refine (set_ne (by decide)).trans ((set_ne (by decide)).trans ?_)
        exact (fcompN_ρ (List.mem_singleton.mpr rfl)).trans hT
      refine ev_list (ds := [.int pq.2, .int (hr sc pq.2 - hr sc pq.1)]) (evs_cons (ev_name okc rfl (by rfl)) (evs_cons (ev_sub (ev_item (n := (pq.2 : Int)) et (ev_name okc rfl (by rfl)) (by lia) (by lia) ?_) (ev_item (n := (pq.1 : Int)) et (ev_name okc rfl (by rfl)) (by lia) (by lia) ?_)) evs_nil)) (by simp [sizeLine])
      · rw [Int.toNat_natCast]; exact hours_at b2
      · rw [Int.toNat_natCast]; exact hours_at b1
  · rw [← p4]; simp
  · simp [p2, sizeLine]
  · intro I C D i d d' h1 h2 okc
    rw [List.getElem?_map] at h1
    obtain ⟨m, hm, rfl⟩ := Option.map_eq_some_iff.mp h1
    rw [← p4, List.getElem?_map, List.getElem?_map, hm] at h2
    cases h2
    exact ev_item (n := 1) (l := [.int ((psOf sc).getD m (0, 0)).1, .int ((psOf sc).getD m (0, 0)).2]) (ev_name okc rfl rfl) ev_int (by decide) (by decide) rfl
end
end Mine

namespace Mine
section
variable {prog : Program} {w : World} {A : Around} {E : Value → Shared → Prop} {s : Shared} {X Y : List Addr} {env : Env} {k : Nat} {f : Fs} {s₀ : Shared} {hb h₀ : Heap} {mg mb mN : Str → Option Value}

theorem compTurn2 (elt t1 i1 t2 i2 : Expr) (scope : Scope) (pos : Pos) (it acc : Value) (env : Env) :
    compTurn (.ListComp elt [⟨t1, i1, [], 0⟩, ⟨t2, i2, [], 0⟩] scope pos) 0 it acc env = (standAt i1.pos >>= fun _ => pyNext it >>= fun r => match r with
      | none => pure (.done .next)
      | some v => letOwnedTupleGo t1 it v >>= fun _ => assign t1 env v >>= fun _ =>
        (eval i2 env >>= fun x => standAt i2.pos >>= fun _ => foldedSetIterable i2 env x >>= fun x => holding [x] (pyIter x) >>= fun it2 => runOwn (.compStart (.ListComp elt [⟨t1, i1, [], 0⟩, ⟨t2, i2, [], 0⟩] scope pos) 1 it2 acc env) env >>= fun _ => pure ()) >>= fun _ =>
          again (.compLoop (.ListComp elt [⟨t1, i1, [], 0⟩, ⟨t2, i2, [], 0⟩] scope pos) 0 it acc env)) := by
  simp only [bind_assoc, pure_bind]
  rfl

/- the inner loop of [elt for x in iter for y in iter2], pure -/
theorem comp_inner {elt t1 i1 i2 : Expr} {y : Str} {py : Pos} {scope : Scope} {pos : Pos} {D : Addr} {ns : List Str} {inn : DL} {acc out : DL} {f₁ : Fs} {Q : Unit → Shared → Prop} (ok : EnvOk env) (gd : Good k A) (S : St s₀ hb X Y env f₁ s) (hown : f₁.own = fun b => if b = D then some acc else none)
    (hi : EI prog w s₀ X Y env f₁ k i2 inn) (hy : env.kindOf y = some .local) (hlen : out.length = inn.length) (hsz : acc.length + out.length ≤ sizeLine) (hρ : ∀ z d, z ∉ ns → f₁.ρ z ≠ some d) (hyn : y ∉ ns)
    (helt : ∀ I j d d', inn[j]? = some d → out[j]? = some d' → EV prog w s₀ (I :: X) Y env (({ f₁ with own := fun b => if b = D then some (acc ++ out.take j) else none } : Fs).set y d) k elt d')
    (fin : ∀ s', St s₀ hb X Y env { f₁ with own := fun b => if b = D then some (acc ++ out) else none } s' → Q () s')
    (hs : ∀ x, foldedSetIterable i2 env x = pure x) :
    wpAny (model prog w) A (eval i2 env >>= fun x => standAt i2.pos >>= fun _ => foldedSetIterable i2 env x >>= fun x => holding [x] (pyIter x) >>= fun it2 => runOwn (.compStart (.ListComp elt [⟨t1, i1, [], 0⟩, ⟨.Name y py, i2, [], 0⟩] scope pos) 1 it2 (.ref D) env) env >>= fun _ => pure ()) Q E s := by
  refine wpAny_bind (wpAny_mono (hi A s hb E gd S) (fun v s₁ h₁ => ?_) fun _ _ e => e)
  refine wpAny_bind (wpAny_standAt ?_)
  rw [hs]
  refine wpAny_bind (wpAny_pure (wpAny_bind (wpAny_holding (wpAny_mono h₁ (fun it s₂ h₂ => ?_) fun _ _ e => e))))
  obtain ⟨le, I, P, Stt, fp, rfl, hn, hex, W, hst, hso, hfp, hit, hgo⟩ := h₂
  have hIX := S.notX hn
  let fs : Nat → Fs := fun j => { f₁ with own := fun b => if b = D then some (acc ++ out.take j) else none }
  have S2 : St s₀ hb (I :: X) Y env (fs 0) s₂ := by
    have e0 : fs 0 = f₁ := by
      show ({ f₁ with own := _ } : Fs) = f₁
      simp only [List.take_zero, List.append_nil]
      rw [← hown]
    rw [e0]; exact S.watch hn le hex
  refine wpAny_bind (wpAny_runOwn (comp_start (target := .Name y py) (ifs := []) (by rfl) ?_ fun Q E hQ => (W A gd.handled).self 0 _ _ _ hst hQ))
  refine comp_loop (target := .Name y py) (p := i2.pos) (emit := eval elt env >>= fun x => call (.builtin "list.append") [.ref D, x] >>= fun _ => pure ()) (hL := s₂.heap) fs gd W hso (fun b hb m => (hfp b hb).1 (S.sub _ m)) hIX S.sub (S.none0 hn) (S.noneb hn) (S.cne hn) (by rfl) ?_ ?_ S2 hst .refl
  · intro j v s5 E' hlt hP S5 hst5 hg5
    obtain ⟨d, hd, hv⟩ := hit j v hP hlt
    have hv' : Den (I :: X) s5.heap v d := hv.gb (fun a ha => by rcases List.mem_cons.mp ha with rfl | h; exact .head _; exact .tail _ (S.sub _ h)) hg5
    refine wpAny_pure ?_
    show wpAny _ A (do standAt py; bindName env y v) _ E' s5
    refine wpAny_bind (wpAny_standAt (wpAny_bindName (wp_storeLocal ok S5 hv' hy fun s₆ S₆ _ _ => ?_)))
    have hj : j < out.length := by rw [hlen]; exact hlt
    have hd' : out[j]? = some out[j] := List.getElem?_eq_getElem hj
    refine wpAny_mono (emit_append (I := I) (C := I) gd S₆ (es := acc ++ out.take j) (by show (if D = D then _ else _) = _; rw [if_pos rfl]) (helt I j d _ hd hd') (by simp; lia)) (fun _ s₇ S₇ => ?_) fun _ _ e => e
    refine S₇.forget (fun z d'' hz => ?_) (funext fun b => ?_) rfl
    · by_cases hm : z ∈ ns
      · have hne : z ≠ y := fun q => hyn (q ▸ hm)
        exact (set_ne (f := fs j) hne).trans hz
      · exact absurd hz (hρ z d'' hm)
    · show (if b = D then some (acc ++ out.take (j + 1)) else none) = (if b = D then some (acc ++ out.take j ++ [out[j]]) else (if b = D then _ else none))
      split
      · rw [List.take_add_one, hd', List.append_assoc]; rfl
      · rfl
  · intro s5 S5 hg5
    refine wpAny_pure (fin s5 ?_)
    have e1 : fs inn.length = { f₁ with own := fun b => if b = D then some (acc ++ out) else none } := by
      show ({ f₁ with own := _ } : Fs) = _
      rw [← hlen, List.take_length]
    rw [← e1]; exact S5
end
end Mine

namespace Mine
section
variable {prog : Program} {w : World} {A : Around} {E : Value → Shared → Prop} {s : Shared} {X Y : List Addr} {env : Env} {k : Nat} {f : Fs} {s₀ : Shared} {hb h₀ : Heap} {mg mb mN : Str → Option Value}

theorem take_flat {α : Type} (l : List (List α)) (i : Nat) (x : List α) (h : l[i]? = some x) : (l.take (i + 1)).flatten = (l.take i).flatten ++ x := by
  rw [List.take_add_one, h]; simp
theorem take_flat_le {α : Type} : ∀ (l : List (List α)) (i : Nat) (x : List α), l[i]? = some x → (l.take i).flatten.length + x.length ≤ l.flatten.length
  | [], i, x, h => by simp at h
  | a :: r, 0, x, h => by simp at h; subst h; simp
  | a :: r, i + 1, x, h => by
    have := take_flat_le r i x (by simpa using h)
    simp at this ⊢; lia

/- z = [elt for x in iter for y in iter2], pure -/
set_option tactic.hygienic true in
theorem ex_assign_comp2 {elt iter iter2 : Expr} {x y z : Str} {px py pz : Pos} {scope : Scope} {pos spos : Pos} {cl : List (Str × Addr)} {ns : List Str} {ds : DL} {inn outs : List DL} {Q : Flow → Shared → Prop}
    (ok : EnvOk env) (gd : Good k A) (S : St s₀ hb X Y env f s) (hi : EI prog w s₀ X Y env f k iter ds) (co : CompOk scope env cl ns) (hx : ∀ C, (compEnvC scope cl C env).kindOf x = some .local) (hy : ∀ C, (compEnvC scope cl C env).kindOf y = some .local) (hxy : y ≠ x)
    (hl1 : outs.length = ds.length) (hl2 : ∀ (i : Nat) (l : List Mine.D), outs[i]? = some l → ∃ m : List Mine.D, inn[i]? = some m ∧ l.length = m.length) (hsz : outs.flatten.length ≤ sizeLine)
    (hi2 : ∀ (I C D : Addr) (i : Nat) (d : Mine.D) (m : List Mine.D), ds[i]? = some d → inn[i]? = some m → EnvOk (compEnvC scope cl C env) → EI prog w s₀ (I :: C :: D :: X) [C, D] (compEnvC scope cl C env) ((fcompN ns f D .nil (outs.take i).flatten).set x d) k iter2 m)
    (helt : ∀ (I2 I C D : Addr) (i j : Nat) (d : Mine.D) (m l : List Mine.D) (d2 d' : Mine.D), ds[i]? = some d → inn[i]? = some m → outs[i]? = some l → m[j]? = some d2 → l[j]? = some d' → EnvOk (compEnvC scope cl C env) → EV prog w s₀ (I2 :: I :: C :: D :: X) [C, D] (compEnvC scope cl C env) (((fcompN ns f D .nil ((outs.take i).flatten ++ l.take j)).set x d).set y d2) k elt d')
    (hz : env.kindOf z = some .local) (h : ∀ s₂, St s₀ hb X Y env (f.set z (.list outs.flatten)) s₂ → Q .next s₂)
    (hsw : swapsWith (.ListComp elt [⟨.Name x px, iter, [], 0⟩, ⟨.Name y py, iter2, [], 0⟩] scope pos) (some (.Name z pz)) spos.line env = pure true := by rfl)
    (hs : ∀ x, foldedSetIterable iter env x = pure x := by intro _; rfl) (hs2 : ∀ C x, foldedSetIterable iter2 (compEnvC scope cl C env) x = pure x := by intro _ _; rfl) :
    wpAny (model prog w) A (exec (.Assign [.Name z pz] (.ListComp elt [⟨.Name x px, iter, [], 0⟩, ⟨.Name y py, iter2, [], 0⟩] scope pos) spos) env) Q E s := by
  have hxn : x ∉ ns := fun m => by rcases (co.ns x m).2.2 0 with h | h <;> (rw [hx 0] at h; cases h)
  have hyn : y ∉ ns := fun m => by rcases (co.ns y m).2.2 0 with h | h <;> (rw [hy 0] at h; cases h)
  refine ex_assign_core ?_ hsw
  refine comp_core (e := .nil) (p := iter.pos) (ifs := []) (target := .Name x px) (emit := fun C D => eval iter2 (compEnvC scope cl C env) >>= fun v => standAt iter2.pos >>= fun _ => foldedSetIterable iter2 (compEnvC scope cl C env) v >>= fun v => holding [v] (pyIter v) >>= fun it2 => runOwn (.compStart (.ListComp elt [⟨.Name x px, iter, [], 0⟩, ⟨.Name y py, iter2, [], 0⟩] scope pos) 1 it2 (.ref D) (compEnvC scope cl C env)) (compEnvC scope cl C env) >>= fun _ => pure ())
    (fun D i => fcompN ns f D .nil (outs.take i).flatten) gd S hi co ⟨trivial, fun _ m => nomatch m⟩ (fun D => by simp [fcompN, fcomp]) rfl (fun I C D => compTurn2 _ _ _ _ _ _ _ _ _ _) ?_ ?_ hs
  · intro I C D i d v s1 hb' E' hI hcl hd hv S1 _
    have hlt : i < outs.length := by
      rcases Nat.lt_or_ge i ds.length with h | h
      · lia
      · rw [List.getElem?_eq_none h] at hd; cases hd
    have okc := comp_env_ok ok co hcl
    refine wpAny_pure ?_
    show wpAny _ A (do standAt px; bindName _ x v) _ E' s1
    refine wpAny_bind (wpAny_standAt (wpAny_bindName (wp_storeLocal okc S1 hv (hx C) fun s₃ S₃ _ _ => ?_)))
    have hl : outs[i]? = some outs[i] := List.getElem?_eq_getElem hlt
    obtain ⟨m, hm, hlm⟩ := hl2 i _ hl
    refine comp_inner (ns := x :: ns) (acc := (outs.take i).flatten) (out := outs[i]) (inn := m) okc gd S₃ rfl (hi2 I C D i d m hd hm okc) (hy C) hlm (Nat.le_trans (take_flat_le _ _ _ hl) hsz) (fun z' d' hz' => ?_) (fun hm' => (List.mem_cons.mp hm').elim hxy hyn) (fun I2 j d2 d' h1 h2 => helt I2 I C D i j d m _ d2 d' hd hm hl h1 h2 okc) (fun s₄ S₄ => ?_) (hs2 C)
    · have h1 : z' ≠ x := fun q => hz' (q ▸ .head _)
      have h2 : z' ∉ ns := fun q => hz' (.tail _ q)
      rw [set_ne h1]
      show (if z' ∈ ns then f.ρ z' else none) ≠ some d'
      rw [if_neg h2]
      exact fun q => nomatch q
    · refine S₄.forget (fun z' d' hz' => ?_) (funext fun b => ?_) rfl
      · show upd (fcompN ns f D .nil _).ρ x d z' = some d'
        simp only [fcompN] at hz' ⊢
        split at hz'
        · rename_i hmm
          have hne : z' ≠ x := fun q => hxn (q ▸ hmm)
          unfold upd
          rw [if_neg hne]
          exact (if_pos hmm).trans hz'
        · cases hz'
      · show (if b = D then some (outs.take (i + 1)).flatten else none) = (if b = D then some ((outs.take i).flatten ++ outs[i]) else none)
        rw [take_flat _ _ _ hl]
  · intro C D Z s' S' g hZ os hC hD _
    rw [← hl1, List.take_length] at S'
    exact use_store ok S S' rfl (by simp [fcompN]) g (fun a ha => (hZ a ha).elim (fun m => nomatch m) id) os hC hD hz h
end
end Mine

namespace Mine
theorem pick_upto (l : List D) (k : Nat) (h : k ≤ l.length) : pickD l none (some (k : Int)) none = l.take k := by
  unfold pickD
  rw [PySem.sliceBounds_plain]
  have e : PySem.clipAt l.length (k : Int) = k := by unfold PySem.clipAt; split <;> omega
  show (sliceRange (((0 : Nat)) : Int) ((PySem.clipAt l.length (k : Int) : Nat) : Int) 1).filterMap _ = _
  rw [e, range_run, pick_run l 0 (k - 0) (by omega)]; simp
theorem pick_from (l : List D) (k : Nat) (h : k ≤ l.length) : pickD l (some (k : Int)) none none = l.drop k := by
  unfold pickD
  rw [PySem.sliceBounds_plain]
  have e : PySem.clipAt l.length (k : Int) = k := by unfold PySem.clipAt; split <;> omega
  show (sliceRange ((PySem.clipAt l.length (k : Int) : Nat) : Int) ((l.length : Nat) : Int) 1).filterMap _ = _
  rw [e, range_run, pick_run l k _ (by omega), List.take_of_length_le (by simp)]
end Mine

namespace Mine
noncomputable def W (sc : List Int) (i : Nat) : WS := waysFrom [([], [])] (evs sc i)
theorem W_succ (sc : List Int) (i : Nat) : W sc (i + 1) = wstep (W sc i) ((bits sc).getD i false, hr sc i) := by
  unfold W waysFrom evs
  rw [evsAt_succ, List.foldl_append]
  simp only [List.foldl_cons, List.foldl_nil]
noncomputable def wayD (p : List Int × List Int) : D := .list [.list (p.1.map .int), .list (p.2.map .int)]
theorem flat_bd {α β : Type} (f : α → List β) (b : Nat) : ∀ l : List α, (∀ x ∈ l, (f x).length ≤ b) → (l.flatMap f).length ≤ l.length * b
  | [], _ => by simp
  | x :: r, h => by
    have h1 := h x (.head _)
    have h2 := flat_bd f b r fun y hy => h y (.tail _ hy)
    simp only [List.flatMap_cons, List.length_append, List.length_cons, Nat.add_mul]
    lia
theorem td_len {α : Type} (l : List α) (k : Nat) : (l.take k ++ l.drop (k + 1)).length ≤ l.length := by
  have e := congrArg List.length (List.take_append_drop k l)
  rw [List.length_append] at e ⊢
  refine Nat.le_trans (Nat.add_le_add_left ?_ _) (Nat.le_of_eq e)
  rw [List.length_drop, List.length_drop]; exact Nat.sub_le_sub_left (Nat.le_succ k) _
theorem W_bd (sc : List Int) : ∀ i, i ≤ 8 → (W sc i).length ≤ 8 ^ i ∧ ∀ p ∈ W sc i, p.1.length ≤ i ∧ p.2.length ≤ i
  | 0, _ => by
    refine ⟨Nat.le_refl 1, fun p hp => ?_⟩
    rw [List.mem_singleton.mp (show p ∈ [([], [])] from hp)]
    exact ⟨Nat.le_refl _, Nat.le_refl _⟩
  | i + 1, hi => by
    obtain ⟨h1, h2⟩ := W_bd sc i (by lia)
    rw [W_succ]
    cases (bits sc).getD i false
    · refine ⟨?_, fun p hp => ?_⟩
      · have := flat_bd (fun p : List Int × List Int => (List.range p.1.length).map fun k => (p.1.take k ++ p.1.drop (k + 1), p.2 ++ [hr sc i - p.1.getD k 0])) 8 (W sc i) fun p hp => by
          have := (h2 p hp).1
          simp; lia
        rw [Nat.pow_succ]
        exact Nat.le_trans this (Nat.mul_le_mul_right 8 h1)
      · simp only [wstep, List.mem_flatMap, List.mem_map, List.mem_range] at hp
        obtain ⟨q, hq, k, hk, rfl⟩ := hp
        obtain ⟨a, b⟩ := h2 q hq
        exact ⟨Nat.le_succ_of_le (Nat.le_trans (td_len _ _) a), by show (q.2 ++ [_]).length ≤ i + 1; rw [List.length_append]; exact Nat.succ_le_succ b⟩
    · refine ⟨?_, fun p hp => ?_⟩
      · simp only [wstep, List.length_map]
        exact Nat.le_trans h1 (Nat.pow_le_pow_right (by decide) (Nat.le_succ _))
      · simp only [wstep, List.mem_map] at hp
        obtain ⟨q, hq, rfl⟩ := hp
        obtain ⟨a, b⟩ := h2 q hq
        exact ⟨by show (q.1 ++ [_]).length ≤ i + 1; rw [List.length_append]; exact Nat.succ_le_succ a, Nat.le_succ_of_le b⟩
theorem W_size (sc : List Int) (i : Nat) (h : i ≤ 8) : (W sc i).length ≤ sizeLine := Nat.le_trans (W_bd sc i h).1 (Nat.le_trans (Nat.pow_le_pow_right (by decide) h) (by decide))
noncomputable def f4 (e : Ext) (sc : List Int) (i : Nat) : Fs := ⟨fun x => List.lookup x [(Str.ofString "row", .str (T (rowTo sc 8))), (Str.ofString "hours", .list (hoursTo sc 8)), (Str.ofString "line", .list ((lineOf sc).map .int)), (Str.ofString "pile", .list ((pileOf sc).map .int)), (Str.ofString "ways", .list ((W sc i).map wayD))], fun _ => none, e⟩
section
variable {prog : Program} {w : World} {A : Around} {E : Value → Shared → Prop} {s : Shared} {X Y : List Addr} {env : Env} {k : Nat} {f : Fs} {s₀ : Shared} {hb h₀ : Heap} {mg mb mN : Str → Option Value}
/- one[0] and one[1] -/
theorem ev_way {e : Expr} {p : List Int × List Int} {p1 p2 : Pos} {c : Nat} (h : EV prog w s₀ X Y env f k e (wayD p)) : EV prog w s₀ X Y env f k (.Subscript e (.Constant (.int 0) c p1) p2) (.list (p.1.map .int)) ∧ EV prog w s₀ X Y env f k (.Subscript e (.Constant (.int 1) c p1) p2) (.list (p.2.map .int)) :=
  ⟨ev_item (n := 0) h ev_int (by decide) (by decide) rfl, ev_item (n := 1) h ev_int (by decide) (by decide) rfl⟩
noncomputable def scA : Stmt → Scope | .For _ _ [.If _ [.Assign _ (.ListComp _ _ s _) _] _ _] _ _ => s | _ => default
noncomputable def scB : Stmt → Scope | .For _ _ [.If _ _ [.Assign _ (.ListComp _ _ s _) _] _] _ _ => s | _ => default
theorem set_eq {f : Fs} {x : Str} {d : D} : (f.set x d).ρ x = some d := if_pos rfl
theorem ways_loop {sc : List Int} {e : Ext} {q : Str} {fa L : Addr} {cd : Value} {Q : Flow → Shared → Prop} (gd : Good (k + 1) A) (G : LH s₀.heap mg mb mN)
    (hc : L + 2 ∈ Y) (S : St s₀ hb X Y (lawEnv q fa L cd) (f4 e sc 0) s) (h : ∀ s', St s₀ hb X Y (lawEnv q fa L cd) (f4 e sc 8) s' → Q .next s') :
    wpAny (model prog w) A (exec (lstmt 15) (lawEnv q fa L cd)) Q E s := by
  have ok := law_ok q fa L cd
  have coA : CompOk (scA (lstmt 15)) (lawEnv q fa L cd) [(Str.ofString "i", L + 2), (Str.ofString "hours", L + 1)] [Str.ofString "hours", Str.ofString "i"] := by
    refine ⟨by rfl, by rfl, by decide, by decide, fun p hp => ?_, fun y hy => ?_⟩
    · rw [law_cells]
      rcases List.mem_cons.mp hp with rfl | hp
      · simp
      · rw [List.mem_singleton.mp hp]; simp
    · rcases List.mem_cons.mp hy with rfl | hy
      · exact ⟨by rfl, .inl (by rfl), fun C => .inl (by rfl)⟩
      · rw [List.mem_singleton.mp hy]; exact ⟨by rfl, .inl (by rfl), fun C => .inl (by rfl)⟩
  have coB : CompOk (scB (lstmt 15)) (lawEnv q fa L cd) [(Str.ofString "i", L + 2), (Str.ofString "hours", L + 1)] [Str.ofString "hours", Str.ofString "i"] := by
    refine ⟨by rfl, by rfl, by decide, by decide, fun p hp => ?_, fun y hy => ?_⟩
    · rw [law_cells]
      rcases List.mem_cons.mp hp with rfl | hp
      · simp
      · rw [List.mem_singleton.mp hp]; simp
    · rcases List.mem_cons.mp hy with rfl | hy
      · exact ⟨by rfl, .inl (by rfl), fun C => .inl (by rfl)⟩
      · rw [List.mem_singleton.mp hy]; exact ⟨by rfl, .inl (by rfl), fun C => .inl (by rfl)⟩
  conv in exec _ _ => arg 1; whnf
  refine ex_forC (k := k + 1) (c := L + 2) (f4 e sc) ok gd S (ei_range (ds := [.int 8]) (a := 0) (b := 8) (c := 1) (n := 8) ok G.gf ⟨rfl, .inr G.range, rfl⟩ (evs_cons ev_int evs_nil) rfl range1 (by decide) (by rfl)) (by rfl) (by rfl) hc (fun y hy => law_inj (by rfl) hy) (fun _ _ _ _ S => S.cellAt (x := Str.ofString "i") (by rfl)) (fun i d s I hb' E' hI hd S => ?_) h
  obtain ⟨hi8, rfl⟩ := rangeD_get hd
  have hdi : D.int (0 + (i : Int) * 1) = .int (i : Nat) := by rw [Int.zero_add, Int.mul_one]
  rw [hdi] at S
  have hrl : (rowTo sc 8).length = 8 := rowTo_len sc 8
  obtain ⟨c, hc⟩ : ∃ c, (rowTo sc 8)[i]? = some c := ⟨_, List.getElem?_eq_getElem (by rw [hrl]; exact hi8)⟩
  have hbit : (bits sc).getD i false = decide (c = 40) := by
    rw [bits, opensOf, List.getD_eq_getElem?_getD, List.getElem?_map, hc]
    by_cases q : c = 40 <;> simp [q]
  have bd := (W_bd sc i (by lia)).2
  have fH : ∀ {g : Mine.D} {D l d}, (((fcompN [Str.ofString "hours", Str.ofString "i"] ((f4 e sc i).set (Str.ofString "i") g) D .nil l).set (Str.ofString "one") d).ρ (Str.ofString "hours")) = some (.list (hoursTo sc 8)) := (set_ne (by decide)).trans ((fcompN_ρ (.head _)).trans ((set_ne (by decide)).trans rfl))
  have fI : ∀ {g : Mine.D} {D l d}, (((fcompN [Str.ofString "hours", Str.ofString "i"] ((f4 e sc i).set (Str.ofString "i") g) D .nil l).set (Str.ofString "one") d).ρ (Str.ofString "i")) = some g := (set_ne (by decide)).trans ((fcompN_ρ (.tail _ (.head _))).trans set_eq)
  have done : ∀ s', St s₀ hb' (I :: X) Y (lawEnv q fa L cd) (((f4 e sc i).set (Str.ofString "i") (.int (i : Nat))).set (Str.ofString "ways") (.list ((W sc (i + 1)).map wayD))) s' → St s₀ hb' (I :: X) Y (lawEnv q fa L cd) (f4 e sc (i + 1)) s' := fun s' S' => by
    refine S'.toG (l := [(Str.ofString "row", .str (T (rowTo sc 8))), (Str.ofString "hours", .list (hoursTo sc 8)), (Str.ofString "line", .list ((lineOf sc).map .int)), (Str.ofString "pile", .list ((pileOf sc).map .int)), (Str.ofString "ways", .list ((W sc (i + 1)).map wayD))]) rfl ⟨?_, ?_, ?_, ?_, set_eq, trivial⟩ (fun _ => rfl) rfl
    · exact (set_ne (by decide)).trans ((set_ne (by decide)).trans rfl)
    · exact (set_ne (by decide)).trans ((set_ne (by decide)).trans rfl)
    · exact (set_ne (by decide)).trans ((set_ne (by decide)).trans rfl)
    · exact (set_ne (by decide)).trans ((set_ne (by decide)).trans rfl)
  refine wpAny_execs_cons (ex_if (k := k + 1) (b := decide (c = 40)) gd S ((tv_cmp (ev_char (x := T (rowTo sc 8)) (n := (i : Int)) (ev_name ok ((set_ne (by decide)).trans rfl) rfl) (ev_cell ok set_eq (.inl rfl)) (by lia) (by rw [T_length, hrl]; lia) (fits9 i (by lia))) (ev_str (x := T [40])) op_eq_str).cast (by rw [item_T _ i c hc, beq_T])) fun s₁ _ S₁ => ?_)
  by_cases h4 : c = 40
  · have hb1 : (bits sc).getD i false = true := by rw [hbit, h4]; rfl
    rw [decide_eq_true h4, if_pos rfl]
    refine wpAny_execs_cons (ex_assign_comp1 (k := k + 1) (ds := (W sc i).map wayD) (es := (W sc (i + 1)).map wayD) ok gd S₁ (ei_list (ev_name ok ((set_ne (by decide)).trans rfl) rfl)) coA (fun C => by rfl) ?_ ?_ ?_ (by rfl) fun s₂ S₂ => wpAny_execs_nil (wpAny_execs_nil (done _ S₂)))
    · rw [W_succ, hb1]; simp [wstep]
    · rw [List.length_map]; exact W_size sc i (by lia)
    · intro I2 C D j d d' h1 h2 okc
      rw [List.getElem?_map] at h1
      obtain ⟨p, hp, rfl⟩ := Option.map_eq_some_iff.mp h1
      rw [W_succ, hb1, List.getElem?_map] at h2
      simp only [wstep, List.getElem?_map, hp, Option.map_some, Option.some.injEq] at h2
      subst h2
      obtain ⟨b1, b2⟩ := bd p (List.mem_of_getElem? hp)
      refine EV.cast (ev_list (ds := [.list (p.1.map .int ++ [.int (hr sc i)]), .list (p.2.map .int)]) (evs_cons (ev_listadd (ev_way (ev_name okc set_eq (by rfl))).1 (ev_list (ds := [.int (hr sc i)]) (evs_cons (ev_item (n := (i : Int)) (l := hoursTo sc 8) (ev_cell okc fH (.inl (by rfl))) (ev_cell okc fI (.inl (by rfl))) (by lia) (by lia) ?_) evs_nil) (by simp [sizeLine])) ?_) (evs_cons (ev_way (ev_name okc set_eq (by rfl))).2 evs_nil)) (by simp [sizeLine])) ?_
      · rw [Int.toNat_natCast]; exact hours_at hi8
      · simp [sizeLine]; lia
      · simp [wayD]
  · have hb0 : (bits sc).getD i false = false := by rw [hbit, decide_eq_false h4]
    rw [decide_eq_false h4, if_neg (by decide)]
    have hsum : ((W sc i).map fun p => (List.range p.1.length).map fun k => wayD (p.1.take k ++ p.1.drop (k + 1), p.2 ++ [hr sc i - p.1.getD k 0])).flatten = (W sc (i + 1)).map wayD := by
      rw [W_succ, hb0]
      simp only [wstep, List.map_flatMap, List.map_map]
      rfl
    rw [← hsum] at done
    have fH2 : ∀ {g : Mine.D} {D l d d2}, ((((fcompN [Str.ofString "hours", Str.ofString "i"] ((f4 e sc i).set (Str.ofString "i") g) D .nil l).set (Str.ofString "one") d).set (Str.ofString "k") d2).ρ (Str.ofString "hours")) = some (.list (hoursTo sc 8)) := (set_ne (by decide)).trans fH
    have fI2 : ∀ {g : Mine.D} {D l d d2}, ((((fcompN [Str.ofString "hours", Str.ofString "i"] ((f4 e sc i).set (Str.ofString "i") g) D .nil l).set (Str.ofString "one") d).set (Str.ofString "k") d2).ρ (Str.ofString "i")) = some g := (set_ne (by decide)).trans fI
    refine wpAny_execs_cons (ex_assign_comp2 (k := k + 1) (ds := (W sc i).map wayD) (inn := (W sc i).map fun p => rangeD 0 1 p.1.length) (outs := (W sc i).map fun p => (List.range p.1.length).map fun k => wayD (p.1.take k ++ p.1.drop (k + 1), p.2 ++ [hr sc i - p.1.getD k 0])) ok gd S₁ (ei_list (ev_name ok ((set_ne (by decide)).trans rfl) rfl)) coB (fun C => by rfl) (fun C => by rfl) (by decide) (by simp) ?_ ?_ ?_ ?_ (by rfl) fun s₂ S₂ => wpAny_execs_nil (wpAny_execs_nil (done _ S₂)))
    · intro j l hl
      rw [List.getElem?_map] at hl
      obtain ⟨p, hp, rfl⟩ := Option.map_eq_some_iff.mp hl
      exact ⟨rangeD 0 1 p.1.length, by rw [List.getElem?_map, hp]; rfl, by simp [rangeD_len]⟩
    · rw [hsum, List.length_map]; exact W_size sc (i + 1) (by lia)
    · intro I2 C D j d m h1 h2 okc
      rw [List.getElem?_map] at h1 h2
      obtain ⟨p, hp, rfl⟩ := Option.map_eq_some_iff.mp h1
      rw [hp] at h2
      cases h2
      obtain ⟨b1, b2⟩ := bd p (List.mem_of_getElem? hp)
      refine ei_range (ds := [.int (p.1.length : Nat)]) (a := 0) (b := (p.1.length : Nat)) (c := 1) (n := p.1.length) okc G.gf ⟨by rfl, .inr G.range, by rfl⟩ (evs_cons (EV.cast (ev_call_b okc G.gf ⟨by rfl, .inr G.len, by rfl⟩ (evs_cons (ev_way (ev_name okc set_eq (by rfl))).1 evs_nil) rfl (bc_len (by simp; lia))) (by simp)) evs_nil) rfl range1 (sm1 _ (by lia)).1 (sm1 _ (by lia)).2
    · intro I3 I2 C D9 j j2 d m l d2 d' h1 h2 h3 h5 h6 okc
      rw [List.getElem?_map] at h1 h2 h3
      obtain ⟨p, hp, rfl⟩ := Option.map_eq_some_iff.mp h1
      rw [hp] at h2 h3
      cases h2
      cases h3
      obtain ⟨b1, b2⟩ := bd p (List.mem_of_getElem? hp)
      obtain ⟨hk, rfl⟩ := rangeD_get h5
      have hk0 : D.int (0 + (j2 : Int) * 1) = .int (j2 : Nat) := by rw [Int.zero_add, Int.mul_one]
      rw [hk0]
      have h6' : d' = wayD (p.1.take j2 ++ p.1.drop (j2 + 1), p.2 ++ [hr sc i - p.1.getD j2 0]) := by
        rw [List.getElem?_map, List.getElem?_range hk] at h6
        exact (Option.some.inj h6).symm
      subst h6'
      have hpk : p.1[j2]? = some (p.1.getD j2 0) := by rw [List.getD_eq_getElem?_getD, List.getElem?_eq_getElem hk]; rfl
      have e1 : ∀ {px}, EV prog w s₀ (I3 :: I2 :: C :: D9 :: I :: X) [C, D9] (compEnvC (scB (lstmt 15)) [(Str.ofString "i", L + 2), (Str.ofString "hours", L + 1)] C (lawEnv q fa L cd)) (((fcompN [Str.ofString "hours", Str.ofString "i"] ((f4 e sc i).set (Str.ofString "i") (.int (i : Nat))) D9 .nil ((((W sc i).map fun p => (List.range p.1.length).map fun k => wayD (p.1.take k ++ p.1.drop (k + 1), p.2 ++ [hr sc i - p.1.getD k 0])).take j).flatten ++ ((List.range p.1.length).map fun k => wayD (p.1.take k ++ p.1.drop (k + 1), p.2 ++ [hr sc i - p.1.getD k 0])).take j2)).set (Str.ofString "one") (wayD p)).set (Str.ofString "k") (.int (j2 : Nat))) (k + 1) (.Name (Str.ofString "one") px) (wayD p) :=
        ev_name okc ((set_ne (by decide)).trans set_eq) (by rfl)
      refine EV.cast (ev_list (ds := [D.list ((p.1.map D.int).take j2 ++ (p.1.map D.int).drop (j2 + 1)), D.list (p.2.map D.int ++ [D.int (hr sc i - p.1.getD j2 0)])])
        (evs_cons (ev_listadd (EV.cast (ev_lslice (i := none) (j := some (j2 : Int)) (c := none) (ev_way e1).1 trivial (show EV _ _ _ _ _ _ _ _ _ _ from ev_name okc set_eq (by rfl)) trivial (by decide) ?_) (congrArg D.list (pick_upto _ _ ?_))) (EV.cast (ev_lslice (i := some (j2 + 1 : Int)) (j := none) (c := none) (ev_way e1).1 (show EV _ _ _ _ _ _ _ _ _ _ from ev_add (ev_name okc set_eq (by rfl)) ev_int) trivial trivial (by decide) ?_) (congrArg D.list (pick_from _ (j2 + 1) ?_))) ?_)
          (evs_cons (ev_listadd (ev_way e1).2 (ev_list (ds := [.int (hr sc i - p.1.getD j2 0)]) (evs_cons (ev_sub (ev_item (n := (i : Int)) (l := hoursTo sc 8) (ev_cell okc fH2 (.inl (by rfl))) (ev_cell okc fI2 (.inl (by rfl))) (by lia) (by lia) ?_) (ev_item (n := (j2 : Int)) (ev_way e1).1 (ev_name okc set_eq (by rfl)) (by lia) (by lia) ?_)) evs_nil) (by simp [sizeLine])) ?_) evs_nil)) (by simp [sizeLine])) ?_
      · simp [sizeLine]; lia
      · simp; lia
      · simp [sizeLine]; lia
      · simp; lia
      · simp [sizeLine]; lia
      · rw [Int.toNat_natCast]; exact hours_at hi8
      · rw [Int.toNat_natCast, List.getElem?_map, hpk]; rfl
      · simp [sizeLine]; lia
      · simp [wayD]
end
end Mine

namespace Mine
noncomputable def liD (l : List Int) : D := .list (l.map .int)
theorem ints_inj {X : List Addr} {h : Heap} {vs : List Value} {l l' : List Int} (x : Dens X h vs (l.map .int)) (y : Dens X h vs (l'.map .int)) : l = l' := by
  induction vs generalizing l l' with
  | nil =>
    have e1 := List.map_eq_nil_iff.mp x.nil_of
    have e2 := List.map_eq_nil_iff.mp y.nil_of
    rw [e1, e2]
  | cons v vs ih =>
    obtain ⟨e, es, q, a, b⟩ := x.cons_of
    obtain ⟨e', es', q', a', b'⟩ := y.cons_of
    obtain ⟨n, ns, rfl, rfl, rfl⟩ := List.map_eq_cons_iff.mp q
    obtain ⟨n', ns', rfl, rfl, rfl⟩ := List.map_eq_cons_iff.mp q'
    cases a
    cases a'
    rw [ih b b']
theorem liD_inj {X : List Addr} {h : Heap} {v : Value} {l l' : List Int} (x : Den X h v (liD l)) (y : Den X h v (liD l')) : l = l' := by
  obtain ⟨a, vs, rfl, _, hl, hd⟩ := D.den_list x
  obtain ⟨b, us, e, _, hl', hd'⟩ := D.den_list y
  cases e
  obtain ⟨o, e1, _, n, e2⟩ := hl
  obtain ⟨o', e3, _, n', e4⟩ := hl'
  rw [e1] at e3; cases e3
  rw [e2] at e4
  have : vs = us := by injection e4 with q _; simpa using congrArg Array.toList q
  subst this
  exact ints_inj hd hd'
theorem all_eq {l l' : List Int} (h : l.length = l'.length) : (List.range l.length).all (fun j => l.getD j 0 == l'.getD j 0) = (l == l') := by
  rw [Bool.eq_iff_iff]
  simp only [List.all_eq_true, List.mem_range, beq_iff_eq]
  constructor
  · intro hh
    refine List.ext_getElem h fun i h1 h2 => ?_
    have := hh i h1
    rwa [List.getD_eq_getElem?_getD, List.getD_eq_getElem?_getD, List.getElem?_eq_getElem h1, List.getElem?_eq_getElem h2] at this
  · rintro rfl _ _; rfl
theorem eq_liD {A : Around} {s : Shared} {X : List Addr} {v u : Value} {l l' : List Int} (hu : A.units < cLine) (hv : Den X s.heap v (liD l)) (hw : Den X s.heap u (liD l')) : PySem.SeqAt.EqAt A s v u (l == l') := by
  obtain ⟨a, vs, rfl, _, hl, hd⟩ := D.den_list hv
  obtain ⟨b, us, rfl, _, hl', hd'⟩ := D.den_list hw
  by_cases q : a = b
  · subst q
    have := liD_inj hv hw
    subst this
    rw [beq_self_eq_true]
    exact PySem.SeqAt.EqAt.same _
  · refine PySem.SeqAt.EqAt.of_refs q ?_
    have n1 : vs.length = l.length := by rw [hd.length, List.length_map]
    have n2 : us.length = l'.length := by rw [hd'.length, List.length_map]
    by_cases hlen : l.length = l'.length
    · have key := PySem.SeqAt.RcAt.lists (A := A) (s := s) (e := fun j => l.getD j 0 == l'.getD j 0) hl hl' (by simp; lia) hu fun j h1 h2 => by
        have hj : j < l.length := by simp at h1; lia
        have hj' : j < l'.length := by lia
        obtain ⟨v1, e1, d1⟩ := hd.get (i := j) (d := .int l[j]) (by rw [List.getElem?_map, List.getElem?_eq_getElem hj]; rfl)
        obtain ⟨v2, e2, d2⟩ := hd'.get (i := j) (d := .int l'[j]) (by rw [List.getElem?_map, List.getElem?_eq_getElem hj']; rfl)
        obtain ⟨t1, rfl⟩ := D.den_int d1
        obtain ⟨t2, rfl⟩ := D.den_int d2
        have g1 : vs.toArray[j] = .int l[j] t1 := by
          have : vs[j]? = some vs.toArray[j] := by simp
          rw [this] at e1; exact Option.some.inj e1
        have g2 : us.toArray[j] = .int l'[j] t2 := by
          have : us[j]? = some us.toArray[j] := by simp
          rw [this] at e2; exact Option.some.inj e2
        rw [g1, g2]
        have q1 : l.getD j 0 = l[j] := by rw [List.getD_eq_getElem?_getD, List.getElem?_eq_getElem hj]; rfl
        have q2 : l'.getD j 0 = l'[j] := by rw [List.getD_eq_getElem?_getD, List.getElem?_eq_getElem hj']; rfl
        show PySem.SeqAt.EqAt A.in1 s _ _ (l.getD j 0 == l'.getD j 0)
        rw [q1, q2]
        exact PySem.SeqAt.EqAt.int_int _ _ _ _
      have e0 : vs.toArray.size = l.length := by simp; exact n1
      rw [e0, all_eq hlen] at key
      exact key
    · have : (l == l') = false := by
        rw [beq_eq_false_iff_ne]; rintro rfl; exact hlen rfl
      rw [this]
      exact PySem.SeqAt.RcAt.lists_lengths hl hl' (by simp; lia) hu
section
variable {prog : Program} {w : World} {A : Around} {E : Value → Shared → Prop} {s : Shared} {X Y : List Addr} {env : Env} {k : Nat} {f : Fs} {s₀ : Shared} {hb h₀ : Heap} {mg mb mN : Str → Option Value}
open Classical in
theorem op_notin {l : List Int} {tl : List (List Int)} (hm : l ∈ tl) : OP prog w X (k + 1) .NotIn (liD l) (.list (tl.map liD)) false := fun A s x y E g _ hx hy => by
  obtain ⟨b, us, rfl, _, hl, hd⟩ := D.den_list hy
  refine PySem.SeqAt.notIn_listAt (e := fun v => decide (Den X s.heap v (liD l))) hl (fun v hv => ?_) ?_
  · have hv : v ∈ us := by simpa using hv
    obtain ⟨i, hi⟩ := List.getElem?_of_mem hv
    have hlt : i < tl.length := by
      have := hd.length
      rw [List.length_map] at this
      rcases Nat.lt_or_ge i us.length with h | h
      · lia
      · rw [List.getElem?_eq_none h] at hi; cases hi
    obtain ⟨v', e', d'⟩ := hd.get (i := i) (d := liD tl[i]) (by rw [List.getElem?_map, List.getElem?_eq_getElem hlt]; rfl)
    rw [hi] at e'; cases e'
    have he := eq_liD (A := A.in1) (s := s) (by have := g.units; show A.units + 1 < cLine; lia) d' hx
    have : (tl[i] == l) = decide (Den X s.heap v (liD l)) := by
      by_cases q : Den X s.heap v (liD l)
      · rw [decide_eq_true q, liD_inj d' q]; simp
      · rw [decide_eq_false q, beq_eq_false_iff_ne]
        intro e; rw [e] at d'; exact q d'
    rw [← this]; exact he
  · have : us.toArray.any (fun v => decide (Den X s.heap v (liD l))) = true := by
      obtain ⟨i, hi⟩ := List.getElem?_of_mem hm
      obtain ⟨v, e, d⟩ := hd.get (i := i) (d := liD l) (by rw [List.getElem?_map, hi]; rfl)
      rw [List.any_toArray, List.any_eq_true]
      exact ⟨v, List.mem_of_getElem? e, decide_eq_true d⟩
    rw [this]
    exact ⟨rfl, .refl⟩

/- a <= b <= c -/
theorem tv_le2 {e1 e2 e3 : Expr} {a b c : Int} {pos : Pos} (h1 : EV prog w s₀ X Y env f k e1 (.int a)) (h2 : EV prog w s₀ X Y env f k e2 (.int b)) (h3 : EV prog w s₀ X Y env f k e3 (.int c)) (hab : a ≤ b) (hbc : b ≤ c)
    (hm : lastMarks [.LtE, .LtE] [e2, e3] = false := by with_unfolding_all rfl) : TV prog w s₀ X Y env f k (.Compare e1 [.LtE, .LtE] [e2, e3] pos) true := fun A s hb E g S => by
  refine isTrue_chain ?_ hm
  refine wp_ev h1 g S fun v₁ s₁ d₁ l₁ => ?_
  have S₁ := S.le l₁
  refine test_link (wp_ev h2 g S₁ fun v₂ s₂ d₂ l₂ => ?_)
  have S₂ := S₁.le l₂
  obtain ⟨t1, rfl⟩ := D.den_int d₁
  obtain ⟨t2, rfl⟩ := D.den_int d₂
  refine le_int (wpAny_truthy_bool ?_)
  rw [decide_eq_true hab, if_pos rfl]
  refine test_last (wp_ev h3 g S₂ fun v₃ s₃ d₃ l₃ => ?_)
  obtain ⟨t3, rfl⟩ := D.den_int d₃
  refine le_int (wpAny_truthy_bool ?_)
  rw [decide_eq_true hbc]
  exact ⟨rfl, (l₁.trans l₂).trans l₃⟩
end
end Mine

namespace Mine
noncomputable def toldOf (sc : List Int) : List (List Int) := told (evs sc 8)
theorem hour_mono (sc : List Int) : ∀ i j, i ≤ j → hourTo sc i ≤ hourTo sc j := fun i j h => by
  induction h with
  | refl => exact Nat.le_refl _
  | step _ ih => exact Nat.le_trans ih (by rw [hourTo]; lia)
theorem bal_gen (h : Nat → Int) (bs : List Bool) (l : List (Bool × Int)) (e : l = evsFrom h bs 0) (hb : balB bs 0 = true) : bal l 0 := by
  rw [e]; exact bal_of h bs 0 0 hb
theorem evs_bal (sc : List Int) (m : Nat) (hm : m = 8) : bal (evs sc m) 0 := by
  have e : evs sc m = evsFrom (hr sc) (bits sc) 0 := by rw [hm]; exact evs_from sc
  exact bal_gen (hr sc) (bits sc) (evs sc m) e (good_parts sc).1
theorem evs_closes (sc : List Int) (m : Nat) (hm : m = 8) : closes (evs sc m) = 4 := by
  have e : (evs sc m).map (·.1) = bits sc := by
    unfold evs evsAt
    rw [List.map_map]
    refine List.ext_getElem? fun j => ?_
    rw [List.getElem?_map]
    by_cases hj : j < m
    · have : j < (bits sc).length := by rw [bits_len]; lia
      rw [List.getElem?_range hj]
      simp [this]
    · rw [List.getElem?_eq_none (by simpa using Nat.le_of_not_lt hj), List.getElem?_eq_none (by rw [bits_len]; lia)]; rfl
  have := (good_parts sc).2.1
  rw [← e, List.filter_map, List.length_map] at this
  exact this
theorem facts_at (sc : List Int) (m : Nat) (hm : m = 8) : lin (evs sc m) [] ∈ told (evs sc m) ∧ pilR (evs sc m) [] ∈ told (evs sc m) ∧ (∀ st ∈ told (evs sc m), st.length = 4) ∧ ∀ st ∈ told (evs sc m), ∀ k, k < 3 → ∃ x y z, (longest (lin (evs sc m) []))[k]? = some x ∧ (longest st)[k]? = some y ∧ (longest (pilR (evs sc m) []))[k]? = some z ∧ x ≤ y ∧ y ≤ z := by
  have hb := evs_bal sc m hm
  have h4 := evs_closes sc m hm
  have ok : ((evs sc m).map (·.2)).Pairwise (· ≤ ·) := by
    unfold evs evsAt
    rw [List.map_map, List.pairwise_map]
    refine List.Pairwise.imp (R := fun a b => a < b) (fun {a b} h => ?_) List.pairwise_lt_range
    show hr sc a ≤ hr sc b
    have := hour_mono sc (a + 1) (b + 1) (by lia)
    unfold hr; lia
  obtain ⟨m1, m2, m3⟩ := the_law hb ok h4
  refine ⟨m1, m2, fun st hs => (told_way.mp hs).length.trans h4, fun st hs k hk => ?_⟩
  obtain ⟨a, b, c, a', b', c', a'', b'', c'', e1, e2, e3, l1, l2, l3⟩ := m3 st hs
  rw [e1, e2, e3]
  rcases k with _ | _ | _ | k
  · exact ⟨a, a', a'', rfl, rfl, rfl, l1⟩
  · exact ⟨b, b', b'', rfl, rfl, rfl, l2⟩
  · exact ⟨c, c', c'', rfl, rfl, rfl, l3⟩
  · exact absurd hk (Nat.not_lt.mpr (Nat.le_add_left 3 k))
theorem law_facts (sc : List Int) : lineOf sc ∈ toldOf sc ∧ pileOf sc ∈ toldOf sc ∧ (∀ st ∈ toldOf sc, st.length = 4) ∧ ∀ st ∈ toldOf sc, ∀ k, k < 3 → ∃ x y z, (longest (lineOf sc))[k]? = some x ∧ (longest st)[k]? = some y ∧ (longest (pileOf sc))[k]? = some z ∧ x ≤ y ∧ y ≤ z := facts_at sc 8 rfl
noncomputable def f6 (e : Ext) (sc : List Int) : Fs := ⟨fun x => List.lookup x [(Str.ofString "told", .list ((toldOf sc).map liD)), (Str.ofString "low", liD (longest (lineOf sc))), (Str.ofString "high", liD (longest (pileOf sc)))], fun _ => none, e⟩
noncomputable def f7 (e : Ext) (sc : List Int) (st : List Int) : Fs := ⟨fun x => List.lookup x [(Str.ofString "told", .list ((toldOf sc).map liD)), (Str.ofString "low", liD (longest (lineOf sc))), (Str.ofString "high", liD (longest (pileOf sc))), (Str.ofString "middle", liD (longest st))], fun _ => none, e⟩
section
variable {prog : Program} {w : World} {A : Around} {E : Value → Shared → Prop} {s : Shared} {X Y : List Addr} {env : Env} {k : Nat} {f : Fs} {s₀ : Shared} {hb h₀ : Heap} {mg mb mN : Str → Option Value}
theorem ex_ways0 {sc : List Int} {q : Str} {fa L : Addr} {cd : Value} {Q : Flow → Shared → Prop} (gd : Good k A) (S : St s₀ hb X Y (lawEnv q fa L cd) f s)
    (h : ∀ s', St s₀ hb X Y (lawEnv q fa L cd) (f.set "ways" (.list ((W sc 0).map wayD))) s' → Q .next s') : wpAny (model prog w) A (exec (lstmt 14) (lawEnv q fa L cd)) Q E s := by
  have ok := law_ok q fa L cd
  conv in exec _ _ => arg 1; whnf
  refine ex_assign (k := k) (d := .list ((W sc 0).map wayD)) ok gd S ?_ (by rfl) fun s' S' _ => h s' S'
  exact ev_list (ds := [.list [.list [], .list []]]) (evs_cons (ev_list (ds := [.list [], .list []]) (evs_cons (ev_list (ds := []) evs_nil (by simp)) (evs_cons (ev_list (ds := []) evs_nil (by simp)) evs_nil)) (by simp [sizeLine])) evs_nil) (by simp [sizeLine])
theorem ex_told {sc : List Int} {q : Str} {fa L : Addr} {cd : Value} {Q : Flow → Shared → Prop} (gd : Good k A) (S : St s₀ hb X Y (lawEnv q fa L cd) f s) (hW : f.ρ (Str.ofString "ways") = some (.list ((W sc 8).map wayD)))
    (h : ∀ s', St s₀ hb X Y (lawEnv q fa L cd) (f.set "told" (.list ((toldOf sc).map liD))) s' → Q .next s') : wpAny (model prog w) A (exec (lstmt 16) (lawEnv q fa L cd)) Q E s := by
  have ok := law_ok q fa L cd
  conv in exec _ _ => arg 1; whnf
  refine ex_assign_comp1 (k := k) (ds := (W sc 8).map wayD) (es := (toldOf sc).map liD) (cl := []) (ns := []) ok gd S (ei_list (ev_name ok hW rfl)) ⟨by rfl, rfl, by decide, by decide, (fun p hp => nomatch hp), (fun y hy => nomatch hy)⟩ (fun C => by rfl) ?_ ?_ ?_ (by rfl) h
  · simp [toldOf, told, W]
  · rw [List.length_map]; exact W_size sc 8 (Nat.le_refl _)
  · intro I C D i d d' h1 h2 okc
    rw [List.getElem?_map] at h1
    obtain ⟨p, hp, rfl⟩ := Option.map_eq_some_iff.mp h1
    rw [toldOf, told, List.map_map, List.getElem?_map] at h2
    rw [show (waysFrom [([], [])] (evs sc 8))[i]? = some p from hp] at h2
    cases h2
    exact (ev_way (ev_name okc set_eq rfl)).2
theorem ex_check3 {sc : List Int} {q : Str} {fa L : Addr} {cd : Value} {Q : Flow → Shared → Prop} (gd : Good (k + 1) A) (S : St s₀ hb X Y (lawEnv q fa L cd) f s) (h1 : f.ρ (Str.ofString "line") = some (liD (lineOf sc))) (h2 : f.ρ (Str.ofString "pile") = some (liD (pileOf sc))) (h3 : f.ρ (Str.ofString "told") = some (.list ((toldOf sc).map liD)))
    (h : ∀ s', St s₀ hb X Y (lawEnv q fa L cd) f s' → Q .next s') : wpAny (model prog w) A (exec (lstmt 17) (lawEnv q fa L cd)) Q E s := by
  have ok := law_ok q fa L cd
  conv in exec _ _ => arg 1; whnf
  exact ex_if (k := k + 1) (b := false) gd S (tv_or (p := false) (q := false) (tv_cmp (ev_name ok h1 rfl) (ev_name ok h3 rfl) (op_notin (law_facts sc).1)) fun _ => tv_cmp (ev_name ok h2 rfl) (ev_name ok h3 rfl) (op_notin (law_facts sc).2.1)) fun s₁ _ S₁ => wpAny_execs_nil (h s₁ S₁)
theorem ex_low {sc : List Int} {q : Str} {fa L : Addr} {cd : Value} {Q : Flow → Shared → Prop} (gd : Good (k + 1) A) (G : LH s₀.heap mg mb mN) (S : St s₀ hb X Y (lawEnv q fa L cd) f s) (h1 : f.ρ (Str.ofString "line") = some (liD (lineOf sc)))
    (h : ∀ s', St s₀ hb X Y (lawEnv q fa L cd) (f.set "low" (liD (longest (lineOf sc)))) s' → Q .next s') : wpAny (model prog w) A (exec (lstmt 18) (lawEnv q fa L cd)) Q E s := by
  have ok := law_ok q fa L cd
  obtain ⟨o, pm, cd', doc, ho, hd, _⟩ := id G.d14
  conv in exec _ _ => arg 1; whnf
  exact ex_assign (k := k + 1) (d := liD (longest (lineOf sc))) ok gd S (ev_call_f ok G.gf ⟨rfl, .inl G.lon, rfl⟩ ho hd (evs_cons (ev_name ok h1 rfl) evs_nil) rfl (bc_longest G.d14 G.lim G.gf G.sorted (lineOf sc) ((law_facts sc).2.2.1 _ (law_facts sc).1))) (by rfl) fun s' S' _ => h s' S'
theorem ex_high {sc : List Int} {q : Str} {fa L : Addr} {cd : Value} {Q : Flow → Shared → Prop} (gd : Good (k + 1) A) (G : LH s₀.heap mg mb mN) (S : St s₀ hb X Y (lawEnv q fa L cd) f s) (h1 : f.ρ (Str.ofString "pile") = some (liD (pileOf sc)))
    (h : ∀ s', St s₀ hb X Y (lawEnv q fa L cd) (f.set "high" (liD (longest (pileOf sc)))) s' → Q .next s') : wpAny (model prog w) A (exec (lstmt 19) (lawEnv q fa L cd)) Q E s := by
  have ok := law_ok q fa L cd
  obtain ⟨o, pm, cd', doc, ho, hd, _⟩ := id G.d14
  conv in exec _ _ => arg 1; whnf
  exact ex_assign (k := k + 1) (d := liD (longest (pileOf sc))) ok gd S (ev_call_f ok G.gf ⟨rfl, .inl G.lon, rfl⟩ ho hd (evs_cons (ev_name ok h1 rfl) evs_nil) rfl (bc_longest G.d14 G.lim G.gf G.sorted (pileOf sc) ((law_facts sc).2.2.1 _ (law_facts sc).2.1))) (by rfl) fun s' S' _ => h s' S'
theorem last_loop {sc : List Int} {e : Ext} {q : Str} {fa L : Addr} {cd : Value} {Q : Flow → Shared → Prop} (gd : Good (k + 1) A) (G : LH s₀.heap mg mb mN) (S : St s₀ hb X Y (lawEnv q fa L cd) (f6 e sc) s)
    (h : ∀ s', St s₀ hb X Y (lawEnv q fa L cd) (f6 e sc) s' → Q .next s') : wpAny (model prog w) A (exec (lstmt 20) (lawEnv q fa L cd)) Q E s := by
  have ok := law_ok q fa L cd
  obtain ⟨o, pm, cd', doc, ho, hd14, _⟩ := id G.d14
  conv in exec _ _ => arg 1; whnf
  refine ex_for (k := k + 1) (ds := (toldOf sc).map liD) (fun _ => f6 e sc) ok gd S (ei_list (ev_name ok rfl rfl)) (by rfl) (fun i d s I hb' E' hI hd S => ?_) h
  rw [List.getElem?_map] at hd
  obtain ⟨st, hst, rfl⟩ := Option.map_eq_some_iff.mp hd
  have hm := List.mem_of_getElem? hst
  refine wpAny_execs_cons (ex_assign (k := k + 1) (d := liD (longest st)) ok gd S (ev_call_f ok G.gf ⟨rfl, .inl G.lon, rfl⟩ ho hd14 (evs_cons (ev_name ok set_eq rfl) evs_nil) rfl (bc_longest G.d14 G.lim G.gf G.sorted st ((law_facts sc).2.2.1 _ hm))) (by rfl) fun s₂ S₂ _ => ?_)
  have S₃ : St s₀ hb' (I :: X) Y (lawEnv q fa L cd) (f7 e sc st) s₂ := S₂.toG (l := [(Str.ofString "told", .list ((toldOf sc).map liD)), (Str.ofString "low", liD (longest (lineOf sc))), (Str.ofString "high", liD (longest (pileOf sc))), (Str.ofString "middle", liD (longest st))]) rfl ⟨rfl, rfl, rfl, rfl, trivial⟩ (fun _ => rfl) rfl
  refine wpAny_execs_cons (ex_for (k := k + 1) (ds := rangeD 0 1 3) (fun _ => f7 e sc st) ok gd S₃ (ei_range (ds := [.int 3]) (a := 0) (b := 3) (c := 1) (n := 3) ok G.gf ⟨rfl, .inr G.range, rfl⟩ (evs_cons ev_int evs_nil) rfl range1 (by decide) (by rfl)) (by rfl) (fun j d s I2 hb2 E2 hI2 hd S => ?_) fun s₄ S₄ => wpAny_execs_nil ?_)
  · obtain ⟨hj, rfl⟩ := rangeD_get hd
    have hdj : D.int (0 + (j : Int) * 1) = .int (j : Nat) := by rw [Int.zero_add, Int.mul_one]
    rw [hdj] at S
    obtain ⟨x, y, z, e1, e2, e3, l1, l2⟩ := (law_facts sc).2.2.2 st hm j hj
    have it : ∀ {n : Str} {px kx pp : Pos} {l : List Int} {v : Int}, l[j]? = some v → ((f7 e sc st).set (Str.ofString "k") (.int (j : Nat))).ρ n = some (liD l) → (lawEnv q fa L cd).kindOf n = some .local → (n == ("__debug__" : Str)) = false → EV prog w s₀ (I2 :: I :: X) Y (lawEnv q fa L cd) ((f7 e sc st).set (Str.ofString "k") (.int (j : Nat))) (k + 1) (.Subscript (.Name n px) (.Name (Str.ofString "k") kx) pp) (.int v) := by
      intro n px kx pp l v h1 h2 h3 h4
      exact ev_item (n := (j : Int)) (l := l.map .int) (ev_name ok h2 h3 h4) (ev_name ok set_eq rfl) (by lia) (by lia) (by rw [Int.toNat_natCast, List.getElem?_map, h1]; rfl)
    refine wpAny_execs_cons (ex_if (k := k + 1) (b := false) gd S (TV.cast (tv_not (tv_le2 (it e1 rfl rfl rfl) (it e2 rfl rfl rfl) (it e3 rfl rfl rfl) l1 l2)) rfl) fun s₅ _ S₅ => ?_)
    refine wpAny_execs_nil (wpAny_execs_nil (S₅.toG (l := [(Str.ofString "told", .list ((toldOf sc).map liD)), (Str.ofString "low", liD (longest (lineOf sc))), (Str.ofString "high", liD (longest (pileOf sc))), (Str.ofString "middle", liD (longest st))]) rfl ⟨rfl, rfl, rfl, rfl, trivial⟩ (fun _ => rfl) rfl))
  · exact S₄.toG (l := [(Str.ofString "told", .list ((toldOf sc).map liD)), (Str.ofString "low", liD (longest (lineOf sc))), (Str.ofString "high", liD (longest (pileOf sc)))]) rfl ⟨rfl, rfl, rfl, trivial⟩ (fun _ => rfl) rfl
theorem ex_end {q : Str} {fa L : Addr} {cd : Value} {Q : Flow → Shared → Prop} (gd : Good k A) (S : St s₀ hb X Y (lawEnv q fa L cd) f s) (h : ∀ s', St s₀ hb X Y (lawEnv q fa L cd) f s' → Q (.ret (.bool true)) s') : wpAny (model prog w) A (exec (lstmt 21) (lawEnv q fa L cd)) Q E s := by
  conv in exec _ _ => arg 1; whnf
  refine ex_return (k := k) gd S ev_bool fun v s' hv _ S' => ?_
  rw [D.den_bool hv]; exact h s' S'
end
end Mine

namespace Mine
section
variable {prog : Program} {w : World} {A : Around} {E : Value → Shared → Prop} {s : Shared} {X Y : List Addr} {env : Env} {k : Nat} {f : Fs} {s₀ : Shared} {hb h₀ : Heap} {mg mb mN : Str → Option Value}
set_option maxHeartbeats 2000000 in
theorem ex_given {q : Str} {fa L : Addr} {cd : Value} {Q : Flow → Shared → Prop} (gd : Good k A) (S : St s₀ hb X Y (lawEnv q fa L cd) f s) (h : ∀ s', St s₀ hb X Y (lawEnv q fa L cd) (f.set "given" (.list (givens.map .int))) s' → Q .next s') : wpAny (model prog w) A (exec (lstmt 0) (lawEnv q fa L cd)) Q E s := by
  have ok := law_ok q fa L cd
  conv in exec _ _ => arg 1; whnf
  exact ex_assign (k := k) (d := .list (givens.map .int)) ok gd S (EV.cast (ev_list (ds := [.int 66, .int 3534, .int 61, .int 0, .int 44, .int 125, .int 17, .int 7999]) (evs_cons ev_int (evs_cons ev_int (evs_cons ev_int (evs_cons ev_int (evs_cons ev_int (evs_cons ev_int (evs_cons ev_int (evs_cons ev_int evs_nil)))))))) (by simp [sizeLine])) (by simp [givens])) (by rfl) fun s' S' _ => h s' S'
theorem ex_row0 {q : Str} {fa L : Addr} {cd : Value} {Q : Flow → Shared → Prop} (gd : Good k A) (S : St s₀ hb X Y (lawEnv q fa L cd) f s) (h : ∀ s', St s₀ hb X Y (lawEnv q fa L cd) (f.set "row" (.str (T []))) s' → Q .next s') : wpAny (model prog w) A (exec (lstmt 1) (lawEnv q fa L cd)) Q E s := by
  have ok := law_ok q fa L cd
  conv in exec _ _ => arg 1; whnf
  exact ex_assign (k := k) (d := .str (T [])) ok gd S ev_str (by rfl) fun s' S' _ => h s' S'
theorem ex_hours0 {q : Str} {fa L : Addr} {cd : Value} {Q : Flow → Shared → Prop} (S : St s₀ hb X Y (lawEnv q fa L cd) f s) (hc : L + 1 ∈ Y) (h : ∀ a s', a ∉ X → a ∉ Y → St s₀ hb (a :: X) (a :: Y) (lawEnv q fa L cd) ((f.put a (some [])).set "hours" (.ref a)) s' → Q .next s') : wpAny (model prog w) A (exec (lstmt 2) (lawEnv q fa L cd)) Q E s := by
  have ok := law_ok q fa L cd
  conv in exec _ _ => arg 1; whnf
  exact ex_assign_ownC ok S (by rfl) (by rfl) hc (fun y hy => law_inj (by rfl) hy) fun a s' h1 h2 _ S' => h a s' h1 h2 S'
theorem ex_hour0 {q : Str} {fa L : Addr} {cd : Value} {Q : Flow → Shared → Prop} (gd : Good k A) (S : St s₀ hb X Y (lawEnv q fa L cd) f s) (h : ∀ s', St s₀ hb X Y (lawEnv q fa L cd) (f.set "hour" (.int 0)) s' → Q .next s') : wpAny (model prog w) A (exec (lstmt 3) (lawEnv q fa L cd)) Q E s := by
  have ok := law_ok q fa L cd
  conv in exec _ _ => arg 1; whnf
  exact ex_assign (k := k) (d := .int 0) ok gd S ev_int (by rfl) fun s' S' _ => h s' S'
theorem ex_line0 {q : Str} {fa L : Addr} {cd : Value} {Q : Flow → Shared → Prop} (S : St s₀ hb X Y (lawEnv q fa L cd) f s) (h : ∀ a s', a ∉ X → a ∉ Y → St s₀ hb (a :: X) (a :: Y) (lawEnv q fa L cd) ((f.put a (some [])).set "line" (.ref a)) s' → Q .next s') : wpAny (model prog w) A (exec (lstmt 11) (lawEnv q fa L cd)) Q E s := by
  have ok := law_ok q fa L cd
  conv in exec _ _ => arg 1; whnf
  exact ex_assign_own ok S (by rfl) fun a s' h1 h2 _ S' => h a s' h1 h2 S'
theorem law_list : defBody (topDef 15) = [lstmt 0, lstmt 1, lstmt 2, lstmt 3, lstmt 4, lstmt 5, lstmt 6, lstmt 7, lstmt 8, lstmt 9, lstmt 10, lstmt 11, lstmt 12, lstmt 13, lstmt 14, lstmt 15, lstmt 16, lstmt 17, lstmt 18, lstmt 19, lstmt 20, lstmt 21] := by rfl
theorem q_last (sc : List Int) (m : Nat) : (qTo sc m).2 = lin (evs sc m) [] := by
  have h1 := lstep_lin (evs sc m) [] []
  rw [qTo_eq] at h1
  simpa using h1

set_option maxHeartbeats 8000000 in
theorem law_body {sc : List Int} {q : Str} {fa L : Addr} {cd : Value} {Q : Flow → Shared → Prop} (gd : Good (k + 6) A) (G : LH s₀.heap mg mb mN) (hsc : sc.length ≤ 63) (S : St s₀ hb (lawX L) (lawX L) (lawEnv q fa L cd) (lawF (.list (sc.map .int))) s)
    (h : ∀ s', GB [] s₀.heap s'.heap → (∃ ps, s'.heap.get? 86 = some (PySem.W.tabObj ps)) → s'.os = s₀.os → AllBare s'.gens → Q (.ret (.bool true)) s') : wpAny (model prog w) A (execs (defBody (topDef 15)) (lawEnv q fa L cd)) Q E s := by
  rw [law_list]
  have mY : ∀ {b}, b ∈ lawX L → b ∈ lawX L := fun h => h
  refine wpAny_execs_cons (ex_given gd S fun s S => ?_)
  refine wpAny_execs_cons (ex_row0 gd S fun s S => ?_)
  refine wpAny_execs_cons (ex_hours0 S (.tail _ (.head _)) fun a s haX haY S => ?_)
  refine wpAny_execs_cons (ex_hour0 gd S fun s S => ?_)
  have S1 : St s₀ hb (a :: lawX L) (a :: lawX L) (lawEnv q fa L cd) (f1 sc a (lawF (.list (sc.map .int))) 0) s := S.toG rfl ⟨rfl, rfl, rfl, rfl, rfl, trivial⟩ (fun b => by rfl) rfl
  refine wpAny_execs_cons (first_loop (k := k + 4) gd G.gf G.range G.sum (by unfold sizeLine; lia) (.tail _ (.tail _ (.tail _ (.head _)))) S1 fun s S => ?_)
  have S2 := S.freeze (l := hoursTo sc 8) (by show (if a = a then _ else _) = _; exact if_pos rfl) haX haY (x := Str.ofString "hours") rfl
  refine wpAny_execs_cons (ex_text (sc := sc) (k := k + 2) gd G.toLG S2 set_eq fun s S => ?_)
  refine wpAny_execs_cons (ex_lexer (k := k) gd G S set_eq rfl (.tail _ (.tail _ (.tail _ (.head _)))) fun la s nd hF S => ?_)
  have h86 : 86 ∉ la.F := fun m => hF 86 m (by simp [lawX])
  refine wpAny_execs_cons (ex_words (sc := sc) (k := k + 2) gd G S set_eq rfl h86 fun s S => ?_)
  refine wpAny_execs_cons (ex_check1 (sc := sc) (k := k + 2) gd G S set_eq rfl rfl rfl rfl fun s S => ?_)
  refine wpAny_execs_cons (ex_times (sc := sc) (k := k + 2) gd G S rfl (List.mem_append.mpr (.inr (.tail _ (.tail _ (.tail _ (.tail _ (.head _))))))) fun s S => ?_)
  refine wpAny_execs_cons (ex_check2 (sc := sc) (k := k + 2) gd S set_eq rfl fun s S => ?_)
  refine wpAny_execs_cons (ex_line0 S fun b s hbX hbY S => ?_)
  have S3 : St s₀ _ (b :: (la.F ++ lawX L)) (b :: (la.F ++ lawX L)) (lawEnv q fa L cd) (f2 sc la b 0) s := S.toG rfl ⟨rfl, rfl, rfl, rfl, rfl, rfl, trivial⟩ (fun c => by
    show (if c = b then some (((qTo sc 0).2).map D.int) else none) = (if c = b then some [] else if c = a then none else if c = a then _ else none)
    by_cases q1 : c = b
    · rw [if_pos q1, if_pos q1]; rfl
    · rw [if_neg q1, if_neg q1]
      by_cases q2 : c = a
      · rw [if_pos q2]
      · rw [if_neg q2, if_neg q2]) rfl
  refine wpAny_execs_cons (line_loop (k := k + 1) gd G h86 (.tail _ (List.mem_append.mpr (.inr (.tail _ (.tail _ (.head _)))))) S3 fun s S => ?_)
  have S4 := S.freeze (l := (qTo sc 8).2.map .int) (by show (if b = b then _ else _) = _; exact if_pos rfl) hbX hbY (x := Str.ofString "line") rfl
  rw [q_last sc 8] at S4
  refine wpAny_execs_cons (ex_pile (sc := sc) (k := k + 1) gd G S4 rfl rfl fun s S => ?_)
  refine wpAny_execs_cons (ex_ways0 (sc := sc) gd S fun s S => ?_)
  have S5 : St s₀ _ (la.F ++ lawX L) (la.F ++ lawX L) (lawEnv q fa L cd) (f4 (LE la (textOf sc) (posAt sc 8) (lineAt sc 8) ((qTo sc 8).1.map octets)) sc 0) s := S.toG rfl ⟨rfl, rfl, rfl, rfl, rfl, trivial⟩ (fun c => by
    show none = (if c = b then none else if c = b then _ else none)
    by_cases q1 : c = b
    · rw [if_pos q1]
    · rw [if_neg q1, if_neg q1]) rfl
  refine wpAny_execs_cons (ways_loop (k := k + 5) gd G (List.mem_append.mpr (.inr (.tail _ (.tail _ (.head _))))) S5 fun s S => ?_)
  refine wpAny_execs_cons (ex_told (sc := sc) gd S rfl fun s S => ?_)
  refine wpAny_execs_cons (ex_check3 (sc := sc) (k := k + 5) gd S rfl rfl set_eq fun s S => ?_)
  refine wpAny_execs_cons (ex_low (sc := sc) (k := k + 5) gd G S rfl fun s S => ?_)
  refine wpAny_execs_cons (ex_high (sc := sc) (k := k + 5) gd G S rfl fun s S => ?_)
  have S6 : St s₀ _ (la.F ++ lawX L) (la.F ++ lawX L) (lawEnv q fa L cd) (f6 (LE la (textOf sc) (posAt sc 8) (lineAt sc 8) ((qTo sc 8).1.map octets)) sc) s := S.toG rfl ⟨rfl, rfl, rfl, trivial⟩ (fun c => by rfl) rfl
  refine wpAny_execs_cons (last_loop (k := k + 5) gd G S6 fun s S => ?_)
  exact wpAny_execs_cons (ex_end gd S fun s S => h s S.keep S.ext.1.1 S.os S.gens)
end
end Mine

namespace Mine
noncomputable def KDef (K : PySem.W.Frag) (n : Nat) (a : Addr) : Prop := ∃ o pm c doc oc vs t, K.lookup a = some o ∧ o.data = .func (Calls.docDef (defName (topDef n)) (defParams (topDef n)) (defBody (topDef n)) (defScope (topDef n)) pm (.ref c) doc) ∧ K.lookup c = some oc ∧ oc.data = .fields vs ∧ vs[1]? = some (.str (defName (topDef n)) t)
noncomputable def KMeth (K : PySem.W.Frag) (n : Nat) (a : Addr) : Prop := ∃ o qual doc pm c ct oc vs t, K.lookup a = some o ∧ o.cls = .type "function" ∧ o.data = .func (PySem.W.fnX (defName (meth n)) qual (defParams (meth n)) (defBody (meth n)) (defScope (meth n)) [] .none .none doc pm none (.ref c) ct) ∧ K.lookup c = some oc ∧ oc.data = .fields vs ∧ vs[1]? = some (.str qual t)
theorem KDef.at {K : PySem.W.Frag} {h : Heap} {n a} (X : K.In h) (k : KDef K n a) : DefAt h n a := by obtain ⟨o, pm, c, doc, oc, vs, t, h1, h2, h3, h4, h5⟩ := k; exact ⟨o, pm, .ref c, doc, X _ _ h1, h2, c, oc, vs, t, rfl, X _ _ h3, h4, h5⟩
theorem KMeth.at {K : PySem.W.Frag} {h : Heap} {n a} (X : K.In h) (k : KMeth K n a) : MethAt h n a := by obtain ⟨o, q, doc, pm, c, ct, oc, vs, t, h1, h0, h2, h3, h4, h5⟩ := k; exact ⟨o, q, doc, pm, .ref c, ct, X _ _ h1, h0, h2, c, oc, vs, t, rfl, X _ _ h3, h4, h5⟩
set_option tactic.hygienic true in
theorem ns_of {K : PySem.W.Frag} {h : Heap} {N : Addr} {m : Str → Option Value} {n : Str} {v : Value} (X : K.In h) (G : h.Ns N m) (e : PySem.W.nsIn K N n = some (some v)) : m n = some v := by
  obtain ⟨o, es, ep, ho, hd, _, hf⟩ := G
  unfold PySem.W.nsIn at e
  split at e
  · rename_i c d es' n' sl q
    have := X _ _ q
    rw [ho] at this
    cases this
    cases hd
    split at e
    · rename_i en he
      cases e
      rw [← hf]
      unfold nsFind findBy
      rw [← Array.find?_toList, he]
      rfl
    · split at e <;> cases e
  · cases e
theorem in_hide {K : PySem.W.Frag} {h : Heap} (X : K.In h) (e : K.lookup 86 = none) : K.In (h.hide 86) := fun a o q => by
  have : a ≠ 86 := fun r => by rw [r, e] at q; cases q
  exact (Heap.hide_ne h this).trans (X a o q)
theorem ns_hide {h : Heap} {a : Addr} {m : Str → Option Value} (hn : h.Ns a m) (ha : a ≠ 86) : (h.hide 86).Ns a m := by obtain ⟨o, es, ep, e, r⟩ := hn; exact ⟨o, es, ep, (Heap.hide_ne h ha).trans e, r⟩
theorem bt_chr : bootBuiltins "chr" = some (.builtin "chr") := by decide +kernel
theorem bt_range : bootBuiltins "range" = some (.type "range") := by decide +kernel
theorem bt_iter : bootBuiltins "iter" = some (.builtin "iter") := by decide +kernel
theorem bt_next : bootBuiltins "next" = some (.builtin "next") := by decide +kernel
theorem bt_ord : bootBuiltins "ord" = some (.builtin "ord") := by decide +kernel
theorem bt_len : bootBuiltins "len" = some (.builtin "len") := by decide +kernel
theorem bt_sorted : bootBuiltins "sorted" = some (.builtin "sorted") := by decide +kernel
theorem bt_sum : bootBuiltins "sum" = some (.builtin "sum") := by decide +kernel
theorem bt_enum : bootBuiltins "enumerate" = some (.type "enumerate") := by decide +kernel

/- what the written heap must hold -/
structure KF (K : PySem.W.Frag) : Prop where
  e86 : K.lookup 86 = none
  d10 : KDef K 10 98
  d11 : KDef K 11 105
  d3 : KDef K 3 63
  d5 : KDef K 5 70
  d6 : KDef K 6 77
  d7 : KDef K 7 84
  d12 : KDef K 12 110
  d13 : KDef K 13 117
  d14 : KDef K 14 124
  st : ∃ o pm doc oc vs t, K.lookup 91 = some o ∧ o.data = .func (Calls.docDef (defName (topDef 9)) (defParams (topDef 9)) (defBody (topDef 9)) (defScope (topDef 9)) pm (.ref 90) doc) ∧ K.lookup 90 = some oc ∧ oc.data = .fields vs ∧ vs[1]? = some (.str (defName (topDef 9)) t)
  hd : PySem.W.codeHdIn K 90 86 = true
  cls : ∃ nm q bs sn sub col dd k0 k1 k2 k3 k5, K.lookup 52 = some (excClassObj nm q 52 51 bs [.type "object"] true sn sub false col dd k0 k1 k2 k3 k5 "object.__new__")
  m0 : KMeth K 0 28
  m1 : KMeth K 1 35
  m2 : KMeth K 2 42
  m3 : KMeth K 3 49
  ns : PySem.W.nsOkIn K 51 = true
  no : PySem.W.nsIn K 51 "__getattribute__" = some none ∧ PySem.W.nsIn K 51 "__getattr__" = some none ∧ PySem.W.nsIn K 51 "__setattr__" = some none ∧ PySem.W.nsIn K 51 "lineno" = some none ∧ PySem.W.nsIn K 51 "instream" = some none ∧ PySem.W.nsIn K 51 "whitespace" = some none ∧ PySem.W.nsIn K 51 "pushback" = some none
  fns : PySem.W.nsIn K 51 "__init__" = some (some (.ref 28)) ∧ PySem.W.nsIn K 51 "_read_char" = some (some (.ref 35)) ∧ PySem.W.nsIn K 51 "get_token" = some (some (.ref 42)) ∧ PySem.W.nsIn K 51 "push_token" = some (some (.ref 49))
  g1 : PySem.W.nsIn K mainGlobals "chr" = some none ∧ PySem.W.nsIn K mainGlobals "range" = some none ∧ PySem.W.nsIn K mainGlobals "iter" = some none ∧ PySem.W.nsIn K mainGlobals "next" = some none ∧ PySem.W.nsIn K mainGlobals "ord" = some none ∧ PySem.W.nsIn K mainGlobals "len" = some none ∧ PySem.W.nsIn K mainGlobals "sorted" = some none ∧ PySem.W.nsIn K mainGlobals "sum" = some none ∧ PySem.W.nsIn K mainGlobals "enumerate" = some none
  g2 : PySem.W.nsIn K mainGlobals "_law_octets" = some (some (.ref 98)) ∧ PySem.W.nsIn K mainGlobals "_law_written" = some (some (.ref 105)) ∧ PySem.W.nsIn K mainGlobals "_netrclex" = some (some (.ref 52)) ∧ PySem.W.nsIn K mainGlobals "_law_stream" = some (some (.ref 91)) ∧ PySem.W.nsIn K mainGlobals "_parse_varint" = some (some (.ref 63)) ∧ PySem.W.nsIn K mainGlobals "_iter_escaped_chars" = some (some (.ref 70)) ∧ PySem.W.nsIn K mainGlobals "_strip_quoted_realnames" = some (some (.ref 77)) ∧ PySem.W.nsIn K mainGlobals "_check_parenthesis" = some (some (.ref 84)) ∧ PySem.W.nsIn K mainGlobals "_law_number" = some (some (.ref 110)) ∧ PySem.W.nsIn K mainGlobals "_law_pairs" = some (some (.ref 117)) ∧ PySem.W.nsIn K mainGlobals "_law_longest" = some (some (.ref 124))

theorem lh_of {K : PySem.W.Frag} {h : Heap} {mg mb : Str → Option Value} (k : KF K) (X : K.In h) (hP : h.get? 86 = some (PySem.W.tabObj #[])) (hg : h.Ns mainGlobals mg) (hb : h.Ns builtinsNs mb) (lim : h.NoLimit) (bi : ∀ x : Str, x ≠ "__name__" → mb x = bootBuiltins x) (hbm : ∃ bm ob, BMod h mainGlobals mg bm ob) :
    LH (h.hide 86) mg mb ((h.hide 86).nsMap 51) := by
  have X' := in_hide X k.e86
  have hN : (h.hide 86).Ns 51 ((h.hide 86).nsMap 51) := Heap.Ns.of_isNs (PySem.W.isNs_of_in X' k.ns)
  have no : ∀ {n : Str}, PySem.W.nsIn K mainGlobals n = some none → mg n = none := fun e => PySem.W.ns_none_of X hg e
  have so : ∀ {n : Str} {v : Value}, PySem.W.nsIn K mainGlobals n = some (some v) → mg n = some v := fun e => ns_of X hg e
  have no1 : ∀ {n : Str}, PySem.W.nsIn K 51 n = some none → (h.hide 86).nsMap 51 n = none := fun e => PySem.W.ns_none_of X' hN e
  have so1 : ∀ {n : Str} {v : Value}, PySem.W.nsIn K 51 n = some (some v) → (h.hide 86).nsMap 51 n = some v := fun e => ns_of X' hN e
  obtain ⟨a1, a2, a3, a4, a5, a6, a7, a8, a9⟩ := k.g1
  obtain ⟨b1, b2, b3, b4, b5, b6, b7, b8, b9, c1, c2⟩ := k.g2
  obtain ⟨n1, n2, n3, n4, n5, n6, n7⟩ := k.no
  obtain ⟨f1, f2, f3, f4⟩ := k.fns
  obtain ⟨o91, pm91, doc91, oc91, vs91, t91, s1, s2, s3, s4, s5⟩ := k.st
  obtain ⟨x1, x2, x3, x4, x5, x6, x7, x8, x9, y1, y2, y3, hcl⟩ := k.cls
  obtain ⟨bm, ob, M⟩ := hbm
  have hbm86 : bm ≠ 86 := fun q => by
    have e := M.obj
    rw [q, hP] at e
    cases e
    exact absurd M.cls (fun q => nomatch q)
  have hbg : bm ≠ mainGlobals := fun q => by
    obtain ⟨o, es, ep, e1, e2, _⟩ := hg
    have e := M.obj
    rw [q, e1] at e
    cases e
    rw [M.data] at e2
    cases e2
  exact
  { lim := by obtain ⟨mc, p, q⟩ := lim; exact ⟨mc, ns_hide p (by decide), q⟩
    gf := ⟨ns_hide hg (by decide), ns_hide hb (by decide)⟩
    chr := ⟨no a1, (bi _ (by decide)).trans bt_chr⟩
    d10 := k.d10.at X'
    oct := so b1
    d11 := k.d11.at X'
    wri := so b2
    cl := ⟨⟨x1, x2, x3, x4, x5, x6, x7, x8, x9, y1, y2, y3, X' _ _ hcl⟩, hN, ⟨no1 n1, no1 n2, no1 n3, no1 n4, no1 n5, no1 n6, no1 n7⟩, ⟨so1 f1, so1 f2, so1 f3, so1 f4⟩, k.m0.at X', k.m1.at X', k.m2.at X', k.m3.at X'⟩
    stream := ⟨o91, pm91, doc91, X' _ _ s1, s2, 90, oc91, vs91, t91, rfl, X' _ _ s3, s4, s5⟩
    hd := PySem.W.codeHd_of_K X' k.hd
    bm := ⟨bm, ob, M.name, M.ne, hbg, hbm86, (Heap.hide_ne h hbm86).trans M.obj, M.cls, M.dict, M.data⟩
    lex := so b3
    str := so b4
    range := ⟨no a2, (bi _ (by decide)).trans bt_range⟩
    iter := ⟨no a3, (bi _ (by decide)).trans bt_iter⟩
    next := ⟨no a4, (bi _ (by decide)).trans bt_next⟩
    ord := ⟨no a5, (bi _ (by decide)).trans bt_ord⟩
    len := ⟨no a6, (bi _ (by decide)).trans bt_len⟩
    sorted := ⟨no a7, (bi _ (by decide)).trans bt_sorted⟩
    sum := ⟨no a8, (bi _ (by decide)).trans bt_sum⟩
    enum := ⟨no a9, (bi _ (by decide)).trans bt_enum⟩
    d3 := k.d3.at X'
    var := so b5
    d5 := k.d5.at X'
    esc := so b6
    d6 := k.d6.at X'
    strip := so b7
    d7 := k.d7.at X'
    chk := so b8
    d12 := k.d12.at X'
    num := so b9
    d13 := k.d13.at X'
    prs := so c1
    d14 := k.d14.at X'
    lon := so c2 }
end Mine

namespace Mine
section
variable {prog : Program} {w : World} {A : Around} {E : Value → Shared → Prop} {s : Shared} {k : Nat} {mg mb mN : Str → Option Value}
set_option maxHeartbeats 4000000 in
theorem law_call {fa a : Addr} {o : Obj} {pm cd doc : Value} {vs : List Value} {sc : List Int} {R : Result → Shared → Prop} (ho : s.heap.get? fa = some o) (hdata : o.data = .func (Calls.docDef (defName (topDef 15)) (defParams (topDef 15)) (defBody (topDef 15)) (defScope (topDef 15)) pm cd doc)) (hcd : s.heap.CodeRec cd (defName (topDef 15)))
    (lim : s.heap.NoLimit) (G : LH (s.heap.hide 86) mg mb mN) (hP : s.heap.get? 86 = some (PySem.W.tabObj #[])) (htab : isCodeTable s.heap 86) (gens : AllBare s.gens) (gd : Good (k + 7) A) (hl : s.heap.IsList a vs.toArray) (hI : IntsAre vs sc) (hsc : sc.length ≤ 63)
    (h : ∀ s', OldK s.heap s'.heap → s'.os = s.os → AllBare s'.gens → R (.ok (.ret (.bool true))) s') : codeAny (model prog w) A (.call (.ref fa) ⟨[.ref a], []⟩) R s := by
  have hbind : bindArgs (Calls.docDef (defName (topDef 15)) (defParams (topDef 15)) (defBody (topDef 15)) (defScope (topDef 15)) pm cd doc) ⟨[.ref a], []⟩ = pure [(Str.ofString "script", Value.ref a)] := by rfl
  refine codeAny_call_cells (body := defBody (topDef 15)) (by have := gd.depth; omega) ho hdata lim hcd (by rfl) hbind (by rfl) (fun x hx => by rw [List.mem_singleton.mp hx]; exact .inl rfl) (fun s₁ I => ?_) (by rfl) (by rfl) (by rfl)
  have a86 : a ≠ 86 := fun q => by
    obtain ⟨o', e1, e2, _⟩ := hl
    rw [q, hP] at e1
    cases e1
    exact absurd e2 (fun q => nomatch q)
  have S := st_law (q := defName (topDef 15)) (fa := fa) (L := s.heap.objs.size) (cd := cd) (v := .ref a) (d := .list (sc.map .int)) rfl I (by rfl) (fun h' X' kk hX => .list (fun m => by
    rcases hX a m with q | q
    · exact a86 q
    · obtain ⟨o', e1, _⟩ := hl; rw [q] at e1; cases e1) (by obtain ⟨o', e1, r⟩ := hl; exact ⟨o', kk a o' e1 a86, r⟩) (Dens.of_ints hI)) hP gens
  refine law_body (k := k) (gd.deeper _) G hsc S fun s' keep ⟨ps, h86⟩ os gens' => ?_
  refine h s' ⟨fun b o' e => ?_, fun b o' e => ?_⟩ os gens'
  · by_cases q : b = 86
    · subst q
      rw [hP] at e
      cases e
      refine .inr (.inl ⟨htab, rfl, #[], ps, rfl, ?_⟩)
      rw [h86]
      simp [PySem.W.tabObj]
    · exact .inl (keep b o' nil_mem ((Heap.hide_ne s.heap q).trans e))
  · by_cases q : b = 86
    · exact ⟨_, q ▸ h86⟩
    · exact ⟨_, keep b o' nil_mem ((Heap.hide_ne s.heap q).trans e)⟩
end
end Mine

namespace Mine
theorem good_caller : Good 7 callerA := ⟨rfl, by decide +kernel, by decide +kernel⟩
theorem law_join {p : Program} {loose : List Str} {mean : ExcName → Option Value} {K : PySem.W.Frag} {prog : Program} {w : World} {s : Shared} {mg mb : Str → Option Value} {fa a : Addr} {o : Obj} {pm cd doc : Value} {vs : List Value} {sc : List Int} {c : PySem.W.ClaimW} {cl : Str → Option Addr} {mn : ExcName → Option Value} {args : List PySem.W.WData}
    (X : K.In s.heap) (hP : s.heap.get? 86 = some (PySem.W.tabObj #[])) (T : Top p loose mean mg mb s.heap) (hg : s.gens = #[]) (ho : s.heap.get? fa = some o)
    (hdata : o.data = .func (Calls.docDef (defName (topDef 15)) (defParams (topDef 15)) (defBody (topDef 15)) (defScope (topDef 15)) pm cd doc)) (hcd : s.heap.CodeRec cd (defName (topDef 15)))
    (hl : s.heap.IsList a vs.toArray) (hI : IntsAre vs sc) (hsc : sc.length ≤ 63) (hr : ∀ cls, c.raises args cls = false) (hp : c.post args (.bool true) args = true) (k : KF K) :
    wpAny (model prog w) callerA (PySem.call (.ref fa) [.ref a]) (fun v s' => PySem.W.GoodWG c cl mn args s (.ok (.ret v)) s') (fun e s' => PySem.W.GoodWG c cl mn args s (.error e) s') s := by
  have G := lh_of k X hP T.g T.b T.nolimit T.builtins (PySem.W.bmod_of_top T)
  have htab : isCodeTable s.heap 86 := by
    obtain ⟨oc, vc, _, _, _, _, _, _, _, h1, h2, h3, h4, _⟩ := PySem.W.codeHd_of_K X k.hd
    exact ⟨90, oc, vc, h1, h2, h3, h4⟩
  refine PySem.W.enter_call (law_call (k := 0) ho hdata hcd T.nolimit G hP htab (.of_eq hg) good_caller hl hI hsc fun s' old os gens => ?_)
  exact ⟨.inl ⟨.bool true, .bool true, [], rfl, hr, .bool true, hp, fun _ => ⟨List.nodup_nil, fun _ m => nomatch m⟩⟩, old, os, gens⟩
end Mine

set_option tactic.hygienic true
set_option genInjectivity true
set_option genSizeOf true
open PySem PySem.W PyProof.Rows
set_option maxHeartbeats 8000000 in
theorem PySem.Challenge.cw_rw0026_01_holds : PySem.Challenge.rw_rw0026_01.Holds := by
  w_on; o_law; k_head; (case hw => w_witness2)
  k_fill
  intro w s₀ s₁ mg mb G Y fa o pm cd doc dV kV ho hd hcd hD hmg hg args vals as hpre hlay hrd hwl hlo
  have KX := km_in_of Y
  have KT := km_tabs_of Y 86 (.head _)
  refine Ground.open G ?_
  intro T B D TE TW
  have e1 : dV = .none := hD.pos.elim (·.2) fun y => absurd rfl y.1
  have e2 : kV = .none := hD.kw.elim (·.2) fun y => absurd rfl y.1
  subst e1 e2
  clear hmg hD
  wrow_args hpre hlay hrd hwl hlo
  refine Mine.law_join KX KT T hg ho hd hcd (by assumption) (by assumption) (by omega) (fun _ => rfl) (by kernel_rfl) ?_
  exact
  { e86 := rfl
    d10 := ⟨_, _, _, _, _, _, _, rfl, rfl, rfl, rfl, rfl⟩
    d11 := ⟨_, _, _, _, _, _, _, rfl, rfl, rfl, rfl, rfl⟩
    d3 := ⟨_, _, _, _, _, _, _, rfl, rfl, rfl, rfl, rfl⟩
    d5 := ⟨_, _, _, _, _, _, _, rfl, rfl, rfl, rfl, rfl⟩
    d6 := ⟨_, _, _, _, _, _, _, rfl, rfl, rfl, rfl, rfl⟩
    d7 := ⟨_, _, _, _, _, _, _, rfl, rfl, rfl, rfl, rfl⟩
    d12 := ⟨_, _, _, _, _, _, _, rfl, rfl, rfl, rfl, rfl⟩
    d13 := ⟨_, _, _, _, _, _, _, rfl, rfl, rfl, rfl, rfl⟩
    d14 := ⟨_, _, _, _, _, _, _, rfl, rfl, rfl, rfl, rfl⟩
    st := ⟨_, _, _, _, _, _, rfl, rfl, rfl, rfl, rfl⟩
    hd := rfl
    cls := ⟨_, _, _, _, _, _, _, _, _, _, _, _, rfl⟩
    m0 := ⟨_, _, _, _, _, _, _, _, _, rfl, rfl, rfl, rfl, rfl, rfl⟩
    m1 := ⟨_, _, _, _, _, _, _, _, _, rfl, rfl, rfl, rfl, rfl, rfl⟩
    m2 := ⟨_, _, _, _, _, _, _, _, _, rfl, rfl, rfl, rfl, rfl, rfl⟩
    m3 := ⟨_, _, _, _, _, _, _, _, _, rfl, rfl, rfl, rfl, rfl, rfl⟩
    ns := by kernel_rfl
    no := ⟨rfl, rfl, rfl, rfl, rfl, rfl, rfl⟩
    fns := ⟨rfl, rfl, rfl, rfl⟩
    g1 := ⟨rfl, rfl, rfl, rfl, rfl, rfl, rfl, rfl, rfl⟩
    g2 := ⟨rfl, rfl, rfl, rfl, rfl, rfl, rfl, rfl, rfl, rfl, rfl⟩ }
