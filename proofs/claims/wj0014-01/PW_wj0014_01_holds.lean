import PyProof.Rows.All
import Wide.All
import OpenK.AllK
import Wide.FinOn
import PySem.Challenge.RW_wj0014_01
open PySem PySem.W PyProof.Rows
set_option Elab.async false
namespace Mine
set_option maxRecDepth 100000 in
set_option maxHeartbeats 8000000 in
open_top hd for PySem.Challenge.rw_wj0014_01
end Mine

open PySem PySem.W PyProof.Rows PySem.Calls
set_option linter.unusedVariables false
namespace Mine

abbrev Keep (h h' : Heap) : Prop := ∀ b o, h.get? b = some o → h'.get? b = some o
def Fm (W : List Addr) (h h' : Heap) : Prop := ∀ b o, h.get? b = some o → b ∉ W → h'.get? b = some o
theorem Fm.refl (W : List Addr) (h : Heap) : Fm W h h := fun _ _ e _ => e
theorem Fm.of_keep {W : List Addr} {h h' : Heap} (k : Keep h h') : Fm W h h' := fun b o e _ => k b o e
theorem Fm.trans {W : List Addr} {a b c : Heap} (x : Fm W a b) (y : Fm W b c) : Fm W a c := fun p o e hn => y p o (x p o e hn) hn
theorem Fm.sub {W W' : List Addr} {a b : Heap} (x : Fm W a b) (h : ∀ p ∈ W, p ∈ W') : Fm W' a b := fun p o e hn => x p o e fun q => hn (h p q)
theorem Fm.of_same {a : Addr} {h h' : Heap} (x : Heap.SameBut a h h') : Fm [a] h h' := fun b o e hn => (x.2 b (fun q => hn (by rw [q]; exact List.mem_singleton.mpr rfl))).trans e
theorem Fm.of_extBut {a : Addr} {h h' : Heap} (x : Heap.ExtBut a h h') : Fm [a] h h' := fun b o e hn => x b o (fun q => hn (by rw [q]; exact List.mem_singleton.mpr rfl)) e

/-- the generators that are not of gs are as they were, and none is left that would have to clean up -/
structure Gk (gs : List Nat) (a b : Array GenState) : Prop where
  bare : AllBare a → AllBare b
  keep : ∀ (g : Nat) x, g ∉ gs → a[g]? = some x → b[g]? = some x
theorem Gk.refl (gs : List Nat) (a : Array GenState) : Gk gs a a := ⟨id, fun _ _ _ e => e⟩
theorem Gk.trans {gs : List Nat} {a b c : Array GenState} (x : Gk gs a b) (y : Gk gs b c) : Gk gs a c := ⟨y.bare ∘ x.bare, fun g z h e => y.keep g z h (x.keep g z h e)⟩
theorem Gk.then {gs : List Nat} {a b c : Array GenState} (x : Gk [] a b) (y : Gk gs b c) (h : ∀ g ∈ gs, a[g]? = none) : Gk [] a c := ⟨y.bare ∘ x.bare, fun g z _ e => y.keep g z (fun q => by rw [h g q] at e; cases e) (x.keep g z (fun q => nomatch q) e)⟩
structure Ext (s s' : Shared) : Prop where
  keep : Keep s.heap s'.heap
  bare : Gk [] s.gens s'.gens
  os : s'.os = s.os
theorem Ext.refl (s : Shared) : Ext s s := ⟨fun _ _ e => e, .refl _ _, rfl⟩
theorem Ext.trans {a b c : Shared} (x : Ext a b) (y : Ext b c) : Ext a c := ⟨fun p o e => y.keep p o (x.keep p o e), x.bare.trans y.bare, y.os.trans x.os⟩
theorem Ext.toks {s : Shared} (n : Nat) : Ext s { s with toks := n } := ⟨fun _ _ e => e, .refl _ _, rfl⟩
theorem Ext.push {s : Shared} (o : Obj) : Ext s { s with heap := s.heap.push o } := ⟨fun _ _ e => Heap.get?_push_of_some _ e, .refl _ _, rfl⟩
theorem Ext.heap {s : Shared} {h' : Heap} (k : Keep s.heap h') (n : Nat) : Ext s { s with heap := h', toks := n } := ⟨k, .refl _ _, rfl⟩

/-- no tuple stands there -/
def NoTup (o : Obj) : Prop := o.cls = .type "tuple" → ∀ vs n, o.data ≠ .seq vs n
def Hot (O : List Addr) (h : Heap) : Prop := ∀ a ∈ O, ∃ o, h.get? a = some o ∧ NoTup o
theorem Hot.keep {O : List Addr} {h h' : Heap} (x : Hot O h) (k : Keep h h') : Hot O h' := fun a ha => let ⟨o, e, n⟩ := x a ha; ⟨o, k _ _ e, n⟩
theorem Hot.fresh {O : List Addr} {h : Heap} (x : Hot O h) : h.objs.size ∉ O := fun q => by
  obtain ⟨o, e, _⟩ := x _ q
  exact absurd (Heap.lt_size e) (Nat.lt_irrefl _)
theorem Hot.ne {O : List Addr} {h : Heap} (x : Hot O h) {a : Addr} (ha : h.get? a = none) : a ∉ O := fun q => by
  obtain ⟨o, e, _⟩ := x _ q
  rw [ha] at e; cases e

/-- the places of a datum: none of O, and lists all -/
abbrev Av (O : List Addr) (h : Heap) (as : List Addr) : Prop := ∀ a ∈ as, a ∉ O ∧ ∃ o, h.get? a = some o ∧ ∃ vs n, o.data = .seq vs n
def RD (O : List Addr) (h : Heap) (v : Value) (d : PyData) : Prop := ∃ as, Reads h v d as ∧ Av O h as
abbrev RDs (O : List Addr) (h : Heap) : List Value → List PyData → Prop := Paired (RD O h)

section
variable {O O' W : List Addr} {h h' : Heap} {v : Value} {d : PyData}
theorem RD.keep (x : RD O h v d) (k : Keep h h') : RD O h' v d := let ⟨as, r, n⟩ := x; ⟨as, Reads.keeps k r, fun a ha => ⟨(n a ha).1, let ⟨o, e, c⟩ := (n a ha).2; ⟨o, k _ _ e, c⟩⟩⟩
theorem RD.sub (x : RD O h v d) (s : ∀ a ∈ O', a ∈ O) : RD O' h v d := let ⟨as, r, n⟩ := x; ⟨as, r, fun a ha => ⟨fun q => (n a ha).1 (s a q), (n a ha).2⟩⟩
theorem Paired.mono {α β : Type} {F G : α → β → Prop} (m : ∀ a b, F a b → G a b) : ∀ {l : List α} {r : List β}, Paired F l r → Paired G l r
  | _, _, .nil => .nil
  | _, _, .cons a t => .cons (m _ _ a) (Paired.mono m t)
theorem RDs.keep {vs ds} (x : RDs O h vs ds) (k : Keep h h') : RDs O h' vs ds := Paired.mono (fun _ _ r => RD.keep r k) x
theorem RDs.sub {vs ds} (x : RDs O h vs ds) (s : ∀ a ∈ O', a ∈ O) : RDs O' h vs ds := Paired.mono (fun _ _ r => RD.sub r s) x
theorem RD.none : RD O h .none .none := ⟨[], .none, fun _ q => nomatch q⟩
theorem RD.bool (b : Bool) : RD O h (.bool b) (.bool b) := ⟨[], .bool b, fun _ q => nomatch q⟩
theorem RD.int (i : Int) (t : Tok) : RD O h (.int i t) (.int i) := ⟨[], .int i t, fun _ q => nomatch q⟩
theorem RD.str (x : Str) (t : Tok) : RD O h (.str x t) (.str x) := ⟨[], .str x t, fun _ q => nomatch q⟩
theorem RD.int_inv {i : Int} (x : RD O h v (.int i)) : ∃ t, v = .int i t := by
  obtain ⟨as, r, _⟩ := x
  cases r with
  | int _ t => exact ⟨t, rfl⟩
theorem RD.bool_inv {b : Bool} (x : RD O h v (.bool b)) : v = .bool b := by
  obtain ⟨as, r, _⟩ := x
  cases r; rfl
theorem RD.none_inv (x : RD O h v .none) : v = .none := by
  obtain ⟨as, r, _⟩ := x
  cases r; rfl
theorem RD.str_inv {y : Str} (x : RD O h v (.str y)) : ∃ t, v = .str y t := by
  obtain ⟨as, r, _⟩ := x
  cases r with
  | str _ t => exact ⟨t, rfl⟩
theorem readsAll_of {vs : List Value} {ds : List PyData} (x : RDs O h vs ds) : ∃ as, ReadsAll h vs ds as ∧ Av O h as := by
  induction x with
  | nil => exact ⟨[], .nil, fun _ q => nomatch q⟩
  | cons a _ ih =>
    obtain ⟨as, r, n⟩ := a
    obtain ⟨bs, q, m⟩ := ih
    exact ⟨as ++ bs, .cons r q, fun z hz => (List.mem_append.mp hz).elim (n z) (m z)⟩
theorem of_readsAll : ∀ {vs : List Value} {ds : List PyData} {as : List Addr}, ReadsAll h vs ds as → Av O h as → RDs O h vs ds
  | _, _, _, .nil, _ => .nil
  | _, _, _, .cons r q, n => .cons ⟨_, r, fun a ha => n a (List.mem_append_left _ ha)⟩ (of_readsAll q fun a ha => n a (List.mem_append_right _ ha))
theorem RD.list {a : Addr} {vs : Array Value} {ds : List PyData} (hl : h.IsList a vs) (ha : a ∉ O) (x : RDs O h vs.toList ds) : RD O h (.ref a) (.list ds) := by
  obtain ⟨o, ho, hc, n, hd⟩ := hl
  obtain ⟨as, r, m⟩ := readsAll_of x
  exact ⟨a :: as, .list ho hc hd r, fun z hz => (List.mem_cons.mp hz).elim (fun e => e ▸ ⟨ha, _, ho, _, _, hd⟩) (m z)⟩
theorem RD.tup {a : Addr} {vs : Array Value} {ds : List PyData} (hl : IsTup h a vs) (x : RDs O h vs.toList ds) : RD O h (.ref a) (.tuple ds) := by
  obtain ⟨o, ho, hc, n, hd⟩ := hl
  obtain ⟨as, r, m⟩ := readsAll_of x
  exact ⟨as, .tuple ho hc hd r, m⟩
theorem RD.list_inv {ds : List PyData} (x : RD O h v (.list ds)) : ∃ a vs, v = .ref a ∧ h.IsList a vs ∧ a ∉ O ∧ RDs O h vs.toList ds := by
  obtain ⟨as, r, n⟩ := x
  cases r with
  | list h1 h2 h3 h4 => exact ⟨_, _, rfl, ⟨_, h1, h2, _, h3⟩, (n _ (List.mem_cons_self ..)).1, of_readsAll h4 fun a ha => n a (List.mem_cons_of_mem _ ha)⟩
theorem RD.tup_inv {ds : List PyData} (x : RD O h v (.tuple ds)) : ∃ a vs, v = .ref a ∧ IsTup h a vs ∧ RDs O h vs.toList ds := by
  obtain ⟨as, r, n⟩ := x
  cases r with
  | tuple h1 h2 h3 h4 => exact ⟨_, _, rfl, ⟨_, h1, h2, _, h3⟩, of_readsAll h4 n⟩

mutual
theorem reads_fm (ht : Hot O h) (ws : ∀ a ∈ W, a ∈ O) (f : Fm W h h') : ∀ {v : Value} {d : PyData} {as : List Addr}, Reads h v d as → (∀ a ∈ as, a ∉ O) → Reads h' v d as
  | _, _, _, .none, _ => .none
  | _, _, _, .bool b, _ => .bool b
  | _, _, _, .int i t, _ => .int i t
  | _, _, _, .str x t, _ => .str x t
  | _, _, _, .list h1 h2 h3 h4, n => .list (f _ _ h1 fun q => n _ (List.mem_cons_self ..) (ws _ q)) h2 h3 (readsAll_fm ht ws f h4 fun a ha => n a (List.mem_cons_of_mem _ ha))
  | _, _, _, .tuple h1 h2 h3 h4, n => .tuple (f _ _ h1 fun q => by
      obtain ⟨o, e, nt⟩ := ht _ (ws _ q)
      rw [h1] at e
      cases e
      exact nt h2 _ _ h3) h2 h3 (readsAll_fm ht ws f h4 n)
  | _, _, _, .dict h1 h2 h3 h4 h5, n => .dict (f _ _ h1 fun q => n _ (List.mem_cons_self ..) (ws _ q)) h2 h3
      (readsAll_fm ht ws f h4 fun a ha => n a (List.mem_cons_of_mem _ (List.mem_append_left _ ha))) (readsAll_fm ht ws f h5 fun a ha => n a (List.mem_cons_of_mem _ (List.mem_append_right _ ha)))
theorem readsAll_fm (ht : Hot O h) (ws : ∀ a ∈ W, a ∈ O) (f : Fm W h h') : ∀ {vs : List Value} {ds : List PyData} {as : List Addr}, ReadsAll h vs ds as → (∀ a ∈ as, a ∉ O) → ReadsAll h' vs ds as
  | _, _, _, .nil, _ => .nil
  | _, _, _, .cons h1 h2, n => .cons (reads_fm ht ws f h1 fun a ha => n a (List.mem_append_left _ ha)) (readsAll_fm ht ws f h2 fun a ha => n a (List.mem_append_right _ ha))
end
theorem RD.fm (x : RD O h v d) (ht : Hot O h) (ws : ∀ a ∈ W, a ∈ O) (f : Fm W h h') : RD O h' v d := let ⟨as, r, n⟩ := x; ⟨as, reads_fm ht ws f r (fun a ha => (n a ha).1), fun a ha => ⟨(n a ha).1, let ⟨o, e, c⟩ := (n a ha).2; ⟨o, f _ _ e (fun q => (n a ha).1 (ws _ q)), c⟩⟩⟩
theorem RDs.fm {vs ds} (x : RDs O h vs ds) (ht : Hot O h) (ws : ∀ a ∈ W, a ∈ O) (f : Fm W h h') : RDs O h' vs ds := Paired.mono (fun _ _ r => RD.fm r ht ws f) x

mutual
theorem reads_live : ∀ {v : Value} {d : PyData} {as : List Addr}, Reads h v d as → ∀ a ∈ as, ∃ o, h.get? a = some o
  | _, _, _, .none, _, ha => nomatch ha
  | _, _, _, .bool b, _, ha => nomatch ha
  | _, _, _, .int i t, _, ha => nomatch ha
  | _, _, _, .str x t, _, ha => nomatch ha
  | _, _, _, .list h1 h2 h3 h4, a, ha => (List.mem_cons.mp ha).elim (fun e => e ▸ ⟨_, h1⟩) (readsAll_live h4 a)
  | _, _, _, .tuple h1 h2 h3 h4, a, ha => readsAll_live h4 a ha
  | _, _, _, .dict h1 h2 h3 h4 h5, a, ha => (List.mem_cons.mp ha).elim (fun e => e ▸ ⟨_, h1⟩) fun q => (List.mem_append.mp q).elim (readsAll_live h4 a) (readsAll_live h5 a)
theorem readsAll_live : ∀ {vs : List Value} {ds : List PyData} {as : List Addr}, ReadsAll h vs ds as → ∀ a ∈ as, ∃ o, h.get? a = some o
  | _, _, _, .nil, _, ha => nomatch ha
  | _, _, _, .cons h1 h2, a, ha => (List.mem_append.mp ha).elim (reads_live h1 a) (readsAll_live h2 a)
end
/-- a new place may be made hot -/
theorem RD.more {a : Addr} (x : RD O h v d) (ha : h.get? a = Option.none) : RD (a :: O) h v d := let ⟨as, r, n⟩ := x; ⟨as, r, fun b hb => ⟨fun q => (List.mem_cons.mp q).elim (fun e => by
  obtain ⟨o, e'⟩ := reads_live r b hb
  rw [e, ha] at e'; cases e') (n b hb).1, (n b hb).2⟩⟩
theorem RDs.more {vs ds} {a : Addr} (x : RDs O h vs ds) (ha : h.get? a = Option.none) : RDs (a :: O) h vs ds := Paired.mono (fun _ _ r => RD.more r ha) x

theorem RDs.get {vs : List Value} {ds : List PyData} (x : RDs O h vs ds) : ∀ {i : Nat} {d : PyData}, ds[i]? = some d → ∃ v, vs[i]? = some v ∧ RD O h v d := by
  induction x with
  | nil => intro i d e; simp at e
  | cons a _ ih =>
    intro i d e
    cases i with
    | zero => simp at e; subst e; exact ⟨_, rfl, a⟩
    | succ j => simp at e; obtain ⟨v, e1, e2⟩ := ih e; exact ⟨v, by simpa using e1, e2⟩
theorem RDs.append {vs vs' : List Value} {ds ds' : List PyData} (x : RDs O h vs ds) (y : RDs O h vs' ds') : RDs O h (vs ++ vs') (ds ++ ds') := by
  induction x with
  | nil => exact y
  | cons a _ ih => exact .cons a ih
theorem RDs.drop {vs : List Value} {ds : List PyData} (x : RDs O h vs ds) : ∀ n, RDs O h (vs.drop n) (ds.drop n) := by
  induction x with
  | nil => intro n; simpa using Paired.nil
  | cons a t ih => intro n; cases n with
    | zero => exact .cons a t
    | succ j => exact ih j
theorem RDs.take {vs : List Value} {ds : List PyData} (x : RDs O h vs ds) : ∀ n, RDs O h (vs.take n) (ds.take n) := by
  induction x with
  | nil => intro n; simpa using Paired.nil
  | cons a t ih => intro n; cases n with
    | zero => exact .nil
    | succ j => exact .cons a (ih j)
theorem RDs.reverse {vs : List Value} {ds : List PyData} (x : RDs O h vs ds) : RDs O h vs.reverse ds.reverse := by
  induction x with
  | nil => exact .nil
  | cons a t ih => rw [List.reverse_cons, List.reverse_cons]; exact ih.append (.cons a .nil)
theorem RDs.set {vs : List Value} {ds : List PyData} {v : Value} {d : PyData} (x : RDs O h vs ds) (y : RD O h v d) : ∀ n, RDs O h (vs.set n v) (ds.set n d) := by
  induction x with
  | nil => intro n; simpa using Paired.nil
  | cons a t ih => intro n; cases n with
    | zero => exact .cons y t
    | succ j => exact .cons a (ih j)
theorem RDs.split {vs : List Value} {a b : List PyData} (x : RDs O h vs (a ++ b)) : ∃ v1 v2, vs = v1 ++ v2 ∧ RDs O h v1 a ∧ RDs O h v2 b := by
  induction a generalizing vs with
  | nil => exact ⟨[], vs, rfl, .nil, x⟩
  | cons p a ih =>
    cases x with
    | cons y t =>
      obtain ⟨v1, v2, rfl, h1, h2⟩ := ih t
      exact ⟨_ :: v1, v2, rfl, .cons y h1, h2⟩
end

/-- where a name of the frame has its value -/
def VarAt (env : Env) (h : Heap) (x : Str) (v : Value) : Prop :=
  (env.kindOf x = some .local ∧ ∃ m, h.Ns env.locals m ∧ m x = some v) ∨ (env.kindOf x = some .cell ∧ ∃ c, env.cells.lookup x = some c ∧ h.IsCell c (some v))
theorem VarAt.keep {env : Env} {h h' : Heap} {x : Str} {v : Value} (p : VarAt env h x v) (k : Keep h h') : VarAt env h' x v :=
  p.imp (fun ⟨a, m, n, e⟩ => ⟨a, m, n.keeps k, e⟩) fun ⟨a, c, e, n⟩ => ⟨a, c, e, n.keeps k⟩

inductive RV where
  | d (d : PyData)
  | own (a : Addr)

def VarIs (env : Env) (O : List Addr) (h : Heap) (x : Str) : RV → Prop
  | .d d => ∃ v, VarAt env h x v ∧ RD O h v d
  | .own a => VarAt env h x (.ref a)
theorem VarIs.keep {env : Env} {O : List Addr} {h h' : Heap} {x : Str} : ∀ {r : RV}, VarIs env O h x r → Keep h h' → VarIs env O h' x r
  | .d d, ⟨v, a, r⟩, k => ⟨v, a.keep k, r.keep k⟩
  | .own a, p, k => VarAt.keep p k

def Own (O : List Addr) (h : Heap) (a : Addr) (q : Bool × List PyData) : Prop := ∃ vs, h.IsList a vs ∧ (q.1 = true → h.PlainList a vs) ∧ RDs O h vs.toList q.2

structure EOk (env : Env) : Prop where
  kind : env.scope.kind = .function
  glob : env.globals = mainGlobals
  bi : env.builtins = builtinsNs

structure AOk (k : Nat) (A : Around) : Prop where
  handled : A.handled = none
  depth : A.depth + k < recursionLimit
  units : A.units + 100 * k + 100 < cLine
theorem AOk.deeper {k : Nat} {A : Around} (x : AOk (k + 1) A) (env : Env) : AOk k (A.deeper env) :=
  ⟨x.handled, by have := x.depth; show A.depth + 1 + k < _; omega, by have := x.units; show A.units + 3 + _ + _ < _; omega⟩
theorem AOk.le {k j : Nat} {A : Around} (x : AOk k A) (h : j ≤ k) : AOk j A := ⟨x.handled, by have := x.depth; omega, by have := x.units; omega⟩
theorem AOk.room {k : Nat} {A : Around} (x : AOk k A) : A.depth < recursionLimit := by have := x.depth; omega
theorem AOk.line {k : Nat} {A : Around} (x : AOk k A) : A.units + 64 < cLine := by have := x.units; omega

/-- the top's facts, at its heap -/
structure TopOk (mg mb : Str → Option Value) (hT : Heap) : Prop where
  g : hT.Ns mainGlobals mg
  b : hT.Ns builtinsNs mb
  builtins : ∀ x : Str, x ≠ "__name__" → mb x = bootBuiltins x
  lim : hT.NoLimit

/-- the state of a frame: W may be written, O is hot (no datum lies there), ρ the names, ω the lists of its own -/
structure St (env : Env) (hT : Heap) (κ : List (Str × Addr)) (W O : List Addr) (s₀ : Shared) (ρ : List (Str × RV)) (ω : List (Addr × Bool × List PyData)) (s : Shared) : Prop where
  top : Keep hT s.heap
  topO : ∀ a ∈ O, hT.get? a = none
  fm : Fm W s₀.heap s.heap
  bare : Gk [] s₀.gens s.gens
  os : s.os = s₀.os
  hot : Hot O s.heap
  wo : ∀ a ∈ W, a ∈ O
  ns : ∃ m, s.heap.Ns env.locals m
  lo : env.locals ∈ O
  lw : env.locals ∈ W ∨ s₀.heap.get? env.locals = none
  cells : ∀ x c, κ.lookup x = some c → env.cells.lookup x = some c ∧ c ∈ O ∧ (c ∈ W ∨ s₀.heap.get? c = none) ∧ (∃ v, s.heap.IsCell c v) ∧ ∀ y, y ≠ x → env.cells.lookup y ≠ some c
  vars : ∀ x r, ρ.lookup x = some r → VarIs env O s.heap x r
  owns : ∀ a ds, (a, ds) ∈ ω → a ∈ O ∧ (a ∈ W ∨ s₀.heap.get? a = none) ∧ Own O s.heap a ds
  nodup : (ω.map (·.1)).Nodup

section
variable {env : Env} {hT : Heap} {κ : List (Str × Addr)} {W O : List Addr} {s₀ s s' : Shared} {ρ : List (Str × RV)} {ω : List (Addr × Bool × List PyData)}

theorem St.ext (x : St env hT κ W O s₀ ρ ω s) (e : Ext s s') : St env hT κ W O s₀ ρ ω s' where
  top := fun b o q => e.keep b o (x.top b o q)
  topO := x.topO
  fm := x.fm.trans (Fm.of_keep e.keep)
  bare := x.bare.trans e.bare
  os := e.os.trans x.os
  hot := x.hot.keep e.keep
  wo := x.wo
  ns := let ⟨m, n⟩ := x.ns; ⟨m, n.keeps e.keep⟩
  lo := x.lo
  lw := x.lw
  cells := fun y c q => let ⟨a, b, d, ⟨v, i⟩, f⟩ := x.cells y c q; ⟨a, b, d, ⟨v, i.keeps e.keep⟩, f⟩
  vars := fun y r q => (x.vars y r q).keep e.keep
  owns := fun a ds q => let ⟨i, j, vs, l, pl, r⟩ := x.owns a ds q; ⟨i, j, vs, (let ⟨o, ho, z⟩ := l; ⟨o, e.keep _ _ ho, z⟩), (fun z => (pl z).at fun o y => e.keep _ _ y), RDs.keep r e.keep⟩
  nodup := x.nodup

/-- fewer names, fewer lists, fewer hot places -/
theorem St.weaken {O' : List Addr} {ρ' : List (Str × RV)} {ω' : List (Addr × Bool × List PyData)} (x : St env hT κ W O s₀ ρ ω s) (ho : ∀ a ∈ O', a ∈ O) (hw : ∀ a ∈ W, a ∈ O') (hl : env.locals ∈ O') (hk : ∀ y c, κ.lookup y = some c → c ∈ O')
    (hr : ∀ y r, ρ'.lookup y = some r → ρ.lookup y = some r) (hω : ∀ p ∈ ω', p ∈ ω) (hωO : ∀ p ∈ ω', p.1 ∈ O') (hn : (ω'.map (·.1)).Nodup) : St env hT κ W O' s₀ ρ' ω' s where
  top := x.top
  topO := fun a ha => x.topO a (ho a ha)
  fm := x.fm
  bare := x.bare
  os := x.os
  hot := fun a ha => x.hot a (ho a ha)
  wo := hw
  ns := x.ns
  lo := hl
  lw := x.lw
  cells := fun y c q => let ⟨a, b, d, i, f⟩ := x.cells y c q; ⟨a, hk y c q, d, i, f⟩
  vars := fun y r q => by
    have z := x.vars y r (hr y r q)
    cases r with
    | d d => obtain ⟨v, a, r⟩ := z; exact ⟨v, a, r.sub ho⟩
    | own a => exact z
  owns := fun a ds q => let ⟨i, j, vs, l, pl, r⟩ := x.owns a ds (hω _ q); ⟨hωO _ q, j, vs, l, pl, RDs.sub r ho⟩
  nodup := hn

/-- other names alone -/
theorem St.names {ρ' : List (Str × RV)} (x : St env hT κ W O s₀ ρ ω s) (hr : ∀ y r, ρ'.lookup y = some r → ρ.lookup y = some r) : St env hT κ W O s₀ ρ' ω s :=
  x.weaken (fun _ h => h) x.wo x.lo (fun y c q => (x.cells y c q).2.1) hr (fun _ h => h) (fun p hp => (x.owns p.1 p.2 hp).1) x.nodup

theorem notup_of_ns {h : Heap} {a : Addr} {m : Str → Option Value} (n : h.Ns a m) : ∃ o, h.get? a = some o ∧ NoTup o := by
  obtain ⟨o, es, ep, ho, hd, _⟩ := n
  exact ⟨o, ho, fun _ vs k q => by rw [hd] at q; cases q⟩
theorem notup_of_list {h : Heap} {a : Addr} {vs : Array Value} (l : h.IsList a vs) : ∃ o, h.get? a = some o ∧ NoTup o := by
  obtain ⟨o, ho, hc, _⟩ := l
  exact ⟨o, ho, fun q => by rw [hc] at q; injection q with q; exact absurd q (by decide)⟩
theorem notup_of_cell {h : Heap} {a : Addr} {v : Option Value} (l : h.IsCell a v) : ∃ o, h.get? a = some o ∧ NoTup o := by
  obtain ⟨o, ho, hd⟩ := l
  exact ⟨o, ho, fun _ vs k q => by rw [hd] at q; cases q⟩
theorem ns_ne_list {h : Heap} {a b : Addr} {m : Str → Option Value} {vs : Array Value} (n : h.Ns a m) (l : h.IsList b vs) : a ≠ b := by
  rintro rfl
  obtain ⟨o, es, ep, ho, hd, _⟩ := n
  obtain ⟨o', ho', hc, k, hd'⟩ := l
  rw [ho] at ho'; cases ho'
  rw [hd] at hd'; cases hd'
theorem ns_ne_cell {h : Heap} {a b : Addr} {m : Str → Option Value} {v : Option Value} (n : h.Ns a m) (l : h.IsCell b v) : a ≠ b := by
  rintro rfl
  obtain ⟨o, es, ep, ho, hd, _⟩ := n
  obtain ⟨o', ho', hd'⟩ := l
  rw [ho] at ho'; cases ho'
  rw [hd] at hd'; cases hd'
theorem list_ne_cell {h : Heap} {a b : Addr} {vs : Array Value} {v : Option Value} (n : h.IsList a vs) (l : h.IsCell b v) : a ≠ b := by
  rintro rfl
  obtain ⟨o, ho, hc, k, hd⟩ := n
  obtain ⟨o', ho', hd'⟩ := l
  rw [ho] at ho'; cases ho'
  rw [hd] at hd'; cases hd'

theorem hot_same {b : Addr} {h h' : Heap} (x : Hot O h) (hs : Heap.SameBut b h h') (hb : ∃ o, h'.get? b = some o ∧ NoTup o) : Hot O h' := fun a ha => by
  by_cases e : a = b
  · subst e; exact hb
  · obtain ⟨o, ho, n⟩ := x a ha
    exact ⟨o, (hs.2 a e).trans ho, n⟩

theorem lookup_cons_ne {x y : Str} {r : RV} {ρ : List (Str × RV)} (h : y ≠ x) : ((x, r) :: ρ).lookup y = ρ.lookup y := by
  rw [List.lookup_cons]
  have : (y == x) = false := by simpa using h
  rw [this]
theorem lookup_cons_eq {x : Str} {r : RV} {ρ : List (Str × RV)} : ((x, r) :: ρ).lookup x = some r := by
  rw [List.lookup_cons]
  have : (x == x) = true := by simp
  rw [this]

theorem VarIs.same {b : Addr} {h h' : Heap} {x : Str} (hot : Hot O h) (hb : b ∈ O) (hs : Heap.SameBut b h h') (va : ∀ v, VarAt env h x v → VarAt env h' x v) : ∀ {r : RV}, VarIs env O h x r → VarIs env O h' x r
  | .d d, ⟨v, a, r⟩ => ⟨v, va v a, r.fm (W := [b]) hot (fun a ha => by rw [List.mem_singleton.mp ha]; exact hb) (Fm.of_same hs)⟩
  | .own a, p => va _ p
theorem Own.same {b : Addr} {h h' : Heap} {a : Addr} {ds : Bool × List PyData} (hot : Hot O h) (hb : b ∈ O) (hs : Heap.SameBut b h h') (hab : a ≠ b) (x : Own O h a ds) : Own O h' a ds :=
  let ⟨vs, l, pl, r⟩ := x
  ⟨vs, l.extBut hs.extBut hab, (fun z => (pl z).extBut hs.extBut hab), RDs.fm (W := [b]) r hot (fun a ha => by rw [List.mem_singleton.mp ha]; exact hb) (Fm.of_same hs)⟩

theorem fm_in {b : Addr} {h h' : Heap} (hs : Heap.SameBut b h h') (x : Fm W s₀.heap h) (hb : b ∈ W ∨ s₀.heap.get? b = none) : Fm W s₀.heap h' := fun c o e hn => by
  have hcb : c ≠ b := by
    rintro rfl
    rcases hb with hb | hb
    · exact hn hb
    · rw [hb] at e; cases e
  exact (hs.2 c hcb).trans (x c o e hn)

/-- a local name is stored -/
theorem St.store {x : Str} {v : Value} {r : RV} {h' : Heap} {n : Nat} {m : Str → Option Value} (p : St env hT κ W O s₀ ρ ω s) (hl : env.kindOf x = some .local) (hn : s.heap.Ns env.locals m)
    (hn' : h'.Ns env.locals (fun y => if y = x then some v else m y)) (hs : Heap.SameBut env.locals s.heap h') (hr : match r with | .d d => RD O s.heap v d | .own a => v = .ref a) :
    St env hT κ W O s₀ ((x, r) :: ρ) ω { s with heap := h', toks := n } := by
  have hsub : ∀ a ∈ [env.locals], a ∈ O := fun a ha => by rw [List.mem_singleton.mp ha]; exact p.lo
  refine ⟨fun b o e => ?_, p.topO, fm_in hs p.fm p.lw, p.bare, p.os, hot_same p.hot hs (notup_of_ns hn'), p.wo, ⟨_, hn'⟩, p.lo, p.lw, fun y c q => ?_, fun y r' q => ?_, fun a ds q => ?_, p.nodup⟩
  · have hb : b ≠ env.locals := by
      rintro rfl
      have := p.topO _ p.lo
      rw [e] at this; cases this
    exact (hs.2 b hb).trans (p.top b o e)
  · obtain ⟨a, b, d, ⟨v, i⟩, f⟩ := p.cells y c q
    exact ⟨a, b, d, ⟨v, i.sameBut hs (Ne.symm (ns_ne_cell hn i))⟩, f⟩
  · by_cases hy : y = x
    · subst hy
      rw [lookup_cons_eq] at q
      cases q
      have at' : VarAt env h' y v := .inl ⟨hl, _, hn', by simp⟩
      cases r with
      | d d => exact ⟨v, at', RD.fm (W := [env.locals]) hr p.hot hsub (Fm.of_same hs)⟩
      | own a => subst hr; exact at'
    · rw [lookup_cons_ne hy] at q
      refine VarIs.same p.hot p.lo hs (fun u hu => ?_) (p.vars y r' q)
      rcases hu with ⟨a, m', n', e⟩ | ⟨a, c, e, n'⟩
      · refine .inl ⟨a, _, hn', ?_⟩
        rw [if_neg hy]
        obtain ⟨o, es, ep, ho, hd, hk, hm⟩ := n'
        obtain ⟨o2, es2, ep2, ho2, hd2, hk2, hm2⟩ := hn
        rw [ho] at ho2; cases ho2
        rw [hd] at hd2; cases hd2
        rw [← hm2, hm]; exact e
      · exact .inr ⟨a, c, e, n'.sameBut hs (Ne.symm (ns_ne_cell hn n'))⟩
  · obtain ⟨i, j, o⟩ := p.owns a ds q
    refine ⟨i, j, Own.same p.hot p.lo hs (fun e => ?_) o⟩
    obtain ⟨vs, l, _⟩ := o
    exact ns_ne_list hn l e.symm

/-- a name that is a cell is stored -/
theorem St.storeC {x : Str} {v : Value} {r : RV} {c : Addr} {h' : Heap} {n : Nat} {v₀ : Option Value} (p : St env hT κ W O s₀ ρ ω s) (hl : env.kindOf x = some .cell) (hc : κ.lookup x = some c) (hi : s.heap.IsCell c v₀)
    (hi' : h'.IsCell c (some v)) (hs : Heap.SameBut c s.heap h') (hr : match r with | .d d => RD O s.heap v d | .own a => v = .ref a) :
    St env hT κ W O s₀ ((x, r) :: ρ) ω { s with heap := h', toks := n } := by
  obtain ⟨cl, cO, cW, _, cu⟩ := p.cells x c hc
  have hsub : ∀ a ∈ [c], a ∈ O := fun a ha => by rw [List.mem_singleton.mp ha]; exact cO
  obtain ⟨m, hn⟩ := p.ns
  refine ⟨fun b o e => ?_, p.topO, fm_in hs p.fm cW, p.bare, p.os, hot_same p.hot hs (notup_of_cell hi'), p.wo, ⟨m, hn.sameBut hs (ns_ne_cell hn hi)⟩, p.lo, p.lw, fun y c' q => ?_, fun y r' q => ?_, fun a ds q => ?_, p.nodup⟩
  · have hb : b ≠ c := by
      rintro rfl
      have := p.topO _ cO
      rw [e] at this; cases this
    exact (hs.2 b hb).trans (p.top b o e)
  · obtain ⟨a, b, d, ⟨v', i⟩, f⟩ := p.cells y c' q
    refine ⟨a, b, d, ?_, f⟩
    by_cases e : c' = c
    · subst e; exact ⟨_, hi'⟩
    · exact ⟨v', i.sameBut hs e⟩
  · by_cases hy : y = x
    · subst hy
      rw [lookup_cons_eq] at q
      cases q
      have at' : VarAt env h' y v := .inr ⟨hl, c, cl, hi'⟩
      cases r with
      | d d => exact ⟨v, at', RD.fm (W := [c]) hr p.hot hsub (Fm.of_same hs)⟩
      | own a => subst hr; exact at'
    · rw [lookup_cons_ne hy] at q
      refine VarIs.same p.hot cO hs (fun u hu => ?_) (p.vars y r' q)
      rcases hu with ⟨a, m', n', e⟩ | ⟨a, c', e, n'⟩
      · exact .inl ⟨a, m', n'.sameBut hs (ns_ne_cell n' hi), e⟩
      · refine .inr ⟨a, c', e, n'.sameBut hs fun q' => ?_⟩
        subst q'
        exact cu y hy e
  · obtain ⟨i, j, o⟩ := p.owns a ds q
    refine ⟨i, j, Own.same p.hot cO hs (fun e => ?_) o⟩
    obtain ⟨vs, l, _⟩ := o
    exact list_ne_cell l hi e

/-- a list of one's own is changed -/
theorem St.upd {a : Addr} {bp : Bool} {ds ds' : List PyData} {ω₁ ω₂ : List (Addr × Bool × List PyData)} {vs' : Array Value} {h' : Heap} (p : St env hT κ W O s₀ ρ (ω₁ ++ (a, bp, ds) :: ω₂) s) (hl : h'.IsList a vs') (hpl : bp = true → h'.PlainList a vs') (hs : Heap.SameBut a s.heap h')
    (hr : RDs O s.heap vs'.toList ds') (n : Nat) : St env hT κ W O s₀ ρ (ω₁ ++ (a, bp, ds') :: ω₂) { s with heap := h', toks := n } := by
  obtain ⟨aO, aW, vs, lv, _⟩ := p.owns a (bp, ds) (by simp)
  have hsub : ∀ b ∈ [a], b ∈ O := fun b hb => by rw [List.mem_singleton.mp hb]; exact aO
  obtain ⟨m, hn⟩ := p.ns
  have nd := p.nodup
  rw [List.map_append, List.map_cons] at nd
  refine ⟨fun b o e => ?_, p.topO, fm_in hs p.fm aW, p.bare, p.os, hot_same p.hot hs (notup_of_list hl), p.wo, ⟨m, hn.sameBut hs (ns_ne_list hn lv)⟩, p.lo, p.lw, fun y c q => ?_, fun y r' q => ?_, fun b ds'' q => ?_, ?_⟩
  · have hb : b ≠ a := by
      rintro rfl
      have := p.topO _ aO
      rw [e] at this; cases this
    exact (hs.2 b hb).trans (p.top b o e)
  · obtain ⟨a', b, d, ⟨v', i⟩, f⟩ := p.cells y c q
    exact ⟨a', b, d, ⟨v', i.sameBut hs (Ne.symm (list_ne_cell lv i))⟩, f⟩
  · refine VarIs.same p.hot aO hs (fun u hu => ?_) (p.vars y r' q)
    rcases hu with ⟨z, m', n', e⟩ | ⟨z, c', e, n'⟩
    · exact .inl ⟨z, m', n'.sameBut hs (ns_ne_list n' lv), e⟩
    · exact .inr ⟨z, c', e, n'.sameBut hs (Ne.symm (list_ne_cell lv n'))⟩
  · have other : (b, ds'') ∈ ω₁ ++ ω₂ → b ∈ O ∧ (b ∈ W ∨ s₀.heap.get? b = none) ∧ Own O h' b ds'' := fun hm => by
      have hm' : (b, ds'') ∈ ω₁ ++ (a, bp, ds) :: ω₂ := by
        rcases List.mem_append.mp hm with h | h
        · exact List.mem_append_left _ h
        · exact List.mem_append_right _ (List.mem_cons_of_mem _ h)
      obtain ⟨i, j, o⟩ := p.owns b ds'' hm'
      refine ⟨i, j, Own.same p.hot aO hs ?_ o⟩
      rintro rfl
      have n1 := (List.nodup_append.mp nd).2.2
      have n2 := (List.nodup_cons.mp (List.nodup_append.mp nd).2.1).1
      rcases List.mem_append.mp hm with h | h
      · exact n1 b (List.mem_map_of_mem h) b (List.mem_cons_self ..) rfl
      · exact n2 (List.mem_map_of_mem (f := (·.1)) h)
    rcases List.mem_append.mp q with h | h
    · exact other (List.mem_append_left _ h)
    · rcases List.mem_cons.mp h with h | h
      · cases h
        exact ⟨aO, aW, vs', hl, hpl, RDs.fm (W := [a]) hr p.hot hsub (Fm.of_same hs)⟩
      · exact other (List.mem_append_right _ h)
  · rw [List.map_append, List.map_cons]; exact nd

/-- a new list becomes one's own -/
theorem St.fresh {a : Addr} {bp : Bool} {ds : List PyData} {s₁ : Shared} {vs₁ : Array Value} (p : St env hT κ W O s₀ ρ ω s) (e : Ext s s₁) (ha : s.heap.get? a = none) (hl : s₁.heap.IsList a vs₁) (hpl : bp = true → s₁.heap.PlainList a vs₁) (hm : RDs (a :: O) s₁.heap vs₁.toList ds) :
    St env hT κ W (a :: O) s₀ ρ ((a, bp, ds) :: ω) s₁ := by
  have q := p.ext e
  have hw : s₀.heap.get? a = none ∨ a ∈ W := by
    by_cases hW : a ∈ W
    · exact .inr hW
    · left
      cases z : s₀.heap.get? a with
      | none => rfl
      | some o => have := p.fm a o z hW; rw [ha] at this; cases this
  have hT0 : hT.get? a = none := by
    cases z : hT.get? a with
    | none => rfl
    | some o => have := p.top a o z; rw [ha] at this; cases this
  refine ⟨q.top, fun b hb => (List.mem_cons.mp hb).elim (fun z => z ▸ hT0) (p.topO b), q.fm, q.bare, q.os, fun b hb => (List.mem_cons.mp hb).elim (fun z => z ▸ ?_) (q.hot b), fun b hb => List.mem_cons_of_mem _ (p.wo b hb), q.ns, List.mem_cons_of_mem _ p.lo, p.lw,
    fun y c z => let ⟨a, b, d, i, f⟩ := q.cells y c z; ⟨a, List.mem_cons_of_mem _ b, d, i, f⟩, fun y r z => ?_, fun b ds' z => ?_, ?_⟩
  · exact notup_of_list hl
  · have z' := p.vars y r z
    cases r with
    | d d => obtain ⟨v, at', r⟩ := z'; exact ⟨v, at'.keep e.keep, (r.more ha).keep e.keep⟩
    | own b => exact VarAt.keep z' e.keep
  · rcases List.mem_cons.mp z with z | z
    · cases z
      exact ⟨List.mem_cons_self .., hw.symm, vs₁, hl, hpl, hm⟩
    · obtain ⟨i, j, vs, l, pl, r⟩ := p.owns b ds' z
      exact ⟨List.mem_cons_of_mem _ i, j, vs, (let ⟨o, h1, h2⟩ := l; ⟨o, e.keep _ _ h1, h2⟩), (fun z => (pl z).at fun o y => e.keep _ _ y), RDs.keep (RDs.more r ha) e.keep⟩
  · rw [List.map_cons]
    refine List.nodup_cons.mpr ⟨fun z => ?_, p.nodup⟩
    obtain ⟨⟨b, ds'⟩, hp, hb⟩ := List.mem_map.mp z
    obtain ⟨i, j, vs, l, r⟩ := p.owns b ds' hp
    obtain ⟨o, h1, _⟩ := l
    have hb' : b = a := hb
    rw [hb', ha] at h1; cases h1
end

/-- what holds of the states at hand: it stays, and the hot places are live -/
structure PO (O : List Addr) (P : Shared → Prop) : Prop where
  ext : ∀ {s s'}, P s → Ext s s' → P s'
  hot : ∀ {s}, P s → Hot O s.heap
theorem St.po {env : Env} {hT : Heap} {κ : List (Str × Addr)} {W O : List Addr} {s₀ : Shared} {ρ : List (Str × RV)} {ω : List (Addr × Bool × List PyData)} : PO O (St env hT κ W O s₀ ρ ω) := ⟨fun x e => x.ext e, fun x => x.hot⟩

def Ev (prog : Program) (w : World) (A : Around) (env : Env) (O : List Addr) (P : Shared → Prop) (e : Expr) (d : PyData) : Prop :=
  ∀ (s : Shared) (Q E : Value → Shared → Prop), P s → (∀ v s', Ext s s' → RD O s'.heap v d → Q v s') → wpAny (model prog w) A (eval e env) Q E s
def EvL (prog : Program) (w : World) (A : Around) (env : Env) (O : List Addr) (P : Shared → Prop) (es : List Expr) (ds : List PyData) : Prop :=
  ∀ (pos : Pos) (s : Shared) (Q : List Value → Shared → Prop) (E : Value → Shared → Prop), P s → (∀ vs s', Ext s s' → RDs O s'.heap vs ds → Q vs s') → wpAny (model prog w) A (spliced (backTo pos (starEach es env))) Q E s
def Tst (prog : Program) (w : World) (A : Around) (env : Env) (P : Shared → Prop) (e : Expr) (b : Bool) : Prop :=
  ∀ (s : Shared) (Q : Bool → Shared → Prop) (E : Value → Shared → Prop), P s → (∀ s', Ext s s' → Q b s') → wpAny (model prog w) A (isTrue e env (eval e env)) Q E s
def Op (prog : Program) (w : World) (A : Around) (op : Operator) (a b d : PyData) : Prop :=
  ∀ (O : List Addr) (s : Shared) (v u : Value) (Q E : Value → Shared → Prop), Hot O s.heap → RD O s.heap v a → RD O s.heap u b → (∀ r s', Ext s s' → RD O s'.heap r d → Q r s') → wpAny (model prog w) A (binaryOp op v u) Q E s
def Cmp (prog : Program) (w : World) (A : Around) (op : CmpOp) (a b : PyData) (r : Bool) : Prop :=
  ∀ (O : List Addr) (s : Shared) (v u : Value) (Q E : Value → Shared → Prop), RD O s.heap v a → RD O s.heap u b → (∀ s', Ext s s' → Q (.bool r) s') → wpAny (model prog w) A (compareOp op v u) Q E s

section
variable {prog : Program} {w : World} {A : Around} {env : Env} {O : List Addr} {P : Shared → Prop} {e l r : Expr} {pos : Pos} {a b d : PyData}

theorem ev_name {x : Str} (k : EOk env) (hv : ∀ s, P s → VarIs env O s.heap x (.d d)) (hd : (x == ("__debug__" : Str)) = false := by decide) : Ev prog w A env O P (.Name x pos) d := fun s Q E p h => by
  obtain ⟨v, at', rd⟩ := hv s p
  refine wpAny_Name ?_ hd
  rcases at' with ⟨hl, m, hn, hm⟩ | ⟨hl, c, hc, hi⟩
  · exact wpAny_loadName_local k.kind hl hn hm (h v s (.refl s) rd)
  · exact wpAny_loadName_cell k.kind hl hc hi (h v s (.refl s) rd)
theorem ev_int {i : Int} {k : Nat} : Ev prog w A env O P (.Constant (.int i) k pos) (.int i) := fun s Q E p h => wpAny_Constant_int (h _ _ (Ext.toks _) (.int ..))
theorem ev_str {x : Str} {k : Nat} : Ev prog w A env O P (.Constant (.str x) k pos) (.str x) := fun s Q E p h => wpAny_Constant_str (h _ _ (Ext.toks _) (.str ..))
theorem ev_bool {x : Bool} {k : Nat} : Ev prog w A env O P (.Constant (.bool x) k pos) (.bool x) := fun s Q E p h => wpAny_Constant_bool (h _ _ (.refl s) (.bool _))
theorem ev_none {k : Nat} : Ev prog w A env O P (.Constant .none k pos) .none := fun s Q E p h => wpAny_Constant_none (h _ _ (.refl s) .none)
theorem ev_bin {op : Operator} (c : PO O P) (o : Op prog w A op a b d) (hl : Ev prog w A env O P l a) (hr : Ev prog w A env O P r b) : Ev prog w A env O P (.BinOp l op r pos) d := fun s Q E p h =>
  wpAny_BinOp (hl s _ E p fun v s₁ e₁ r₁ => hr s₁ _ E (c.ext p e₁) fun u s₂ e₂ r₂ => o O s₂ v u Q E (c.hot (c.ext (c.ext p e₁) e₂)) (r₁.keep e₂.keep) r₂ fun x s₃ e₃ r₃ => h x s₃ ((e₁.trans e₂).trans e₃) r₃)
theorem ev_neg {i : Int} (he : Ev prog w A env O P e (.int i)) : Ev prog w A env O P (.UnaryOp .USub e pos) (.int (-i)) := fun s Q E p h =>
  wpAny_UnaryOp (he s _ E p fun v s₁ e₁ r₁ => by
    obtain ⟨t, rfl⟩ := r₁.int_inv
    exact neg_int (h _ _ (e₁.trans (Ext.toks _)) (.int ..)))
theorem ev_cmp {op : CmpOp} {x : Bool} (c : PO O P) (o : Cmp prog w A op a b x) (hl : Ev prog w A env O P l a) (hr : Ev prog w A env O P r b) (hm : behindInMarks op r = false := by with_unfolding_all rfl) : Ev prog w A env O P (.Compare l [op] [r] pos) (.bool x) := fun s Q E p h =>
  wpAny_Compare1 (hl s _ E p fun v s₁ e₁ r₁ => hr s₁ _ E (c.ext p e₁) fun u s₂ e₂ r₂ => o O s₂ v u Q E (r₁.keep e₂.keep) r₂ fun s₃ e₃ => h _ s₃ ((e₁.trans e₂).trans e₃) (.bool _)) hm
theorem tst_cmp {op : CmpOp} {x : Bool} (c : PO O P) (o : Cmp prog w A op a b x) (hl : Ev prog w A env O P l a) (hr : Ev prog w A env O P r b) (hm : behindInMarks op r = false := by with_unfolding_all rfl) : Tst prog w A env P (.Compare l [op] [r] pos) x := fun s Q E p h =>
  wpAny_isTrue_Compare1 (hl s _ E p fun v s₁ e₁ r₁ => hr s₁ _ E (c.ext p e₁) fun u s₂ e₂ r₂ => o O s₂ v u _ E (r₁.keep e₂.keep) r₂ fun s₃ e₃ => wpAny_truthy_bool (h s₃ ((e₁.trans e₂).trans e₃))) hm
theorem tst_int {i : Int} (he : Ev prog w A env O P e (.int i)) (hp : ∀ whole, isTrue e env whole = (do let v ← whole; standAt e.pos; holding [v] (truthy v)) := by intro _; rfl) : Tst prog w A env P e (i != 0) := fun s Q E p h =>
  isTrue_plain (he s _ E p fun v s₁ e₁ r₁ => by
    obtain ⟨t, rfl⟩ := r₁.int_inv
    exact truthy_int (h s₁ e₁)) (hp _)
theorem tst_bool {x : Bool} (he : Ev prog w A env O P e (.bool x)) (hp : ∀ whole, isTrue e env whole = (do let v ← whole; standAt e.pos; holding [v] (truthy v)) := by intro _; rfl) : Tst prog w A env P e x := fun s Q E p h =>
  isTrue_plain (he s _ E p fun v s₁ e₁ r₁ => by
    obtain rfl := r₁.bool_inv
    exact wpAny_truthy_bool (h s₁ e₁)) (hp _)

theorem el_nil : EvL prog w A env O P [] [] := fun pos s Q E p h => wpAny_items_nil (h [] s (.refl s) .nil)
theorem el_cons {es : List Expr} {ds : List PyData} (c : PO O P) (he : Ev prog w A env O P e d) (hr : EvL prog w A env O P es ds) (hs : starEach (e :: es) env = (false, eval e env) :: starEach es env := by rfl) : EvL prog w A env O P (e :: es) (d :: ds) := fun pos s Q E p h =>
  wpAny_items_cons (he s _ E p fun v s₁ e₁ r₁ => hr pos s₁ _ E (c.ext p e₁) fun vs s₂ e₂ r₂ => h _ s₂ (e₁.trans e₂) (.cons (r₁.keep e₂.keep) r₂)) hs

theorem ev_list {es : List Expr} {ds : List PyData} (c : PO O P) (he : EvL prog w A env O P es ds) (hz : ds.length ≤ 1000) : Ev prog w A env O P (.List es pos) (.list ds) := fun s Q E p h =>
  wpAny_List (he _ s _ E p fun vs s₁ e₁ r₁ => ⟨by have := r₁.length; rw [sizeLine_eq]; omega, h _ _ (e₁.trans (Ext.push _)) (RD.list (vs := vs.toArray) ⟨_, Heap.get?_push_size _ rfl, rfl, _, rfl⟩ (c.hot (c.ext p e₁)).fresh
    (by simpa using RDs.keep r₁ (fun b o q => Heap.get?_push_of_some _ q)))⟩)
theorem ev_tup {es : List Expr} {ds : List PyData} {k : Nat} (c : PO O P) (he : EvL prog w A env O P es ds) (hz : ds.length ≤ 1000) : Ev prog w A env O P (.Tuple es k pos) (.tuple ds) := fun s Q E p h =>
  wpAny_Tuple (he _ s _ E p fun vs s₁ e₁ r₁ => ⟨by have := r₁.length; rw [sizeLine_eq]; omega, h _ _ (e₁.trans (Ext.push _)) (RD.tup (vs := vs.toArray) ⟨_, Heap.get?_push_size _ rfl, rfl, _, rfl⟩
    (by simpa using RDs.keep r₁ (fun b o q => Heap.get?_push_of_some _ q)))⟩)
end

section
variable {prog : Program} {w : World} {A : Around} {x y : Int}
theorem op_add : Op prog w A .Add (.int x) (.int y) (.int (x + y)) := fun O s v u Q E ht r₁ r₂ h => by
  obtain ⟨t, rfl⟩ := r₁.int_inv; obtain ⟨t', rfl⟩ := r₂.int_inv
  exact add_int (h _ _ (Ext.toks _) (.int ..))
theorem op_sub : Op prog w A .Sub (.int x) (.int y) (.int (x - y)) := fun O s v u Q E ht r₁ r₂ h => by
  obtain ⟨t, rfl⟩ := r₁.int_inv; obtain ⟨t', rfl⟩ := r₂.int_inv
  exact sub_int (h _ _ (Ext.toks _) (.int ..))
theorem op_mul (hx : x.natAbs < 2 ^ 60) : Op prog w A .Mult (.int x) (.int y) (.int (x * y)) := fun O s v u Q E ht r₁ r₂ h => by
  obtain ⟨t, rfl⟩ := r₁.int_inv; obtain ⟨t', rfl⟩ := r₂.int_inv
  exact PyProof.Rows.mul_int (h _ _ (Ext.toks _) (.int ..)) (IntMulOk.of_left (intBits_le_64 (by omega) (by omega)))
theorem op_div (hy : 0 < y) (hy' : y < 2 ^ 60) : Op prog w A .FloorDiv (.int x) (.int y) (.int (x / y)) := fun O s v u Q E ht r₁ r₂ h => by
  obtain ⟨t, rfl⟩ := r₁.int_inv; obtain ⟨t', rfl⟩ := r₂.int_inv
  have q : Int.fdiv x y = x / y := Int.fdiv_eq_ediv_of_nonneg x (Int.le_of_lt hy)
  exact floordiv_int (by omega) (by rw [q]; exact h _ _ (Ext.toks _) (.int ..)) (.inl (by
    unfold Builtin.divisionGoesByPylong
    have : y.natAbs.log2 < 64 := by
      by_cases z : y.natAbs = 0
      · rw [z]; decide
      · exact (Nat.log2_lt z).mpr (by omega)
    have h1 : ¬ ((if (y == 0) = true then 0 else y.natAbs.log2 / 30 + 1) > 300) := by split <;> omega
    simp only [decide_eq_false h1, Bool.false_and]))
theorem op_mod (hy : 0 < y) : Op prog w A .Mod (.int x) (.int y) (.int (x % y)) := fun O s v u Q E ht r₁ r₂ h => by
  obtain ⟨t, rfl⟩ := r₁.int_inv; obtain ⟨t', rfl⟩ := r₂.int_inv
  have q : Int.fmod x y = x % y := Int.fmod_eq_emod_of_nonneg x (Int.le_of_lt hy)
  exact mod_int' (by omega) (by rw [q]; exact h _ _ (Ext.toks _) (.int ..))
theorem op_pow106 : Op prog w A .Pow (.int 10) (.int 6) (.int 1000000) := fun O s v u Q E ht r₁ r₂ h => by
  obtain ⟨t, rfl⟩ := r₁.int_inv; obtain ⟨t', rfl⟩ := r₂.int_inv
  exact pow_int (by decide) (by decide) (h _ _ (Ext.toks _) (.int ..))
theorem op_addstr {x y : Str} (hz : x.length + y.length ≤ 1000) : Op prog w A .Add (.str x) (.str y) (.str (x ++ y)) := fun O s v u Q E ht r₁ r₂ h => by
  obtain ⟨t, rfl⟩ := r₁.str_inv; obtain ⟨t', rfl⟩ := r₂.str_inv
  exact SBL.add (fun t' k _ => h _ _ (Ext.toks _) (.str ..)) (by rw [sizeLine_eq]; omega)
theorem op_mulstr {x : Str} {n : Int} (hm : MulOk x n) : Op prog w A .Mult (.str x) (.int n) (.str (Txt.mul x n)) := fun O s v u Q E ht r₁ r₂ h => by
  obtain ⟨t, rfl⟩ := r₁.str_inv; obtain ⟨t', rfl⟩ := r₂.int_inv
  exact SB.mul hm fun t' k => h _ _ (Ext.toks _) (.str ..)
theorem op_addlist {ds ds' : List PyData} (hz : ds.length + ds'.length ≤ 1000) : Op prog w A .Add (.list ds) (.list ds') (.list (ds ++ ds')) := fun O s v u Q E ht r₁ r₂ h => by
  obtain ⟨a, vs, rfl, hl, na, ra⟩ := r₁.list_inv
  obtain ⟨b, ws, rfl, hb, nb, rb⟩ := r₂.list_inv
  obtain ⟨⟨cls, dd, data, sl⟩, ho, hc, n, hd⟩ := id hl
  obtain ⟨⟨cls2, dd2, data2, sl2⟩, ho2, hc2, n2, hd2⟩ := id hb
  simp only at hc hd hc2 hd2
  subst hc hd hc2 hd2
  have la := ra.length
  have lb := rb.length
  rw [Array.length_toList] at la lb
  refine concat_meets ⟨_, ho, rfl⟩ ⟨_, ho2, rfl⟩ noFill_list_add seq_list_add PySem.F.slot_list_add PySem.F.entry_list_add (PySem.F.args_list_add_2 _ _) (list_addW a b vs ws n n2 dd dd2 sl sl2 (by rw [sizeLine_eq]; omega)) ⟨ho, ho2, ?_⟩
  refine h _ _ (Ext.push _) (RD.list (vs := vs ++ ws) ⟨_, Heap.get?_push_size _ rfl, rfl, _, rfl⟩ ht.fresh ?_)
  rw [Array.toList_append]
  exact RDs.keep (RDs.append ra rb) fun b o q => Heap.get?_push_of_some _ q

theorem cmp_lt : Cmp prog w A .Lt (.int x) (.int y) (decide (x < y)) := fun O s v u Q E r₁ r₂ h => by
  obtain ⟨t, rfl⟩ := r₁.int_inv; obtain ⟨t', rfl⟩ := r₂.int_inv
  exact lt_int (h _ (.refl s))
theorem cmp_eq : Cmp prog w A .Eq (.int x) (.int y) (x == y) := fun O s v u Q E r₁ r₂ h => by
  obtain ⟨t, rfl⟩ := r₁.int_inv; obtain ⟨t', rfl⟩ := r₂.int_inv
  exact eq_int (h _ (.refl s))
theorem cmp_eqstr {x y : Str} : Cmp prog w A .Eq (.str x) (.str y) (x == y) := fun O s v u Q E r₁ r₂ h => by
  obtain ⟨t, rfl⟩ := r₁.str_inv; obtain ⟨t', rfl⟩ := r₂.str_inv
  exact eq_str (h _ (.refl s))
theorem cmp_isnone {d : PyData} {b : Bool} (hb : ∀ O h v, RD O h v d → (v == .none) = b) : Cmp prog w A .Is d .none b := fun O s v u Q E r₁ r₂ h => by
  obtain rfl := r₂.none_inv
  exact is_none (by rw [hb _ _ _ r₁]; exact h _ (.refl s))
theorem cmp_isbool {x y : Bool} : Cmp prog w A .Is (.bool x) (.bool y) (x == y) := fun O s v u Q E r₁ r₂ h => by
  obtain rfl := r₁.bool_inv; obtain rfl := r₂.bool_inv
  exact is_bool (h _ (.refl s))
theorem cmp_eqd {a b : PyData} (ha : a.layable0 = true) (hb : b.layable0 = true) (hu : A.units + 64 < cLine) : Cmp prog w A .Eq a b (a.eqv b) := fun O s v u Q E r₁ r₂ h => by
  obtain ⟨as, r₁, _⟩ := r₁; obtain ⟨bs, r₂, _⟩ := r₂
  exact eq_dataS r₁ r₂ ha hb hu (h _ (.refl s))
theorem cmp_ned {a b : PyData} (ha : a.layable0 = true) (hb : b.layable0 = true) (hu : A.units + 64 < cLine) : Cmp prog w A .NotEq a b (!a.eqv b) := fun O s v u Q E r₁ r₂ h => by
  obtain ⟨as, r₁, _⟩ := r₁; obtain ⟨bs, r₂, _⟩ := r₂
  exact ne_dataS r₁ r₂ ha hb hu (h _ (.refl s))
end

def dpick (ds : List PyData) (lo hi st : Option Int) : List PyData :=
  (sliceRange (sliceBounds lo hi st ds.length).1 (sliceBounds lo hi st ds.length).2.1 (sliceBounds lo hi st ds.length).2.2).filterMap (ds[·]?)
theorem rds_pick {O : List Addr} {h : Heap} {vs : Array Value} {ds : List PyData} (x : RDs O h vs.toList ds) (lo hi st : Option Int) : RDs O h (slicePick vs lo hi st).toList (dpick ds lo hi st) := by
  have hz : vs.size = ds.length := by rw [← Array.length_toList]; exact x.length
  unfold slicePick dpick
  rw [hz, List.toList_toArray]
  generalize sliceRange _ _ _ = is
  induction is with
  | nil => exact .nil
  | cons i is ih =>
    rw [List.filterMap_cons, List.filterMap_cons]
    cases e : ds[i]? with
    | none =>
      have : vs[i]? = none := by
        rw [Array.getElem?_eq_none_iff, hz]; exact List.getElem?_eq_none_iff.mp e
      rw [this]; exact ih
    | some d =>
      obtain ⟨v, ev, rv⟩ := RDs.get x e
      have : vs[i]? = some v := by rw [← Array.getElem?_toList]; exact ev
      rw [this]; exact .cons rv ih
theorem dpick_from (ds : List PyData) (a : Nat) : dpick ds (some a) none none = ds.drop a := by
  unfold dpick
  rw [sliceBounds_plain]
  simp only [sliceRange_one]
  have := pick_run ds.toArray (min a ds.length) (ds.length - min a ds.length)
  simp only [Option.elim, clipAt_nat]
  simp only [List.getElem?_toArray] at this
  rw [this]
  rw [List.take_of_length_le (by simp)]
  by_cases h : a ≤ ds.length
  · rw [Nat.min_eq_left h]
  · rw [Nat.min_eq_right (by omega), List.drop_of_length_le (Nat.le_refl _), List.drop_of_length_le (by omega)]
theorem dpick_upto (ds : List PyData) (b : Nat) : dpick ds none (some b) none = ds.take b := by
  unfold dpick
  rw [sliceBounds_plain]
  simp only [sliceRange_one]
  have := pick_run ds.toArray 0 (min b ds.length - 0)
  simp only [Option.elim, clipAt_nat]
  simp only [List.getElem?_toArray] at this
  rw [this]
  simp only [List.drop_zero, Nat.sub_zero]
  by_cases h : b ≤ ds.length
  · rw [Nat.min_eq_left h]
  · rw [Nat.min_eq_right (by omega), List.take_of_length_le (Nat.le_refl _), List.take_of_length_le (by omega)]
theorem dpick_all (ds : List PyData) : dpick ds none none none = ds := by
  unfold dpick
  rw [sliceBounds_plain]
  simp only [sliceRange_one]
  have := pick_run ds.toArray 0 (ds.length - 0)
  simp only [Option.elim]
  simp only [List.getElem?_toArray] at this
  rw [this]
  simp
theorem dpick_rev (ds : List PyData) : dpick ds none none (some (-1)) = ds.reverse := by
  unfold dpick
  rw [krv_bounds]
  show List.filterMap _ (sliceRange ((ds.length : Int) - 1) (-1) (-1)) = _
  rw [krv_sliceRange, krv_range, List.filterMap_reverse]
  have := krv_all ds.toArray
  simp only [List.getElem?_toArray, List.size_toArray] at this
  rw [this]

section
variable {prog : Program} {w : World} {A : Around} {env : Env} {O : List Addr} {P : Shared → Prop} {e l r value slice : Expr} {pos p : Pos} {a b d : PyData} {ds : List PyData}

def EvP (prog : Program) (w : World) (A : Around) (env : Env) (P : Shared → Prop) (e : Option Expr) (k : Option Int) : Prop :=
  ∀ (s : Shared) (Q E : Value → Shared → Prop), P s → (∀ v s', Ext s s' → IsPart v k → Q v s') → wpAny (model prog w) A (evalPart e env) Q E s
theorem ep_none : EvP prog w A env P none none := fun s Q E p h => by rw [evalPart_none]; exact wpAny_pure (h _ s (.refl s) .none)
theorem ep_int {i : Int} (he : Ev prog w A env O P e (.int i)) : EvP prog w A env P (some e) (some i) := fun s Q E p h => by
  rw [evalPart_some]
  exact he s Q E p fun v s' e' r' => by
    obtain ⟨t, rfl⟩ := r'.int_inv
    exact h _ s' e' (.int i t)

theorem ev_item {i : Int} (c : PO O P) (hv : Ev prog w A env O P value (.list ds)) (hi : Ev prog w A env O P slice (.int i)) (h0 : 0 ≤ i) (hz : i < 2 ^ 62) (hd : ds[i.toNat]? = some d)
    (hs : ∀ l t, subscripted slice false (.ref l) (.int i t) = operate [.ref l, .int i t] (getItem (.ref l) (.int i t)) := by intro _ _; with_unfolding_all rfl) : Ev prog w A env O P (.Subscript value slice pos) d := fun s Q E pp h =>
  Subscript_ (hv s _ E pp fun v s₁ e₁ r₁ => hi s₁ _ E (c.ext pp e₁) fun u s₂ e₂ r₂ => by
    obtain ⟨t, rfl⟩ := r₂.int_inv
    obtain ⟨b, vs, rfl, hl, _, rs⟩ := (r₁.keep e₂.keep).list_inv
    obtain ⟨x, hx, rx⟩ := RDs.get rs hd
    exact tail_any hl.typeIs slot_list_getitem.lookup (wpAny_getItem_list hl h0 (by omega) (by rw [← Array.getElem?_toList]; exact hx) (h x s₂ (e₁.trans e₂) rx)) (hs b t))
theorem ev_last (c : PO O P) (hv : Ev prog w A env O P value (.list ds)) (hi : Ev prog w A env O P slice (.int (-1))) (hd : ds.getLast? = some d)
    (hs : ∀ l t, subscripted slice false (.ref l) (.int (-1) t) = operate [.ref l, .int (-1) t] (getItem (.ref l) (.int (-1) t)) := by intro _ _; with_unfolding_all rfl) : Ev prog w A env O P (.Subscript value slice pos) d := fun s Q E pp h =>
  Subscript_ (hv s _ E pp fun v s₁ e₁ r₁ => hi s₁ _ E (c.ext pp e₁) fun u s₂ e₂ r₂ => by
    obtain ⟨t, rfl⟩ := r₂.int_inv
    obtain ⟨b, vs, rfl, hl, _, rs⟩ := (r₁.keep e₂.keep).list_inv
    have hd' : ds[ds.length - 1]? = some d := by rw [← hd, List.getLast?_eq_getElem?]
    have hne : 0 < ds.length := by
      cases ds with
      | nil => cases hd
      | cons => simp
    have hz : vs.size = ds.length := by rw [← Array.length_toList]; exact rs.length
    obtain ⟨x, hx, rx⟩ := RDs.get rs hd'
    refine tail_any hl.typeIs slot_list_getitem.lookup (wpAny_getItem_list_neg hl (by decide) (by omega) (by decide) (x := x) ?_ (h x s₂ (e₁.trans e₂) rx)) (hs b t)
    rw [← Array.getElem?_toList, ← hx, hz]
    congr 1
    omega)
theorem ev_slice {lower upper step : Option Expr} {lo hi st : Option Int} (c : PO O P) (hv : Ev prog w A env O P value (.list ds)) (hl : EvP prog w A env P lower lo) (hu : EvP prog w A env P upper hi) (hst : EvP prog w A env P step st) (h0 : st ≠ some 0) (hz : ds.length ≤ 1000)
    {ops : Addr → Addr → List Value} (hs : ∀ l i, subscripted (.Slice lower upper step p) false (.ref l) (.ref i) = operate (ops l i) (getItem (.ref l) (.ref i))) : Ev prog w A env O P (.Subscript value (.Slice lower upper step p) pos) (.list (dpick ds lo hi st)) := fun s Q E pp h =>
  Subscript_ (hv s _ E pp fun v s₁ e₁ r₁ => wpAny_Slice (hl s₁ _ E (c.ext pp e₁) fun vl s₂ e₂ p₂ => hu s₂ _ E (c.ext pp (e₁.trans e₂)) fun vu s₃ e₃ p₃ => hst s₃ _ E (c.ext pp ((e₁.trans e₂).trans e₃)) fun vs s₄ e₄ p₄ => by
    have e5 : Ext s₄ { s₄ with heap := s₄.heap.push { cls := .type "slice", data := .fields #[vl, vu, vs] } } := Ext.push _
    have e14 := (e₂.trans e₃).trans (e₄.trans e5)
    obtain ⟨b, items, rfl, hL, _, rs⟩ := (r₁.keep e14.keep).list_inv
    have hsz : items.size = ds.length := by rw [← Array.length_toList]; exact rs.length
    refine tail_any hL.typeIs slot_list_getitem.lookup (wpAny_getItem_list_slice hL (Heap.IsSliceOf.new ..) p₂ p₃ p₄ h0 ?_ (by rw [sizeLine_eq]; omega)) (hs b _)
    refine h _ _ (e₁.trans (e14.trans (Ext.push _))) (RD.list (vs := slicePick items lo hi st) ⟨_, Heap.get?_push_size _ rfl, rfl, _, rfl⟩ (c.hot (c.ext pp (e₁.trans e14))).fresh ?_)
    exact RDs.keep (rds_pick rs lo hi st) fun b o q => Heap.get?_push_of_some _ q))

/-- a name of the top or of the built-ins -/
def Glb (prog : Program) (w : World) (A : Around) (env : Env) (P : Shared → Prop) (x : Str) (v : Value) : Prop :=
  ∀ (pos : Pos) (s : Shared) (Q E : Value → Shared → Prop), P s → Q v s → wpAny (model prog w) A (eval (.Name x pos) env) Q E s
theorem glb_b {x : Str} {v : Value} {mg mb : Str → Option Value} {hT : Heap} (k : EOk env) (T : TopOk mg mb hT) (hP : ∀ s, P s → Keep hT s.heap) (hx : env.kindOf x = some .globalImplicit) (hm : mg x = none) (hb : bootBuiltins x = some v) (hn : x ≠ "__name__")
    (hd : (x == ("__debug__" : Str)) = false := by decide) : Glb prog w A env P x v := fun pos s Q E p h =>
  Name_function_global k.kind hx (loadGlobal_builtin (env := env) (by rw [k.glob]; exact T.g.keeps (hP s p)) hm (by rw [k.bi]; exact T.b.keeps (hP s p)) ((T.builtins x hn).trans hb) h) hd
theorem glb_g {x : Str} {v : Value} {mg mb : Str → Option Value} {hT : Heap} (k : EOk env) (T : TopOk mg mb hT) (hP : ∀ s, P s → Keep hT s.heap) (hx : env.kindOf x = some .globalImplicit) (hm : mg x = some v)
    (hd : (x == ("__debug__" : Str)) = false := by decide) : Glb prog w A env P x v := fun pos s Q E p h =>
  Name_function_global k.kind hx (loadGlobal_global (env := env) (by rw [k.glob]; exact T.g.keeps (hP s p)) hm h) hd

/-- a call's contract, wherever it stands -/
def Cl (prog : Program) (w : World) (A : Around) (P : Shared → Prop) (O : List Addr) (f : Value) (ds : List PyData) (d : PyData) : Prop :=
  ∀ (s : Shared) (vs : List Value) (Q E : Value → Shared → Prop), P s → RDs O s.heap vs ds → (∀ v s', Ext s s' → RD O s'.heap v d → Q v s') → wpAny (model prog w) A (call f vs) Q E s
theorem ev_callb {x : Str} {p' : Pos} {id : String} {es : List Expr} (c : PO O P) (hg : Glb prog w A env P x (.builtin id)) (ha : EvL prog w A env O P (e :: es) ds) (hc : Cl prog w A P O (.builtin id) ds d)
    (hC : eval (.Call (.Name x p') (e :: es) [] pos) env = (do callWith pos (← eval (.Name x p') env) [] (backTo pos (starEach (e :: es) env)) (backToKw pos (keywordEach [] env))) := by rfl)
    (hs : starEach (e :: es) env = (false, eval e env) :: starEach es env := by rfl) (hn : ((backTo pos (starEach es env)).any (·.1)) = false := by rfl) : Ev prog w A env O P (.Call (.Name x p') (e :: es) [] pos) d := fun s Q E pp h =>
  Call_ (hg p' s _ E pp (PyProof.Rows.callWith_builtin1 (ha pos s _ E pp fun vs s₁ e₁ r₁ => hc s₁ vs Q E (c.ext pp e₁) r₁ fun v s₂ e₂ r₂ => h v s₂ (e₁.trans e₂) r₂) hs hn)) hC
theorem ev_callt {x : Str} {p' : Pos} {T : String} {es : List Expr} (c : PO O P) (hg : Glb prog w A env P x (.type T)) (ha : EvL prog w A env O P (e :: es) ds) (hc : Cl prog w A P O (.type T) ds d)
    (hC : eval (.Call (.Name x p') (e :: es) [] pos) env = (do callWith pos (← eval (.Name x p') env) [] (backTo pos (starEach (e :: es) env)) (backToKw pos (keywordEach [] env))) := by rfl)
    (hs : starEach (e :: es) env = (false, eval e env) :: starEach es env := by rfl) (hn : ((backTo pos (starEach es env)).any (·.1)) = false := by rfl) : Ev prog w A env O P (.Call (.Name x p') (e :: es) [] pos) d := fun s Q E pp h =>
  Call_ (hg p' s _ E pp (Pv.callWith_type1 (ha pos s _ E pp fun vs s₁ e₁ r₁ => hc s₁ vs Q E (c.ext pp e₁) r₁ fun v s₂ e₂ r₂ => h v s₂ (e₁.trans e₂) r₂) hs hn)) hC
theorem ev_callf {x : Str} {p' : Pos} {f : Addr} {fo : Obj} {fd : FuncData} {hT : Heap} {es : List Expr} (c : PO O P) (hg : Glb prog w A env P x (.ref f)) (hP : ∀ s, P s → Keep hT s.heap) (hf : hT.get? f = some fo) (hfd : fo.data = .func fd) (ha : EvL prog w A env O P (e :: es) ds)
    (hc : Cl prog w A P O (.ref f) ds d)
    (hC : eval (.Call (.Name x p') (e :: es) [] pos) env = (do callWith pos (← eval (.Name x p') env) [] (backTo pos (starEach (e :: es) env)) (backToKw pos (keywordEach [] env))) := by rfl)
    (hs : starEach (e :: es) env = (false, eval e env) :: starEach es env := by rfl) : Ev prog w A env O P (.Call (.Name x p') (e :: es) [] pos) d := fun s Q E pp h =>
  Call_ (hg p' s _ E pp (callWith_def_at hf hfd (ha pos s _ E pp fun vs s₁ e₁ r₁ => ⟨e₁.keep _ _ (hP s pp _ _ hf), hc s₁ vs Q E (c.ext pp e₁) r₁ fun v s₂ e₂ r₂ => h v s₂ (e₁.trans e₂) r₂⟩) hs)) hC

theorem cl_len (hz : ds.length ≤ 1000) : Cl prog w A P O (.builtin "len") [.list ds] (.int ds.length) := fun s vs Q E pp r h => by
  cases r with
  | cons r₁ t =>
    cases t
    obtain ⟨a, items, rfl, hl, _, rs⟩ := r₁.list_inv
    have hsz : items.size = ds.length := by rw [← Array.length_toList]; exact rs.length
    refine len_list hl (by omega) ?_
    rw [hsz]
    exact h _ _ (Ext.toks _) (.int ..)
theorem cl_int {i : Int} : Cl prog w A P O (.type "int") [.int i] (.int i) := fun s vs Q E pp r h => by
  cases r with
  | cons r₁ t =>
    cases t
    obtain ⟨t, rfl⟩ := r₁.int_inv
    exact call_int_int (h _ _ (.refl s) (.int ..))
theorem cl_chr {i : Int} (h0 : 0 ≤ i) (h1 : i ≤ 1114111) : Cl prog w A P O (.builtin "chr") [.int i] (.str ⟨#[i.toNat]⟩) := fun s vs Q E pp r h => by
  cases r with
  | cons r₁ t =>
    cases t
    obtain ⟨t, rfl⟩ := r₁.int_inv
    exact chr_of_range h0 h1 (h _ _ (Ext.toks _) (.str ..))
end

abbrev Ro := List (Str × RV)
abbrev Om := List (Addr × Bool × List PyData)
abbrev Kn := List Addr → List Addr → Shared → Flow → Shared → Prop

/-- what may be written of a frame's own -/
def wset (env : Env) (κ : List (Str × Addr)) (ω : Om) : List Addr := env.locals :: (κ.map (·.2) ++ ω.map (·.1))

section
variable {env : Env} {hT : Heap} {κ : List (Str × Addr)} {W O : List Addr} {s₀ s s' : Shared} {ρ ρ' : Ro} {ω ω' : Om}

theorem mem_of_lookup {x : Str} {c : Addr} : ∀ {l : List (Str × Addr)}, l.lookup x = some c → c ∈ l.map (·.2)
  | (y, d) :: l, h => by
    rw [List.lookup_cons] at h
    split at h
    · cases h; exact List.mem_cons_self ..
    · exact List.mem_cons_of_mem _ (mem_of_lookup h)
theorem fresh_back {a : Addr} (f : Fm W s₀.heap s.heap) (h : s.heap.get? a = none) : a ∈ W ∨ s₀.heap.get? a = none := by
  by_cases hW : a ∈ W
  · exact .inl hW
  · right
    cases z : s₀.heap.get? a with
    | none => rfl
    | some o => have := f a o z hW; rw [h] at this; cases this

/-- the cells' places are all a name's -/
def CellsOk (κ : List (Str × Addr)) : Prop := ∀ c ∈ κ.map (·.2), ∃ x, κ.lookup x = some c

theorem St.rebase (ck : CellsOk κ) (p : St env hT κ W O s₀ ρ ω s) : St env hT κ (wset env κ ω) O s ρ ω s where
  top := p.top
  topO := p.topO
  fm := Fm.refl _ _
  bare := .refl _ _
  os := rfl
  hot := p.hot
  wo := fun a ha => by
    rcases List.mem_cons.mp ha with rfl | ha
    · exact p.lo
    · rcases List.mem_append.mp ha with ha | ha
      · obtain ⟨x, hx⟩ := ck a ha
        exact (p.cells x a hx).2.1
      · obtain ⟨⟨b, q⟩, hq, rfl⟩ := List.mem_map.mp ha
        exact (p.owns b q hq).1
  ns := p.ns
  lo := p.lo
  lw := .inl (List.mem_cons_self ..)
  cells := fun y c q => let ⟨a, b, d, i, f⟩ := p.cells y c q; ⟨a, b, .inl (List.mem_cons_of_mem _ (List.mem_append_left _ (mem_of_lookup q))), i, f⟩
  vars := p.vars
  owns := fun a ds q => let ⟨i, j, o⟩ := p.owns a ds q; ⟨i, .inl (List.mem_cons_of_mem _ (List.mem_append_right _ (List.mem_map_of_mem (f := (·.1)) q))), o⟩
  nodup := p.nodup

theorem wset_back (ck : CellsOk κ) (p : St env hT κ W O s₀ ρ ω s) {a : Addr} (h : a ∈ wset env κ ω ∨ s.heap.get? a = none) : a ∈ W ∨ s₀.heap.get? a = none := by
  rcases h with h | h
  · rcases List.mem_cons.mp h with rfl | h
    · exact p.lw
    · rcases List.mem_append.mp h with h | h
      · obtain ⟨x, hx⟩ := ck a h
        exact (p.cells x a hx).2.2.1
      · obtain ⟨⟨b, q⟩, hq, rfl⟩ := List.mem_map.mp h
        exact (p.owns b q hq).2.1
  · exact fresh_back p.fm h

theorem St.back {O' : List Addr} (ck : CellsOk κ) (p : St env hT κ W O s₀ ρ ω s) (q : St env hT κ (wset env κ ω) O' s ρ' ω' s') (ho : ∀ a ∈ O, a ∈ O') : St env hT κ W O' s₀ ρ' ω' s' where
  top := q.top
  topO := q.topO
  fm := fun b o e hn => q.fm b o (p.fm b o e hn) fun hb => (wset_back ck p (.inl hb)).elim hn fun z => by rw [e] at z; cases z
  bare := p.bare.trans q.bare
  os := q.os.trans p.os
  hot := q.hot
  wo := fun a ha => ho a (p.wo a ha)
  ns := q.ns
  lo := q.lo
  lw := p.lw
  cells := fun y c z => let ⟨a, b, d, i, f⟩ := q.cells y c z; ⟨a, b, wset_back ck p d, i, f⟩
  vars := q.vars
  owns := fun a ds z => let ⟨i, j, o⟩ := q.owns a ds z; ⟨i, wset_back ck p j, o⟩
  nodup := q.nodup

/-- a thing that is no datum and no cell -/
def Kd (o : Obj) : Prop := (∀ vs n, o.data ≠ .seq vs n) ∧ ∀ v, o.data ≠ .cell v
theorem Kd.of {o : Obj} {vs : Array Value} (hd : o.data = .fields vs) : Kd o := ⟨fun _ _ q => (by rw [hd] at q; cases q), fun _ q => (by rw [hd] at q; cases q)⟩
abbrev Seqs (h : Heap) (as : List Addr) : Prop := ∀ a ∈ as, ∃ o, h.get? a = some o ∧ ∃ vs n, o.data = .seq vs n
mutual
theorem reads_kind {wr : List Addr} {h h' : Heap} (hk : ∀ a ∈ wr, ∃ o, h.get? a = some o ∧ Kd o) (f : Fm wr h h') : ∀ {v : Value} {d : PyData} {as : List Addr}, Reads h v d as → Seqs h as → Reads h' v d as
  | _, _, _, .none, _ => .none
  | _, _, _, .bool b, _ => .bool b
  | _, _, _, .int i t, _ => .int i t
  | _, _, _, .str x t, _ => .str x t
  | _, _, _, .list h1 h2 h3 h4, n => .list (f _ _ h1 fun q => by obtain ⟨o, e, z⟩ := hk _ q; rw [h1] at e; cases e; exact z.1 _ _ h3) h2 h3 (readsAll_kind hk f h4 fun a ha => n a (List.mem_cons_of_mem _ ha))
  | _, _, _, .tuple h1 h2 h3 h4, n => .tuple (f _ _ h1 fun q => by obtain ⟨o, e, z⟩ := hk _ q; rw [h1] at e; cases e; exact z.1 _ _ h3) h2 h3 (readsAll_kind hk f h4 n)
  | _, _, _, .dict h1 h2 h3 h4 h5, n => by
    obtain ⟨o, e, vs, m, z⟩ := n _ (List.mem_cons_self ..)
    rw [h1] at e
    cases e
    rw [h3] at z; cases z
theorem readsAll_kind {wr : List Addr} {h h' : Heap} (hk : ∀ a ∈ wr, ∃ o, h.get? a = some o ∧ Kd o) (f : Fm wr h h') : ∀ {vs : List Value} {ds : List PyData} {as : List Addr}, ReadsAll h vs ds as → Seqs h as → ReadsAll h' vs ds as
  | _, _, _, .nil, _ => .nil
  | _, _, _, .cons h1 h2, n => .cons (reads_kind hk f h1 fun a ha => n a (List.mem_append_left _ ha)) (readsAll_kind hk f h2 fun a ha => n a (List.mem_append_right _ ha))
end
theorem RD.kind {wr : List Addr} {h h' : Heap} {v : Value} {d : PyData} (x : RD O h v d) (hk : ∀ a ∈ wr, ∃ o, h.get? a = some o ∧ Kd o) (f : Fm wr h h') : RD O h' v d := let ⟨as, r, n⟩ := x; ⟨as, reads_kind hk f r fun a ha => (n a ha).2, fun a ha => ⟨(n a ha).1, by
  obtain ⟨o, e, vs, m, c⟩ := (n a ha).2
  exact ⟨o, f _ _ e fun q => by obtain ⟨o', e', z⟩ := hk _ q; rw [e] at e'; cases e'; exact z.1 _ _ c, vs, m, c⟩⟩⟩
theorem RDs.kind {wr : List Addr} {h h' : Heap} {vs ds} (x : RDs O h vs ds) (hk : ∀ a ∈ wr, ∃ o, h.get? a = some o ∧ Kd o) (f : Fm wr h h') : RDs O h' vs ds := Paired.mono (fun _ _ r => RD.kind r hk f) x

/-- things of an iterator's own move -/
theorem St.step {wr : List Addr} {gs : List Nat} (p : St env hT κ W O s₀ ρ ω s) (f : Fm wr s.heap s'.heap) (hb : Gk gs s.gens s'.gens) (hgs : ∀ g ∈ gs, s₀.gens[g]? = none) (hos : s'.os = s.os) (hwO : ∀ a ∈ wr, a ∉ O) (hw : ∀ a ∈ wr, s₀.heap.get? a = none) (hwT : ∀ a ∈ wr, hT.get? a = none)
    (hk : ∀ a ∈ wr, ∃ o, s.heap.get? a = some o ∧ Kd o) : St env hT κ W O s₀ ρ ω s' := by
  have nl : env.locals ∉ wr := fun q => hwO _ q p.lo
  have nc : ∀ {c v}, s.heap.IsCell c v → c ∉ wr := fun {c v} i q => by
    obtain ⟨o, ho, hd⟩ := hk _ q
    obtain ⟨o', ho', hd'⟩ := i
    rw [ho] at ho'; cases ho'; exact hd.2 _ hd'
  have nlst : ∀ {a vs}, s.heap.IsList a vs → a ∉ wr := fun {a vs} l q => by
    obtain ⟨o, ho, hd⟩ := hk _ q
    obtain ⟨o', ho', hc, n, hd'⟩ := l
    rw [ho] at ho'; cases ho'; exact hd.1 _ _ hd'
  refine ⟨(fun b o e => f b o (p.top b o e) fun q => by have := hwT b q; rw [e] at this; cases this), p.topO,
    (fun b o e hn => f b o (p.fm b o e hn) fun q => by have := hw b q; rw [e] at this; cases this), p.bare.then hb hgs, hos.trans p.os,
    (fun a ha => let ⟨o, ho, n⟩ := p.hot a ha; ⟨o, f _ _ ho fun q => hwO a q ha, n⟩), p.wo,
    (let ⟨m, n⟩ := p.ns; ⟨m, n.at' fun o e => f _ o e nl⟩), p.lo, p.lw, fun y c q => ?_, fun y r q => ?_, fun a ds q => ?_, p.nodup⟩
  · obtain ⟨a, b, d, ⟨v, i⟩, g⟩ := p.cells y c q
    have := nc i
    obtain ⟨o, ho, hd⟩ := i
    exact ⟨a, b, d, ⟨v, o, f _ _ ho this, hd⟩, g⟩
  · have va : ∀ v, VarAt env s.heap y v → VarAt env s'.heap y v := fun v z => by
      rcases z with ⟨a, m, n, e⟩ | ⟨a, c, e, i⟩
      · exact .inl ⟨a, m, n.at' fun o e => f _ o e nl, e⟩
      · have := nc i
        obtain ⟨o, ho, hd⟩ := i
        exact .inr ⟨a, c, e, o, f _ _ ho this, hd⟩
    have z := p.vars y r q
    cases r with
    | d d => obtain ⟨v, a, r⟩ := z; exact ⟨v, va v a, r.kind hk f⟩
    | own a => exact va _ z
  · obtain ⟨i, j, vs, l, pl, r⟩ := p.owns a ds q
    have := nlst l
    exact ⟨i, j, vs, (let ⟨o, ho, z⟩ := l; ⟨o, f _ _ ho this, z⟩), (fun z => (pl z).at fun o e => f _ _ e this), RDs.kind r hk f⟩

/-- a list of one's own is handed on: a datum from here -/
theorem St.freeze {a : Addr} {bp : Bool} {ds : List PyData} {x : Str} {O' : List Addr} (p : St env hT κ W O s₀ ρ ((a, bp, ds) :: ω) s) (hx : ρ.lookup x = some (.own a)) (hW : a ∉ W) (ho : ∀ b, b ∈ O' ↔ b ∈ O ∧ b ≠ a) :
    St env hT κ W O' s₀ ((x, .d (.list ds)) :: ρ) ω s := by
  obtain ⟨aO, aW, vs, l, pl, r⟩ := p.owns a (bp, ds) (List.mem_cons_self ..)
  obtain ⟨m, hn⟩ := p.ns
  have sub : ∀ b ∈ O', b ∈ O := fun b hb => ((ho b).mp hb).1
  have nd := List.nodup_cons.mp p.nodup
  have q : St env hT κ W O' s₀ ρ ω s := p.weaken sub (fun b hb => (ho b).mpr ⟨p.wo b hb, fun e => hW (e ▸ hb)⟩) ((ho _).mpr ⟨p.lo, ns_ne_list hn l⟩)
    (fun y c z => by
      obtain ⟨_, cO, _, ⟨v, i⟩, _⟩ := p.cells y c z
      exact (ho _).mpr ⟨cO, Ne.symm (list_ne_cell l i)⟩) (fun _ _ h => h) (fun z hz => List.mem_cons_of_mem _ hz)
    (fun z hz => (ho _).mpr ⟨(p.owns z.1 z.2 (List.mem_cons_of_mem _ hz)).1, fun e => nd.1 (List.mem_map.mpr ⟨z, hz, e⟩)⟩) nd.2
  refine { q with vars := fun y r' z => ?_ }
  by_cases hy : y = x
  · subst hy
    rw [lookup_cons_eq] at z
    cases z
    exact ⟨.ref a, p.vars y _ hx, RD.list l (fun z => ((ho _).mp z).2 rfl) (RDs.sub r sub)⟩
  · rw [lookup_cons_ne hy] at z
    exact q.vars y r' z
end

def rt (_ : Env) (_ : Heap) (_ : List (Str × Addr)) (d : PyData) : Kn := fun W B s₀ f s' => ∃ v, f = .ret v ∧ (Fm W s₀.heap s'.heap ∧ Gk [] s₀.gens s'.gens ∧ s'.os = s₀.os) ∧ RD B s'.heap v d
section
variable (prog : Program) (w : World) (A : Around) (env : Env) (hT : Heap) (κ : List (Str × Addr))

structure EvS (ρ : Ro) (ω : Om) (e : Expr) (d : PyData) : Prop where
  run : ∀ W O s₀, Ev prog w A env O (St env hT κ W O s₀ ρ ω) e d
structure TstS (ρ : Ro) (ω : Om) (e : Expr) (b : Bool) : Prop where
  run : ∀ W O s₀, Tst prog w A env (St env hT κ W O s₀ ρ ω) e b
/-- from such a state the rows run, and end so; the lists X were made here -/
structure Go (X : List Addr) (ρ : Ro) (ω : Om) (st : List Stmt) (K : Kn) : Prop where
  run : ∀ W B O s₀ s (E : Value → Shared → Prop), (∀ a ∈ X, a ∉ B ∧ a ∉ W) → (∀ a ∈ B, a ∈ O) → St env hT κ W O s₀ ρ ω s → wpAny (model prog w) A (execs st env) (K W B s₀) E s
def nx (ρ : Ro) (ω : Om) : Kn := fun W B s₀ f s' => f = .next ∧ ∃ O₂, (∀ a ∈ B, a ∈ O₂) ∧ St env hT κ W O₂ s₀ ρ ω s'
end

section
variable {prog : Program} {w : World} {A : Around} {env : Env} {hT : Heap} {κ : List (Str × Addr)} {X : List Addr} {ρ ρ' : Ro} {ω ω' : Om} {K : Kn} {rest : List Stmt} {pos p₁ p₂ p₃ : Pos} {e : Expr} {d : PyData} {x : Str}

theorem go_nil (hr : ∀ y r, ρ'.lookup y = some r → ρ.lookup y = some r) (hω : ∀ p ∈ ω', p ∈ ω) (hn : (ω.map (·.1)).Nodup → (ω'.map (·.1)).Nodup) : Go prog w A env hT κ X ρ ω [] (nx env hT κ ρ' ω') := .mk fun W B O s₀ s E hX hB p =>
  wpAny_execs_nil ⟨rfl, O, hB, p.weaken (fun _ h => h) p.wo p.lo (fun y c q => (p.cells y c q).2.1) hr hω (fun z hz => (p.owns z.1 z.2 (hω _ hz)).1) (hn p.nodup)⟩
theorem go_names (hr : ∀ y r, ρ'.lookup y = some r → ρ.lookup y = some r) (h : Go prog w A env hT κ X ρ' ω rest K) : Go prog w A env hT κ X ρ ω rest K := .mk fun W B O s₀ s E hX hB p => h.run W B O s₀ s E hX hB (p.names hr)

theorem noclass (k : EOk env) : (env.scope.kind == .class || (env.scope.kind == .module && env.locals != env.globals)) = false := by rw [k.kind]; rfl

theorem go_assign (k : EOk env) (he : EvS prog w A env hT κ ρ ω e d) (hl : env.kindOf x = some .local) (h : Go prog w A env hT κ X ((x, .d d) :: ρ) ω rest K)
    (hs : swapsWith e (some (.Name x p₁)) pos.line env = pure false := by rfl) : Go prog w A env hT κ X ρ ω (.Assign [.Name x p₁] e pos :: rest) K := .mk fun W B O s₀ s E hX hB p =>
  wpAny_execs_cons (wpAny_Assign_Name (he.run W O s₀ s _ E p fun v s₁ e₁ r₁ => by
    have q := p.ext e₁
    obtain ⟨m, hn⟩ := q.ns
    exact wpAny_storeName_local hl hn (fun h' hn' hs' => h.run W B O s₀ _ E hX hB (q.store (r := .d d) hl hn hn' hs' r₁)) (noclass k)) hs)
theorem go_assignC {c : Addr} (k : EOk env) (he : EvS prog w A env hT κ ρ ω e d) (hl : env.kindOf x = some .cell) (hc : κ.lookup x = some c) (h : Go prog w A env hT κ X ((x, .d d) :: ρ) ω rest K)
    (hs : swapsWith e (some (.Name x p₁)) pos.line env = pure false := by rfl) : Go prog w A env hT κ X ρ ω (.Assign [.Name x p₁] e pos :: rest) K := .mk fun W B O s₀ s E hX hB p =>
  wpAny_execs_cons (wpAny_Assign_Name (he.run W O s₀ s _ E p fun v s₁ e₁ r₁ => by
    have q := p.ext e₁
    obtain ⟨cl, _, _, ⟨v₀, i⟩, _⟩ := q.cells x c hc
    exact wpAny_storeName_cell k.kind hl cl i fun h' hi' hs' => h.run W B O s₀ _ E hX hB (q.storeC (r := .d d) hl hc i hi' hs' r₁)) hs)
theorem go_ret (he : EvS prog w A env hT κ ρ ω e d) : Go prog w A env hT κ X ρ ω (.Return (some e) pos :: rest) (rt env hT κ d) := .mk fun W B O s₀ s E hX hB p =>
  wpAny_execs_cons (wpAny_Return_some (he.run W O s₀ s _ E p fun v s₁ e₁ r₁ => ⟨v, rfl, ⟨(p.ext e₁).fm, (p.ext e₁).bare, (p.ext e₁).os⟩, r₁.sub hB⟩))
theorem go_freeze {a : Addr} {bp : Bool} {ds : List PyData} (ha : a ∈ X) (hx : ρ.lookup x = some (.own a)) (h : Go prog w A env hT κ X ((x, .d (.list ds)) :: ρ) ω rest K) :
    Go prog w A env hT κ X ρ ((a, bp, ds) :: ω) rest K := .mk fun W B O s₀ s E hX hB p =>
  h.run W B (O.filter (· ≠ a)) s₀ s E hX (fun b hb => List.mem_filter.mpr ⟨hB b hb, by
    have : b ≠ a := fun e => (hX a ha).1 (by rw [← e]; exact hb)
    simpa using this⟩) (p.freeze hx (hX a ha).2 fun b => by simp)
theorem go_if {test : Expr} {body orelse : List Stmt} {b : Bool} {ρ₁ : Ro} {ω₁ : Om} (ht : TstS prog w A env hT κ ρ ω test b) (hb : Go prog w A env hT κ X ρ ω (if b = true then body else orelse) (nx env hT κ ρ₁ ω₁)) (h : Go prog w A env hT κ X ρ₁ ω₁ rest K) :
    Go prog w A env hT κ X ρ ω (.If test body orelse pos :: rest) K := .mk fun W B O s₀ s E hX hB p =>
  wpAny_execs_cons (wpAny_If (ht.run W O s₀ s _ E p fun s₁ e₁ => by
    have go : wpAny (model prog w) A (execs (if b = true then body else orelse) env) (fun f s' => match f with | .next => wpAny (model prog w) A (execs rest env) (K W B s₀) E s' | f => K W B s₀ f s') E s₁ :=
      wpAny_mono (hb.run W B O s₀ s₁ E hX hB (p.ext e₁)) (fun f s' ⟨hf, O₂, ho, q⟩ => by
        subst hf
        exact h.run W B O₂ s₀ s' E hX ho q) fun _ _ z => z
    cases b <;> exact go))

theorem go_aug {op : Operator} {a : PyData} {r : PyData} (k : EOk env) (hl : env.kindOf x = some .local) (hx : ρ.lookup x = some (.d a)) (he : EvS prog w A env hT κ ρ ω e d)
    (ho : ∀ (O : List Addr) (s : Shared) (v u : Value) (Q E : Value → Shared → Prop), Hot O s.heap → RD O s.heap v a → RD O s.heap u d → (∀ z s', Ext s s' → RD O s'.heap z r → Q z s') → wpAny (model prog w) A (inplaceOp op v u) Q E s)
    (h : Go prog w A env hT κ X ((x, .d r) :: ρ) ω rest K) : Go prog w A env hT κ X ρ ω (.AugAssign (.Name x p₁) op e pos :: rest) K := .mk fun W B O s₀ s E hX hB p =>
  wpAny_execs_cons (wpAny_AugAssign_Name (by
    obtain ⟨v, at', ra⟩ := p.vars x _ hx
    rcases at' with ⟨_, m, hn, hm⟩ | ⟨hc, _⟩
    · refine wpAny_loadName_local k.kind hl hn hm (he.run W O s₀ s _ E p fun u s₁ e₁ r₁ => ho O s₁ v u _ E (p.ext e₁).hot (ra.keep e₁.keep) r₁ fun z s₂ e₂ r₂ => ?_)
      have q := p.ext (e₁.trans e₂)
      obtain ⟨m, hn⟩ := q.ns
      exact wpAny_storeName_local hl hn (fun h' hn' hs' => h.run W B O s₀ _ E hX hB (q.store (r := .d r) hl hn hn' hs' r₂)) (noclass k)
    · rw [hl] at hc; cases hc))
end
theorem RDs.length {O : List Addr} {h : Heap} {vs : List Value} {ds : List PyData} (x : RDs O h vs ds) : vs.length = ds.length := Paired.length x

structure IterAt (prog : Program) (w : World) (A : Around) (target : Expr) (it : Addr) (gs : List Nat) (ds : List PyData) (J : List Addr → List Addr → Nat → Shared → Prop) : Prop where
  kind : ∀ {wr O i s}, J wr O i s → ∀ a ∈ wr, ∃ o, s.heap.get? a = some o ∧ Kd o
  turn : ∀ (wr O : List Addr) (i : Nat) (d : PyData) (s : Shared) (Q : Value → Shared → Prop) (E : Value → Shared → Prop), ds[i]? = some d → J wr O i s → Hot O s.heap →
    (∀ v s' wr', Fm wr s.heap s'.heap → Gk gs s.gens s'.gens → s'.os = s.os → (∀ a ∈ wr', a ∈ wr ∨ s.heap.get? a = none) → J wr' O (i + 1) s' → RD O s'.heap v d → Q v s') →
    wpAny (model prog w) A (pyNext (.ref it)) (fun r s₁ => match r with | some v => wpAny (model prog w) A (letOwnedTupleGo target (.ref it) v) (fun _ s₂ => Q v s₂) E s₁ | none => False) E s
  done : ∀ (wr O : List Addr) (s : Shared) (Q : Option Value → Shared → Prop) (E : Value → Shared → Prop), J wr O ds.length s →
    (∀ s', Fm wr s.heap s'.heap → Gk gs s.gens s'.gens → s'.os = s.os → Q none s') → wpAny (model prog w) A (pyNext (.ref it)) Q E s
  frame : ∀ {wr O W i s s'}, J wr O i s → Fm W s.heap s'.heap → (∀ a ∈ W, a ∈ O) → Hot O s.heap → (∀ a ∈ wr, a ∉ W) → Gk [] s.gens s'.gens → J wr O i s'
  keep : ∀ {wr O i s s'}, J wr O i s → Ext s s' → J wr O i s'
  more : ∀ {wr O i s a}, J wr O i s → s.heap.get? a = none → J wr (a :: O) i s
  self : ∀ (wr O : List Addr) (i : Nat) (s : Shared) (Q : Value → Shared → Prop) (E : Value → Shared → Prop), J wr O i s → Q (.ref it) s → wpAny (model prog w) A (pyIter (.ref it)) Q E s

section
variable {prog : Program} {w : World} {A : Around} {E : Value → Shared → Prop} {s : Shared} {target : Expr}

theorem lot_plain {it : Addr} {v : Value} {o : Obj} {n : String} {Q : Unit → Shared → Prop} (ho : s.heap.get? it = some o) (hc : o.cls = .type n)
    (hn : (["enumerate", "zip", "dict_itemiterator", "dict_reverseitemiterator", "odict_iterator", "itertools.zip_longest", "itertools.pairwise"] : List String).contains n = false) (h : Q () s) : wpAny (model prog w) A (letOwnedTupleGo target (.ref it) v) Q E s := by
  have go : wpAny (model prog w) A (do
    let (.ref r, .ref a) := (Value.ref it, v) | return
    let o ← load r
    match o.cls, o.data with
    | .type n, .fields vs =>
      if ["enumerate", "zip", "dict_itemiterator", "dict_reverseitemiterator", "odict_iterator", "itertools.zip_longest", "itertools.pairwise"].contains n && vs[0]? == some (rawInt a) then
        rule "for.unpacks-the-owned-tuple"
        updateField r 0 .none
    | _, _ => pure ()) Q E s := by
    cases v with
    | ref a =>
      refine wpAny_bind (wpAny_load ho ?_)
      obtain ⟨c, d, dt, sl⟩ := o
      subst hc
      cases dt <;> first | exact wpAny_pure h | (dsimp only; rw [if_neg (by rw [hn]; simp)]; exact wpAny_pure h)
    | _ => exact wpAny_pure h
  cases target with
  | Tuple => exact go
  | List => exact go
  | _ => exact wpAny_pure h

theorem iter_list (hh : A.handled = none) (it ax : Addr) (hne : ax ≠ it) (items : Array Value) (ds : List PyData) :
    IterAt prog w A target it [] ds (fun wr O i s => wr = [it] ∧ s.heap.IsListIter it ax i ∧ s.heap.IsList ax items ∧ ax ∉ O ∧ RDs O s.heap items.toList ds) where
  kind := fun j a ha => by
    obtain ⟨rfl, ⟨o, ho, hc, hd⟩, _⟩ := j
    rw [List.mem_singleton.mp ha]
    exact ⟨o, ho, .of hd⟩
  turn := fun wr O i d s Q E hd j ht hQ => by
    obtain ⟨rfl, j⟩ := j
    obtain ⟨v, hv, rv⟩ := RDs.get j.2.2.2 hd
    have kd : ∀ a ∈ [it], ∃ o, s.heap.get? a = some o ∧ Kd o := fun a ha => by
      rw [List.mem_singleton.mp ha]
      obtain ⟨⟨o, ho, hc, hd⟩, _⟩ := j
      exact ⟨o, ho, .of hd⟩
    refine wpAny_pyNext_list_item j.1 j.2.1 (x := v) (by rw [← Array.getElem?_toList]; exact hv) fun h' hit' hs' => ?_
    obtain ⟨o, ho, hc, hd'⟩ := id hit'
    refine lot_plain (o := o) ho hc (by decide) ?_
    exact hQ v _ _ (Fm.of_same hs') (.refl _ _) rfl (fun _ z => .inl z) ⟨rfl, hit', j.2.1.extBut hs'.extBut hne, j.2.2.1, RDs.kind j.2.2.2 kd (Fm.of_same hs')⟩ (RD.kind rv kd (Fm.of_same hs'))
  done := fun wr O s Q E j hQ => by
    obtain ⟨rfl, j⟩ := j
    refine wpAny_pyNext_list_end hh j.1 j.2.1 ?_ fun h' he => hQ _ (Fm.of_extBut he) (.refl _ _) rfl
    have := RDs.length j.2.2.2
    rw [Array.length_toList] at this
    exact Array.getElem?_eq_none (by omega)
  frame := fun {wr O W i s s'} j f hw ht hn _ => by
    obtain ⟨rfl, j⟩ := j
    exact ⟨rfl, j.1.at fun o e => f _ _ e (hn _ (List.mem_singleton.mpr rfl)), j.2.1.at fun o e => f _ _ e fun q => j.2.2.1 (hw _ q), j.2.2.1, RDs.fm j.2.2.2 ht hw f⟩
  keep := fun {wr O i s s'} j k => by
    obtain ⟨rfl, j⟩ := j
    exact ⟨rfl, j.1.at fun o e => k.keep _ _ e, j.2.1.at fun o e => k.keep _ _ e, j.2.2.1, RDs.keep j.2.2.2 k.keep⟩
  more := fun {wr O i s a} j ha => ⟨j.1, j.2.1, j.2.2.1, fun q => (List.mem_cons.mp q).elim (fun e => by
    obtain ⟨o, ho, _⟩ := j.2.2.1
    rw [e, ha] at ho; cases ho) j.2.2.2.1, RDs.more j.2.2.2.2 ha⟩
  self := fun wr O i s Q E j hQ => wpAny_pyIter_listiter j.2.1 hQ

theorem iter_range (hh : A.handled = none) (it : Addr) (a c : Int) (n : Nat) :
    IterAt prog w A target it [] ((List.range n).map fun i => .int (a + (i : Nat) * c)) (fun wr O i s => wr = [it] ∧ IsRangeIter s.heap it (a + (i : Nat) * c) ((n : Int) - (i : Nat)) c) where
  kind := fun j b hb => by rw [j.1] at hb; rw [List.mem_singleton.mp hb]; exact ⟨_, j.2, .of rfl⟩
  turn := fun wr O i d s Q E hd j ht hQ => by
    obtain ⟨rfl, j⟩ := j
    have hi : i < n := by
      have := (List.getElem?_eq_some_iff.mp hd).1
      simpa using this
    have ed : d = .int (a + (i : Nat) * c) := by
      rw [List.getElem?_map, List.getElem?_range hi] at hd
      simpa using hd.symm
    subst ed
    refine wpAny_pyNext_range_item j (by omega) fun h' hj hs' => ?_
    refine lot_plain (o := _) hj rfl (by decide) ?_
    refine hQ _ _ _ (Fm.of_same hs') (.refl _ _) rfl (fun _ z => .inl z) ⟨rfl, ?_⟩ (.int ..)
    have e1 : a + (i : Nat) * c + c = a + ((i + 1 : Nat) : Int) * c := by rw [Int.natCast_add, Int.add_mul]; simp [Int.add_assoc]
    have e2 : (n : Int) - (i : Nat) - 1 = (n : Int) - ((i + 1 : Nat) : Int) := by omega
    rw [← e1, ← e2]; exact hj
  done := fun wr O s Q E j hQ => by
    obtain ⟨rfl, j⟩ := j
    refine wpAny_pyNext_range_end hh j (by simp) fun h' he => hQ _ (Fm.of_extBut he) (.refl _ _) rfl
  frame := fun {wr O W i s s'} j f hw ht hn _ => by
    obtain ⟨rfl, j⟩ := j
    exact ⟨rfl, f _ _ j (hn _ (List.mem_singleton.mpr rfl))⟩
  keep := fun j k => ⟨j.1, k.keep _ _ j.2⟩
  more := fun j _ => j
  self := fun wr O i s Q E j hQ => wpAny_pyIter_rangeiter j.2 hQ

theorem iter_enum (hh : A.handled = none) (e it l : Addr) (hei : e ≠ it) (hle : l ≠ e) (hli : l ≠ it) (items : Array Value) (ds : List PyData) (elts : List Expr) (k : Nat) (tp : Pos) (ht : target = .Tuple elts k tp) :
    IterAt prog w A target e [] (ds.zipIdx.map fun p => .tuple [.int (p.2 : Nat), p.1]) (fun wr O i s => wr = [e, it] ∧ (∃ old, IsEnum s.heap e it i old) ∧ s.heap.IsListIter it l i ∧ s.heap.IsList l items ∧ l ∉ O ∧ RDs O s.heap items.toList ds) where
  kind := fun j a ha => by
    obtain ⟨rfl, ⟨old, he⟩, ⟨o, ho, hc, hd⟩, _⟩ := j
    rcases List.mem_cons.mp ha with rfl | ha
    · exact ⟨_, he, .of rfl⟩
    · rw [List.mem_singleton.mp ha]; exact ⟨o, ho, .of hd⟩
  turn := fun wr O i d s Q E hd j hot hQ => by
    subst ht
    obtain ⟨rfl, ⟨old, he⟩, hit, hl, hlO, rs⟩ := j
    have hd2 : ∃ d', ds[i]? = some d' ∧ d = .tuple [.int (i : Nat), d'] := by
      rw [List.getElem?_map, List.getElem?_zipIdx] at hd
      cases e1 : ds[i]? with
      | none => rw [e1] at hd; simp at hd
      | some d' => rw [e1] at hd; simp at hd; exact ⟨d', rfl, hd.symm⟩
    obtain ⟨d', hd', rfl⟩ := hd2
    obtain ⟨v, hv, rv⟩ := RDs.get rs hd'
    have kd : ∀ a ∈ [e, it], ∃ o, s.heap.get? a = some o ∧ Kd o := fun a ha => by
      rcases List.mem_cons.mp ha with rfl | ha
      · exact ⟨_, he, .of rfl⟩
      · rw [List.mem_singleton.mp ha]; obtain ⟨o, ho, hc, hd⟩ := hit; exact ⟨o, ho, .of hd⟩
    refine wpAny_pyNext_enum_item he hit hl (x := v) (by rw [← Array.getElem?_toList]; exact hv) hei fun h' ho hit' hT hsz hk => ?_
    refine wpAny_letOwnedTupleGo_enum ho fun h₂ he₂ hs₂ => ?_
    have hTe : s.heap.objs.size ≠ e := Nat.ne_of_gt (Heap.lt_size he)
    have f1 : Fm [e, it] s.heap h' := fun b o eb hn => hk b o (fun q => hn (by simp [q])) (fun q => hn (by simp [q])) eb
    have f2 : Fm [e, it] h' h₂ := (Fm.of_same hs₂).sub fun b hb => by rw [List.mem_singleton.mp hb]; simp
    have f12 := f1.trans f2
    have rv' := RD.kind rv kd f12
    refine hQ _ _ _ f12 (.refl _ _) rfl (fun _ z => .inl z) ⟨rfl, ⟨_, by simpa using he₂⟩, hit'.extBut hs₂.extBut (Ne.symm hei), (hl.at fun o z => f12 _ _ z (by simp [hle, hli])), hlO, RDs.kind rs kd f12⟩ ?_
    exact RD.tup (vs := #[.int i s.toks, v]) ⟨_, (hs₂.2 _ hTe).trans hT, rfl, _, rfl⟩ (.cons (.int ..) (.cons rv' .nil))
  done := fun wr O s Q E j hQ => by
    obtain ⟨rfl, ⟨old, he⟩, hit, hl, hlO, rs⟩ := j
    have hz : items.size = ds.length := by rw [← Array.length_toList]; exact RDs.length rs
    rw [List.length_map, List.length_zipIdx] at he hit
    refine wpAny_pyNext_enum_end hh he hit hl (Array.getElem?_eq_none (by omega)) fun h' hx => hQ _ ((Fm.of_extBut hx).sub fun b hb => by rw [List.mem_singleton.mp hb]; simp) (.refl _ _) rfl
  frame := fun {wr O W i s s'} j f hw hot hn _ => by
    obtain ⟨rfl, ⟨old, he⟩, hit, hl, hlO, rs⟩ := j
    exact ⟨rfl, ⟨old, f _ _ he (hn _ (by simp))⟩, hit.at fun o z => f _ _ z (hn _ (by simp)), hl.at fun o z => f _ _ z fun q => hlO (hw _ q), hlO, RDs.fm rs hot hw f⟩
  keep := fun {wr O i s s'} j k => by
    obtain ⟨rfl, ⟨old, he⟩, hit, hl, hlO, rs⟩ := j
    exact ⟨rfl, ⟨old, k.keep _ _ he⟩, hit.at fun o z => k.keep _ _ z, hl.at fun o z => k.keep _ _ z, hlO, RDs.keep rs k.keep⟩
  more := fun {wr O i s a} j ha => ⟨j.1, j.2.1, j.2.2.1, j.2.2.2.1, fun q => (List.mem_cons.mp q).elim (fun e => by
    obtain ⟨o, ho, _⟩ := j.2.2.2.1
    rw [e, ha] at ho; cases ho) j.2.2.2.2.1, RDs.more j.2.2.2.2.2 ha⟩
  self := fun wr O i s Q E j hQ => by
    obtain ⟨_, ⟨old, he⟩, _⟩ := j
    exact wpAny_pyIter_enum he hQ
end

/-- the loop over an iterator, whatever its target -/
theorem code_for {prog : Program} {w : World} {A : Around} {s : Shared} {R : Result → Shared → Prop} {target : Expr} {it : Value} {body orelse : List Stmt} {env : Env} (I : Nat → Shared → Prop)
    (turn : ∀ n s, I n s → wpAny (model prog w) A (pyNext it) (fun r s₁ => match r with
      | none => wpAny (model prog w) A (execs orelse env) (fun f s₃ => R (.ok f) s₃) (notedBy (model prog w) A env fun e s' => R (.error e) s') s₁
      | some v => wpAny (model prog w) A (letOwnedTupleGo target it v) (fun _ s₁' => wpAny (model prog w) A (assign target env v) (fun _ s₂ => wpAny (model prog w) A (execs body env) (fun f s₃ => match f with
          | .next | .cont => ∃ m, m < n ∧ I m s₃
          | .brk => R (.ok .next) s₃
          | .ret v => R (.ok (.ret v)) s₃) (notedBy (model prog w) A env fun e s' => R (.error e) s') s₂) (notedBy (model prog w) A env fun e s' => R (.error e) s') s₁') (notedBy (model prog w) A env fun e s' => R (.error e) s') s₁)
        (notedBy (model prog w) A env fun e s' => R (.error e) s') s)
    (n : Nat) (h : I n s) : codeAny (model prog w) A (.forLoop target it body orelse env) R s := by
  refine codeAny_loop' rfl I (fun n s hI => ?_) n h
  show wpAny _ _ ((forTurn target it body orelse env).onRaise (fun x => do noteFrame x env; theTreesLotGoes x)) _ _ s
  refine wpAny_noted ?_
  simp only [forTurn]
  refine wpAny_bind (wpAny_standAt (wpAny_bind (wpAny_onRaise (wpAny_mono (turn n s hI) (fun r s₁ h₁ => ?_) fun _ _ z => wpAny_standAt z))))
  cases r with
  | none => exact wpAny_pure (.inr ⟨rfl, codeAny_block h₁⟩)
  | some v =>
    refine wpAny_bind (wpAny_mono h₁ (fun _ s₁' h₁' => ?_) fun _ _ z => z)
    refine wpAny_bind (wpAny_mono h₁' (fun _ s₂ h₂ => wpAny_bind (wpAny_mono h₂ (fun f s₃ h₃ => ?_) fun _ _ z => z)) fun _ _ z => z)
    cases f with
    | next => exact wpAny_pure (.inl ⟨rfl, h₃⟩)
    | cont => exact wpAny_pure (.inl ⟨rfl, h₃⟩)
    | brk => exact wpAny_pure h₃
    | ret v => exact wpAny_pure h₃

section
variable (prog : Program) (w : World) (A : Around) (env : Env) (hT : Heap) (κ : List (Str × Addr))
structure IterEv (ρ : Ro) (ω : Om) (iter target : Expr) (ds : List PyData) : Prop where
  run : ∀ W O s₀ s (Q : Value → Shared → Prop) (E : Value → Shared → Prop), St env hT κ W O s₀ ρ ω s →
    (∀ it wr gs J s', Ext s s' → IterAt prog w A target it gs ds J → J wr O 0 s' → (∀ a ∈ wr, s.heap.get? a = none) → (∀ g ∈ gs, s.gens[g]? = none) → Q (.ref it) s') →
    wpAny (model prog w) A (eval iter env) (fun x s₁ => wpAny (model prog w) A (pyIter x) Q E s₁) E s
/-- what a target's names are behind a turn's start -/
structure Asg (target : Expr) (d : PyData) (bs : Ro) : Prop where
  run : ∀ W O s₀ (ρ : Ro) (ω : Om) s v (Q : Unit → Shared → Prop) (E : Value → Shared → Prop), St env hT κ W O s₀ ρ ω s → RD O s.heap v d → (∀ s', St env hT κ W O s₀ (bs ++ ρ) ω s' → Q () s') → wpAny (model prog w) A (assign target env v) Q E s
end

section
variable {prog : Program} {w : World} {A : Around} {env : Env} {hT : Heap} {κ : List (Str × Addr)} {X : List Addr} {ρ ρ' : Ro} {ω ω' : Om} {K : Kn} {rest : List Stmt} {pos p₁ p₂ p₃ p₄ : Pos} {e e₁ e₂ e₃ iter target : Expr} {d d₁ d₂ d₃ : PyData} {x y z : Str} {ds : List PyData}

theorem asg_name (k : EOk env) (hl : env.kindOf x = some .local) : Asg prog w A env hT κ (.Name x p₁) d [(x, .d d)] := .mk fun W O s₀ ρ ω s v Q E p r h => by
  obtain ⟨m, hn⟩ := p.ns
  exact wpAny_assign_Name (wpAny_storeName_local hl hn (fun h' hn' hs' => h _ (p.store (r := .d d) hl hn hn' hs' r)) (noclass k))
theorem asg_cell {c : Addr} (k : EOk env) (hl : env.kindOf x = some .cell) (hc : κ.lookup x = some c) : Asg prog w A env hT κ (.Name x p₁) d [(x, .d d)] := .mk fun W O s₀ ρ ω s v Q E p r h => by
  obtain ⟨cl, _, _, ⟨v₀, i⟩, _⟩ := p.cells x c hc
  exact wpAny_assign_Name (wpAny_storeName_cell k.kind hl cl i fun h' hi' hs' => h _ (p.storeC (r := .d d) hl hc i hi' hs' r))
theorem ext_but {s : Shared} {h' : Heap} (he : Heap.ExtBut s.heap.objs.size s.heap h') (n : Nat) : Ext s { s with heap := h', toks := n } :=
  ⟨fun b o z => he b o (Nat.ne_of_lt (Heap.lt_size z)) z, .refl _ _, rfl⟩
theorem asg_tup2 {i : Nat} (k : EOk env) (hh : A.handled = none) (hx : env.kindOf x = some .local) (hy : env.kindOf y = some .local) :
    Asg prog w A env hT κ (.Tuple [.Name x p₁, .Name y p₂] i p₃) (.tuple [d₁, d₂]) [(y, .d d₂), (x, .d d₁)] := .mk fun W O s₀ ρ ω s v Q E p r h => by
  obtain ⟨a, vs, rfl, ht, rs⟩ := r.tup_inv
  obtain ⟨l⟩ := vs
  cases rs with
  | cons r₁ rs =>
    cases rs with
    | cons r₂ rs =>
      cases rs
      refine wpAny_assign_Tuple hh ht rfl rfl fun h' he => ?_
      have q := p.ext (ext_but he s.toks)
      have k1 := (ext_but he s.toks).keep
      obtain ⟨m, hn⟩ := q.ns
      show wpAny _ A (do holding _ (assign (.Name x p₁) env _); assignInOrder _ _) Q E _
      refine wpAny_bind (wpAny_holding (wpAny_assign_Name (wpAny_storeName_local hx hn (fun h₁ hn₁ hs₁ => ?_) (noclass k))))
      have q₁ := q.store (r := .d d₁) hx hn hn₁ hs₁ (r₁.keep k1) (n := s.toks + 1)
      obtain ⟨m₁, hm₁⟩ := q₁.ns
      have hsub : ∀ b ∈ [env.locals], b ∈ O := fun b hb => by rw [List.mem_singleton.mp hb]; exact p.lo
      have r₂' : RD O h₁ _ d₂ := RD.fm (r₂.keep k1) q.hot hsub (Fm.of_same hs₁)
      show wpAny _ A (do holding _ (assign (.Name y p₂) env _); assignInOrder [] []) Q E _
      refine wpAny_bind (wpAny_holding (wpAny_assign_Name (wpAny_storeName_local hy hm₁ (fun h₂ hn₂ hs₂ => ?_) (noclass k))))
      exact wpAny_pure (h _ (q₁.store (r := .d d₂) hy hm₁ hn₂ hs₂ r₂'))

theorem ie_list (he : EvS prog w A env hT κ ρ ω iter (.list ds)) (hh : A.handled = none) : IterEv prog w A env hT κ ρ ω iter target ds := .mk fun W O s₀ s Q E p h =>
  he.run W O s₀ s _ E p fun v s₁ e₁ r₁ => by
    obtain ⟨a, vs, rfl, hl, na, rs⟩ := r₁.list_inv
    refine wpAny_pyIter_list hl ?_
    have hne : a ≠ s₁.heap.objs.size := by obtain ⟨_, z, _⟩ := hl; exact Nat.ne_of_lt (Heap.lt_size z)
    refine h _ [s₁.heap.objs.size] _ _ _ (e₁.trans (Ext.push _)) (iter_list hh _ a hne vs ds) ⟨rfl, ⟨_, Heap.get?_push_size _ rfl, rfl, rfl⟩, hl.push _, na, RDs.keep rs fun b o q => Heap.get?_push_of_some _ q⟩ (fun b hb => ?_) (fun g hg => nomatch hg)
    rw [List.mem_singleton.mp hb]
    cases z : s.heap.get? s₁.heap.objs.size with
    | none => rfl
    | some o => exact absurd (Heap.lt_size (e₁.keep _ _ z)) (Nat.lt_irrefl _)
theorem ie_range {es : List Expr} {as : List PyData} {p' : Pos} {a b c : Int} {n : Nat} (hh : A.handled = none) (hg : ∀ W O s₀, Glb prog w A env (St env hT κ W O s₀ ρ ω) "range" (.type "range")) (ha : ∀ W O s₀, EvL prog w A env O (St env hT κ W O s₀ ρ ω) (e :: es) as)
    (hc : ∀ O (s : Shared) vs (Q E : Value → Shared → Prop), RDs O s.heap vs as → (∀ s' t u v, Ext s s' → IsRange s'.heap s.heap.objs.size a b c t u v → Q (.ref s.heap.objs.size) s') → wpAny (model prog w) A (call (.type "range") vs) Q E s)
    (hsm : Builtin.Range.small a b c = true) (hsz : Builtin.Range.rangeSize a b c = n) (hds : ds = (List.range n).map fun i => .int (a + (i : Nat) * c))
    (hC : eval (.Call (.Name "range" p') (e :: es) [] pos) env = (do callWith pos (← eval (.Name "range" p') env) [] (backTo pos (starEach (e :: es) env)) (backToKw pos (keywordEach [] env))) := by rfl)
    (hs : starEach (e :: es) env = (false, eval e env) :: starEach es env := by rfl) (hn : ((backTo pos (starEach es env)).any (·.1)) = false := by rfl) :
    IterEv prog w A env hT κ ρ ω (.Call (.Name "range" p') (e :: es) [] pos) target ds := .mk fun W O s₀ s Q E p h =>
  Call_ (hg W O s₀ p' s _ E p (Pv.callWith_type1 (ha W O s₀ pos s _ E p fun vs s₁ e₁ r₁ => hc O s₁ vs _ E r₁ fun s₂ t u v e₂ hr => by
    refine wpAny_pyIter_range hr hsm ?_
    rw [hsz]
    subst hds
    refine h _ [s₂.heap.objs.size] _ _ _ ((e₁.trans e₂).trans (Ext.push _)) (iter_range hh _ a c n) ?_ (fun b hb => ?_) (fun g hg => nomatch hg)
    · have := Heap.get?_push_size s₂.heap (o := { cls := .type "range_iterator", data := .fields #[rawInt a, rawInt n, rawInt c] }) rfl
      exact ⟨rfl, by simpa using this⟩
    · rw [List.mem_singleton.mp hb]
      cases z : s.heap.get? s₂.heap.objs.size with
      | none => rfl
      | some o => exact absurd (Heap.lt_size ((e₁.trans e₂).keep _ _ z)) (Nat.lt_irrefl _)) hs hn)) hC
theorem ie_enum {elts : List Expr} {i : Nat} {p' : Pos} (hh : A.handled = none) (ht : target = .Tuple elts i p₁) (hg : ∀ W O s₀, Glb prog w A env (St env hT κ W O s₀ ρ ω) "enumerate" (.type "enumerate")) (he : EvS prog w A env hT κ ρ ω e (.list ds))
    (hC : eval (.Call (.Name "enumerate" p') [e] [] pos) env = (do callWith pos (← eval (.Name "enumerate" p') env) [] (backTo pos (starEach [e] env)) (backToKw pos (keywordEach [] env))) := by rfl)
    (hs : starEach [e] env = (false, eval e env) :: starEach [] env := by rfl) (hn : ((backTo pos (starEach [] env)).any (·.1)) = false := by rfl) :
    IterEv prog w A env hT κ ρ ω (.Call (.Name "enumerate" p') [e] [] pos) target (ds.zipIdx.map fun p => .tuple [.int (p.2 : Nat), p.1]) := .mk fun W O s₀ s Q E p h =>
  Call_ (hg W O s₀ p' s _ E p (Pv.callWith_type1 (el_cons St.po (he.run W O s₀) el_nil hs pos s _ E p fun vs s₁ e₁ r₁ => by
    cases r₁ with
    | cons r₁ t =>
      cases t
      obtain ⟨a, vs, rfl, hl, na, rs⟩ := r₁.list_inv
      have hlt : a < s₁.heap.objs.size := by obtain ⟨_, z, _⟩ := hl; exact Heap.lt_size z
      refine call_enumerate_list hl fun h' he' hit' hsz hk => wpAny_pyIter_enum he' ?_
      refine h _ [s₁.heap.objs.size + 1, s₁.heap.objs.size] _ _ _ (e₁.trans (Ext.heap (n := s₁.toks) hk)) (iter_enum hh _ _ a (Nat.succ_ne_self _) (Nat.ne_of_lt (Nat.lt_succ_of_lt hlt)) (Nat.ne_of_lt hlt) vs ds elts i p₁ ht) ⟨rfl, ⟨_, he'⟩, hit', (let ⟨o, ho, q⟩ := hl; ⟨o, hk _ _ ho, q⟩), na, RDs.keep rs hk⟩ (fun b hb => ?_) (fun g hg => nomatch hg)
      cases z : s.heap.get? b with
      | none => rfl
      | some o =>
        have lt := Heap.lt_size (e₁.keep _ _ z)
        rcases List.mem_cons.mp hb with q | q
        · have q' : b = s₁.heap.objs.size + 1 := q
          rw [q'] at lt
          exact absurd lt (Nat.not_lt.mpr (Nat.le_succ _))
        · have q' : b = s₁.heap.objs.size := List.mem_singleton.mp q
          rw [q'] at lt
          exact absurd lt (Nat.lt_irrefl _)) hs hn)) hC

theorem go_for (ck : CellsOk κ) (hi : IterEv prog w A env hT κ ρ ω iter target ds) (ρk : Nat → Ro) (ωk : Nat → Om)
    (hρ0 : ∀ y r, (ρk 0).lookup y = some r → ρ.lookup y = some r) (hω0 : ωk 0 = ω) (hωk : ∀ i, (ωk i).map (·.1) = ω.map (·.1))
    (turn : ∀ i d, ds[i]? = some d → ∃ bs, Asg prog w A env hT κ target d bs ∧ Go prog w A env hT κ [] (bs ++ ρk i) (ωk i) body (nx env hT κ (ρk (i + 1)) (ωk (i + 1))))
    (h : Go prog w A env hT κ X (ρk ds.length) (ωk ds.length) rest K)
    (hs : ∀ x, foldedSetIterable iter env x = pure x := by intro _; rfl) : Go prog w A env hT κ X ρ ω (.For target iter body [] pos :: rest) K := .mk fun W B O s₀ s E hX hB p => by
  refine wpAny_execs_cons (wpAny_For (hi.run W O s₀ s _ E p fun it wr gs J s₁ e₁ IA j0 hfr hgf => ?_) hs)
  have p₁ := p.ext e₁
  have fr : ∀ {s' : Shared}, St env hT κ W O s₀ [] [] s' → ∀ a, s'.heap.get? a = none → a ∉ O ∧ s₀.heap.get? a = none ∧ hT.get? a = none := fun {s'} p a ha => by
    have h1 := p.hot.ne ha
    refine ⟨h1, (fresh_back p.fm ha).resolve_left fun q => h1 (p.wo a q), ?_⟩
    cases z : hT.get? a with
    | none => rfl
    | some o => have := p.top a o z; rw [ha] at this; cases this
  have bareS : ∀ {ρ ω} {s' : Shared}, St env hT κ W O s₀ ρ ω s' → St env hT κ W O s₀ [] [] s' := fun p => p.weaken (fun _ z => z) p.wo p.lo (fun y c z => (p.cells y c z).2.1) (fun _ _ z => nomatch z) (fun _ z => nomatch z) (fun _ z => nomatch z) (by simp)
  have g0 : ∀ g ∈ gs, s₀.gens[g]? = none := fun g hg => by
    cases z : s₀.gens[g]? with
    | none => rfl
    | some x => have := p.bare.keep g x (fun q => nomatch q) z; rw [hgf g hg] at this; cases this
  have start : St env hT κ W O s₀ (ρk 0) (ωk 0) s₁ := by rw [hω0]; exact p₁.names hρ0
  refine code_for (fun n s' => ∃ i wr, i ≤ ds.length ∧ n = ds.length + 1 - i ∧ St env hT κ W O s₀ (ρk i) (ωk i) s' ∧ J wr O i s' ∧ ∀ a ∈ wr, a ∉ O ∧ s₀.heap.get? a = none ∧ hT.get? a = none) ?_ (ds.length + 1) ⟨0, wr, Nat.zero_le _, rfl, start, j0, fun a ha => fr (bareS p) a (hfr a ha)⟩
  rintro n s' ⟨i, wr, hi', rfl, q, j, fw⟩
  by_cases hlt : i < ds.length
  · obtain ⟨d, hd⟩ : ∃ d, ds[i]? = some d := ⟨_, List.getElem?_eq_getElem hlt⟩
    obtain ⟨bs, ha, hb⟩ := turn i d hd
    refine wpAny_mono (IA.turn wr O i d s' (fun v s₂ => wpAny (model prog w) A (assign target env v) (fun _ s₂ => wpAny (model prog w) A (execs body env) (fun f s₃ => match f with
          | .next | .cont => ∃ m, m < ds.length + 1 - i ∧ ∃ i wr, i ≤ ds.length ∧ m = ds.length + 1 - i ∧ St env hT κ W O s₀ (ρk i) (ωk i) s₃ ∧ J wr O i s₃ ∧ ∀ a ∈ wr, a ∉ O ∧ s₀.heap.get? a = none ∧ hT.get? a = none
          | .brk => False
          | .ret v => False) (notedBy (model prog w) A env fun e s' => cameBackBy (model prog w) A env E e s') s₂) (notedBy (model prog w) A env fun e s' => cameBackBy (model prog w) A env E e s') s₂) _ hd j q.hot fun v s₂ wr' f₂ b₂ o₂ nw j₂ r₂ => ?_) (fun r s₂ h₂ => ?_) fun _ _ z => z
    · have q₂ := q.step f₂ b₂ g0 o₂ (fun a ha => (fw a ha).1) (fun a ha => (fw a ha).2.1) (fun a ha => (fw a ha).2.2) (IA.kind j)
      have fw' : ∀ a ∈ wr', a ∉ O ∧ s₀.heap.get? a = none ∧ hT.get? a = none := fun a ha => (nw a ha).elim (fw a) (fr (bareS q) a)
      have q₃ := q₂.rebase ck
      refine ha.run _ O s₂ _ _ s₂ v _ _ q₃ r₂ fun s₃ q₄ => ?_
      refine wpAny_mono (hb.run _ O O s₂ s₃ _ (fun _ z => nomatch z) (fun _ z => z) q₄) (fun f s₄ ⟨hf, O₂, ho, q₅⟩ => ?_) fun _ _ z => z
      subst hf
      have q₆ := St.back ck q₂ q₅ ho
      have mem : ∀ p ∈ ωk (i + 1), p.1 ∈ O := fun p hp => by
        have h1 : p.1 ∈ (ωk i).map (·.1) := by rw [hωk i, ← hωk (i + 1)]; exact List.mem_map_of_mem hp
        obtain ⟨z, hz, hz'⟩ := List.mem_map.mp h1
        rw [← hz']
        exact (q.owns z.1 z.2 hz).1
      have q₇ : St env hT κ W O s₀ (ρk (i + 1)) (ωk (i + 1)) s₄ := q₆.weaken ho q.wo q.lo (fun y c z => (q.cells y c z).2.1) (fun _ _ z => z) (fun _ z => z) mem q₆.nodup
      refine ⟨ds.length + 1 - (i + 1), by omega, i + 1, wr', hlt, rfl, q₇, ?_, fw'⟩
      exact IA.frame j₂ q₅.fm q₃.wo q₂.hot (fun a ha' z => (fw' a ha').1 (q₃.wo a z)) q₅.bare
    · cases r with
      | none => exact h₂.elim
      | some v =>
        refine wpAny_mono h₂ (fun _ s₃ h₃ => ?_) fun _ _ z => z
        refine wpAny_mono h₃ (fun _ s₄ h₄ => wpAny_mono h₄ (fun f s₅ h₅ => ?_) fun _ _ z => z) fun _ _ z => z
        cases f with
        | next => exact h₅
        | cont => exact h₅
        | brk => exact h₅.elim
        | ret v => exact h₅.elim
  · have hin : i = ds.length := Nat.le_antisymm hi' (Nat.not_lt.mp hlt)
    subst hin
    refine IA.done wr O s' _ _ j fun s₂ f₂ b₂ o₂ => wpAny_execs_nil ?_
    have q₂ := q.step f₂ b₂ g0 o₂ (fun a ha => (fw a ha).1) (fun a ha => (fw a ha).2.1) (fun a ha => (fw a ha).2.2) (IA.kind j)
    exact h.run W B O s₀ s₂ E hX hB q₂
end

section
variable (prog : Program) (w : World) (A : Around) (env : Env) (hT : Heap) (κ : List (Str × Addr))
/-- an expression that makes a list of one's own -/
structure Mk (ρ : Ro) (ω : Om) (e : Expr) (bp : Bool) (ds : List PyData) : Prop where
  run : ∀ W O s₀ s (Q E : Value → Shared → Prop), St env hT κ W O s₀ ρ ω s →
    (∀ a vs s', Ext s s' → s.heap.get? a = none → s'.heap.IsList a vs → (bp = true → s'.heap.PlainList a vs) → (∀ O', RDs O' s'.heap vs.toList ds) → Q (.ref a) s') → wpAny (model prog w) A (eval e env) Q E s
end

section
variable {prog : Program} {w : World} {A : Around} {env : Env} {hT : Heap} {κ : List (Str × Addr)} {X : List Addr} {ρ ρ' : Ro} {ω ω' ω₁ ω₂ : Om} {K : Kn} {rest : List Stmt} {pos p₁ p₂ p₃ p₄ p₆ : Pos} {e e₁ e₂ e₃ iter target : Expr} {d d₁ d₂ d₃ : PyData} {x y z : Str} {ds : List PyData}

theorem fresh_after {s s' : Shared} (e : Ext s s') : s.heap.get? s'.heap.objs.size = none := by
  cases z : s.heap.get? s'.heap.objs.size with
  | none => rfl
  | some o => exact absurd (Heap.lt_size (e.keep _ _ z)) (Nat.lt_irrefl _)
theorem mk_nil : Mk prog w A env hT κ ρ ω (.List [] pos) true [] := .mk fun W O s₀ s Q E p h =>
  wpAny_List (wpAny_items_nil ⟨Nat.zero_le _, h _ #[] _ (Ext.push _) (fresh_after (.refl s)) ⟨_, Heap.get?_push_size _ rfl, rfl, _, rfl⟩ (fun _ => ⟨_, Heap.get?_push_size _ rfl⟩) fun _ => .nil⟩)
theorem ints_any {O O' : List Addr} {h : Heap} {vs : List Value} {ds : List PyData} (hi : ∀ d ∈ ds, ∃ i, d = .int i) (x : RDs O h vs ds) : RDs O' h vs ds := by
  induction x with
  | nil => exact .nil
  | cons a _ ih =>
    obtain ⟨i, rfl⟩ := hi _ (List.mem_cons_self ..)
    obtain ⟨t, rfl⟩ := a.int_inv
    exact .cons (.int ..) (ih fun d hd => hi d (List.mem_cons_of_mem _ hd))
theorem mk_copy (he : EvS prog w A env hT κ ρ ω e (.list ds)) (hi : ∀ d ∈ ds, ∃ i, d = .int i) (hz : ds.length ≤ 1000)
    (hs : ∀ l i, subscripted (.Slice none none none p₁) false (.ref l) (.ref i) = operate [.ref i, .ref l] (getItem (.ref l) (.ref i)) := by intro _ _; with_unfolding_all rfl) :
    Mk prog w A env hT κ ρ ω (.Subscript e (.Slice none none none p₁) pos) false ds := .mk fun W O s₀ s Q E p h =>
  Subscript_ (he.run W O s₀ s _ E p fun v s₁ e₁ r₁ => wpAny_Slice (by
    rw [evalPart_none]
    refine wpAny_pure (wpAny_pure (wpAny_pure ?_))
    have e5 : Ext s₁ { s₁ with heap := s₁.heap.push { cls := .type "slice", data := .fields #[.none, .none, .none] } } := Ext.push _
    obtain ⟨b, items, rfl, hL, _, rs⟩ := (r₁.keep e5.keep).list_inv
    have hsz : items.size = ds.length := by rw [← Array.length_toList]; exact RDs.length rs
    refine tail_any hL.typeIs slot_list_getitem.lookup (wpAny_getItem_list_slice hL (Heap.IsSliceOf.new ..) .none .none .none (by simp) ?_ (by rw [sizeLine_eq]; omega)) (hs b _)
    rw [slicePick_all]
    refine h _ items _ ((e₁.trans e5).trans (Ext.push _)) (fresh_after (e₁.trans e5)) ⟨_, Heap.get?_push_size _ rfl, rfl, _, rfl⟩ (fun z => by cases z) fun O' => ?_
    exact RDs.keep (ints_any hi rs) fun b o q => Heap.get?_push_of_some _ q))
theorem rds_rep {O : List Addr} {h : Heap} {i : Int} {t : Tok} : ∀ m, RDs O h (List.replicate m (Value.int i t)) (List.replicate m (PyData.int i))
  | 0 => .nil
  | m + 1 => by rw [List.replicate_succ, List.replicate_succ]; exact .cons (.int ..) (rds_rep m)
theorem mk_rep {i n : Int} {k k' : Nat} (h0 : 0 ≤ n) (hn : n ≤ 1000) : Mk prog w A env hT κ ρ ω (.BinOp (.List [.Constant (.int i) k p₁] p₂) .Mult (.Constant (.int n) k' p₃) pos) false (List.replicate n.toNat (.int i)) := .mk fun W O s₀ s Q E p h =>
  wpAny_BinOp (wpAny_List (wpAny_items_cons (wpAny_Constant_int (wpAny_items_nil ⟨by rw [sizeLine_eq]; simp, wpAny_Constant_int (by
    have hl : (s.heap.push { cls := .type "list", data := .seq [Value.int i s.toks].toArray }).get? s.heap.objs.size = some { cls := .type "list", dict := none, data := .seq [Value.int i s.toks].toArray 0, slots := #[] } := Heap.get?_push_size _ rfl
    refine wpAny_binaryOp_repeat_ref (T := "list") (U := "int") (by decide) ⟨_, hl, rfl⟩ (fun s' => typeIs_int s' _ _) noFill_list_mul F.fills_int_mul F.slot_int_rmul repeat_list F.slot_int_index.lookup
      (call_meets F.slot_int_rmul (typeIs_int _ _ _) F.entry_int_rmul (F.args_int_rmul_2 _ _) (int___rmul___int_list n _ s.heap.objs.size _ 0)
        ⟨hl, rfl, ⟨_, hl, rfl⟩, call_meets F.slot_list_mul ⟨_, hl, rfl⟩ F.entry_list_mul (F.args_list_mul_2 _ _)
          (AutoListH.list___mul___list_int_3 _ _ 0 n _ (by simp [Builtin.List.listFitsIndex]; omega) (by simp; omega) (by simp [Builtin.List.listTooLong, sizeLine]; omega)) ⟨hl, ?_⟩⟩)
    refine h _ _ _ ⟨fun b o q => Heap.get?_push_of_some _ (Heap.get?_push_of_some _ q), .refl _ _, rfl⟩ ?_ ⟨_, Heap.get?_push_size _ rfl, rfl, _, rfl⟩ (fun z => by cases z) fun O' => ?_
    · cases z : s.heap.get? (s.heap.push { cls := .type "list", data := .seq [Value.int i s.toks].toArray }).objs.size with
      | none => rfl
      | some o => exact absurd (Heap.lt_size (Heap.get?_push_of_some _ z)) (Nat.lt_irrefl _)
    · have e : ∀ m : Nat, ∀ acc : Array Value, (List.foldl (fun x1 x2 => x1 ++ x2) acc (List.replicate m #[Value.int i s.toks])).toList = acc.toList ++ List.replicate m (Value.int i s.toks) := by
        intro m
        induction m with
        | zero => intro acc; simp
        | succ m ih => intro acc; rw [List.replicate_succ, List.foldl_cons, ih]; simp [List.replicate_succ]
      have e' := e n.toNat #[]
      have : (if (([Value.int i s.toks].toArray : Array Value).isEmpty = true) then 0 else n.toNat) = n.toNat := by simp
      rw [this]
      show RDs O' _ (List.foldl (fun x1 x2 => x1 ++ x2) #[] (List.replicate n.toNat #[Value.int i s.toks])).toList _
      rw [e']
      simp only [List.nil_append]
      exact rds_rep n.toNat)⟩))))

theorem madeX {W B O : List Addr} {s₀ s : Shared} {a : Addr} (p : St env hT κ W O s₀ ρ ω s) (hX : ∀ a ∈ X, a ∉ B ∧ a ∉ W) (hB : ∀ a ∈ B, a ∈ O) (ha : s.heap.get? a = none) : ∀ b ∈ a :: X, b ∉ B ∧ b ∉ W := fun b hb => by
  rcases List.mem_cons.mp hb with rfl | hb
  · have := p.hot.ne ha
    exact ⟨fun q => this (hB _ q), fun q => this (p.wo _ q)⟩
  · exact hX b hb
theorem go_mk {bp : Bool} (k : EOk env) (hm : Mk prog w A env hT κ ρ ω e bp ds) (hl : env.kindOf x = some .local) (h : ∀ a, Go prog w A env hT κ (a :: X) ((x, .own a) :: ρ) ((a, bp, ds) :: ω) rest K)
    (hs : swapsWith e (some (.Name x p₁)) pos.line env = pure false := by rfl) : Go prog w A env hT κ X ρ ω (.Assign [.Name x p₁] e pos :: rest) K := .mk fun W B O s₀ s E hX hB p =>
  wpAny_execs_cons (wpAny_Assign_Name (hm.run W O s₀ s _ E p fun a vs s₁ e₁ ha hl₁ hp₁ r₁ => by
    have q := p.fresh e₁ ha hl₁ hp₁ (r₁ _)
    obtain ⟨m, hn⟩ := q.ns
    exact wpAny_storeName_local hl hn (fun h' hn' hs' => (h a).run W B (a :: O) s₀ _ E (madeX p hX hB ha) (fun b hb => List.mem_cons_of_mem _ (hB b hb)) (q.store (r := .own a) hl hn hn' hs' rfl)) (noclass k)) hs)

/-- two at once -/
theorem swap2 {s : Shared} {i : Nat} {tp : Pos} {j : Nat} {Q : Flow → Shared → Prop} {E : Value → Shared → Prop} (hh : A.handled = none)
    (h : wpAny (model prog w) A (eval e₁ env) (fun v₁ s₁ => wpAny (model prog w) A (eval e₂ env) (fun v₂ s₂ => ∀ s₃, Ext s₂ s₃ → wpAny (model prog w) A (storeName env y v₂) (fun _ s₄ => wpAny (model prog w) A (storeName env x v₁) (fun _ => Q .next) E s₄) E s₃) E s₁) E s)
    (hS1 : starEach [e₁, e₂] env = (false, eval e₁ env) :: starEach [e₂] env := by rfl) (hS2 : starEach [e₂] env = (false, eval e₂ env) :: starEach [] env := by rfl)
    (hw : swappedStores [.Tuple [.Name x p₁, .Name y p₂] i p₃] (.Tuple [e₁, e₂] j tp) env = pure (some [x, y]) := by rfl) :
    wpAny (model prog w) A (exec (.Assign [.Tuple [.Name x p₁, .Name y p₂] i p₃] (.Tuple [e₁, e₂] j tp) pos) env) Q E s :=
  Assign_Tuple_swapped (names := [x, y]) (wpAny_Tuple (wpAny_items_cons (wpAny_mono h (fun v₁ s₁ h₁ => wpAny_items_cons (wpAny_mono h₁ (fun v₂ s₂ h₂ => wpAny_items_nil ⟨by rw [sizeLine_eq]; simp, by
    refine unpackItems_tuple (items := [v₁, v₂].toArray) hh ⟨_, Heap.get?_push_size _ rfl, rfl, _, rfl⟩ fun h' he => ?_
    have e5 : Ext s₂ { s₂ with heap := h' } := (Ext.push (s := s₂) { cls := .type "tuple", data := .seq [v₁, v₂].toArray }).trans (ext_but (s := { s₂ with heap := s₂.heap.push { cls := .type "tuple", data := .seq [v₁, v₂].toArray } }) he s₂.toks)
    have := h₂ _ e5
    show wpAny _ A (do holding [v₁] (bindName env y v₂); assignInOrder [bindName env x] [v₁]) _ E _
    refine wpAny_bind (wpAny_holding (wpAny_bindName (wpAny_mono this (fun _ s₄ h₄ => ?_) fun _ _ z => z)))
    show wpAny _ A (do holding [] (bindName env x v₁); assignInOrder [] []) _ E _
    exact wpAny_bind (wpAny_holding (wpAny_bindName (wpAny_mono h₄ (fun _ s₅ h₅ => wpAny_pure h₅) fun _ _ z => z)))⟩) fun _ _ z => z) hS2) fun _ _ z => z) hS1)) (by rfl) hw
theorem swap3 {s : Shared} {i : Nat} {tp : Pos} {j : Nat} {Q : Flow → Shared → Prop} {E : Value → Shared → Prop} (hh : A.handled = none)
    (h : wpAny (model prog w) A (eval e₁ env) (fun v₁ s₁ => wpAny (model prog w) A (eval e₂ env) (fun v₂ s₂ => wpAny (model prog w) A (eval e₃ env) (fun v₃ s₃ => ∀ s₄, Ext s₃ s₄ →
      wpAny (model prog w) A (storeName env z v₃) (fun _ s₅ => wpAny (model prog w) A (storeName env y v₂) (fun _ s₆ => wpAny (model prog w) A (storeName env x v₁) (fun _ => Q .next) E s₆) E s₅) E s₄) E s₂) E s₁) E s)
    (hS1 : starEach [e₁, e₂, e₃] env = (false, eval e₁ env) :: starEach [e₂, e₃] env := by rfl) (hS2 : starEach [e₂, e₃] env = (false, eval e₂ env) :: starEach [e₃] env := by rfl) (hS3 : starEach [e₃] env = (false, eval e₃ env) :: starEach [] env := by rfl)
    (hw : swappedStores [.Tuple [.Name x p₁, .Name y p₂, .Name z p₄] i p₃] (.Tuple [e₁, e₂, e₃] j tp) env = pure (some [x, y, z]) := by rfl) :
    wpAny (model prog w) A (exec (.Assign [.Tuple [.Name x p₁, .Name y p₂, .Name z p₄] i p₃] (.Tuple [e₁, e₂, e₃] j tp) pos) env) Q E s :=
  Assign_Tuple_swapped (names := [x, y, z]) (wpAny_Tuple (wpAny_items_cons (wpAny_mono h (fun v₁ s₁ h₁ => wpAny_items_cons (wpAny_mono h₁ (fun v₂ s₂ h₂ => wpAny_items_cons (wpAny_mono h₂ (fun v₃ s₃ h₃ => wpAny_items_nil ⟨by rw [sizeLine_eq]; simp, by
    refine unpackItems_tuple (items := [v₁, v₂, v₃].toArray) hh ⟨_, Heap.get?_push_size _ rfl, rfl, _, rfl⟩ fun h' he => ?_
    have e5 : Ext s₃ { s₃ with heap := h' } := (Ext.push (s := s₃) { cls := .type "tuple", data := .seq [v₁, v₂, v₃].toArray }).trans (ext_but (s := { s₃ with heap := s₃.heap.push { cls := .type "tuple", data := .seq [v₁, v₂, v₃].toArray } }) he s₃.toks)
    have := h₃ _ e5
    show wpAny _ A (do holding [v₂, v₁] (bindName env z v₃); assignInOrder [bindName env y, bindName env x] [v₂, v₁]) _ E _
    refine wpAny_bind (wpAny_holding (wpAny_bindName (wpAny_mono this (fun _ s₄ h₄ => ?_) fun _ _ z => z)))
    show wpAny _ A (do holding [v₁] (bindName env y v₂); assignInOrder [bindName env x] [v₁]) _ E _
    refine wpAny_bind (wpAny_holding (wpAny_bindName (wpAny_mono h₄ (fun _ s₅ h₅ => ?_) fun _ _ z => z)))
    show wpAny _ A (do holding [] (bindName env x v₁); assignInOrder [] []) _ E _
    exact wpAny_bind (wpAny_holding (wpAny_bindName (wpAny_mono h₅ (fun _ s₆ h₆ => wpAny_pure h₆) fun _ _ z => z)))⟩) fun _ _ z => z) hS3) fun _ _ z => z) hS2) fun _ _ z => z) hS1)) (by rfl) hw

theorem St.fm_keep {W O : List Addr} {s₀ s : Shared} {h' : Heap} {v : Value} (p : St env hT κ W O s₀ ρ ω s) (hs : Heap.SameBut env.locals s.heap h') (r : RD O s.heap v d) : RD O h' v d :=
  r.fm p.hot (W := [env.locals]) (fun b hb => by rw [List.mem_singleton.mp hb]; exact p.lo) (Fm.of_same hs)

theorem go_tup2 {i j : Nat} {tp : Pos} (hh : A.handled = none) (k : EOk env) (h₁ : EvS prog w A env hT κ ρ ω e₁ d₁) (h₂ : EvS prog w A env hT κ ρ ω e₂ d₂) (hx : env.kindOf x = some .local) (hy : env.kindOf y = some .local)
    (h : Go prog w A env hT κ X ((x, .d d₁) :: (y, .d d₂) :: ρ) ω rest K)
    (hS1 : starEach [e₁, e₂] env = (false, eval e₁ env) :: starEach [e₂] env := by rfl) (hS2 : starEach [e₂] env = (false, eval e₂ env) :: starEach [] env := by rfl)
    (hw : swappedStores [.Tuple [.Name x p₁, .Name y p₂] i p₃] (.Tuple [e₁, e₂] j tp) env = pure (some [x, y]) := by rfl) :
    Go prog w A env hT κ X ρ ω (.Assign [.Tuple [.Name x p₁, .Name y p₂] i p₃] (.Tuple [e₁, e₂] j tp) pos :: rest) K := .mk fun W B O s₀ s E hX hB p =>
  wpAny_execs_cons (swap2 hh (h₁.run W O s₀ s _ E p fun v₁ s₁ a₁ r₁ => h₂.run W O s₀ s₁ _ E (p.ext a₁) fun v₂ s₂ a₂ r₂ s₃ a₃ => by
    have q := ((p.ext a₁).ext a₂).ext a₃
    obtain ⟨m, hn⟩ := q.ns
    refine wpAny_storeName_local hy hn (fun h' hn' hs' => ?_) (noclass k)
    have q₁ := q.store (r := .d d₂) hy hn hn' hs' (r₂.keep a₃.keep) (n := s₃.toks + 1)
    have r₁' := q.fm_keep hs' ((r₁.keep a₂.keep).keep a₃.keep)
    obtain ⟨m₁, hm₁⟩ := q₁.ns
    exact wpAny_storeName_local hx hm₁ (fun h₂ hn₂ hs₂ => h.run W B O s₀ _ E hX hB (q₁.store (r := .d d₁) hx hm₁ hn₂ hs₂ r₁')) (noclass k)) hS1 hS2 hw)

theorem go_tup2MM {i j : Nat} {tp : Pos} {b₁ b₂ : Bool} {ds₁ ds₂ : List PyData} (hh : A.handled = none) (k : EOk env) (h₁ : Mk prog w A env hT κ ρ ω e₁ b₁ ds₁) (h₂ : ∀ a, Mk prog w A env hT κ ρ ((a, b₁, ds₁) :: ω) e₂ b₂ ds₂) (hx : env.kindOf x = some .local) (hy : env.kindOf y = some .local)
    (h : ∀ a b, Go prog w A env hT κ (b :: a :: X) ((x, .own a) :: (y, .own b) :: ρ) ((b, b₂, ds₂) :: (a, b₁, ds₁) :: ω) rest K)
    (hS1 : starEach [e₁, e₂] env = (false, eval e₁ env) :: starEach [e₂] env := by rfl) (hS2 : starEach [e₂] env = (false, eval e₂ env) :: starEach [] env := by rfl)
    (hw : swappedStores [.Tuple [.Name x p₁, .Name y p₂] i p₃] (.Tuple [e₁, e₂] j tp) env = pure (some [x, y]) := by rfl) :
    Go prog w A env hT κ X ρ ω (.Assign [.Tuple [.Name x p₁, .Name y p₂] i p₃] (.Tuple [e₁, e₂] j tp) pos :: rest) K := .mk fun W B O s₀ s E hX hB p =>
  wpAny_execs_cons (swap2 hh (h₁.run W O s₀ s _ E p fun a vs s₁ a₁ fa la pa ra => (h₂ a).run W (a :: O) s₀ s₁ _ E (p.fresh a₁ fa la pa (ra _)) fun b ws s₂ a₂ fb lb pb rb s₃ a₃ => by
    have q := ((p.fresh a₁ fa la pa (ra _)).fresh a₂ fb lb pb (rb _)).ext a₃
    obtain ⟨m, hn⟩ := q.ns
    refine wpAny_storeName_local hy hn (fun h' hn' hs' => ?_) (noclass k)
    have q₁ := q.store (r := .own b) hy hn hn' hs' rfl (n := s₃.toks + 1)
    obtain ⟨m₁, hm₁⟩ := q₁.ns
    exact wpAny_storeName_local hx hm₁ (fun h₂ hn₂ hs₂ => (h a b).run W B _ s₀ _ E (madeX (p.fresh a₁ fa la pa (ra _)) (madeX p hX hB fa) (fun c hc => List.mem_cons_of_mem _ (hB c hc)) fb) (fun c hc => List.mem_cons_of_mem _ (List.mem_cons_of_mem _ (hB c hc))) (q₁.store (r := .own a) hx hm₁ hn₂ hs₂ rfl)) (noclass k)) hS1 hS2 hw)

theorem go_tup3M {i j : Nat} {tp : Pos} {b₃ : Bool} {ds₃ : List PyData} (hh : A.handled = none) (k : EOk env) (h₁ : EvS prog w A env hT κ ρ ω e₁ d₁) (h₂ : EvS prog w A env hT κ ρ ω e₂ d₂) (h₃ : Mk prog w A env hT κ ρ ω e₃ b₃ ds₃) (hx : env.kindOf x = some .local) (hy : env.kindOf y = some .local) (hz : env.kindOf z = some .local)
    (h : ∀ a, Go prog w A env hT κ (a :: X) ((x, .d d₁) :: (y, .d d₂) :: (z, .own a) :: ρ) ((a, b₃, ds₃) :: ω) rest K)
    (hS1 : starEach [e₁, e₂, e₃] env = (false, eval e₁ env) :: starEach [e₂, e₃] env := by rfl) (hS2 : starEach [e₂, e₃] env = (false, eval e₂ env) :: starEach [e₃] env := by rfl) (hS3 : starEach [e₃] env = (false, eval e₃ env) :: starEach [] env := by rfl)
    (hw : swappedStores [.Tuple [.Name x p₁, .Name y p₂, .Name z p₄] i p₃] (.Tuple [e₁, e₂, e₃] j tp) env = pure (some [x, y, z]) := by rfl) :
    Go prog w A env hT κ X ρ ω (.Assign [.Tuple [.Name x p₁, .Name y p₂, .Name z p₄] i p₃] (.Tuple [e₁, e₂, e₃] j tp) pos :: rest) K := .mk fun W B O s₀ s E hX hB p =>
  wpAny_execs_cons (swap3 hh (h₁.run W O s₀ s _ E p fun v₁ s₁ a₁ r₁ => h₂.run W O s₀ s₁ _ E (p.ext a₁) fun v₂ s₂ a₂ r₂ => h₃.run W O s₀ s₂ _ E ((p.ext a₁).ext a₂) fun a vs s₃ a₃ fa la pa ra s₄ a₄ => by
    have p₂ := (p.ext a₁).ext a₂
    have q := (p₂.fresh a₃ fa la pa (ra _)).ext a₄
    have r₁' : RD (a :: O) s₄.heap v₁ d₁ := (((r₁.keep a₂.keep).more fa).keep a₃.keep).keep a₄.keep
    have r₂' : RD (a :: O) s₄.heap v₂ d₂ := ((r₂.more fa).keep a₃.keep).keep a₄.keep
    obtain ⟨m, hn⟩ := q.ns
    refine wpAny_storeName_local hz hn (fun h' hn' hs' => ?_) (noclass k)
    have q₁ := q.store (r := .own a) hz hn hn' hs' rfl (n := s₄.toks + 1)
    have r₁₁ := q.fm_keep hs' r₁'
    have r₂₁ := q.fm_keep hs' r₂'
    obtain ⟨m₁, hm₁⟩ := q₁.ns
    refine wpAny_storeName_local hy hm₁ (fun h₂ hn₂ hs₂ => ?_) (noclass k)
    have q₂ := q₁.store (r := .d d₂) hy hm₁ hn₂ hs₂ r₂₁ (n := s₄.toks + 1 + 1)
    have r₁₂ := q₁.fm_keep hs₂ r₁₁
    obtain ⟨m₂, hm₂⟩ := q₂.ns
    exact wpAny_storeName_local hx hm₂ (fun h₃ hn₃ hs₃ => (h a).run W B _ s₀ _ E (madeX p₂ hX hB fa) (fun c hc => List.mem_cons_of_mem _ (hB c hc)) (q₂.store (r := .d d₁) hx hm₂ hn₃ hs₃ r₁₂)) (noclass k)) hS1 hS2 hS3 hw)

/-- the name of a list of one's own -/
theorem load_own {W O : List Addr} {s₀ s : Shared} {a : Addr} {Q E : Value → Shared → Prop} (k : EOk env) (p : St env hT κ W O s₀ ρ ω s) (hl : env.kindOf x = some .local) (hx : ρ.lookup x = some (.own a)) (h : Q (.ref a) s) (hd : (x == ("__debug__" : Str)) = false := by decide) :
    wpAny (model prog w) A (eval (.Name x p₁) env) Q E s := wpAny_Name (by
  rcases p.vars x _ hx with ⟨_, m, hn, hm⟩ | ⟨hc, _⟩
  · exact wpAny_loadName_local k.kind hl hn hm h
  · rw [hl] at hc; cases hc) hd
theorem meth_list {s : Shared} {a : Addr} {vs : Array Value} {name : Str} {id : String} {pl : Sem Bool} {Q : Value × List Value → Shared → Prop} {E : Value → Shared → Prop} (hl : s.heap.PlainList a vs) (slot : Slot "list" name id) (hty : typeOf (.builtin id) = pure (.type "method_descriptor")) (h : Q (.builtin id, [.ref a]) s) :
    wpAny (model prog w) A (getMethod (.ref a) name pl) Q E s := by
  obtain ⟨n, ho⟩ := hl
  exact getMethod_builtin ⟨_, ho, rfl⟩ PySem.F.plainAttrs_list slot hty (fun b e => by cases e; exact ⟨_, ho, rfl⟩) h

theorem go_append {a : Addr} {pl : Sem Bool} (k : EOk env) (hl : env.kindOf x = some .local) (hx : ρ.lookup x = some (.own a)) (he : EvS prog w A env hT κ ρ (ω₁ ++ (a, true, ds) :: ω₂) e d) (hz : ds.length ≤ 1000)
    (h : Go prog w A env hT κ X ρ (ω₁ ++ (a, true, ds ++ [d]) :: ω₂) rest K) (hd : (x == ("__debug__" : Str)) = false := by decide)
    (hM : eval (.Call (.Attribute (.Name x p₁) "append" p₂) [e] [] p₃) env = (do let ov ← eval (.Name x p₁) env; standAt p₂.atName; let (f, first) ← holding [ov] (getMethod ov "append" pl); callWith p₃ f first (backTo p₃ (starEach [e] env)) []) := by rfl)
    (hs : starEach [e] env = (false, eval e env) :: starEach [] env := by rfl) (hn : ((backTo p₃ (starEach [] env)).any (·.1)) = false := by rfl) (hin : interactive env = false := by rfl) :
    Go prog w A env hT κ X ρ (ω₁ ++ (a, true, ds) :: ω₂) (.Expr (.Call (.Attribute (.Name x p₁) "append" p₂) [e] [] p₃) pos :: rest) K := .mk fun W B O s₀ s E hX hB p =>
  wpAny_execs_cons (wpAny_Expr (MethodCall_ (load_own k p hl hx (by
    obtain ⟨aO, aW, vs, lv, pl, rv⟩ := p.owns a (true, ds) (by simp)
    refine meth_list (pl rfl) PySem.F.slot_list_append PySem.F.type_list_append (callWith_method1 (el_cons St.po (he.run W O s₀) el_nil hs p₃ s _ E p fun us s₁ e₁ r₁ => ?_) hs hn)
    cases r₁ with
    | cons r₁ t =>
      cases t
      have q := p.ext e₁
      obtain ⟨_, _, vs₁, lv₁, pl₁, rv₁⟩ := q.owns a (true, ds) (by simp)
      have hsz : vs₁.size = ds.length := by rw [← Array.length_toList]; exact RDs.length rv₁
      refine wpAny_list_append_plain (pl₁ rfl) (fun h' hp' hs' => ?_) (by rw [sizeLine_eq]; omega)
      exact h.run W B O s₀ _ E hX hB (q.upd hp'.isList (fun _ => hp') hs' (by rw [Array.toList_push]; exact RDs.append rv₁ (.cons r₁ .nil)) s₁.toks)) hd) hM) hin)

theorem go_insert0 {a : Addr} {pl : Sem Bool} {c : Nat} {p₅ : Pos} (k : EOk env) (hl : env.kindOf x = some .local) (hx : ρ.lookup x = some (.own a)) (he : EvS prog w A env hT κ ρ (ω₁ ++ (a, true, ds) :: ω₂) e d) (hz : ds.length ≤ 1000)
    (h : Go prog w A env hT κ X ρ (ω₁ ++ (a, true, d :: ds) :: ω₂) rest K) (hd : (x == ("__debug__" : Str)) = false := by decide)
    (hM : eval (.Call (.Attribute (.Name x p₁) "insert" p₂) [.Constant (.int 0) c p₅, e] [] p₃) env = (do let ov ← eval (.Name x p₁) env; standAt p₂.atName; let (f, first) ← holding [ov] (getMethod ov "insert" pl); callWith p₃ f first (backTo p₃ (starEach [.Constant (.int 0) c p₅, e] env)) []) := by rfl)
    (hs : starEach [.Constant (.int 0) c p₅, e] env = (false, eval (.Constant (.int 0) c p₅) env) :: starEach [e] env := by rfl) (hs' : starEach [e] env = (false, eval e env) :: starEach [] env := by rfl) (hn : ((backTo p₃ (starEach [e] env)).any (·.1)) = false := by rfl) (hin : interactive env = false := by rfl) :
    Go prog w A env hT κ X ρ (ω₁ ++ (a, true, ds) :: ω₂) (.Expr (.Call (.Attribute (.Name x p₁) "insert" p₂) [.Constant (.int 0) c p₅, e] [] p₃) pos :: rest) K := .mk fun W B O s₀ s E hX hB p =>
  wpAny_execs_cons (wpAny_Expr (MethodCall_ (load_own k p hl hx (by
    obtain ⟨aO, aW, vs, lv, pl, rv⟩ := p.owns a (true, ds) (by simp)
    refine meth_list (pl rfl) PySem.F.slot_list_insert PySem.F.type_list_insert (callWith_method1 (el_cons St.po (ev_int (prog := prog) (w := w) (A := A) (O := O)) (el_cons St.po (he.run W O s₀) el_nil hs') hs p₃ s _ E p fun us s₁ e₁ r₁ => ?_) hs hn)
    cases r₁ with
    | cons r₀ t =>
      cases t with
      | cons r₁ t =>
        cases t
        obtain ⟨tk, rfl⟩ := r₀.int_inv
        have q := p.ext e₁
        obtain ⟨_, _, vs₁, lv₁, pl₁, rv₁⟩ := q.owns a (true, ds) (by simp)
        have hsz : vs₁.size = ds.length := by rw [← Array.length_toList]; exact RDs.length rv₁
        obtain ⟨n, ho⟩ := pl₁ rfl
        have key : ∀ (u : Value) (F : Array Value → Array Value), RD O s₁.heap u d → F vs₁ = (u :: vs₁.toList).toArray → wpAny (model prog w) A (execs rest env) (K W B s₀) E { s₁ with heap := s₁.heap.update a (Obj.mapSeq F) } := fun u F ru hF => by
          have up := PySem.IsL.update ho F
          rw [hF] at up
          exact h.run W B O s₀ _ E hX hB (q.upd (vs' := (u :: vs₁.toList).toArray) up.isList (fun _ => ⟨_, up⟩) (Heap.SameBut.update ..) (by rw [List.toList_toArray]; exact .cons ru rv₁) s₁.toks)
        refine call_meets PySem.F.slot_list_insert ⟨_, ho, rfl⟩ PySem.F.entry_list_insert (PySem.F.args_list_insert_3 _ _ _) (PySem.AutoSeq1.list_insert_list_int_val_1 a vs₁ n 0 tk _ (by decide) (by rw [sizeLine_eq]; omega)) ⟨ho, ?_⟩
        refine key _ _ r₁ ?_
        show ((vs₁.extract 0 (min (0 : Int).toNat vs₁.size)).push _ ++ vs₁.extract (min (0 : Int).toNat vs₁.size)) = _
        have e0 : min (0 : Int).toNat vs₁.size = 0 := by simp
        rw [e0]
        apply Array.toList_inj.mp
        simp) hd) hM) hin)

theorem go_pop2 {a : Addr} {pl : Sem Bool} {i : Nat} {p₅ : Pos} (k : EOk env) (hh : A.handled = none) (hl : env.kindOf x = some .local) (hx : ρ.lookup x = some (.own a)) (hy : env.kindOf y = some .local) (hzz : env.kindOf z = some .local) (hz : ds.length ≤ 1000)
    (h : Go prog w A env hT κ X ((z, .d d₂) :: (y, .d d₁) :: ρ) (ω₁ ++ (a, true, ds) :: ω₂) rest K) (hd : (x == ("__debug__" : Str)) = false := by decide)
    (hM : eval (.Call (.Attribute (.Name x p₁) "pop" p₂) [] [] p₃) env = (do let ov ← eval (.Name x p₁) env; standAt p₂.atName; let (f, first) ← holding [ov] (getMethod ov "pop" pl); callWith p₃ f first (backTo p₃ (starEach [] env)) []) := by rfl)
    (hw : swappedStores [.Tuple [.Name y p₄, .Name z p₅] i p₆] (.Call (.Attribute (.Name x p₁) "pop" p₂) [] [] p₃) env = pure none := by rfl) :
    Go prog w A env hT κ X ρ (ω₁ ++ (a, true, ds ++ [.tuple [d₁, d₂]]) :: ω₂) (.Assign [.Tuple [.Name y p₄, .Name z p₅] i p₆] (.Call (.Attribute (.Name x p₁) "pop" p₂) [] [] p₃) pos :: rest) K := .mk fun W B O s₀ s E hX hB p =>
  wpAny_execs_cons (Assign_Tuple (MethodCall_ (load_own k p hl hx (by
    obtain ⟨aO, aW, vs, lv, pl, rv⟩ := p.owns a (true, ds ++ [.tuple [d₁, d₂]]) (by simp)
    refine meth_list (pl rfl) PySem.F.slot_list_pop PySem.F.type_list_pop (callWith_method0 ?_)
    obtain ⟨n, ho⟩ := pl rfl
    obtain ⟨v1, v2, e12, rv1, rv2⟩ := RDs.split rv
    cases rv2 with
    | cons r₁ t =>
      cases t
      rename_i u
      have hsz : vs.size = v1.length + 1 := by rw [← Array.length_toList, e12]; simp
      have l1 : v1.length = ds.length := RDs.length rv1
      have hy' : vs[vs.size - 1]? = some u := by rw [← Array.getElem?_toList, e12, hsz]; simp
      have key : ∀ (F : Array Value → Array Value), F vs = v1.toArray → wpAny (model prog w) A (assign (.Tuple [.Name y p₄, .Name z p₅] i p₆) env u) (fun _ => fun s' => wpAny (model prog w) A (execs rest env) (K W B s₀) E s') E { s with heap := s.heap.update a (Obj.mapSeq F) } := fun F hF => by
        have up := PySem.IsL.update ho F
        rw [hF] at up
        have hs' : Heap.SameBut a s.heap (s.heap.update a (Obj.mapSeq F)) := Heap.SameBut.update ..
        have q := p.upd (vs' := v1.toArray) (ds' := ds) up.isList (fun _ => ⟨_, up⟩) hs' (by rw [List.toList_toArray]; exact rv1) s.toks
        have ru := r₁.fm p.hot (W := [a]) (fun b hb => by rw [List.mem_singleton.mp hb]; exact aO) (Fm.of_same hs')
        exact (asg_tup2 k hh hy hzz).run W O s₀ ρ _ _ u _ _ q ru fun s' q' => h.run W B O s₀ s' E hX hB q'
      refine call_meets PySem.F.slot_list_pop ⟨_, ho, rfl⟩ PySem.F.entry_list_pop (PySem.F.args_list_pop_1 _) (PySem.MeetsSeq.list_pop_last a vs n u hy' (by rw [sizeLine_eq]; omega)) ⟨ho, ?_⟩
      refine key _ ?_
      show vs.eraseIdxIfInBounds (vs.size - 1) = v1.toArray
      have ev : vs = (v1 ++ u :: []).toArray := by rw [← e12, Array.toArray_toList]
      have hk : vs.size - 1 = v1.length := by omega
      rw [hk, ev, kl_erase, List.append_nil]) hd) hM) (by rfl) hw)

theorem go_setitem {a : Addr} {i : Int} {ei : Expr} (k : EOk env) (hl : env.kindOf x = some .local) (hx : ρ.lookup x = some (.own a)) (he : EvS prog w A env hT κ ρ (ω₁ ++ (a, false, ds) :: ω₂) e d) (hi : EvS prog w A env hT κ ρ (ω₁ ++ (a, false, ds) :: ω₂) ei (.int i))
    (h0 : 0 ≤ i) (h1 : i < ds.length) (hz : ds.length ≤ 1000) (h : Go prog w A env hT κ X ρ (ω₁ ++ (a, false, ds.set i.toNat d) :: ω₂) rest K) (hd : (x == ("__debug__" : Str)) = false := by decide)
    (hs : swapsWith e (some (.Subscript (.Name x p₁) ei p₂)) pos.line env = pure false := by rfl) :
    Go prog w A env hT κ X ρ (ω₁ ++ (a, false, ds) :: ω₂) (.Assign [.Subscript (.Name x p₁) ei p₂] e pos :: rest) K := .mk fun W B O s₀ s E hX hB p =>
  wpAny_execs_cons (wpAny_Assign_Subscript (he.run W O s₀ s _ E p fun v s₁ e₁ r₁ => load_own k (p.ext e₁) hl hx (hi.run W O s₀ s₁ _ E (p.ext e₁) fun u s₂ e₂ r₂ => by
    obtain ⟨t, rfl⟩ := r₂.int_inv
    have q := (p.ext e₁).ext e₂
    obtain ⟨aO, aW, vs, lv, pl, rv⟩ := q.owns a (false, ds) (by simp)
    have hsz : vs.size = ds.length := by rw [← Array.length_toList]; exact RDs.length rv
    refine wpAny_setItem_list lv h0 (by omega) (by omega) fun h' hl' hs' => ?_
    exact h.run W B O s₀ _ E hX hB (q.upd hl' (fun z => by cases z) hs' (by rw [Array.toList_setIfInBounds]; exact RDs.set rv (r₁.keep e₂.keep) _) s₂.toks)) hd) hs)
end

/-- the turns of a comprehension, whatever its target -/
theorem code_comp {prog : Program} {w : World} {A : Around} {s : Shared} {R : Result → Shared → Prop} {elt target iter : Expr} {ifs : List Expr} {scope : Scope} {pos : Pos} {it acc : Value} {env : Env} (I : Nat → Shared → Prop)
    (turn : ∀ n s (E : Value → Shared → Prop), I n s → wpAny (model prog w) A (pyNext it) (fun r s₁ => match r with
      | none => R (.ok .next) s₁
      | some v => wpAny (model prog w) A (letOwnedTupleGo target it v) (fun _ s₁' => wpAny (model prog w) A (assign target env v) (fun _ s₂ =>
          wpAny (model prog w) A (forIn ifs true fun c r => if r = true then do let ok ← isTrue c env (eval c env); pure (ForInStep.yield ok) else pure (ForInStep.yield r)) (fun ok s₃ =>
            if ok = true then wpAny (model prog w) A (eval elt env) (fun x s₄ => wpAny (model prog w) A (call (.builtin "list.append") [acc, x]) (fun _ s₅ => ∃ m, m < n ∧ I m s₅) E s₄) E s₃
            else ∃ m, m < n ∧ I m s₃) E s₂) E s₁') E s₁) E s)
    (n : Nat) (h : I n s) : codeAny (model prog w) A (.compLoop (.ListComp elt [⟨target, iter, ifs, 0⟩] scope pos) 0 it acc env) R s := by
  refine codeAny_loop rfl I (fun n s hI => ?_) n h
  show wpAny _ A ((compTurn (.ListComp elt [⟨target, iter, ifs, 0⟩] scope pos) 0 it acc env).onRaise (fun x => do noteFrame x env; theTreesLotGoes x)) _ _ s
  refine wpAny_noted ?_
  rw [compTurn_list]
  refine wpAny_bind (wpAny_standAt (wpAny_bind (wpAny_mono (turn n s _ hI) (fun r s₁ h₁ => ?_) fun _ _ z => z)))
  cases r with
  | none => exact wpAny_pure h₁
  | some v =>
    refine wpAny_bind (wpAny_mono h₁ (fun _ s₁' h₁' => ?_) fun _ _ z => z)
    refine wpAny_bind (wpAny_mono h₁' (fun _ s₂ h₂ => wpAny_bind (wpAny_mono h₂ (fun ok s₃ h₃ => ?_) fun _ _ z => z)) fun _ _ z => z)
    cases ok with
    | false => exact wpAny_pure ⟨rfl, h₃⟩
    | true =>
      exact wpAny_bind (wpAny_bind (wpAny_mono h₃ (fun x s₄ h₄ => wpAny_bind (wpAny_mono h₄ (fun _ s₅ h₅ => wpAny_pure (wpAny_pure ⟨rfl, h₅⟩)) fun _ _ z => z)) fun _ _ z => z))

section
variable {env : Env} {hT : Heap} {κ : List (Str × Addr)} {W O : List Addr} {s₀ s s' : Shared} {ρ ρ' : Ro} {ω ω' : Om}
/-- a new place of no one's becomes hot -/
theorem St.moreHot {c : Addr} (p : St env hT κ W O s₀ ρ ω s) (e : Ext s s') (hc : s.heap.get? c = none) (hn : ∃ o, s'.heap.get? c = some o ∧ NoTup o) : St env hT κ W (c :: O) s₀ ρ ω s' := by
  have q := p.ext e
  have hT0 : hT.get? c = none := by
    cases z : hT.get? c with
    | none => rfl
    | some o => have := p.top c o z; rw [hc] at this; cases this
  refine ⟨q.top, fun b hb => (List.mem_cons.mp hb).elim (fun z => z ▸ hT0) (p.topO b), q.fm, q.bare, q.os, fun b hb => (List.mem_cons.mp hb).elim (fun z => z ▸ hn) (q.hot b), fun b hb => List.mem_cons_of_mem _ (p.wo b hb), q.ns, List.mem_cons_of_mem _ p.lo, p.lw,
    fun y c z => let ⟨a, b, d, i, f⟩ := q.cells y c z; ⟨a, List.mem_cons_of_mem _ b, d, i, f⟩, fun y r z => ?_, fun b ds' z => ?_, p.nodup⟩
  · have z' := p.vars y r z
    cases r with
    | d d => obtain ⟨v, at', r⟩ := z'; exact ⟨v, at'.keep e.keep, (r.more hc).keep e.keep⟩
    | own b => exact VarAt.keep z' e.keep
  · obtain ⟨i, j, vs, l, pl, r⟩ := p.owns b ds' z
    exact ⟨List.mem_cons_of_mem _ i, j, vs, (let ⟨o, h1, h2⟩ := l; ⟨o, e.keep _ _ h1, h2⟩), (fun z => (pl z).at fun o y => e.keep _ _ y), RDs.keep (RDs.more r hc) e.keep⟩
/-- and it is let go -/
theorem St.drop {c : Addr} {h' : Heap} (p : St env hT κ W (c :: O) s₀ ρ ω s) (hc : c ∉ O) (hn : ∃ m, s.heap.Ns c m) (hs : Heap.SameBut c s.heap h') (hw : ∀ a ∈ W, a ∈ O) (hl : env.locals ∈ O) (hk : ∀ y b, κ.lookup y = some b → b ∈ O) (ho : ∀ p ∈ ω, p.1 ∈ O) (h0 : c ∉ W) (h1 : s₀.heap.get? c = none) :
    St env hT κ W O s₀ ρ ω { s with heap := h' } := by
  obtain ⟨mc, hnc⟩ := hn
  have f : Fm [c] s.heap h' := Fm.of_same hs
  have ne : ∀ {a}, a ∈ O → a ∉ [c] := fun ha q => hc ((List.mem_singleton.mp q) ▸ ha)
  have sub : ∀ a ∈ [c], a ∈ c :: O := fun a ha => by rw [List.mem_singleton.mp ha]; exact List.mem_cons_self ..
  have subO : ∀ a ∈ O, a ∈ c :: O := fun a ha => List.mem_cons_of_mem _ ha
  refine ⟨fun b o e => f b o (p.top b o e) fun q => ?_, fun a ha => p.topO a (subO a ha), fun b o e hn => f b o (p.fm b o e hn) fun q => ?_, p.bare, p.os, fun a ha => ?_, hw, ?_, hl, p.lw, fun y b q => ?_, fun y r q => ?_, fun a ds q => ?_, p.nodup⟩
  · have := p.topO c (List.mem_cons_self ..)
    rw [← List.mem_singleton.mp q, e] at this; cases this
  · rw [← List.mem_singleton.mp q, e] at h1; cases h1
  · obtain ⟨o, ho, nt⟩ := p.hot a (subO a ha)
    exact ⟨o, f _ _ ho (ne ha), nt⟩
  · obtain ⟨m, hn⟩ := p.ns
    exact ⟨m, hn.at' fun o e => f _ _ e (ne hl)⟩
  · obtain ⟨a, b', d, ⟨v, o, ho, hd⟩, g⟩ := p.cells y b q
    exact ⟨a, hk y b q, d, ⟨v, o, f _ _ ho (ne (hk y b q)), hd⟩, g⟩
  · have va : ∀ v, VarAt env s.heap y v → VarAt env h' y v := fun v hz => by
      rcases hz with ⟨a, m, n, e⟩ | ⟨a, b, e, i⟩
      · exact .inl ⟨a, m, n.at' fun o e => f _ _ e (ne hl), e⟩
      · exact .inr ⟨a, b, e, i.sameBut hs (Ne.symm (ns_ne_cell hnc i))⟩
    have z := p.vars y r q
    cases r with
    | d d => obtain ⟨v, a, r⟩ := z; exact ⟨v, va v a, RD.sub (RD.fm r p.hot sub f) subO⟩
    | own a => exact va _ z
  · obtain ⟨i, j, vs, l, pl, r⟩ := p.owns a ds q
    have ha := ne (ho _ q)
    exact ⟨ho _ q, j, vs, (let ⟨o, h1, h2⟩ := l; ⟨o, f _ _ h1 ha, h2⟩), (fun z => (pl z).at fun o y => f _ _ y ha), RDs.sub (RDs.fm r p.hot sub f) subO⟩
end

section
variable (prog : Program) (w : World) (A : Around) (env : Env) (hT : Heap) (κ : List (Str × Addr))
structure TstsS (ρ : Ro) (ω : Om) (ifs : List Expr) (b : Bool) : Prop where
  run : ∀ W O s₀ s (Q : Bool → Shared → Prop) (E : Value → Shared → Prop), St env hT κ W O s₀ ρ ω s → (∀ s', Ext s s' → Q b s') →
    wpAny (model prog w) A (forIn ifs true fun c r => if r = true then do let ok ← isTrue c env (eval c env); pure (ForInStep.yield ok) else pure (ForInStep.yield r)) Q E s
end
section
variable {prog : Program} {w : World} {A : Around} {env : Env} {hT : Heap} {κ : List (Str × Addr)} {X : List Addr} {ρ ρ' ρc : Ro} {ω ω' ω₁ ω₂ : Om} {K : Kn} {rest : List Stmt} {pos p₁ p₂ p₃ p₄ p₆ : Pos} {e e₁ e₂ e₃ iter target elt : Expr} {d d₁ d₂ d₃ : PyData} {x y z : Str} {ds : List PyData} {ifs : List Expr} {scope : Scope} {cl : List (Str × Addr)} {b : Bool}
theorem ts_nil : TstsS prog w A env hT κ ρ ω [] true := .mk fun W O s₀ s Q E p h => wpAny_tests_nil (h s (.refl s))
theorem ts_one (ht : TstS prog w A env hT κ ρ ω e b) : TstsS prog w A env hT κ ρ ω [e] b := .mk fun W O s₀ s Q E p h => wpAny_tests_one (ht.run W O s₀ s Q E p h)

/-- what a turn of a comprehension does -/
def CTurn (prog : Program) (w : World) (A : Around) (cenv : Addr → Env) (hT : Heap) (target elt : Expr) (ifs : List Expr) (ρc : Ro) (ds : List PyData) (res : Nat → List PyData) : Prop :=
  ∀ C (ω : Om) i d, ds[i]? = some d → ∃ bs, Asg prog w A (cenv C) hT [] target d bs ∧ (∀ y r, ρc.lookup y = some r → (bs ++ ρc).lookup y = some r) ∧
    ((∃ y, TstsS prog w A (cenv C) hT [] (bs ++ ρc) ω ifs true ∧ EvS prog w A (cenv C) hT [] (bs ++ ρc) ω elt y ∧ res (i + 1) = res i ++ [y]) ∨
      (TstsS prog w A (cenv C) hT [] (bs ++ ρc) ω ifs false ∧ res (i + 1) = res i))
/-- the names that it sees of the frame around -/
def Cap (env : Env) (κ : List (Str × Addr)) (scope : Scope) (cl : List (Str × Addr)) (ρ ρc : Ro) : Prop :=
  ∀ y r, ρc.lookup y = some r → ∃ d c, r = .d d ∧ ρ.lookup y = some (.d d) ∧ env.kindOf y = some .cell ∧ κ.lookup y = some c ∧ cl.lookup y = some c ∧ (relabel scope env).names.lookup y = some .cell
theorem cap_nil : Cap env κ scope cl ρ [] := fun y r h => nomatch h

theorem comp_core {W O : List Addr} {s₀ s : Shared} {E : Value → Shared → Prop} {use : Option (Value → Sem Unit)} {Q : Value → Shared → Prop} {res : Nat → List PyData} (p : St env hT κ W O s₀ ρ ω s)
    (hi : IterEv prog w A env hT κ ρ ω iter target ds) (hclos : closureFor scope env = pure cl) (hcell : ∀ y ∈ scope.names, y.2 ≠ .cell) (hkind : scope.kind = .function)
    (hnames : ∀ y ∈ scope.names, y.2 = .local → scope.names.lookup y.1 = some .local) (cap : Cap env κ scope cl ρ ρc) (h0 : res 0 = []) (hz : ∀ i ≤ ds.length, (res i).length ≤ 1000)
    (turn : CTurn prog w A (fun C => compEnvC scope cl C env) hT target elt ifs ρc ds res)
    (hfin : ∀ C D s' vs, Ext s s' → s.heap.get? C = none → s.heap.get? D = none → C ≠ D → (∃ m, s'.heap.Ns C m) → s'.heap.IsList D vs → s'.heap.PlainList D vs → RDs (C :: D :: O) s'.heap vs.toList (res ds.length) → Hot (C :: D :: O) s'.heap →
      compPost (model prog w) A E use Q (.ref D) C (.ok .next) s')
    (hs : ∀ x, foldedSetIterable iter env x = pure x := by intro _; rfl) :
    wpAny (model prog w) A (comprehension (.ListComp elt [⟨target, iter, ifs, 0⟩] scope pos) scope env p₁ (newList []) false (eval iter env) use) Q E s := by
  refine wpAny_comprehension_free rfl hs hclos hkind hnames (hi.run W O s₀ s _ E p fun it wr gs J s₁ e₁ IA j0 hfr hgf => ?_)
  refine wpAny_newObj_type (wpAny_newFunctionEnv hcell (by intro y hy; simp at hy) (fun h₁ hns₁ hsb₁ => ?_) hkind)
  dsimp only at hns₁ hsb₁ ⊢
  generalize hH2 : s₁.heap.push { cls := .type "list", dict := none, data := .seq ([] : List Value).toArray } = H2 at hns₁ hsb₁ ⊢
  have hC : H2.objs.size = s₁.heap.objs.size + 1 := by rw [← hH2, Heap.size_push]
  generalize hDD : s₁.heap.objs.size = D at *
  have hCC := hC
  generalize H2.objs.size = C at hns₁ hsb₁ hCC ⊢
  have hCD : C ≠ D := by rw [hCC]; exact Nat.succ_ne_self D
  have old₁ : Keep s₁.heap h₁ := fun b o e => by
    have lt := Heap.lt_size e
    rw [hDD] at lt
    exact hsb₁.extBut b o (by rw [hCC]; exact Nat.ne_of_lt (Nat.lt_succ_of_lt lt)) (Heap.get?_push_of_some _ (hH2 ▸ Heap.get?_push_of_some _ e))
  have fr₁ : ∀ a, D ≤ a → s₁.heap.get? a = none := fun a ha => by
    cases e : s₁.heap.get? a with
    | none => rfl
    | some o' => exact absurd (Heap.lt_size e) (by rw [hDD]; exact Nat.not_lt.mpr ha)
  have back : ∀ a, s₁.heap.get? a = none → s.heap.get? a = none := fun a ha => by
    cases e : s.heap.get? a with
    | none => rfl
    | some o' => rw [e₁.keep _ _ e] at ha; cases ha
  have sD1 := fr₁ D (Nat.le_refl _)
  have sC1 : s₁.heap.get? C = none := fr₁ C (by rw [hCC]; exact Nat.le_succ _)
  have sD := back _ sD1
  have sC := back _ sC1
  have hacc : h₁.PlainList D #[] := ⟨_, hsb₁.extBut _ _ (Ne.symm hCD) (Heap.get?_push_of_some _ (hH2 ▸ hDD ▸ Heap.get?_push_size _ rfl))⟩
  generalize hs3 : ({ s₁ with heap := h₁, toks := s₁.toks + ([] : List (Str × Value)).length } : Shared) = s₃
  have hh3 : s₃.heap = h₁ := by rw [← hs3]
  have e₃ : Ext s₁ s₃ := by rw [← hs3]; exact Ext.heap old₁ _
  have e03 := e₁.trans e₃
  have hn3 : ∃ m, s₃.heap.Ns C m := by rw [hh3]; exact ⟨_, hns₁⟩
  have hl3 : s₃.heap.PlainList D #[] := by rw [hh3]; exact hacc
  have hot3 : Hot (C :: D :: O) s₃.heap := fun a ha => by
    rcases List.mem_cons.mp ha with rfl | ha
    · obtain ⟨m, hn⟩ := hn3; exact notup_of_ns hn
    · rcases List.mem_cons.mp ha with rfl | ha
      · exact notup_of_list hl3.isList
      · exact (p.hot.keep e03.keep) a ha
  have topN : ∀ a, s.heap.get? a = none → hT.get? a = none := fun a ha => by
    cases z : hT.get? a with
    | none => rfl
    | some o => have := p.top a o z; rw [ha] at this; cases this
  have fO : ∀ a ∈ wr, a ∉ C :: D :: O := fun a ha q => by
    obtain ⟨o, ho, hd⟩ := IA.kind j0 a ha
    rcases List.mem_cons.mp q with rfl | q
    · rw [sC1] at ho; cases ho
    · rcases List.mem_cons.mp q with rfl | q
      · rw [sD1] at ho; cases ho
      · obtain ⟨o', ho', _⟩ := p.hot a q
        rw [hfr a ha] at ho'; cases ho'
  have q₃ : St (compEnvC scope cl C env) hT [] [] (C :: D :: O) s ρc [(D, true, res 0)] s₃ := by
    refine ⟨fun b o z => e03.keep b o (p.top b o z), fun a ha => ?_, Fm.of_keep e03.keep, e03.bare, e03.os, hot3, (fun a ha => nomatch ha), hn3, List.mem_cons_self .., .inr sC, (fun y c z => nomatch z), fun y r z => ?_, fun a dd z => ?_, by simp⟩
    · rcases List.mem_cons.mp ha with rfl | ha
      · exact topN _ sC
      · rcases List.mem_cons.mp ha with rfl | ha
        · exact topN _ sD
        · exact p.topO a ha
    · obtain ⟨d, c, rfl, hr, hk, hκ, hcl, hnm⟩ := cap y r z
      obtain ⟨v, at', rv⟩ := p.vars y _ hr
      obtain ⟨hcc, _⟩ := p.cells y c hκ
      rcases at' with ⟨h1, _⟩ | ⟨_, c', hc', i⟩
      · rw [hk] at h1; cases h1
      · rw [hcc] at hc'
        cases hc'
        exact ⟨v, .inr ⟨hnm, c, hcl, i.keeps e03.keep⟩, ((rv.more sD).more (by
          exact sC)).keep e03.keep⟩
    · have z' := List.mem_singleton.mp z
      cases z'
      exact ⟨by simp, .inr sD, #[], hl3.isList, fun _ => hl3, by rw [h0]; exact .nil⟩
  have j3 : J wr (C :: D :: O) 0 s₃ := by
    have j1 : J wr (C :: D :: O) 0 s₁ := IA.more (IA.more j0 sD1) sC1
    exact IA.keep j1 e₃
  have loop : codeAny (model prog w) A (.compLoop (.ListComp elt [⟨target, iter, ifs, 0⟩] scope pos) 0 (.ref it) (.ref D) (compEnvC scope cl C env)) (compPost (model prog w) A E use Q (.ref D) C) s₃ := by
    refine code_comp (fun n s' => ∃ i wr, i ≤ ds.length ∧ n = ds.length + 1 - i ∧ St (compEnvC scope cl C env) hT [] [] (C :: D :: O) s ρc [(D, true, res i)] s' ∧ J wr (C :: D :: O) i s' ∧ ∀ a ∈ wr, a ∉ C :: D :: O ∧ s.heap.get? a = none ∧ hT.get? a = none) ?_ (ds.length + 1) ⟨0, wr, Nat.zero_le _, rfl, q₃, j3, fun a ha => ⟨fO a ha, hfr a ha, topN a (hfr a ha)⟩⟩
    rintro n s' E' ⟨i, wr, hi', rfl, q, j, fw⟩
    have fr : ∀ a, s'.heap.get? a = none → a ∉ C :: D :: O ∧ s.heap.get? a = none ∧ hT.get? a = none := fun a ha => by
      have h2 : s.heap.get? a = none := (fresh_back q.fm ha).resolve_left (fun z => nomatch z)
      exact ⟨q.hot.ne ha, h2, topN a h2⟩
    by_cases hlt : i < ds.length
    · obtain ⟨d, hd⟩ : ∃ d, ds[i]? = some d := ⟨_, List.getElem?_eq_getElem hlt⟩
      obtain ⟨bs, ha, hρ, ht⟩ := turn C [(D, true, res i)] i d hd
      refine wpAny_mono (IA.turn wr _ i d s' (fun v s₂ => wpAny (model prog w) A (assign target (compEnvC scope cl C env) v) (fun _ s₂ =>
          wpAny (model prog w) A (forIn ifs true fun c r => if r = true then do let ok ← isTrue c (compEnvC scope cl C env) (eval c (compEnvC scope cl C env)); pure (ForInStep.yield ok) else pure (ForInStep.yield r)) (fun ok s₃ =>
            if ok = true then wpAny (model prog w) A (eval elt (compEnvC scope cl C env)) (fun x s₄ => wpAny (model prog w) A (call (.builtin "list.append") [.ref D, x]) (fun _ s₅ => ∃ m, m < ds.length + 1 - i ∧ ∃ i wr, i ≤ ds.length ∧ m = ds.length + 1 - i ∧ St (compEnvC scope cl C env) hT [] [] (C :: D :: O) s ρc [(D, true, res i)] s₅ ∧ J wr (C :: D :: O) i s₅ ∧ ∀ a ∈ wr, a ∉ C :: D :: O ∧ s.heap.get? a = none ∧ hT.get? a = none) E' s₄) E' s₃
            else ∃ m, m < ds.length + 1 - i ∧ ∃ i wr, i ≤ ds.length ∧ m = ds.length + 1 - i ∧ St (compEnvC scope cl C env) hT [] [] (C :: D :: O) s ρc [(D, true, res i)] s₃ ∧ J wr (C :: D :: O) i s₃ ∧ ∀ a ∈ wr, a ∉ C :: D :: O ∧ s.heap.get? a = none ∧ hT.get? a = none) E' s₂) E' s₂) E' hd j q.hot fun v s₂ wr' f₂ b₂ o₂ nw j₂ r₂ => ?_) (fun r s₂ h₂ => ?_) fun _ _ z => z
      · have q₂ := q.step f₂ b₂ hgf o₂ (fun a ha => (fw a ha).1) (fun a ha => (fw a ha).2.1) (fun a ha => (fw a ha).2.2) (IA.kind j)
        have fw' : ∀ a ∈ wr', a ∉ C :: D :: O ∧ s.heap.get? a = none ∧ hT.get? a = none := fun a ha => (nw a ha).elim (fw a) (fr a)
        have ck : CellsOk ([] : List (Str × Addr)) := fun c hc => nomatch hc
        have fin : ∀ s₅, St (compEnvC scope cl C env) hT [] (wset (compEnvC scope cl C env) [] [(D, true, res i)]) (C :: D :: O) s₂ (bs ++ ρc) [(D, true, res (i + 1))] s₅ →
            ∃ m, m < ds.length + 1 - i ∧ ∃ i wr, i ≤ ds.length ∧ m = ds.length + 1 - i ∧ St (compEnvC scope cl C env) hT [] [] (C :: D :: O) s ρc [(D, true, res i)] s₅ ∧ J wr (C :: D :: O) i s₅ ∧ ∀ a ∈ wr, a ∉ C :: D :: O ∧ s.heap.get? a = none ∧ hT.get? a = none := fun s₅ q₅ =>
          ⟨ds.length + 1 - (i + 1), by omega, i + 1, wr', hlt, rfl, (St.back ck q₂ q₅ fun _ z => z).names hρ, IA.frame j₂ q₅.fm (q₂.rebase ck).wo q₂.hot (fun a ha' z => (fw' a ha').1 ((q₂.rebase ck).wo a z)) q₅.bare, fw'⟩
        refine ha.run _ _ s₂ _ _ s₂ v _ _ (q₂.rebase ck) r₂ fun s₄ q₄ => ?_
        rcases ht with ⟨y, ht, he, hr⟩ | ⟨ht, hr⟩
        · refine ht.run _ _ _ s₄ _ _ q₄ fun s₅ e₅ => ?_
          try dsimp only
          rw [if_pos rfl]
          refine he.run _ _ _ s₅ _ _ (q₄.ext e₅) fun u s₆ e₆ r₆ => ?_
          have q₆ := (q₄.ext e₅).ext e₆
          obtain ⟨_, _, vs₁, lv₁, pl₁, rv₁⟩ := q₆.owns D (true, res i) (by simp)
          have hsz : vs₁.size = (res i).length := by rw [← Array.length_toList]; exact RDs.length rv₁
          have := hz i hi'
          refine wpAny_list_append_plain (pl₁ rfl) (fun h' hp' hs' => ?_) (by rw [sizeLine_eq]; omega)
          refine fin _ ?_
          rw [hr]
          exact St.upd (ω₁ := []) (ω₂ := []) q₆ hp'.isList (fun _ => hp') hs' (by rw [Array.toList_push]; exact RDs.append rv₁ (.cons r₆ .nil)) s₆.toks
        · refine ht.run _ _ _ s₄ _ _ q₄ fun s₅ e₅ => ?_
          try dsimp only
          rw [if_neg (by decide)]
          refine fin _ ?_
          rw [hr]
          exact q₄.ext e₅
      · cases r with
        | none => exact h₂.elim
        | some v => exact h₂
    · have hin : i = ds.length := Nat.le_antisymm hi' (Nat.not_lt.mp hlt)
      subst hin
      refine IA.done wr _ s' _ _ j fun s₂ f₂ b₂ o₂ => ?_
      have q₂ := q.step f₂ b₂ hgf o₂ (fun a ha => (fw a ha).1) (fun a ha => (fw a ha).2.1) (fun a ha => (fw a ha).2.2) (IA.kind j)
      obtain ⟨_, _, vs₁, lv₁, pl₁, rv₁⟩ := q₂.owns D (true, res ds.length) (by simp)
      exact hfin C D s₂ vs₁ ⟨fun b o e => q₂.fm b o e (fun z => nomatch z), q₂.bare, q₂.os⟩ sC sD hCD q₂.ns lv₁ (pl₁ rfl) rv₁ q₂.hot
  refine codeAny_compStart_list loop (IA.self wr _ 0 _ _ _ j3 loop)
end
section
variable {prog : Program} {w : World} {A : Around} {env : Env} {hT : Heap} {κ : List (Str × Addr)} {X : List Addr} {ρ ρ' ρc : Ro} {ω ω' ω₁ ω₂ : Om} {K : Kn} {rest : List Stmt} {pos p₁ p₂ p₃ p₄ p₆ : Pos} {e e₁ e₂ e₃ iter target elt : Expr} {d d₁ d₂ d₃ : PyData} {x y z : Str} {ds : List PyData} {ifs : List Expr} {scope : Scope} {cl : List (Str × Addr)} {b : Bool} {res : Nat → List PyData}

theorem comp_list {C D : Addr} {O : List Addr} {h h' : Heap} {vs : Array Value} (hs : Heap.SameBut C h h') (hCD : C ≠ D) (hDO : D ∉ O) (hl : h.IsList D vs) (hr : RDs (C :: D :: O) h vs.toList ds) (hot : Hot (C :: D :: O) h) : RD O h' (.ref D) (.list ds) :=
  RD.list (hl.extBut hs.extBut (Ne.symm hCD)) hDO (RDs.sub (RDs.fm (W := [C]) hr hot (fun a ha => by rw [List.mem_singleton.mp ha]; exact List.mem_cons_self ..) (Fm.of_same hs)) fun a ha => List.mem_cons_of_mem _ (List.mem_cons_of_mem _ ha))

theorem ev_comp (hi : IterEv prog w A env hT κ ρ ω iter target ds) (hclos : closureFor scope env = pure cl) (hcell : ∀ y ∈ scope.names, y.2 ≠ .cell) (hkind : scope.kind = .function)
    (hnames : ∀ y ∈ scope.names, y.2 = .local → scope.names.lookup y.1 = some .local) (cap : Cap env κ scope cl ρ ρc) (h0 : res 0 = []) (hz : ∀ i ≤ ds.length, (res i).length ≤ 1000)
    (turn : CTurn prog w A (fun C => compEnvC scope cl C env) hT target elt ifs ρc ds res) {r : List PyData} (hr : res ds.length = r)
    (hs : ∀ x, foldedSetIterable iter env x = pure x := by intro _; rfl) :
    EvS prog w A env hT κ ρ ω (.ListComp elt [⟨target, iter, ifs, 0⟩] scope pos) (.list r) := .mk fun W O s₀ s Q E p h => by
  subst hr
  rw [eval_ListComp]
  refine comp_core (use := none) p hi hclos hcell hkind hnames cap h0 hz turn (fun C D s' vs e hC hD hCD hn hl hpl hr hot => ?_) hs
  obtain ⟨m, hn⟩ := hn
  refine ⟨m, hn, fun h' hs' => h _ _ ⟨fun b o z => hs'.extBut b o (by rintro rfl; rw [hC] at z; cases z) (e.keep b o z), e.bare, e.os⟩ (comp_list hs' hCD (p.hot.ne hD) hl hr hot)⟩

theorem go_assignComp (k : EOk env) (hi : IterEv prog w A env hT κ ρ ω iter target ds) (hclos : closureFor scope env = pure cl) (hcell : ∀ y ∈ scope.names, y.2 ≠ .cell) (hkind : scope.kind = .function)
    (hnames : ∀ y ∈ scope.names, y.2 = .local → scope.names.lookup y.1 = some .local) (cap : Cap env κ scope cl ρ ρc) (h0 : res 0 = []) (hz : ∀ i ≤ ds.length, (res i).length ≤ 1000)
    (turn : CTurn prog w A (fun C => compEnvC scope cl C env) hT target elt ifs ρc ds res) {r : List PyData} (hr : res ds.length = r)
    (hx : env.kindOf x = some .local) (h : Go prog w A env hT κ X ((x, .d (.list r)) :: ρ) ω rest K)
    (hsw : swapsWith (.ListComp elt [⟨target, iter, ifs, 0⟩] scope p₂) (some (.Name x p₁)) pos.line env = pure true := by rfl)
    (hs : ∀ x, foldedSetIterable iter env x = pure x := by intro _; rfl) :
    Go prog w A env hT κ X ρ ω (.Assign [.Name x p₁] (.ListComp elt [⟨target, iter, ifs, 0⟩] scope p₂) pos :: rest) K := .mk fun W B O s₀ s E hX hB p => by
  subst hr
  refine wpAny_execs_cons ?_
  rw [exec_Assign_Name_used _ _ _ _ hsw]
  refine wpAny_bind (wpAny_standAt (wpAny_bind ?_))
  show wpAny _ A (do let _ ← comprehension (.ListComp elt [⟨target, iter, ifs, 0⟩] scope p₂) scope env _ (newList []) false (eval iter env) (some (assign (.Name x p₁) env))) _ _ s
  refine wpAny_bind (wpAny_mono (comp_core (use := some (assign (.Name x p₁) env)) (Q := fun _ s' => wpAny (model prog w) A (execs rest env) (K W B s₀) E s') p hi hclos hcell hkind hnames cap h0 hz turn (fun C D s' vs e hC hD hCD hn hl hpl hr hot => ?_) hs) (fun _ s' hq => wpAny_pure (wpAny_pure hq)) fun _ _ e => e)
  show wpAny _ A (assign (.Name x p₁) env (.ref D)) _ _ _
  have hDO := p.hot.ne hD
  have hCO := p.hot.ne hC
  have q := p.moreHot e hC (hot C (List.mem_cons_self ..))
  obtain ⟨m', hn'⟩ := q.ns
  obtain ⟨mc, hnc⟩ := hn
  have hLC : env.locals ≠ C := fun z => hCO (z ▸ p.lo)
  have rD : RD (C :: O) s'.heap (.ref D) (.list (res ds.length)) :=
    RD.list hl (fun z => (List.mem_cons.mp z).elim (Ne.symm hCD) hDO) (RDs.sub hr fun a ha => (List.mem_cons.mp ha).elim (fun z => z ▸ List.mem_cons_self ..) fun z => List.mem_cons_of_mem _ (List.mem_cons_of_mem _ z))
  refine wpAny_assign_Name (wpAny_storeName_local hx hn' (fun h₂ hn₂ hs₂ => ?_) (noclass k))
  have q₂ := q.store (n := s'.toks + 1) (r := .d (.list (res ds.length))) hx hn' hn₂ hs₂ rD
  refine ⟨mc, hnc.sameBut hs₂ (Ne.symm hLC), fun h₃ hs₃ => h.run W B O s₀ _ E hX hB ?_⟩
  have hc0 : C ∉ W := fun z => hCO (p.wo C z)
  have hc1 : s₀.heap.get? C = none := (fresh_back p.fm hC).resolve_left hc0
  exact q₂.drop hCO ⟨mc, hnc.sameBut hs₂ (Ne.symm hLC)⟩ hs₃ p.wo p.lo (fun y b z => (p.cells y b z).2.1) (fun z hz => (p.owns z.1 z.2 hz).1) hc0 hc1
end
section
variable {prog : Program} {w : World} {A : Around} {env : Env} {hT : Heap} {κ : List (Str × Addr)} {X : List Addr} {ρ ρ' ρc : Ro} {ω ω' ω₁ ω₂ : Om} {K : Kn} {rest body : List Stmt} {pos p₁ p₂ p₃ p₄ p₆ : Pos} {e e₁ e₂ e₃ test : Expr} {d d₁ d₂ d₃ : PyData} {x y z : Str} {ds : List PyData} {b : Bool}

theorem go_while (n : Nat) (ρk : Nat → Ro) (ωk : Nat → Om) (hρ0 : ∀ y r, (ρk 0).lookup y = some r → ρ.lookup y = some r) (hω0 : ωk 0 = ω) (hωk : ∀ i, (ωk i).map (·.1) = ω.map (·.1))
    (ht : ∀ i, i ≤ n → TstS prog w A env hT κ (ρk i) (ωk i) test (decide (i < n)))
    (turn : ∀ i, i < n → Go prog w A env hT κ [] (ρk i) (ωk i) body (nx env hT κ (ρk (i + 1)) (ωk (i + 1)))) (ck : CellsOk κ)
    (h : Go prog w A env hT κ X (ρk n) (ωk n) rest K) : Go prog w A env hT κ X ρ ω (.While test body [] pos :: rest) K := .mk fun W B O s₀ s E hX hB p => by
  refine wpAny_execs_cons (wpAny_While ?_)
  have start : St env hT κ W O s₀ (ρk 0) (ωk 0) s := by rw [hω0]; exact p.names hρ0
  refine codeAny_whileLoop (fun m s' => ∃ i, i ≤ n ∧ m = n + 1 - i ∧ St env hT κ W O s₀ (ρk i) (ωk i) s') ?_ (n + 1) ⟨0, Nat.zero_le _, rfl, start⟩
  rintro m s' ⟨i, hi, rfl, q⟩
  refine (ht i hi).run W O s₀ s' _ _ q fun s₁ e₁ => ?_
  have q₁ := q.ext e₁
  by_cases hlt : i < n
  · rw [decide_eq_true hlt, if_pos rfl]
    refine wpAny_mono ((turn i hlt).run _ O O s₁ s₁ _ (fun _ z => nomatch z) (fun _ z => z) (q₁.rebase ck)) (fun f s₄ ⟨hf, O₂, ho, q₅⟩ => ?_) fun _ _ z => z
    subst hf
    have q₆ := St.back ck q₁ q₅ ho
    have mem : ∀ p ∈ ωk (i + 1), p.1 ∈ O := fun p hp => by
      have h1 : p.1 ∈ (ωk i).map (·.1) := by rw [hωk i, ← hωk (i + 1)]; exact List.mem_map_of_mem hp
      obtain ⟨z, hz, hz'⟩ := List.mem_map.mp h1
      rw [← hz']
      exact (q.owns z.1 z.2 hz).1
    exact ⟨n + 1 - (i + 1), by omega, i + 1, hlt, rfl, q₆.weaken ho q.wo q.lo (fun y c z => (q.cells y c z).2.1) (fun _ _ z => z) (fun _ z => z) mem q₆.nodup⟩
  · rw [decide_eq_false hlt, if_neg (by decide)]
    have hin : i = n := Nat.le_antisymm hi (Nat.not_lt.mp hlt)
    subst hin
    exact wpAny_execs_nil (h.run W B O s₀ s₁ E hX hB q₁)
end

/-- the top as the calls find it -/
structure TT (K : Frag) (mg mb : Str → Option Value) (hT : Heap) : Prop where
  top : TopOk mg mb hT
  frag : K.In hT

/-- what a call of a def of the top answers, wherever it stands -/
structure FnOk (prog : Program) (w : World) (hT : Heap) (k : Nat) (f : Addr) (args : List PyData) (d : PyData) : Prop where
  run : ∀ A O s vs (Q E : Value → Shared → Prop), AOk k A → Keep hT s.heap → (∀ a ∈ O, hT.get? a = none) → Hot O s.heap → RDs O s.heap vs args → (∀ v s', Ext s s' → RD O s'.heap v d → Q v s') → wpAny (model prog w) A (call (.ref f) vs) Q E s

theorem FnOk.cl {prog : Program} {w : World} {hT : Heap} {k : Nat} {f : Addr} {args : List PyData} {d : PyData} {A : Around} {env : Env} {κ : List (Str × Addr)} {W O : List Addr} {s₀ : Shared} {ρ : Ro} {ω : Om} (x : FnOk prog w hT k f args d) (a : AOk k A) :
    Cl prog w A (St env hT κ W O s₀ ρ ω) O (.ref f) args d := fun s vs Q E p r h => x.run A O s vs Q E a p.top p.topO p.hot r h

theorem lookup_rev {α : Type} {x : Str} : ∀ {l : List (Str × α)}, (l.map (·.1)).Nodup → l.reverse.lookup x = l.lookup x
  | [], _ => rfl
  | (y, v) :: l, h => by
    have h' := List.nodup_cons.mp h
    rw [List.reverse_cons, List.lookup_append, lookup_rev h'.2]
    rw [List.lookup_cons]
    cases e : x == y with
    | false => simp [List.lookup_cons, e]
    | true =>
      have : l.lookup x = none := by
        cases z : l.lookup x with
        | none => rfl
        | some v' =>
          exact absurd (by
            have hxy : x = y := eq_of_beq e
            subst hxy
            have : ∀ {l : List (Str × α)}, l.lookup x = some v' → x ∈ l.map (·.1) := by
              intro l
              induction l with
              | nil => intro z; cases z
              | cons q l ih =>
                intro z
                rw [List.lookup_cons] at z
                cases e2 : x == q.1 with
                | true => rw [eq_of_beq e2]; simp
                | false => rw [e2] at z; exact List.mem_cons_of_mem _ (ih z)
            exact this z) h'.1
      rw [this]
      simp [List.lookup_cons, e]

theorem bind_vars {O : List Addr} {h : Heap} {x : Str} {r : RV} : ∀ {names : List Str} {vs : List Value} {ds : List PyData}, RDs O h vs ds → (names.zip (ds.map RV.d)).lookup x = some r → ∃ v d, r = .d d ∧ (names.zip vs).lookup x = some v ∧ RD O h v d
  | [], _, _, _, e => by simp at e
  | y :: names, _, _, .nil, e => by simp at e
  | y :: names, v :: vs, d :: ds, .cons a t, e => by
    rw [List.map_cons, List.zip_cons_cons, List.lookup_cons] at e
    rw [List.zip_cons_cons, List.lookup_cons]
    cases q : x == y with
    | true => rw [q] at e; cases e; exact ⟨v, d, rfl, rfl, a⟩
    | false => rw [q] at e; exact bind_vars t e
theorem zip_keys {α : Type} : ∀ {names : List Str} {vs : List α}, names.Nodup → ((names.zip vs).map (·.1)).Nodup
  | [], _, _ => by simp
  | _ :: _, [], _ => by simp
  | y :: names, v :: vs, h => by
    rw [List.zip_cons_cons, List.map_cons]
    have h' := List.nodup_cons.mp h
    refine List.nodup_cons.mpr ⟨fun q => h'.1 ?_, zip_keys h'.2⟩
    obtain ⟨⟨a, b⟩, hp, rfl⟩ := List.mem_map.mp q
    exact (List.of_mem_zip hp).1

theorem fn_plain {prog : Program} {w : World} {hT : Heap} {K : Frag} {mg mb : Str → Option Value} {k : Nat} {f : Addr} {args args' : List PyData} {d : PyData} {oc : Value} {od : Option Addr} {fd : FuncData} {osl : Array (Option Value)} {body : List Stmt} (names : List Str)
    (T : TT K mg mb hT) (ho : K.lookup f = some ⟨oc, od, .func fd, osl⟩) (hcd : codeIn K fd.code fd.qualname = true) (hbody : fd.body = .stmts body)
    (hbind : ∀ O s vs, K.In s.heap → RDs O s.heap vs args → ∃ us, us.length = names.length ∧ BindsTo s fd ⟨vs, []⟩ (names.zip us) ∧ RDs O s.heap us args')
    (hnd : names.Nodup) (hloc : ∀ y ∈ names, fd.scope.names.lookup y = some .local) (hcell : ∀ y ∈ fd.scope.names, y.2 ≠ .cell)
    (hk : fd.scope.kind = .function) (hgl : fd.globals = mainGlobals) (hbi : fd.builtins = builtinsNs)
    (h : ∀ A L, AOk k A → EOk (callEnv fd L f) → Go prog w A (callEnv fd L f) hT [] [] (names.zip (args'.map .d)) [] body (rt (callEnv fd L f) hT [] d))
    (hco : fd.scope.isCoroutine = false := by rfl) (hgen : fd.scope.isGenerator = false := by rfl) : FnOk prog w hT (k + 1) f args d := .mk fun A O s vs Q E a keep hO hot r hQ => by
  have inS : K.In s.heap := T.frag.keeps keep
  obtain ⟨us, hlen, hb, ru⟩ := hbind O s vs inS r
  refine wpAny_call (codeAny_call_def a.room (inS _ _ ho) rfl (T.top.lim.keeps keep) (codeRec_of inS hcd) hbody hb hcell (fun x hx => hloc _ (List.of_mem_zip hx).1) (fun h₀ hn hkeep => ?_) hco hgen hk)
  have frL : s.heap.get? s.heap.objs.size = none := by
    cases z : s.heap.get? s.heap.objs.size with
    | none => rfl
    | some o => exact absurd (Heap.lt_size z) (Nat.lt_irrefl _)
  generalize hL : s.heap.objs.size = L at hn frL ⊢
  have e0 : Ext s { s with heap := h₀, toks := s.toks + (names.zip us).length } := Ext.heap hkeep _
  have q : St (callEnv fd L f) hT [] [] (L :: O) s (names.zip (args'.map .d)) [] { s with heap := h₀, toks := s.toks + (names.zip us).length } := by
    refine ⟨fun b o z => hkeep b o (keep b o z), fun b hb => ?_, Fm.of_keep hkeep, .refl _ _, rfl, fun b hb => ?_, (fun b z => nomatch z), ⟨_, hn⟩, List.mem_cons_self .., .inr frL, (fun y c z => nomatch z), fun y r' z => ?_, (fun b dd z => nomatch z), by simp⟩
    · rcases List.mem_cons.mp hb with rfl | hb
      · cases z : hT.get? b with
        | none => rfl
        | some o => have := keep _ _ z; rw [frL] at this; cases this
      · exact hO b hb
    · rcases List.mem_cons.mp hb with rfl | hb
      · exact notup_of_ns hn
      · obtain ⟨o, h1, h2⟩ := hot b hb; exact ⟨o, hkeep _ _ h1, h2⟩
    · obtain ⟨v, d', rfl, hv, rv⟩ := bind_vars ru z
      refine ⟨v, .inl ⟨?_, _, hn, ?_⟩, (rv.more frL).keep hkeep⟩
      · refine hloc y ?_
        have : ∀ {l : List (Str × Value)}, l.lookup y = some v → ∃ u, (y, u) ∈ l := by
          intro l
          induction l with
          | nil => intro z; cases z
          | cons q l ih =>
            intro z
            rw [List.lookup_cons] at z
            cases e2 : y == q.1 with
            | true => exact ⟨q.2, by rw [eq_of_beq e2]; exact List.mem_cons_self ..⟩
            | false => rw [e2] at z; obtain ⟨u, hu⟩ := ih z; exact ⟨u, List.mem_cons_of_mem _ hu⟩
        obtain ⟨u, hu⟩ := this hv
        exact (List.of_mem_zip hu).1
      · show (names.zip us).reverse.lookup y = some v
        rw [lookup_rev (zip_keys hnd)]; exact hv
  refine wpAny_mono ((h (A.deeper (callEnv fd L f)) L (a.deeper _) ⟨hk, hgl, hbi⟩).run [] O (L :: O) s _ _ (fun _ z => nomatch z) (fun b hb => List.mem_cons_of_mem _ hb) q) (fun fl s' ⟨v, hf, ⟨qf, qb, qo⟩, rv⟩ => ?_) fun _ _ z => z
  subst hf
  exact hQ v s' ⟨fun b o z => qf b o z (fun y => nomatch y), qb, qo⟩ rv
end Mine

set_option maxRecDepth 100000
namespace Mine
noncomputable abbrev KK (w : World) : Frag := hd.heap_39 w.params

section
variable {prog : Program} {w : World} {A : Around} {env : Env} {hT : Heap} {κ : List (Str × Addr)} {X : List Addr} {ρ ρ' ρc : Ro} {ω ω' ω₁ ω₂ : Om} {K : Kn} {rest body : List Stmt} {pos p₁ p₂ p₃ p₄ p₆ : Pos} {e e₁ e₂ e₃ test l r : Expr} {d d₁ d₂ d₃ a b : PyData} {x y z : Str} {ds : List PyData} {i j : Int}
theorem vr (k : EOk env) (h : ρ.lookup x = some (.d d)) (hd : (x == ("__debug__" : Str)) = false := by decide) : EvS prog w A env hT κ ρ ω (.Name x pos) d := .mk fun W O s₀ => ev_name k (fun s p => p.vars x _ h) hd
theorem ci {k : Nat} : EvS prog w A env hT κ ρ ω (.Constant (.int i) k pos) (.int i) := .mk fun W O s₀ => ev_int
theorem cs {k : Nat} : EvS prog w A env hT κ ρ ω (.Constant (.str x) k pos) (.str x) := .mk fun W O s₀ => ev_str
theorem cb {k : Nat} {b : Bool} : EvS prog w A env hT κ ρ ω (.Constant (.bool b) k pos) (.bool b) := .mk fun W O s₀ => ev_bool
theorem cn {k : Nat} : EvS prog w A env hT κ ρ ω (.Constant .none k pos) .none := .mk fun W O s₀ => ev_none
theorem bi {op : Operator} (o : Op prog w A op a b d) (hl : EvS prog w A env hT κ ρ ω l a) (hr : EvS prog w A env hT κ ρ ω r b) : EvS prog w A env hT κ ρ ω (.BinOp l op r pos) d := .mk fun W O s₀ => ev_bin St.po o (hl.run W O s₀) (hr.run W O s₀)
theorem tc {op : CmpOp} {x : Bool} (o : Cmp prog w A op a b x) (hl : EvS prog w A env hT κ ρ ω l a) (hr : EvS prog w A env hT κ ρ ω r b) (hm : behindInMarks op r = false := by with_unfolding_all rfl) : TstS prog w A env hT κ ρ ω (.Compare l [op] [r] pos) x := .mk fun W O s₀ => tst_cmp St.po o (hl.run W O s₀) (hr.run W O s₀) hm
theorem it {value slice : Expr} (hv : EvS prog w A env hT κ ρ ω value (.list ds)) (hi : EvS prog w A env hT κ ρ ω slice (.int i)) (h0 : 0 ≤ i) (hz : i < 2 ^ 62) (hd : ds[i.toNat]? = some d)
    (hs : ∀ l t, subscripted slice false (.ref l) (.int i t) = operate [.ref l, .int i t] (getItem (.ref l) (.int i t)) := by intro _ _; with_unfolding_all rfl) : EvS prog w A env hT κ ρ ω (.Subscript value slice pos) d := .mk fun W O s₀ => ev_item St.po (hv.run W O s₀) (hi.run W O s₀) h0 hz hd hs
theorem gb {x : Str} {v : Value} {mg mb : Str → Option Value} {F : Frag} (k : EOk env) (T : TT F mg mb hT) (hx : env.kindOf x = some .globalImplicit) (hm : nsIn F mainGlobals x = some none) (hb : bootBuiltins x = some v) (hn : x ≠ "__name__" := by decide) (hd : (x == ("__debug__" : Str)) = false := by decide) {W O s₀} :
    Glb prog w A env (St env hT κ W O s₀ ρ ω) x v := glb_b k T.top (fun s p => p.top) hx (mg_none_of T.frag T.top.g hm) hb hn hd
structure ElS (prog : Program) (w : World) (A : Around) (env : Env) (hT : Heap) (κ : List (Str × Addr)) (ρ : Ro) (ω : Om) (es : List Expr) (ds : List PyData) : Prop where
  run : ∀ W O s₀, EvL prog w A env O (St env hT κ W O s₀ ρ ω) es ds
theorem en : ElS prog w A env hT κ ρ ω [] [] := .mk fun W O s₀ => el_nil
theorem ec {es : List Expr} (he : EvS prog w A env hT κ ρ ω e d) (hr : ElS prog w A env hT κ ρ ω es ds) (hs : starEach (e :: es) env = (false, eval e env) :: starEach es env := by rfl) : ElS prog w A env hT κ ρ ω (e :: es) (d :: ds) := .mk fun W O s₀ => el_cons St.po (he.run W O s₀) (hr.run W O s₀) hs
theorem cbS {x : Str} {p' : Pos} {id : String} {es : List Expr} (hg : ∀ W O s₀, Glb prog w A env (St env hT κ W O s₀ ρ ω) x (.builtin id)) (ha : ElS prog w A env hT κ ρ ω (e :: es) ds) (hc : ∀ W O s₀, Cl prog w A (St env hT κ W O s₀ ρ ω) O (.builtin id) ds d)
    (hC : eval (.Call (.Name x p') (e :: es) [] pos) env = (do callWith pos (← eval (.Name x p') env) [] (backTo pos (starEach (e :: es) env)) (backToKw pos (keywordEach [] env))) := by rfl)
    (hs : starEach (e :: es) env = (false, eval e env) :: starEach es env := by rfl) (hn : ((backTo pos (starEach es env)).any (·.1)) = false := by rfl) : EvS prog w A env hT κ ρ ω (.Call (.Name x p') (e :: es) [] pos) d := .mk fun W O s₀ =>
  ev_callb St.po (hg W O s₀) (ha.run W O s₀) (hc W O s₀) hC hs hn
theorem ctS {x : Str} {p' : Pos} {id : String} {es : List Expr} (hg : ∀ W O s₀, Glb prog w A env (St env hT κ W O s₀ ρ ω) x (.type id)) (ha : ElS prog w A env hT κ ρ ω (e :: es) ds) (hc : ∀ W O s₀, Cl prog w A (St env hT κ W O s₀ ρ ω) O (.type id) ds d)
    (hC : eval (.Call (.Name x p') (e :: es) [] pos) env = (do callWith pos (← eval (.Name x p') env) [] (backTo pos (starEach (e :: es) env)) (backToKw pos (keywordEach [] env))) := by rfl)
    (hs : starEach (e :: es) env = (false, eval e env) :: starEach es env := by rfl) (hn : ((backTo pos (starEach es env)).any (·.1)) = false := by rfl) : EvS prog w A env hT κ ρ ω (.Call (.Name x p') (e :: es) [] pos) d := .mk fun W O s₀ =>
  ev_callt St.po (hg W O s₀) (ha.run W O s₀) (hc W O s₀) hC hs hn
theorem cfS {x : Str} {p' : Pos} {f : Addr} {oc : Value} {od : Option Addr} {fd : FuncData} {osl : Array (Option Value)} {es : List Expr} {mg mb : Str → Option Value} {F : Frag} {m : Nat} (k : EOk env) (T : TT F mg mb hT) (a : AOk m A) (ha : ElS prog w A env hT κ ρ ω (e :: es) ds) (hf : FnOk prog w hT m f ds d)
    (hx : env.kindOf x = some .globalImplicit) (hm : nsIn F mainGlobals x = some (some (.ref f))) (ho : F.lookup f = some ⟨oc, od, .func fd, osl⟩) (hd : (x == ("__debug__" : Str)) = false := by decide)
    (hC : eval (.Call (.Name x p') (e :: es) [] pos) env = (do callWith pos (← eval (.Name x p') env) [] (backTo pos (starEach (e :: es) env)) (backToKw pos (keywordEach [] env))) := by rfl)
    (hs : starEach (e :: es) env = (false, eval e env) :: starEach es env := by rfl) : EvS prog w A env hT κ ρ ω (.Call (.Name x p') (e :: es) [] pos) d := .mk fun W O s₀ =>
  ev_callf (hT := hT) St.po (glb_g k T.top (fun s p => p.top) hx (mg_of T.frag T.top.g hm) hd) (fun s p => p.top) (T.frag _ _ ho) rfl (ha.run W O s₀) (hf.cl a) hC hs
theorem sn : ∀ y r, ([] : Ro).lookup y = some r → ρ.lookup y = some r := fun y r h => nomatch h
theorem sc {r : RV} (h : ρ.lookup x = some r) (t : ∀ y r, ρ'.lookup y = some r → ρ.lookup y = some r) : ∀ y r', ((x, r) :: ρ' : Ro).lookup y = some r' → ρ.lookup y = some r' := fun y r' q => by
  by_cases hy : y = x
  · subst hy; rw [lookup_cons_eq] at q; cases q; exact h
  · rw [lookup_cons_ne hy] at q; exact t y r' q
theorem gf {x : Str} {v : Value} {mg mb : Str → Option Value} {F : Frag} (k : EOk env) (T : TT F mg mb hT) (hx : env.kindOf x = some .globalImplicit) (hm : nsIn F mainGlobals x = some (some v)) (hd : (x == ("__debug__" : Str)) = false := by decide) {W O s₀} :
    Glb prog w A env (St env hT κ W O s₀ ρ ω) x v := glb_g k T.top (fun s p => p.top) hx (mg_of T.frag T.top.g hm) hd
end

def bisF : Nat → List Int → Int → Nat → Nat → Nat
  | 0, _, _, lo, _ => lo
  | n + 1, as, x, lo, hi => if lo < hi then (if as.getD ((lo + hi) / 2) 0 < x then bisF n as x ((lo + hi) / 2 + 1) hi else bisF n as x lo ((lo + hi) / 2)) else lo
def bisl (as : List Int) (x : Int) : Nat := bisF as.length as x 0 as.length
def bisS (as : List Int) (x : Int) (p : Nat × Nat) : Nat × Nat := if as.getD ((p.1 + p.2) / 2) 0 < x then ((p.1 + p.2) / 2 + 1, p.2) else (p.1, (p.1 + p.2) / 2)
def bisT (as : List Int) (x : Int) (p : Nat × Nat) : Nat → Nat × Nat
  | 0 => p
  | n + 1 => bisT as x (bisS as x p) n
theorem bisT_succ (as : List Int) (x : Int) : ∀ (n : Nat) (p : Nat × Nat), bisT as x p (n + 1) = bisS as x (bisT as x p n)
  | 0, _ => rfl
  | n + 1, p => bisT_succ as x n (bisS as x p)
theorem bis_stop (as : List Int) (x : Int) : ∀ (k : Nat) (p : Nat × Nat), p.2 - p.1 ≤ k → p.2 ≤ as.length → ∃ n, (∀ i, i ≤ n → ((bisT as x p i).1 < (bisT as x p i).2 ↔ i < n)) ∧ (∀ i, i ≤ n → (bisT as x p i).2 ≤ as.length) ∧ (bisT as x p n).1 = bisF k as x p.1 p.2
  | 0, p, h, hl => ⟨0, fun i hi => by have : i = 0 := by omega
                                      subst this; show p.1 < p.2 ↔ _; omega, fun i hi => by have : i = 0 := by omega
                                                                                            subst this; exact hl, rfl⟩
  | k + 1, p, h, hl => by
    by_cases hlt : p.1 < p.2
    · obtain ⟨n, h1, h3, h2⟩ := bis_stop as x k (bisS as x p) (by unfold bisS; split <;> dsimp only <;> omega) (by unfold bisS; split <;> dsimp only <;> omega)
      refine ⟨n + 1, fun i hi => ?_, fun i hi => ?_, ?_⟩
      · cases i with
        | zero => exact ⟨fun _ => Nat.succ_pos _, fun _ => hlt⟩
        | succ i => show (bisT as x (bisS as x p) i).1 < (bisT as x (bisS as x p) i).2 ↔ _; rw [h1 i (by omega)]; omega
      · cases i with
        | zero => exact hl
        | succ i => exact h3 i (by omega)
      · show (bisT as x (bisS as x p) n).1 = _
        rw [h2]
        simp only [bisF, if_pos hlt, bisS]
        split <;> rfl
    · refine ⟨0, fun i hi => by have : i = 0 := by omega
                                subst this; show p.1 < p.2 ↔ _; omega, fun i hi => by have : i = 0 := by omega
                                                                                      subst this; exact hl, ?_⟩
      show p.1 = _
      unfold bisF
      rw [if_neg hlt]

theorem bis_ok {prog : Program} {w : World} {hT : Heap} {mg mb : Str → Option Value} (T : TT (KK w) mg mb hT) {as : List Int} {x : Int} (hz : as.length ≤ 1000) : FnOk prog w hT 1 23 [.list (as.map .int), .int x] (.int (bisl as x : Nat)) := by
  refine' fn_plain (k := 0) (f := 23) (names := ["a", "x", "lo", "hi", "key"]) (args' := [.list (as.map .int), .int x, .int 0, .none, .none]) T ?ho ?hcd ?hbody ?hbind ?hnd ?hloc ?hcell ?hk ?hgl ?hbi ?h ?hco ?hgen
  case ho => rfl
  case hcd => rfl
  case hbody => rfl
  case hbind =>
    intro O s vs X h
    cases h with
    | cons r₁ h =>
      cases h with
      | cons r₂ h =>
        cases h
        exact ⟨[_, _, .int 0 189, .none, .none], rfl, kp_binds X (fun S => by rfl), .cons r₁ (.cons r₂ (.cons (.int ..) (.cons .none (.cons .none .nil))))⟩
  case hnd => decide
  case hloc => decide
  case hcell => decide
  case hk => rfl
  case hgl => rfl
  case hbi => rfl
  case hco => rfl
  case hgen => rfl
  case h =>
    intro A L a k
    refine go_if (b := false) (tc cmp_lt (vr k rfl) ci) (go_nil (fun _ _ h => h) (fun _ h => h) id) ?_
    refine go_if (b := true) (tc (cmp_isnone fun O h v r => by rw [r.none_inv]; rfl) (vr k rfl) cn) (ρ₁ := [("lo", .d (.int (0 : Nat))), ("hi", .d (.int as.length)), ("a", .d (.list (as.map .int))), ("x", .d (.int x)), ("key", .d .none)]) (ω₁ := []) ?_ ?_
    · refine go_assign k (d := .int as.length) ?_ rfl (go_nil (by repeat (first | exact sn | refine sc rfl ?_)) (fun _ h => h) id)
      rw [show (as.length : Int) = ((as.map PyData.int).length : Nat) from by rw [List.length_map]]
      exact cbS (fun W O s₀ => gb k T rfl rfl rfl) (ec (vr k rfl) en) (fun W O s₀ => cl_len (by simpa using hz))
    · obtain ⟨n, h1, h3, h2⟩ := bis_stop as x as.length (0, as.length) (by simp) (Nat.le_refl _)
      generalize hS : bisT as x (0, as.length) = S at h1 h2 h3
      have hS0 : S 0 = (0, as.length) := by rw [← hS]; rfl
      have hSS : ∀ i, S (i + 1) = bisS as x (S i) := fun i => by rw [← hS]; exact bisT_succ as x i _
      refine go_if (b := true) (tc (cmp_isnone fun O h v r => by rw [r.none_inv]; rfl) (vr k rfl) cn) (ρ₁ := [("lo", .d (.int (S n).1))]) (ω₁ := []) ?_ ?_
      · refine go_while n (fun i => [("lo", .d (.int (S i).1)), ("hi", .d (.int (S i).2)), ("a", .d (.list (as.map .int))), ("x", .d (.int x))]) (fun _ => []) (by rw [hS0]; repeat (first | exact sn | refine sc rfl ?_)) rfl (fun _ => rfl) (fun i hi => ?_) (fun i hi => ?_) (fun c hc => nomatch hc) (go_nil (sc rfl sn) (fun _ h => h) id)
        · have e : decide (i < n) = decide (((S i).1 : Int) < ((S i).2 : Int)) := by
            have := h1 i hi
            by_cases h : i < n
            · rw [decide_eq_true h, decide_eq_true (by have := this.mpr h; omega)]
            · rw [decide_eq_false h, decide_eq_false (by intro q; exact h (this.mp (by omega)))]
          rw [e]
          exact tc cmp_lt (vr k rfl) (vr k rfl)
        · have lt := (h1 i (by omega)).mpr hi
          have le := h3 i (by omega)
          generalize hlo : (S i).1 = lo at lt
          generalize hhi : (S i).2 = hi' at lt le
          have hmid : (((lo : Int) + (hi' : Int)) / 2) = (((lo + hi') / 2 : Nat) : Int) := by omega
          generalize hm : (lo + hi') / 2 = mid at hmid
          refine go_assign k (d := .int (mid : Nat)) (by rw [← hmid]; exact bi (op_div (by decide) (by decide)) (bi op_add (vr k rfl) (vr k rfl)) ci) rfl ?_
          have hml : mid < as.length := by omega
          obtain ⟨v, hv⟩ : ∃ v, as[mid]? = some v := ⟨_, List.getElem?_eq_getElem hml⟩
          have hv' : (as.map PyData.int)[((mid : Nat) : Int).toNat]? = some (.int v) := by rw [Int.toNat_natCast, List.getElem?_map, hv]; rfl
          have gd : as.getD mid 0 = v := by rw [List.getD_eq_getElem?_getD, hv]; rfl
          refine go_if (ρ₁ := [("lo", .d (.int (S (i + 1)).1)), ("hi", .d (.int (S (i + 1)).2)), ("a", .d (.list (as.map .int))), ("x", .d (.int x))]) (ω₁ := []) (tc cmp_lt (it (vr k rfl) (vr k rfl) (by omega) (by omega) hv') (vr k rfl)) ?_ (go_nil (fun _ _ h => h) (fun _ h => h) id)
          by_cases hlt : v < x
          · rw [decide_eq_true hlt, if_pos rfl]
            have e : S (i + 1) = (mid + 1, hi') := by rw [hSS, bisS, hlo, hhi, hm, gd, if_pos hlt]
            rw [e]
            refine go_assign k (d := .int ((mid + 1 : Nat) : Int)) (bi op_add (vr k rfl) ci) rfl (go_nil ?_ (fun _ h => h) id)
            exact sc rfl (sc rfl (sc rfl (sc rfl sn)))
          · rw [decide_eq_false hlt, if_neg (by decide)]
            have e : S (i + 1) = (lo, mid) := by rw [hSS, bisS, hlo, hhi, hm, gd, if_neg hlt]
            rw [e]
            refine go_assign k (d := .int (mid : Nat)) (vr k rfl) rfl (go_nil ?_ (fun _ h => h) id)
            exact sc rfl (sc rfl (sc rfl (sc rfl sn)))
      · have : bisl as x = (S n).1 := h2.symm
        rw [this]
        exact go_ret (vr k rfl)

abbrev dI (l : List Int) : PyData := .list (l.map .int)
theorem eqvAll_ints : ∀ a b : List Int, PyData.eqvAll (a.map .int) (b.map .int) = (a == b)
  | [], [] => by simp [PyData.eqvAll]
  | [], _ :: _ => by simp [PyData.eqvAll]
  | _ :: _, [] => by simp [PyData.eqvAll]
  | x :: a, y :: b => by rw [List.map_cons, List.map_cons, PyData.eqvAll, eqvAll_ints a b, PyData.eqv]; rfl
theorem eqv_ints (a b : List Int) : PyData.eqv (dI a) (dI b) = (a == b) := by rw [dI, dI, PyData.eqv]; exact eqvAll_ints a b
theorem eqvAll_intss : ∀ a b : List (List Int), PyData.eqvAll (a.map dI) (b.map dI) = (a == b)
  | [], [] => by simp [PyData.eqvAll]
  | [], _ :: _ => by simp [PyData.eqvAll]
  | _ :: _, [] => by simp [PyData.eqvAll]
  | x :: a, y :: b => by rw [List.map_cons, List.map_cons, PyData.eqvAll, eqvAll_intss a b, eqv_ints]; rfl
theorem eqv_intss (a b : List (List Int)) : PyData.eqv (.list (a.map dI)) (.list (b.map dI)) = (a == b) := by rw [PyData.eqv]; exact eqvAll_intss a b
theorem can_ints : ∀ a : List Int, PyData.canLayAll0 (a.map .int) = true
  | [] => by simp [PyData.canLayAll0]
  | x :: a => by rw [List.map_cons, PyData.canLayAll0, can_ints a, PyData.canLay0]; rfl
theorem can_intsL (a : List Int) : (dI a).canLay0 = true := by rw [dI, PyData.canLay0]; exact can_ints a
theorem can_intss : ∀ a : List (List Int), PyData.canLayAll0 (a.map dI) = true
  | [] => by simp [PyData.canLayAll0]
  | x :: a => by rw [List.map_cons, PyData.canLayAll0, can_intss a, can_intsL]; rfl
theorem can_intssL (a : List (List Int)) : (PyData.list (a.map dI)).canLay0 = true := by rw [PyData.canLay0]; exact can_intss a
theorem dep_ints : ∀ a : List Int, PyData.depthAll (a.map .int) ≤ 1
  | [] => by simp [PyData.depthAll]
  | x :: a => by have := dep_ints a; rw [List.map_cons, PyData.depthAll]; simp [PyData.depth]; omega
theorem dep_intsL (a : List Int) : (dI a).depth ≤ 2 := by have := dep_ints a; rw [dI, PyData.depth]; omega
theorem dep_intss : ∀ a : List (List Int), PyData.depthAll (a.map dI) ≤ 2
  | [] => by simp [PyData.depthAll]
  | x :: a => by have := dep_intss a; have := dep_intsL x; rw [List.map_cons, PyData.depthAll]; omega
theorem dep_intssL (a : List (List Int)) : (PyData.list (a.map dI)).depth ≤ 3 := by have := dep_intss a; rw [PyData.depth]; omega

section
variable {prog : Program} {w : World} {A : Around}
theorem cmp_eqI {a b : List Int} (hu : A.units + 64 < cLine) : Cmp prog w A .Eq (dI a) (dI b) (a == b) := fun O s v u Q E r₁ r₂ h => by
  obtain ⟨as, r₁, _⟩ := r₁; obtain ⟨bs, r₂, _⟩ := r₂
  exact SeqAt.compareEq_reads r₁ r₂ (can_intsL a) (can_intsL b) (by have := dep_intsL a; omega) (by rw [eqv_ints]; exact h _ (.refl s))
theorem cmp_neI {a b : List Int} (hu : A.units + 64 < cLine) : Cmp prog w A .NotEq (dI a) (dI b) (!(a == b)) := fun O s v u Q E r₁ r₂ h => by
  obtain ⟨as, r₁, _⟩ := r₁; obtain ⟨bs, r₂, _⟩ := r₂
  exact SeqAt.compareNe_reads r₁ r₂ (can_intsL a) (can_intsL b) (by have := dep_intsL a; omega) (by rw [eqv_ints]; exact h _ (.refl s))
theorem cmp_neII {a b : List (List Int)} (hu : A.units + 64 < cLine) : Cmp prog w A .NotEq (.list (a.map dI)) (.list (b.map dI)) (!(a == b)) := fun O s v u Q E r₁ r₂ h => by
  obtain ⟨as, r₁, _⟩ := r₁; obtain ⟨bs, r₂, _⟩ := r₂
  exact SeqAt.compareNe_reads r₁ r₂ (can_intssL a) (can_intssL b) (by have := dep_intssL a; omega) (by rw [eqv_intss]; exact h _ (.refl s))
end

section
variable {prog : Program} {w : World} {A : Around} {env : Env} {hT : Heap} {κ : List (Str × Addr)} {X : List Addr} {ρ ρ' ρc : Ro} {ω ω' ω₁ ω₂ : Om} {K : Kn} {rest body : List Stmt} {pos p₁ p₂ p₃ p₄ p₆ : Pos} {e e₁ e₂ e₃ test l r target value lo hi : Expr} {d d₁ d₂ d₃ a b : PyData} {x y z : Str} {ds : List PyData} {i j : Int} {mg mb : Str → Option Value} {F : Frag}
theorem ls {es : List Expr} (he : ElS prog w A env hT κ ρ ω es ds) (hz : ds.length ≤ 1000) : EvS prog w A env hT κ ρ ω (.List es pos) (.list ds) := .mk fun W O s₀ => ev_list St.po (he.run W O s₀) hz
theorem tp {es : List Expr} {k : Nat} (he : ElS prog w A env hT κ ρ ω es ds) (hz : ds.length ≤ 1000) : EvS prog w A env hT κ ρ ω (.Tuple es k pos) (.tuple ds) := .mk fun W O s₀ => ev_tup St.po (he.run W O s₀) hz
theorem neS (he : EvS prog w A env hT κ ρ ω e (.int i)) : EvS prog w A env hT κ ρ ω (.UnaryOp .USub e pos) (.int (-i)) := .mk fun W O s₀ => ev_neg (he.run W O s₀)
theorem la (hv : EvS prog w A env hT κ ρ ω value (.list ds)) (hd : ds.getLast? = some d)
    (hs : ∀ l t, subscripted (.UnaryOp .USub (.Constant (.int 1) 0 p₁) p₂) false (.ref l) (.int (-1) t) = operate [.ref l, .int (-1) t] (getItem (.ref l) (.int (-1) t)) := by intro _ _; with_unfolding_all rfl) : EvS prog w A env hT κ ρ ω (.Subscript value (.UnaryOp .USub (.Constant (.int 1) 0 p₁) p₂) pos) d := .mk fun W O s₀ => ev_last St.po (hv.run W O s₀) (ev_neg ev_int) hd hs
theorem sl_from {n : Nat} (hv : EvS prog w A env hT κ ρ ω value (.list ds)) (hl : EvS prog w A env hT κ ρ ω lo (.int n)) (hz : ds.length ≤ 1000)
    (hs : ∀ l i, subscripted (.Slice (some lo) none none p₁) false (.ref l) (.ref i) = operate [.ref i, .ref l] (getItem (.ref l) (.ref i)) := by intro _ _; with_unfolding_all rfl) : EvS prog w A env hT κ ρ ω (.Subscript value (.Slice (some lo) none none p₁) pos) (.list (ds.drop n)) := .mk fun W O s₀ => by
  rw [← dpick_from]
  exact ev_slice St.po (hv.run W O s₀) (ep_int (hl.run W O s₀)) ep_none ep_none (by simp) hz hs
theorem sl_upto {n : Nat} (hv : EvS prog w A env hT κ ρ ω value (.list ds)) (hl : EvS prog w A env hT κ ρ ω hi (.int n)) (hz : ds.length ≤ 1000)
    (hs : ∀ l i, subscripted (.Slice none (some hi) none p₁) false (.ref l) (.ref i) = operate [.ref i, .ref l] (getItem (.ref l) (.ref i)) := by intro _ _; with_unfolding_all rfl) : EvS prog w A env hT κ ρ ω (.Subscript value (.Slice none (some hi) none p₁) pos) (.list (ds.take n)) := .mk fun W O s₀ => by
  rw [← dpick_upto]
  exact ev_slice St.po (hv.run W O s₀) ep_none (ep_int (hl.run W O s₀)) ep_none (by simp) hz hs
theorem sl_rev (hv : EvS prog w A env hT κ ρ ω value (.list ds)) (hl : EvS prog w A env hT κ ρ ω hi (.int (-1))) (hz : ds.length ≤ 1000)
    (hs : ∀ l i, subscripted (.Slice none none (some hi) p₁) false (.ref l) (.ref i) = operate [.ref l, .ref i] (getItem (.ref l) (.ref i)) := by intro _ _; with_unfolding_all rfl) : EvS prog w A env hT κ ρ ω (.Subscript value (.Slice none none (some hi) p₁) pos) (.list ds.reverse) := .mk fun W O s₀ => by
  rw [← dpick_rev]
  exact ev_slice St.po (hv.run W O s₀) ep_none ep_none (ep_int (hl.run W O s₀)) (by simp) hz hs

theorem ir1 {p' : Pos} {n : Nat} (hh : A.handled = none) (k : EOk env) (T : TT F mg mb hT) (hx : env.kindOf "range" = some .globalImplicit) (hm : nsIn F mainGlobals "range" = some none) (he : EvS prog w A env hT κ ρ ω e (.int n)) (hn : n ≤ 1000)
    (hC : eval (.Call (.Name "range" p') [e] [] pos) env = (do callWith pos (← eval (.Name "range" p') env) [] (backTo pos (starEach [e] env)) (backToKw pos (keywordEach [] env))) := by rfl)
    (hs : starEach [e] env = (false, eval e env) :: starEach [] env := by rfl) (hn' : ((backTo pos (starEach [] env)).any (·.1)) = false := by rfl) :
    IterEv prog w A env hT κ ρ ω (.Call (.Name "range" p') [e] [] pos) target ((List.range n).map fun i => .int (i : Nat)) :=
  ie_range (a := 0) (b := n) (c := 1) (n := n) hh (fun W O s₀ => gb k T hx hm rfl) (ec he en hs).run (fun O s vs Q E r h => by
    cases r with
    | cons r t =>
      cases t
      obtain ⟨t, rfl⟩ := r.int_inv
      exact call_range_1 (h _ _ _ _ (Ext.heap (fun b o q => Heap.get?_push_of_some _ q) _) (IsRange.new ..))) (small_one (by omega) (by omega) (by omega) (by omega)) (by rw [rangeSize_nat]; omega) (by simp) hC hs hn'
theorem ir2 {p' : Pos} {m n : Nat} (hh : A.handled = none) (k : EOk env) (T : TT F mg mb hT) (hx : env.kindOf "range" = some .globalImplicit) (hm : nsIn F mainGlobals "range" = some none) (he : EvS prog w A env hT κ ρ ω e (.int m)) (hf : EvS prog w A env hT κ ρ ω e₁ (.int n)) (hn : n ≤ 1000) (hl : m ≤ 1000)
    (hC : eval (.Call (.Name "range" p') [e, e₁] [] pos) env = (do callWith pos (← eval (.Name "range" p') env) [] (backTo pos (starEach [e, e₁] env)) (backToKw pos (keywordEach [] env))) := by rfl)
    (hs : starEach [e, e₁] env = (false, eval e env) :: starEach [e₁] env := by rfl) (hs' : starEach [e₁] env = (false, eval e₁ env) :: starEach [] env := by rfl) (hn' : ((backTo pos (starEach [e₁] env)).any (·.1)) = false := by rfl) :
    IterEv prog w A env hT κ ρ ω (.Call (.Name "range" p') [e, e₁] [] pos) target ((List.range (n - m)).map fun i => .int ((m + i : Nat) : Int)) :=
  ie_range (a := m) (b := n) (c := 1) (n := n - m) hh (fun W O s₀ => gb k T hx hm rfl) (ec he (ec hf en hs') hs).run (fun O s vs Q E r h => by
    cases r with
    | cons r t =>
      cases t with
      | cons r' t =>
        cases t
        obtain ⟨t, rfl⟩ := r.int_inv
        obtain ⟨t', rfl⟩ := r'.int_inv
        exact call_range_2 (h _ _ _ _ (Ext.heap (fun b o q => Heap.get?_push_of_some _ q) _) (IsRange.new ..))) (small_one (by omega) (by omega) (by omega) (by omega)) (by rw [rangeSize_nat]; omega) (by simp) hC hs hn'
end

def exch (t : List Int) (l u : Nat) : List Int := (t.set (l - 1) (t.getD (u - 1) 0)).set (u - 1) (t.getD (l - 1) 0)
theorem map_set_int (t : List Int) (i : Nat) (v : Int) : (t.map PyData.int).set i (.int v) = (t.set i v).map .int := by rw [List.map_set]

theorem exch_ok {prog : Program} {w : World} {hT : Heap} {mg mb : Str → Option Value} (T : TT (KK w) mg mb hT) {t : List Int} {l u : Nat} (hz : t.length ≤ 1000) (hl0 : 1 ≤ l) (hl : l ≤ t.length) (hu0 : 1 ≤ u) (hu : u ≤ t.length) :
    FnOk prog w hT 1 82 [dI t, .int l, .int u] (dI (exch t l u)) := by
  refine' fn_plain (k := 0) (f := 82) (names := ["things", "lower", "upper"]) (args' := [dI t, .int l, .int u]) T ?ho ?hcd ?hbody ?hbind ?hnd ?hloc ?hcell ?hk ?hgl ?hbi ?h ?hco ?hgen
  case ho => rfl
  case hcd => rfl
  case hbody => rfl
  case hbind =>
    intro O s vs X h
    cases h with
    | cons r₁ h =>
      cases h with
      | cons r₂ h =>
        cases h with
        | cons r₃ h =>
          cases h
          exact ⟨[_, _, _], rfl, .of_eq rfl, .cons r₁ (.cons r₂ (.cons r₃ .nil))⟩
  case hnd => decide
  case hloc => decide
  case hcell => decide
  case hk => rfl
  case hgl => rfl
  case hbi => rfl
  case hco => rfl
  case hgen => rfl
  case h =>
    intro A L a k
    refine go_mk k (mk_copy (vr k rfl) (fun d hd => by obtain ⟨i, _, rfl⟩ := List.mem_map.mp hd; exact ⟨i, rfl⟩) (by simpa using hz)) rfl fun c => ?_
    have gl : ∀ {i : Nat}, 1 ≤ i → i ≤ t.length → (t.map PyData.int)[((i : Int) - 1).toNat]? = some (.int (t.getD (i - 1) 0)) := fun {i} h0 h1 => by
      have e : ((i : Int) - 1).toNat = i - 1 := by omega
      rw [e, List.getElem?_map, List.getD_eq_getElem?_getD, List.getElem?_eq_getElem (by omega : i - 1 < t.length)]; rfl
    refine go_setitem (ω₁ := []) (ω₂ := []) (i := (l : Int) - 1) k rfl rfl (it (vr k rfl) (bi op_sub (vr k rfl) ci) (by omega) (by omega) (gl hu0 hu)) (bi op_sub (vr k rfl) ci) (by omega) (by rw [List.length_map]; omega) (by simpa using hz) ?_
    refine go_setitem (ω₁ := []) (ω₂ := []) (i := (u : Int) - 1) k rfl rfl (it (vr k rfl) (bi op_sub (vr k rfl) ci) (by omega) (by omega) (gl hl0 hl)) (bi op_sub (vr k rfl) ci) (by omega) (by rw [List.length_set, List.length_map]; omega) (by rw [List.length_set]; simpa using hz) ?_
    refine go_freeze (List.mem_cons_self ..) (x := "moved") rfl ?_
    have e1 : ((l : Int) - 1).toNat = l - 1 := by omega
    have e2 : ((u : Int) - 1).toNat = u - 1 := by omega
    rw [e1, e2, map_set_int, map_set_int]
    exact go_ret (vr k rfl)

abbrev Row := List Int × List Int
def dRow (r : Row) : PyData := .tuple [dI r.1, dI r.2]
def stepRow (l : Nat) (r : Row) : List Row := (List.range (6 - (l + 1))).map fun i => (r.1 ++ [((l + 1 + i : Nat) : Int)], exch r.2 l (l + 1 + i))
def triedRows (lowers : List Nat) : List Row := lowers.foldl (fun rows l => rows.flatMap (stepRow l)) [([], [1, 2, 3, 4, 5])]
def tried (lowers : List Nat) : List (List Int) := ((triedRows lowers).filter fun r => r.2 == [2, 3, 4, 5, 1]).map (·.1)

theorem stepRow_len (l : Nat) (r : Row) : (stepRow l r).length = 5 - l := by simp [stepRow]
theorem rows_take {ls : List Nat} {i l : Nat} (h : ls[i]? = some l) : triedRows (ls.take (i + 1)) = (triedRows (ls.take i)).flatMap (stepRow l) := by
  unfold triedRows
  rw [List.take_add_one, h, List.foldl_append]
  rfl
structure RowsOk (i : Nat) (rs : List Row) : Prop where
  len : rs.length ≤ 4 ^ i
  fst : ∀ r ∈ rs, r.1.length = i
  snd : ∀ r ∈ rs, r.2.length = 5
theorem flat_len {l m : Nat} : ∀ rs : List Row, 5 - l ≤ m → (rs.flatMap (stepRow l)).length ≤ rs.length * m
  | [], _ => Nat.zero_le _
  | r :: rs, h => by
    have := flat_len rs h
    rw [List.flatMap_cons, List.length_append, stepRow_len, List.length_cons, Nat.succ_mul]
    omega
theorem rows_ok {ls : List Nat} (hl : ∀ l ∈ ls, 1 ≤ l ∧ l ≤ 5) : ∀ i, i ≤ ls.length → RowsOk i (triedRows (ls.take i))
  | 0, _ => ⟨by simp [triedRows], by simp [triedRows], by simp [triedRows]⟩
  | i + 1, h => by
    have ih := rows_ok hl i (by omega)
    have e : ls[i]? = some ls[i] := List.getElem?_eq_getElem (by omega)
    have b := hl ls[i] (List.getElem_mem _)
    rw [rows_take e]
    refine ⟨?_, fun r hr => ?_, fun r hr => ?_⟩
    · refine Nat.le_trans (flat_len (m := 4) _ (by omega)) ?_
      rw [Nat.pow_succ]
      exact Nat.mul_le_mul_right _ ih.len
    · obtain ⟨r', h1, h2⟩ := List.mem_flatMap.mp hr
      obtain ⟨k, _, rfl⟩ := List.mem_map.mp h2
      simp [ih.fst r' h1]
    · obtain ⟨r', h1, h2⟩ := List.mem_flatMap.mp hr
      obtain ⟨k, _, rfl⟩ := List.mem_map.mp h2
      simp [exch, ih.snd r' h1]
theorem take_flat {rs : List Row} {f : Row → List Row} {j : Nat} {r : Row} (h : rs[j]? = some r) : (rs.take (j + 1)).flatMap f = (rs.take j).flatMap f ++ f r := by
  rw [List.take_add_one, h, List.flatMap_append]; simp
theorem filt_take {rs : List Row} {p : Row → Bool} {i : Nat} {r : Row} (h : rs[i]? = some r) : (rs.take (i + 1)).filter p = (rs.take i).filter p ++ if p r = true then [r] else [] := by
  rw [List.take_add_one, h, List.filter_append]
  congr 1
  show List.filter p [r] = _
  rw [List.filter_cons, List.filter_nil]
theorem take_len_le (rs : List Row) (l j : Nat) (hl : 1 ≤ l) : ((rs.take j).flatMap (stepRow l)).length ≤ rs.length * 4 := by
  refine Nat.le_trans (flat_len (m := 4) _ (by omega)) (Nat.mul_le_mul_right _ ?_)
  rw [List.length_take]; exact Nat.min_le_right _ _

section
variable {prog : Program} {w : World} {A : Around} {env : Env} {hT : Heap} {κ : List (Str × Addr)} {ρ : Ro} {ω : Om}
theorem eok_comp {scope : Scope} {cl : List (Str × Addr)} {C : Addr} (k : EOk env) (hk : scope.kind = .function) : EOk (compEnvC scope cl C env) := ⟨hk, k.glob, k.bi⟩
theorem ts_oneE {e : Expr} {b b' : Bool} (ht : TstS prog w A env hT κ ρ ω e b) (h : b = b') : TstsS prog w A env hT κ ρ ω [e] b' := h ▸ ts_one ht
end

theorem ck0 : CellsOk [] := fun c hc => nomatch hc
theorem tried_ok {prog : Program} {w : World} {hT : Heap} {mg mb : Str → Option Value} (T : TT (KK w) mg mb hT) {lowers : List Nat} (h4 : lowers.length ≤ 4) (hl : ∀ l ∈ lowers, 1 ≤ l ∧ l ≤ 5) :
    FnOk prog w hT 2 87 [.list (lowers.map fun l => .int (l : Nat))] (.list ((tried lowers).map dI)) := by
  refine' fn_plain (k := 1) (f := 87) (names := ["lowers"]) (args' := [.list (lowers.map fun l => .int (l : Nat))]) T ?ho ?hcd ?hbody ?hbind ?hnd ?hloc ?hcell ?hk ?hgl ?hbi ?h ?hco ?hgen
  case ho => rfl
  case hcd => rfl
  case hbody => rfl
  case hbind =>
    intro O s vs X h
    cases h with
    | cons r₁ h =>
      cases h
      exact ⟨[_], rfl, .of_eq rfl, .cons r₁ .nil⟩
  case hnd => decide
  case hloc => decide
  case hcell => decide
  case hk => rfl
  case hgl => rfl
  case hbi => rfl
  case hco => rfl
  case hgen => rfl
  case h =>
    intro A L a k
    have e00 : PyData.list ((triedRows (lowers.take 0)).map dRow) = .list [.tuple [.list [], .list [.int 1, .int 2, .int 3, .int 4, .int 5]]] := rfl
    refine go_assign k (d := .list [.tuple [.list [], .list [.int 1, .int 2, .int 3, .int 4, .int 5]]]) (ls (ec (tp (ec (ls en (by simp)) (ec (ls (ec ci (ec ci (ec ci (ec ci (ec ci en))))) (by simp)) en)) (by simp)) en) (by simp)) rfl ?_
    refine go_for (ds := lowers.map fun l => .int (l : Nat)) ck0 (ie_list (vr k rfl) a.handled) (fun i => [("rows", .d (.list ((triedRows (lowers.take i)).map dRow)))]) (fun _ => []) (by rw [e00]; exact sc rfl sn) rfl (fun _ => rfl) (fun i d hd => ?_) ?_
    · rw [List.getElem?_map] at hd
      obtain ⟨l, hl', rfl⟩ : ∃ l, lowers[i]? = some l ∧ d = .int (l : Nat) := by
        cases e : lowers[i]? with
        | none => rw [e] at hd; cases hd
        | some l => rw [e] at hd; exact ⟨l, rfl, (Option.some.inj hd).symm⟩
      have hil : i < lowers.length := (List.getElem?_eq_some_iff.mp hl').1
      have lb := hl l (List.mem_of_getElem? hl')
      have ok := rows_ok hl i (by omega)
      have hpow : 4 ^ i ≤ 64 := by
        have : i = 0 ∨ i = 1 ∨ i = 2 ∨ i = 3 := by omega
        rcases this with rfl | rfl | rfl | rfl <;> decide
      have hlen := ok.len
      refine ⟨_, asg_name k rfl, ?_⟩
      rw [rows_take hl']
      generalize triedRows (lowers.take i) = rows at ok hlen
      refine go_mk k mk_nil rfl fun c => ?_
      refine go_for (ds := rows.map dRow) ck0 (ie_list (vr k rfl) a.handled) (fun j => [("further", .own c), ("lower", .d (.int (l : Nat)))]) (fun j => [(c, true, ((rows.take j).flatMap (stepRow l)).map dRow)])
        (sc rfl (sc rfl sn)) rfl (fun _ => rfl) (fun j d hd => ?_) ?_
      · rw [List.getElem?_map] at hd
        obtain ⟨r, hr, rfl⟩ : ∃ r, rows[j]? = some r ∧ d = dRow r := by
          cases e : rows[j]? with
          | none => rw [e] at hd; cases hd
          | some l => rw [e] at hd; exact ⟨l, rfl, (Option.some.inj hd).symm⟩
        have rm := List.mem_of_getElem? hr
        have r1 := ok.fst r rm
        have r2 := ok.snd r rm
        refine ⟨_, asg_tup2 k a.handled rfl rfl, ?_⟩
        rw [take_flat hr]
        have tl := take_len_le rows l j lb.1
        generalize hacc : (rows.take j).flatMap (stepRow l) = acc at tl
        refine go_for (ds := (List.range (6 - (l + 1))).map fun i => .int ((l + 1 + i : Nat) : Int)) ck0 (ir2 (m := l + 1) (n := 6) a.handled k T rfl rfl (bi op_add (vr k rfl) ci) ci (by omega) (by omega))
          (fun m => [("uppers", .d (dI r.1)), ("things", .d (dI r.2)), ("further", .own c), ("lower", .d (.int (l : Nat)))]) (fun m => [(c, true, (acc ++ (stepRow l r).take m).map dRow)])
          (sc rfl (sc rfl (sc rfl (sc rfl sn)))) (by simp) (fun _ => rfl) (fun m d hd => ?_) ?_
        · have hm : m < 6 - (l + 1) := by simpa using (List.getElem?_eq_some_iff.mp hd).1
          have hd' : d = .int ((l + 1 + m : Nat) : Int) := by
            rw [List.getElem?_map, List.getElem?_range hm] at hd
            exact (Option.some.inj hd).symm
          subst hd'
          refine ⟨_, asg_name k rfl, ?_⟩
          have es : (stepRow l r).take (m + 1) = (stepRow l r).take m ++ [(r.1 ++ [((l + 1 + m : Nat) : Int)], exch r.2 l (l + 1 + m))] := by
            have : (stepRow l r)[m]? = some (r.1 ++ [((l + 1 + m : Nat) : Int)], exch r.2 l (l + 1 + m)) := by
              unfold stepRow
              rw [List.getElem?_map, List.getElem?_range hm]; rfl
            rw [List.take_add_one, this]; rfl
          have ew : ((acc ++ (stepRow l r).take (m + 1)).map dRow) = (acc ++ (stepRow l r).take m).map dRow ++ [.tuple [.list (r.1.map PyData.int ++ [.int ((l + 1 + m : Nat) : Int)]), dI (exch r.2 l (l + 1 + m))]] := by
            rw [es, ← List.append_assoc, List.map_append]
            simp [dRow, dI]
          have zl : ((acc ++ (stepRow l r).take m).map dRow).length ≤ 1000 := by
            rw [List.length_map, List.length_append, List.length_take, stepRow_len]; omega
          refine go_append (ω₁ := []) (ω₂ := []) k rfl rfl (tp (ec (bi (op_addlist (by simp; omega)) (vr k rfl) (ls (ec (vr k rfl) en) (by simp))) (ec (cfS k T a (ec (vr k rfl) (ec (vr k rfl) (ec (vr k rfl) en))) (exch_ok T (t := r.2) (l := l) (u := l + 1 + m) (by omega) lb.1 (by omega) (by omega) (by omega)) rfl rfl rfl) en)) (by simp)) zl ?_
          rw [ew]
          exact go_nil (sc rfl (sc rfl (sc rfl (sc rfl sn)))) (fun _ h => h) id
        · rw [show ((List.range (6 - (l + 1))).map fun i => PyData.int ((l + 1 + i : Nat) : Int)).length = (stepRow l r).length from by simp [stepRow], List.take_length]
          exact go_nil (sc rfl (sc rfl sn)) (fun _ h => h) id
      · rw [List.length_map, List.take_length]
        refine go_freeze (List.mem_cons_self ..) (x := "further") rfl ?_
        exact go_assign k (vr k rfl) rfl (go_nil (sc rfl sn) (fun _ h => h) id)
    · rw [List.length_map, List.take_length]
      have ok := rows_ok hl lowers.length (Nat.le_refl _)
      rw [List.take_length] at ok
      have hpow : 4 ^ lowers.length ≤ 256 := by
        have : lowers.length = 0 ∨ lowers.length = 1 ∨ lowers.length = 2 ∨ lowers.length = 3 ∨ lowers.length = 4 := by omega
        rcases this with h | h | h | h | h <;> rw [h] <;> decide
      have hlen := ok.len
      unfold tried
      generalize triedRows lowers = rows at ok hlen
      refine go_ret (ev_comp (ρc := []) (cl := []) (ds := rows.map dRow) (res := fun i => (((rows.take i).filter fun r => r.2 == [2, 3, 4, 5, 1]).map (·.1)).map dI) (ie_list (vr k rfl) a.handled) rfl (by decide) rfl (by decide) cap_nil rfl (fun i hi => ?_) ?_ (by simp only [List.length_map, List.take_length]))
      · rw [List.length_map, List.length_map]
        have h1 := List.length_filter_le (fun r : Row => r.2 == [2, 3, 4, 5, 1]) (rows.take i)
        have h2 : (rows.take i).length ≤ rows.length := by rw [List.length_take]; exact Nat.min_le_right _ _
        omega
      · intro C ω' i d hd
        rw [List.getElem?_map] at hd
        obtain ⟨r, hr, rfl⟩ : ∃ r, rows[i]? = some r ∧ d = dRow r := by
          cases e : rows[i]? with
          | none => rw [e] at hd; cases hd
          | some l => rw [e] at hd; exact ⟨l, rfl, (Option.some.inj hd).symm⟩
        refine ⟨_, asg_tup2 (eok_comp k rfl) a.handled rfl rfl, (fun _ _ h => nomatch h), ?_⟩
        have et := filt_take (p := fun r : Row => r.2 == [2, 3, 4, 5, 1]) hr
        by_cases hb : (r.2 == [2, 3, 4, 5, 1]) = true
        · refine .inl ⟨dI r.1, ts_oneE (tc (cmp_eqI (a := r.2) (b := [2, 3, 4, 5, 1]) a.line) (vr (eok_comp k rfl) rfl) (ls (ec ci (ec ci (ec ci (ec ci (ec ci en))))) (by simp))) hb, vr (eok_comp k rfl) rfl, ?_⟩
          dsimp only
          rw [et, if_pos hb, List.map_append, List.map_append]; rfl
        · have hb' : (r.2 == [2, 3, 4, 5, 1]) = false := by simpa using hb
          refine .inr ⟨ts_oneE (tc (cmp_eqI (a := r.2) (b := [2, 3, 4, 5, 1]) a.line) (vr (eok_comp k rfl) rfl) (ls (ec ci (ec ci (ec ci (ec ci (ec ci en))))) (by simp))) hb', ?_⟩
          dsimp only
          rw [et, if_neg hb, List.append_nil]

abbrev dNs (l : List Nat) : PyData := .list (l.map fun n => .int (n : Nat))
def digF : Nat → Nat → List Nat → List Nat
  | 0, _, acc => acc
  | k + 1, r, acc => if r = 0 then acc else digF k (r / 64) (r % 64 :: acc)
def digS (p : Nat × List Nat) : Nat × List Nat := (p.1 / 64, p.1 % 64 :: p.2)
def digT (p : Nat × List Nat) : Nat → Nat × List Nat
  | 0 => p
  | n + 1 => digT (digS p) n
theorem digT_succ : ∀ (n : Nat) (p : Nat × List Nat), digT p (n + 1) = digS (digT p n)
  | 0, _ => rfl
  | n + 1, p => digT_succ n (digS p)
theorem dig_stop : ∀ (k : Nat) (p : Nat × List Nat), p.1 < 64 ^ k → ∃ n, n ≤ k ∧ (∀ i, i ≤ n → ((digT p i).1 ≠ 0 ↔ i < n)) ∧ (∀ i, i ≤ n → (digT p i).2.length = p.2.length + i) ∧ (digT p n).2 = digF k p.1 p.2
  | 0, p, h => ⟨0, Nat.le_refl _, fun i hi => by
      have : i = 0 := by omega
      subst this; show p.1 ≠ 0 ↔ _; simp at h; omega, fun i hi => by
      have : i = 0 := by omega
      subst this; rfl, rfl⟩
  | k + 1, p, h => by
    by_cases h0 : p.1 = 0
    · refine ⟨0, Nat.zero_le _, fun i hi => ?_, fun i hi => ?_, ?_⟩
      · have : i = 0 := by omega
        subst this; show p.1 ≠ 0 ↔ _; omega
      · have : i = 0 := by omega
        subst this; rfl
      · show p.2 = _
        simp only [digF, if_pos h0]
    · obtain ⟨n, hn, h1, h2, h3⟩ := dig_stop k (digS p) (by show p.1 / 64 < _; rw [Nat.pow_succ] at h; omega)
      refine ⟨n + 1, by omega, fun i hi => ?_, fun i hi => ?_, ?_⟩
      · cases i with
        | zero => show p.1 ≠ 0 ↔ _; omega
        | succ i => show (digT (digS p) i).1 ≠ 0 ↔ _; rw [h1 i (by omega)]; omega
      · cases i with
        | zero => rfl
        | succ i => show (digT (digS p) i).2.length = _; rw [h2 i (by omega)]; show p.2.length + 1 + i = _; omega
      · show (digT (digS p) n).2 = _
        rw [h3]
        simp only [digF, if_neg h0]
        rfl

structure TS where
  ch : List Int
  ho : List Int
  up : List Int
  st : List (List Int × List Int)
def turnStep (l : Nat) (s : TS) (t : Nat) : Option TS :=
  match s.st with
  | [] => none
  | (pl, kn) :: st =>
    if pl.length ≤ 900 ∧ kn.length ≤ 900 ∧ st.length ≤ 900 ∧ 1 ≤ t ∧ t ≤ s.up.length ∧ s.up.length ≤ 900 then
      match ((l : Int) :: pl.drop (bisl kn t))[bisl ((t : Int) :: kn.drop (bisl kn t)) t + 1]? with
      | none => none
      | some v => some ⟨(l : Int) :: pl.drop (bisl kn t), (t : Int) :: kn.drop (bisl kn t), s.up.set (t - 1) v, st⟩
    else none
theorem turnStep_inv {l : Nat} {s s' : TS} {t : Nat} (h : turnStep l s t = some s') : ∃ pl kn st v, s.st = (pl, kn) :: st ∧ (pl.length ≤ 900 ∧ kn.length ≤ 900 ∧ st.length ≤ 900 ∧ 1 ≤ t ∧ t ≤ s.up.length ∧ s.up.length ≤ 900) ∧
    ((l : Int) :: pl.drop (bisl kn t))[bisl ((t : Int) :: kn.drop (bisl kn t)) t + 1]? = some v ∧ s' = ⟨(l : Int) :: pl.drop (bisl kn t), (t : Int) :: kn.drop (bisl kn t), s.up.set (t - 1) v, st⟩ := by
  unfold turnStep at h
  split at h
  · cases h
  · rename_i pl kn st e
    split at h
    · rename_i c
      split at h
      · cases h
      · rename_i v hv
        cases h
        exact ⟨pl, kn, st, v, e, c, hv, rfl⟩
    · cases h
/-- all the steps of a fold that ends well -/
theorem fold_steps {α β : Type} (f : β → α → Option β) : ∀ (l : List α) (b r : β), l.foldlM f b = some r → ∃ S : Nat → β, S 0 = b ∧ S l.length = r ∧ ∀ i a, l[i]? = some a → f (S i) a = some (S (i + 1))
  | [], b, r, h => ⟨fun _ => b, rfl, by simpa using h, fun i a e => by simp at e⟩
  | x :: l, b, r, h => by
    rw [List.foldlM_cons] at h
    cases e : f b x with
    | none => rw [e] at h; cases h
    | some b' =>
      rw [e] at h
      obtain ⟨S, h0, h1, h2⟩ := fold_steps f l b' r h
      refine ⟨fun i => match i with | 0 => b | i + 1 => S i, rfl, h1, fun i a hi => ?_⟩
      cases i with
      | zero => simp at hi; subst hi; show f b x = some (S 0); rw [h0]; exact e
      | succ i => exact h2 i a (by simpa using hi)

abbrev US := List Int × List (List Int × List Int)
def lowerStep (ns : List Nat) (u : US) (l : Nat) : Option US :=
  match ns[l - 1]? with
  | none => none
  | some n =>
    if n < 64 ^ 6 then
      match (digF 5 (n / 64) []).foldlM (turnStep l) ⟨[(l : Int)], [], u.1, u.2⟩ with
      | none => none
      | some s => if s.st.length ≤ 900 then some (s.up, (s.ch, s.ho) :: s.st) else none
    else none
theorem lowerStep_inv {ns : List Nat} {u u' : US} {l : Nat} (h : lowerStep ns u l = some u') : ∃ n s, ns[l - 1]? = some n ∧ n < 64 ^ 6 ∧ (digF 5 (n / 64) []).foldlM (turnStep l) ⟨[(l : Int)], [], u.1, u.2⟩ = some s ∧ s.st.length ≤ 900 ∧ u' = (s.up, (s.ch, s.ho) :: s.st) := by
  unfold lowerStep at h
  split at h
  · cases h
  · rename_i n e
    split at h
    · rename_i c
      split at h
      · cases h
      · rename_i s hs
        split at h
        · rename_i c2
          cases h
          exact ⟨n, s, e, c, hs, c2, rfl⟩
        · cases h
    · cases h
def uppersF (ns : List Nat) : Option (List Int) := ([5, 4, 3, 2, 1].foldlM (lowerStep ns) ([0, 0, 0, 0], [])).map (·.1)

section
variable {prog : Program} {w : World} {A : Around} {env : Env} {hT : Heap} {κ : List (Str × Addr)} {X : List Addr} {ρ ρ' ρc : Ro} {ω ω' ω₁ ω₂ : Om} {K : Kn} {rest body : List Stmt} {pos p₁ p₂ p₃ p₄ p₆ : Pos} {e e₁ e₂ e₃ test l r target value lo hi : Expr} {d d₁ d₂ d₃ a b : PyData} {x y z : Str} {ds : List PyData} {i j : Int} {mg mb : Str → Option Value} {F : Frag}
theorem tiS {i : Int} {b : Bool} (he : EvS prog w A env hT κ ρ ω e (.int i)) (hb : (i != 0) = b) (hp : ∀ whole, isTrue e env whole = (do let v ← whole; standAt e.pos; holding [v] (truthy v)) := by intro _; rfl) : TstS prog w A env hT κ ρ ω e b := .mk fun W O s₀ => hb ▸ tst_int (he.run W O s₀) hp
theorem go_tail {q : Addr × Bool × List PyData} (h : Go prog w A env hT κ X ρ ω rest K) : Go prog w A env hT κ X ρ (q :: ω) rest K := .mk fun W B O s₀ s E hX hB p =>
  h.run W B O s₀ s E hX hB (p.weaken (fun _ z => z) p.wo p.lo (fun y c z => (p.cells y c z).2.1) (fun _ _ z => z) (fun _ z => List.mem_cons_of_mem _ z) (fun z hz => (p.owns z.1 z.2 (List.mem_cons_of_mem _ hz)).1) (List.nodup_cons.mp p.nodup).2)
theorem ir3 {p' : Pos} (hh : A.handled = none) (k : EOk env) (T : TT F mg mb hT) (hx : env.kindOf "range" = some .globalImplicit) (hm : nsIn F mainGlobals "range" = some none) (he : EvS prog w A env hT κ ρ ω e (.int 5)) (hf : EvS prog w A env hT κ ρ ω e₁ (.int 0)) (hg : EvS prog w A env hT κ ρ ω e₂ (.int (-1)))
    (hC : eval (.Call (.Name "range" p') [e, e₁, e₂] [] pos) env = (do callWith pos (← eval (.Name "range" p') env) [] (backTo pos (starEach [e, e₁, e₂] env)) (backToKw pos (keywordEach [] env))) := by rfl)
    (hs : starEach [e, e₁, e₂] env = (false, eval e env) :: starEach [e₁, e₂] env := by rfl) (hs' : starEach [e₁, e₂] env = (false, eval e₁ env) :: starEach [e₂] env := by rfl) (hs'' : starEach [e₂] env = (false, eval e₂ env) :: starEach [] env := by rfl) (hn' : ((backTo pos (starEach [e₁, e₂] env)).any (·.1)) = false := by rfl) :
    IterEv prog w A env hT κ ρ ω (.Call (.Name "range" p') [e, e₁, e₂] [] pos) target ([5, 4, 3, 2, 1].map fun l : Nat => .int (l : Nat)) :=
  ie_range (a := 5) (b := 0) (c := -1) (n := 5) hh (fun W O s₀ => gb k T hx hm rfl) (ec he (ec hf (ec hg en hs'') hs') hs).run (fun O s vs Q E r h => by
    cases r with
    | cons r t =>
      cases t with
      | cons r' t =>
        cases t with
        | cons r'' t =>
          cases t
          obtain ⟨t, rfl⟩ := r.int_inv
          obtain ⟨t', rfl⟩ := r'.int_inv
          obtain ⟨t'', rfl⟩ := r''.int_inv
          exact call_range_3 (by decide) (h _ _ _ _ (Ext.heap (fun b o q => Heap.get?_push_of_some _ q) _) (IsRange.new ..)) (.inl (PyProof.noPylong_small (by decide)))) (small_down (by omega) (by omega) (by omega) (by omega)) (by rw [rangeSize_down]; decide) rfl hC hs hn'
end

theorem uppers_ok {prog : Program} {w : World} {hT : Heap} {mg mb : Str → Option Value} (T : TT (KK w) mg mb hT) {ns : List Nat} {r : List Int} (h5 : ns.length ≤ 900) (hr : uppersF ns = some r) :
    FnOk prog w hT 2 75 [dNs ns] (dI r) := by
  refine' fn_plain (k := 1) (f := 75) (names := ["numbers"]) (args' := [dNs ns]) T ?ho ?hcd ?hbody ?hbind ?hnd ?hloc ?hcell ?hk ?hgl ?hbi ?h ?hco ?hgen
  case ho => rfl
  case hcd => rfl
  case hbody => rfl
  case hbind =>
    intro O s vs X h
    cases h with
    | cons r₁ h =>
      cases h
      exact ⟨[_], rfl, .of_eq rfl, .cons r₁ .nil⟩
  case hnd => decide
  case hloc => decide
  case hcell => decide
  case hk => rfl
  case hgl => rfl
  case hbi => rfl
  case hco => rfl
  case hgen => rfl
  case h =>
    intro A L a k
    obtain ⟨u, hu, hur⟩ : ∃ u, [5, 4, 3, 2, 1].foldlM (lowerStep ns) ([0, 0, 0, 0], []) = some u ∧ u.1 = r := by
      unfold uppersF at hr
      cases e : [5, 4, 3, 2, 1].foldlM (lowerStep ns) ([0, 0, 0, 0], []) with
      | none => rw [e] at hr; cases hr
      | some u => rw [e] at hr; exact ⟨u, rfl, Option.some.inj hr⟩
    obtain ⟨S, hS0, hSn, hSS⟩ := fold_steps _ _ _ _ hu
    have hrep : List.replicate (4 : Int).toNat (PyData.int 0) = [0, 0, 0, 0].map .int := rfl
    refine go_tup2MM a.handled k (mk_rep (by decide) (by decide)) (fun _ => mk_nil) rfl rfl fun ua pa => ?_
    rw [hrep]
    refine go_for (ds := [5, 4, 3, 2, 1].map fun l : Nat => .int (l : Nat)) ck0 (ir3 a.handled k T rfl rfl ci ci (neS ci)) (fun i => [("uppers", .own ua), ("pieces", .own pa), ("numbers", .d (dNs ns))])
      (fun i => [(pa, true, (S i).2.reverse.map dRow), (ua, false, (S i).1.map .int)]) (sc rfl (sc rfl (sc rfl sn))) (by simp only [hS0]; rfl) (fun _ => rfl) (fun i d hd => ?_) ?_
    · obtain ⟨l, hl, rfl⟩ : ∃ l, [5, 4, 3, 2, 1][i]? = some l ∧ d = .int (l : Nat) := by
        rw [List.getElem?_map] at hd
        cases e : [5, 4, 3, 2, 1][i]? with
        | none => rw [e] at hd; cases hd
        | some l => rw [e] at hd; exact ⟨l, rfl, (Option.some.inj hd).symm⟩
      have hl1 : 1 ≤ l ∧ l ≤ 5 := by
        have := List.mem_of_getElem? hl
        simp at this; omega
      obtain ⟨n, s, hn, hlt, hf, hst, hs'⟩ := lowerStep_inv (hSS i l hl)
      obtain ⟨R, hR0, hRn, hRR⟩ := fold_steps _ _ _ _ hf
      rw [hs']
      refine ⟨_, asg_name k rfl, ?_⟩
      refine go_tup3M a.handled k (ls (ec (vr k rfl) en) (by simp)) (ls en (by simp)) mk_nil rfl rfl rfl fun ta => ?_
      have hnum : (ns.map fun n => PyData.int (n : Nat))[((l : Int) - 1).toNat]? = some (.int (n : Nat)) := by
        have e : ((l : Int) - 1).toNat = l - 1 := by omega
        rw [e, List.getElem?_map, hn]; rfl
      refine go_assign k (d := .int ((n / 64 : Nat) : Int)) (by rw [show ((n / 64 : Nat) : Int) = (n : Int) / 64 from by omega]; exact bi (op_div (by decide) (by decide)) (it (vr k rfl) (bi op_sub (vr k rfl) ci) (by omega) (by omega) hnum) ci) rfl ?_
      obtain ⟨m, hm, h1, h2, h3⟩ := dig_stop 5 (n / 64, []) (by show n / 64 < _; omega)
      generalize hDD : digT (n / 64, []) = D at h1 h2 h3
      have hD0 : D 0 = (n / 64, []) := by rw [← hDD]; rfl
      have hDS : ∀ i, D (i + 1) = digS (D i) := fun i => by rw [← hDD]; exact digT_succ i _
      refine go_while m (fun j => [("rest", .d (.int ((D j).1 : Nat))), ("chain", .d (.list [.int (l : Nat)])), ("hours", .d (.list [])), ("turns", .own ta), ("uppers", .own ua), ("pieces", .own pa), ("numbers", .d (dNs ns)), ("lower", .d (.int (l : Nat)))])
        (fun j => [(ta, true, (D j).2.map fun n => .int (n : Nat)), (pa, true, (S i).2.reverse.map dRow), (ua, false, (S i).1.map .int)]) (by rw [hD0]; repeat (first | exact sn | refine sc rfl ?_)) (by simp only [hD0]; rfl) (fun _ => rfl) (fun j hj => ?_) (fun j hj => ?_) ck0 ?_
      · refine tiS (i := ((D j).1 : Nat)) (vr k rfl) ?_
        have := h1 j hj
        by_cases h : j < m
        · rw [decide_eq_true h]
          have := this.mpr h
          simp; omega
        · rw [decide_eq_false h]
          have : (D j).1 = 0 := by
            by_cases z : (D j).1 = 0
            · exact z
            · exact absurd (this.mp z) h
          rw [this]; rfl
      · have hlen := h2 j (by omega)
        have e1 : (((D j).1 % 64 : Nat) : Int) = ((D j).1 : Int) % 64 := by omega
        have e2 : (((D j).1 / 64 : Nat) : Int) = ((D j).1 : Int) / 64 := by omega
        refine go_insert0 (ω₁ := []) (ω₂ := [(pa, true, (S i).2.reverse.map dRow), (ua, false, (S i).1.map .int)]) (d := .int (((D j).1 % 64 : Nat) : Int)) k rfl rfl (by rw [e1]; exact bi (op_mod (by decide)) (vr k rfl) ci) (by rw [List.length_map, hlen]; show 0 + j ≤ _; omega) ?_
        refine go_assign k (d := .int (((D j).1 / 64 : Nat) : Int)) (by rw [e2]; exact bi (op_div (by decide) (by decide)) (vr k rfl) ci) rfl ?_
        rw [hDS]
        exact go_nil (by repeat (first | exact sn | refine sc rfl ?_)) (fun _ h => h) id
      · refine go_freeze (by simp) (x := "turns") rfl ?_
        rw [h3]
        have hR0' : R 0 = ⟨[(l : Int)], [], (S i).1, (S i).2⟩ := hR0
        refine go_for (ds := (digF 5 (n / 64) []).map fun t : Nat => .int (t : Nat)) ck0 (ie_list (vr k rfl) a.handled) (fun j => [("chain", .d (dI (R j).ch)), ("hours", .d (dI (R j).ho)), ("uppers", .own ua), ("pieces", .own pa), ("numbers", .d (dNs ns)), ("lower", .d (.int (l : Nat)))])
          (fun j => [(pa, true, (R j).st.reverse.map dRow), (ua, false, (R j).up.map .int)]) (by rw [hR0']; repeat (first | exact sn | refine sc rfl ?_)) (by simp only [hR0']) (fun _ => rfl) (fun j d hd => ?_) ?_
        · obtain ⟨t, ht, rfl⟩ : ∃ t, (digF 5 (n / 64) [])[j]? = some t ∧ d = .int (t : Nat) := by
            rw [List.getElem?_map] at hd
            cases e : (digF 5 (n / 64) [])[j]? with
            | none => rw [e] at hd; cases hd
            | some l => rw [e] at hd; exact ⟨l, rfl, (Option.some.inj hd).symm⟩
          obtain ⟨pl, kn, st, v, est, ⟨b1, b2, b3, b4, b5, b6⟩, hv, eR⟩ := turnStep_inv (hRR j t ht)
          rw [eR, est]
          have e1 : ((pl, kn) :: st).reverse.map dRow = st.reverse.map dRow ++ [.tuple [dI pl, dI kn]] := by simp [dRow]
          rw [e1]
          refine ⟨_, asg_name k rfl, ?_⟩
          refine go_pop2 (ω₁ := []) (ω₂ := [(ua, false, (R j).up.map .int)]) k a.handled rfl rfl rfl rfl (by simpa using by omega) ?_
          refine go_assign k (d := .int (bisl kn t : Nat)) (cfS k T a (ec (vr k rfl) (ec (vr k rfl) en)) (bis_ok T (as := kn) (x := (t : Int)) (by omega)) rfl rfl rfl) rfl ?_
          generalize bisl kn t = f at hv
          have e2 : PyData.list ([.int (l : Nat)] ++ (pl.map PyData.int).drop f) = dI ((l : Int) :: pl.drop f) := by simp [List.map_drop]
          have e3 : PyData.list ([.int (t : Nat)] ++ (kn.map PyData.int).drop f) = dI ((t : Int) :: kn.drop f) := by simp [List.map_drop]
          refine go_tup2 (d₁ := dI ((l : Int) :: pl.drop f)) (d₂ := dI ((t : Int) :: kn.drop f)) a.handled k ?_ ?_ rfl rfl ?_
          · rw [← e2]
            exact bi (op_addlist (by simp; omega)) (ls (ec (vr k rfl) en) (by simp)) (sl_from (vr k rfl) (vr k rfl) (by simp; omega))
          · rw [← e3]
            exact bi (op_addlist (by simp; omega)) (ls (ec (vr k rfl) en) (by simp)) (sl_from (vr k rfl) (vr k rfl) (by simp; omega))
          · have hkl : ((t : Int) :: kn.drop f).length ≤ 1000 := by simp; omega
            generalize hq : bisl ((t : Int) :: kn.drop f) t = g at hv
            have hv' : (((l : Int) :: pl.drop f).map PyData.int)[((g : Int) + 1).toNat]? = some (.int v) := by
              have e : ((g : Int) + 1).toNat = g + 1 := by omega
              rw [e, List.getElem?_map, hv]; rfl
            have hg : g + 1 < ((l : Int) :: pl.drop f).length := (List.getElem?_eq_some_iff.mp hv).1
            have hgl : ((l : Int) :: pl.drop f).length ≤ 901 := by simp; omega
            have e4 : ((t : Int) - 1).toNat = t - 1 := by omega
            refine go_setitem (ω₁ := [(pa, true, st.reverse.map dRow)]) (ω₂ := []) (i := (t : Int) - 1) k rfl rfl (it (vr k rfl) (bi op_add (cfS k T a (ec (vr k rfl) (ec (vr k rfl) en)) (by rw [← hq]; exact bis_ok T (as := (t : Int) :: kn.drop f) (x := (t : Int)) hkl) rfl rfl rfl) ci) (by omega) (by omega) hv') (bi op_sub (vr k rfl) ci) (by omega) (by simp; omega) (by simp; omega) ?_
            rw [e4, map_set_int]
            exact go_nil (by repeat (first | exact sn | refine sc rfl ?_)) (fun _ h => h) id
        · rw [List.length_map, hRn]
          refine go_append (ω₁ := []) (ω₂ := [(ua, false, s.up.map .int)]) k rfl rfl (tp (ec (vr k rfl) (ec (vr k rfl) en)) (by simp)) (by simp; omega) ?_
          have e5 : ([] ++ (pa, true, s.st.reverse.map dRow ++ [.tuple [dI s.ch, dI s.ho]]) :: [(ua, false, s.up.map PyData.int)] : Om) = [(pa, true, ((s.ch, s.ho) :: s.st).reverse.map dRow), (ua, false, s.up.map .int)] := by simp [dRow]
          rw [e5]
          exact go_nil (by repeat (first | exact sn | refine sc rfl ?_)) (fun _ h => h) id
    · rw [show ([5, 4, 3, 2, 1].map fun l : Nat => PyData.int (l : Nat)).length = [5, 4, 3, 2, 1].length from rfl, hSn]
      refine go_tail (go_freeze (by simp) (x := "uppers") rfl ?_)
      rw [hur]
      exact go_ret (vr k rfl)

theorem pw_lookup {cs : List (Str × Addr)} {x y : Str} {c : Addr} (ap : cs.Pairwise fun x y => x.2 ≠ y.2) (hx : cs.lookup x = some c) (hy : y ≠ x) : cs.lookup y ≠ some c := by
  induction cs with
  | nil => cases hx
  | cons q cs ih =>
    have ap' := List.pairwise_cons.mp ap
    rw [List.lookup_cons] at hx ⊢
    cases e1 : x == q.1 with
    | true =>
      rw [e1] at hx
      have hq : q.2 = c := Option.some.inj hx
      have e2 : (y == q.1) = false := by
        rw [beq_eq_false_iff_ne]; rw [beq_iff_eq] at e1; rw [← e1]; exact hy
      rw [e2]
      intro h
      obtain ⟨z, hz, hz'⟩ := List.mem_map.mp (mem_of_lookup h)
      exact ap'.1 z hz (by rw [hq, hz'])
    | false =>
      rw [e1] at hx
      cases e2 : y == q.1 with
      | true =>
        intro h
        have hq : q.2 = c := Option.some.inj h
        obtain ⟨z, hz, hz'⟩ := List.mem_map.mp (mem_of_lookup hx)
        exact ap'.1 z hz (by rw [hq, hz'])
      | false => exact ih ap'.2 hx
theorem mem_lookup {x : Str} {c : Addr} : ∀ {l : List (Str × Addr)}, l.lookup x = some c → (x, c) ∈ l
  | q :: l, h => by
    rw [List.lookup_cons] at h
    cases e : x == q.1 with
    | true => rw [e] at h; rw [eq_of_beq e, ← Option.some.inj h]; exact List.mem_cons_self ..
    | false => rw [e] at h; exact List.mem_cons_of_mem _ (mem_lookup h)

theorem fn_cellsA {A : Around} {prog : Program} {w : World} {hT : Heap} {K : Frag} {mg mb : Str → Option Value} {k : Nat} {f : Addr} {arg d : PyData} {oc : Value} {od : Option Addr} {fd : FuncData} {osl : Array (Option Value)} {body : List Stmt} (x : Str)
    (T : TT K mg mb hT) (ho : K.lookup f = some ⟨oc, od, .func fd, osl⟩) (hcd : codeIn K fd.code fd.qualname = true) (hbody : fd.body = .stmts body) (hclo : fd.closure = [])
    (hbind : ∀ v, bindArgs fd ⟨[v], []⟩ = pure [(x, v)]) (hloc : fd.scope.names.lookup x = some .local) (hck : ∀ L, CellsOk (cellsFrom (L + 1) fd.scope.names []))
    (hk : fd.scope.kind = .function) (hgl : fd.globals = mainGlobals) (hbi : fd.builtins = builtinsNs)
    (h : ∀ L, AOk k (A.deeper (callEnvC fd L f)) → EOk (callEnvC fd L f) → Go prog w (A.deeper (callEnvC fd L f)) (callEnvC fd L f) hT (cellsFrom (L + 1) fd.scope.names []) [] [(x, .d arg)] [] body (rt (callEnvC fd L f) hT (cellsFrom (L + 1) fd.scope.names []) d))
    (hco : fd.scope.isCoroutine = false := by rfl) (hgen : fd.scope.isGenerator = false := by rfl) : 
    ∀ O s vs (Q E : Value → Shared → Prop), AOk (k + 1) A → Keep hT s.heap → (∀ a ∈ O, hT.get? a = none) → Hot O s.heap → RDs O s.heap vs [arg] → (∀ v s', Ext s s' → RD O s'.heap v d → Q v s') → wpAny (model prog w) A (call (.ref f) vs) Q E s := fun O s vs Q E a keep hO hot r hQ => by
  have inS : K.In s.heap := T.frag.keeps keep
  cases r with
  | cons r t =>
    cases t
    rename_i v
    refine wpAny_call (codeAny_call_cells a.room (inS _ _ ho) rfl (T.top.lim.keeps keep) (codeRec_of inS hcd) hbody (hbind v) hclo (fun y hy => by rw [List.mem_singleton.mp hy]; exact .inl hloc) (fun s₁ ic => ?_) hco hgen hk)
    have frL : s.heap.get? s.heap.objs.size = none := by
      cases z : s.heap.get? s.heap.objs.size with
      | none => rfl
      | some o => exact absurd (Heap.lt_size z) (Nat.lt_irrefl _)
    have frA : ∀ c, s.heap.objs.size < c → s.heap.get? c = none := fun c hc => by
      cases z : s.heap.get? c with
      | none => rfl
      | some o => exact absurd (Heap.lt_size z) (Nat.not_lt.mpr (Nat.le_of_lt hc))
    generalize hL : s.heap.objs.size = L at ic frL frA ⊢
    have hkl : (callEnvC fd L f).kindOf x = some .local := hloc
    have ck := hck L
    have kap : (callEnvC fd L f).cells = cellsFrom (L + 1) fd.scope.names [] := rfl
    rw [kap] at ic
    generalize hκ : cellsFrom (L + 1) fd.scope.names [] = κ at ic ck kap
    obtain ⟨h₀, tk, rfl⟩ := ic.toInCall.same
    have hkeep := ic.toInCall.keep
    have topN : ∀ b, s.heap.get? b = none → hT.get? b = none := fun b hb => by
      cases z : hT.get? b with
      | none => rfl
      | some o => have := keep _ _ z; rw [hb] at this; cases this
    have cfr : ∀ c ∈ κ.map (·.2), s.heap.get? c = none := fun c hc => by
      obtain ⟨y, hy⟩ := ck c hc
      exact frA c (ic.above y c (mem_lookup hy))
    have q : St (callEnvC fd L f) hT κ [] (L :: (κ.map (·.2) ++ O)) s [(x, .d arg)] [] { s with heap := h₀, toks := tk } := by
      refine ⟨fun b o z => hkeep b o (keep b o z), fun b hb => ?_, Fm.of_keep hkeep, .refl _ _, rfl, fun b hb => ?_, (fun b z => nomatch z), ⟨_, ic.toInCall.ns⟩, List.mem_cons_self .., .inr frL, fun y c z => ?_, fun y r' z => ?_, (fun b dd z => nomatch z), by simp⟩
      · rcases List.mem_cons.mp hb with rfl | hb
        · exact topN _ frL
        · rcases List.mem_append.mp hb with hb | hb
          · exact topN _ (cfr b hb)
          · exact hO b hb
      · rcases List.mem_cons.mp hb with rfl | hb
        · exact notup_of_ns ic.toInCall.ns
        · rcases List.mem_append.mp hb with hb | hb
          · obtain ⟨y, hy⟩ := ck b hb
            exact notup_of_cell (ic.cell y b hy)
          · obtain ⟨o, h1, h2⟩ := hot b hb; exact ⟨o, hkeep _ _ h1, h2⟩
      · exact ⟨by rw [kap]; exact z, List.mem_cons_of_mem _ (List.mem_append_left _ (mem_of_lookup z)), .inr (cfr c (mem_of_lookup z)), ⟨_, ic.cell y c z⟩, fun y' hy' => by rw [kap]; exact pw_lookup ic.apart z hy'⟩
      · by_cases hy : y = x
        · subst hy
          rw [lookup_cons_eq] at z
          cases z
          refine ⟨v, .inl ⟨hkl, _, ic.toInCall.ns, ?_⟩, RD.keep ?_ hkeep⟩
          · show bindL _ [(y, v)] _ y = _
            unfold bindL bindL
            rw [if_pos hkl, if_pos rfl]
          · obtain ⟨as, r, n⟩ := r
            refine ⟨as, r, fun b hb => ⟨fun q => ?_, (n b hb).2⟩⟩
            obtain ⟨o, ho'⟩ := reads_live r b hb
            rcases List.mem_cons.mp q with q | q
            · rw [q, frL] at ho'; cases ho'
            · rcases List.mem_append.mp q with q | q
              · rw [cfr b q] at ho'; cases ho'
              · exact (n b hb).1 q
        · rw [lookup_cons_ne hy] at z; cases z
    have hgo := h L (a.deeper _) ⟨hk, hgl, hbi⟩
    rw [hκ] at hgo
    refine wpAny_mono (hgo.run [] O _ s _ _ (fun _ z => nomatch z) (fun b hb => List.mem_cons_of_mem _ (List.mem_append_right _ hb)) q) (fun fl s' ⟨v, hf, ⟨qf, qb, qo⟩, rv⟩ => ?_) fun _ _ z => z
    subst hf
    exact hQ v s' ⟨fun b o z => qf b o z (fun y => nomatch y), qb, qo⟩ rv

theorem fn_cells {prog : Program} {w : World} {hT : Heap} {K : Frag} {mg mb : Str → Option Value} {k : Nat} {f : Addr} {arg d : PyData} {oc : Value} {od : Option Addr} {fd : FuncData} {osl : Array (Option Value)} {body : List Stmt} (x : Str)
    (T : TT K mg mb hT) (ho : K.lookup f = some ⟨oc, od, .func fd, osl⟩) (hcd : codeIn K fd.code fd.qualname = true) (hbody : fd.body = .stmts body) (hclo : fd.closure = [])
    (hbind : ∀ v, bindArgs fd ⟨[v], []⟩ = pure [(x, v)]) (hloc : fd.scope.names.lookup x = some .local) (hck : ∀ L, CellsOk (cellsFrom (L + 1) fd.scope.names []))
    (hk : fd.scope.kind = .function) (hgl : fd.globals = mainGlobals) (hbi : fd.builtins = builtinsNs)
    (h : ∀ A L, AOk k A → EOk (callEnvC fd L f) → Go prog w A (callEnvC fd L f) hT (cellsFrom (L + 1) fd.scope.names []) [] [(x, .d arg)] [] body (rt (callEnvC fd L f) hT (cellsFrom (L + 1) fd.scope.names []) d))
    (hco : fd.scope.isCoroutine = false := by rfl) (hgen : fd.scope.isGenerator = false := by rfl) : FnOk prog w hT (k + 1) f [arg] d := .mk fun A O s vs Q E a keep hO hot r hQ =>
  fn_cellsA x T ho hcd hbody hclo hbind hloc hck hk hgl hbi (fun L a k => h _ L a k) hco hgen O s vs Q E a keep hO hot r hQ

def octsOf (draws : List Nat) (place : Nat) : List Nat := (draws.zipIdx.filter fun p => p.1 % 5 == place).map fun p => 65 + p.2 + 128 * (p.1 / 5 % 2)
def spotOf (draws : List Nat) (place : Nat) : List Nat := (octsOf draws place).reverse ++ [draws.getD (place % 4) 0 / 10 % 64 + 128 * (draws.getD (place % 4) 0 / 10 / 64 % 2)]
def spotsOf (draws : List Nat) : List (List Nat) := (List.range 5).map (spotOf draws)

theorem filtm_take {α : Type} {rs : List α} {p : α → Bool} {i : Nat} {r : α} (h : rs[i]? = some r) : (rs.take (i + 1)).filter p = (rs.take i).filter p ++ if p r = true then [r] else [] := by
  rw [List.take_add_one, h, List.filter_append]
  congr 1
  show List.filter p [r] = _
  rw [List.filter_cons, List.filter_nil]
theorem map_get {α β : Type} {f : α → β} {l : List α} {i : Nat} {d : β} (h : (l.map f)[i]? = some d) : ∃ a, l[i]? = some a ∧ d = f a := by
  rw [List.getElem?_map] at h
  cases e : l[i]? with
  | none => rw [e] at h; cases h
  | some a => rw [e] at h; exact ⟨a, rfl, (Option.some.inj h).symm⟩

theorem eq_nat (a b : Nat) : ((a : Int) == (b : Int)) = (a == b) := by
  by_cases h : a = b
  · subst h; simp
  · have : (a : Int) ≠ (b : Int) := by omega
    rw [beq_eq_false_iff_ne.mpr this, beq_eq_false_iff_ne.mpr h]
section
variable {prog : Program} {w : World} {A : Around} {env : Env} {hT : Heap} {κ : List (Str × Addr)} {ρ : Ro} {ω : Om} {pos p₁ : Pos} {e target : Expr}
theorem ie_enumN {elts : List Expr} {i : Nat} {p' : Pos} {ns : List Nat} (hh : A.handled = none) (ht : target = .Tuple elts i p₁) (hg : ∀ W O s₀, Glb prog w A env (St env hT κ W O s₀ ρ ω) "enumerate" (.type "enumerate")) (he : EvS prog w A env hT κ ρ ω e (dNs ns))
    (hC : eval (.Call (.Name "enumerate" p') [e] [] pos) env = (do callWith pos (← eval (.Name "enumerate" p') env) [] (backTo pos (starEach [e] env)) (backToKw pos (keywordEach [] env))) := by rfl)
    (hs : starEach [e] env = (false, eval e env) :: starEach [] env := by rfl) (hn : ((backTo pos (starEach [] env)).any (·.1)) = false := by rfl) :
    IterEv prog w A env hT κ ρ ω (.Call (.Name "enumerate" p') [e] [] pos) target (ns.zipIdx.map fun q => .tuple [.int (q.2 : Nat), .int (q.1 : Nat)]) := by
  have := ie_enum hh ht hg he hC hs hn
  rw [List.zipIdx_map, List.map_map] at this
  exact this
end
theorem spots_ok {prog : Program} {w : World} {hT : Heap} {mg mb : Str → Option Value} (T : TT (KK w) mg mb hT) {draws : List Nat} (h4 : draws.length = 4) :
    FnOk prog w hT 2 56 [dNs draws] (.list ((spotsOf draws).map dNs)) := by
  refine' fn_cells (k := 1) (f := 56) (x := "draws") (arg := dNs draws) T ?ho ?hcd ?hbody ?hclo ?hbind ?hloc ?hck ?hk ?hgl ?hbi ?h ?hco ?hgen
  case ho => rfl
  case hcd => rfl
  case hbody => rfl
  case hclo => rfl
  case hbind => intro v; rfl
  case hloc => rfl
  case hck =>
    intro L c hc
    exact ⟨"place", by have : c = L + 1 := List.mem_singleton.mp hc; rw [this]; rfl⟩
  case hk => rfl
  case hgl => rfl
  case hbi => rfl
  case hco => rfl
  case hgen => rfl
  case h =>
    intro A L a k
    generalize hκ : cellsFrom (L + 1) _ [] = κ
    have hκ' : κ = [(("place" : Str), L + 1)] := hκ.symm
    have ck : CellsOk κ := by
      rw [hκ']; intro c hc
      exact ⟨"place", by have : c = L + 1 := List.mem_singleton.mp hc; rw [this]; rfl⟩
    refine go_mk k mk_nil rfl fun sa => ?_
    refine go_for (ds := (List.range 5).map fun i => .int (i : Nat)) ck (ir1 (n := 5) a.handled k T rfl rfl ci (by decide)) (fun i => [("spots", .own sa), ("draws", .d (dNs draws))]) (fun i => [(sa, true, (((List.range 5).take i).map (spotOf draws)).map dNs)])
      (sc rfl (sc rfl sn)) rfl (fun _ => rfl) (fun i d hd => ?_) ?_
    · obtain ⟨p, hp, rfl⟩ := map_get hd
      have hi : i < 5 := by simpa using (List.getElem?_eq_some_iff.mp hp).1
      have hpi : p = i := by rw [List.getElem?_range hi] at hp; exact (Option.some.inj hp).symm
      subst hpi
      refine ⟨_, asg_cell (c := L + 1) k rfl (by rw [hκ']; rfl), ?_⟩
      have el : draws.zipIdx.length = 4 := by rw [List.length_zipIdx]; exact h4
      refine go_assignComp (ρc := [("place", .d (.int (p : Nat)))]) (cl := [("place", L + 1)]) (ds := draws.zipIdx.map fun q => .tuple [.int (q.2 : Nat), .int (q.1 : Nat)])
        (res := fun i => (((draws.zipIdx.take i).filter fun q => q.1 % 5 == p).map fun q => 65 + q.2 + 128 * (q.1 / 5 % 2)).map fun n : Nat => .int (n : Nat)) (r := (octsOf draws p).map fun n : Nat => .int (n : Nat)) k (ie_enumN a.handled rfl (fun W O s₀ => gb k T rfl rfl rfl) (vr k rfl)) rfl (by decide) rfl (by decide) ?_ rfl (fun i hi => ?_) ?_
        (by simp only [List.length_map, List.take_length]; rfl) rfl ?_
      · intro y r hy
        by_cases e : y = "place"
        · subst e
          rw [lookup_cons_eq] at hy
          cases hy
          exact ⟨_, L + 1, rfl, rfl, rfl, by rw [hκ']; rfl, rfl, rfl⟩
        · rw [lookup_cons_ne e] at hy; cases hy
      · rw [List.length_map, List.length_map]
        have h1 := List.length_filter_le (fun q : Nat × Nat => q.1 % 5 == p) (draws.zipIdx.take i)
        have h2 : (draws.zipIdx.take i).length ≤ draws.zipIdx.length := by rw [List.length_take]; exact Nat.min_le_right _ _
        omega
      · intro C ω' i d hd
        obtain ⟨q, hq, rfl⟩ := map_get hd
        refine ⟨_, asg_tup2 (eok_comp k rfl) a.handled rfl rfl, sc rfl sn, ?_⟩
        have et := filtm_take (p := fun q : Nat × Nat => q.1 % 5 == p) hq
        have eb : ((q.1 : Int) % 5 == (p : Int)) = (q.1 % 5 == p) := by rw [← eq_nat]; rfl
        by_cases hb : (q.1 % 5 == p) = true
        · have ee : ((65 + q.2 + 128 * (q.1 / 5 % 2) : Nat) : Int) = 65 + (q.2 : Int) + 128 * ((q.1 : Int) / 5 % 2) := by omega
          refine .inl ⟨.int ((65 + q.2 + 128 * (q.1 / 5 % 2) : Nat) : Int), ts_oneE (tc cmp_eq (bi (op_mod (by decide)) (vr (eok_comp k rfl) rfl) ci) (vr (eok_comp k rfl) rfl)) (eb.trans hb), ?_, ?_⟩
          · rw [ee]
            exact bi op_add (bi op_add ci (vr (eok_comp k rfl) rfl)) (bi (op_mul (by decide)) ci (bi (op_mod (by decide)) (bi (op_div (by decide) (by decide)) (vr (eok_comp k rfl) rfl) ci) ci))
          · dsimp only
            rw [et, if_pos hb, List.map_append, List.map_append]; rfl
        · have hb' : (q.1 % 5 == p) = false := by simpa using hb
          refine .inr ⟨ts_oneE (tc cmp_eq (bi (op_mod (by decide)) (vr (eok_comp k rfl) rfl) ci) (vr (eok_comp k rfl) rfl)) (eb.trans hb'), ?_⟩
          dsimp only
          rw [et, if_neg hb, List.append_nil]
      · have hol : (octsOf draws p).length ≤ 4 := by
          unfold octsOf
          rw [List.length_map]
          have h1 := List.length_filter_le (fun q : Nat × Nat => q.1 % 5 == p) draws.zipIdx
          omega
        have hm : p % 4 < draws.length := by omega
        have hnum : (draws.map fun n => PyData.int (n : Nat))[((p : Int) % 4).toNat]? = some (.int (draws.getD (p % 4) 0 : Nat)) := by
          have e : ((p : Int) % 4).toNat = p % 4 := by omega
          rw [e, List.getElem?_map, List.getD_eq_getElem?_getD, List.getElem?_eq_getElem hm]; rfl
        have e1 : ∀ D : Nat, ((D / 10 : Nat) : Int) = (D : Int) / 10 := fun D => by omega
        refine go_assign k (d := .int ((draws.getD (p % 4) 0 / 10 : Nat) : Int)) (by rw [e1]; exact bi (op_div (by decide) (by decide)) (it (vr k rfl) (bi (op_mod (by decide)) (vr k rfl) ci) (by omega) (by omega) hnum) ci) rfl ?_
        have e2 : dNs (spotOf draws p) = .list ((octsOf draws p).reverse.map (fun n : Nat => PyData.int (n : Nat)) ++ [.int (((draws.getD (p % 4) 0 / 10 : Nat) : Int) % 64 + 128 * (((draws.getD (p % 4) 0 / 10 : Nat) : Int) / 64 % 2))]) := by
          unfold spotOf
          rw [dNs, List.map_append]
          congr 2
        have e3 : ((List.range 5).take (p + 1)).map (spotOf draws) = ((List.range 5).take p).map (spotOf draws) ++ [spotOf draws p] := by
          rw [List.take_add_one, List.getElem?_range hi, List.map_append]; rfl
        have e4 : (((List.range 5).take (p + 1)).map (spotOf draws)).map dNs = (((List.range 5).take p).map (spotOf draws)).map dNs ++ [dNs (spotOf draws p)] := by rw [e3, List.map_append]; rfl
        rw [e4]
        refine go_append (ω₁ := []) (ω₂ := []) (d := dNs (spotOf draws p)) k rfl rfl ?_ (by simp; omega) (go_nil (by repeat (first | exact sn | refine sc rfl ?_)) (fun _ h => h) id)
        rw [e2, List.map_reverse]
        exact bi (op_addlist (by simp; omega)) (sl_rev (vr k rfl) (neS ci) (by simp; omega)) (ls (ec (bi op_add (bi (op_mod (by decide)) (vr k rfl) ci) (bi (op_mul (by decide)) ci (bi (op_mod (by decide)) (bi (op_div (by decide) (by decide)) (vr k rfl) ci) ci))) en) (by simp))
    · refine go_freeze (by simp) (x := "spots") rfl ?_
      exact go_ret (vr k rfl)

abbrev SS (l : List Nat) : Str := ⟨l.toArray⟩
theorem ss_app (a b : List Nat) : SS a ++ SS b = SS (a ++ b) := by
  show (⟨a.toArray ++ b.toArray⟩ : Str) = _
  rw [List.append_toArray]
theorem fold_rep (c : Nat) : ∀ (m : Nat) (acc : List Nat), (List.replicate m #[c]).foldl (· ++ ·) acc.toArray = (acc ++ List.replicate m c).toArray
  | 0, acc => by simp
  | m + 1, acc => by
    rw [List.replicate_succ, List.foldl_cons, show acc.toArray ++ #[c] = (acc ++ [c]).toArray by simp, fold_rep c m, List.replicate_succ]
    simp
theorem mul_one (c m : Nat) : Txt.mul (SS [c]) (m : Int) = SS (List.replicate m c) := by
  unfold Txt.mul
  cases m with
  | zero => rw [if_pos (by decide)]; rfl
  | succ m =>
    rw [if_neg (by omega)]
    split
    · rename_i h
      simp [Str.length] at h
      have : m = 0 := by omega
      subst this; rfl
    · have := fold_rep c (m + 1) []
      rw [Int.toNat_natCast]
      show (⟨(List.replicate (m + 1) #[c]).foldl (· ++ ·) ([] : List Nat).toArray⟩ : Str) = _
      rw [this]; rfl
theorem mulOk_one (c m : Nat) (h : m ≤ 1000) : MulOk (SS [c]) (m : Int) := by
  refine ⟨by rw [decide_eq_false (by omega), decide_eq_false (by omega)]; rfl, fun h1 h2 => ?_, fun h1 h2 => ?_⟩
  · have e : ((SS [c]).length : Int) = 1 := rfl
    rw [e]
    have : (1 : Int) ≤ (2 ^ 63 - 1) / (m : Int) := by
      refine (Int.le_ediv_iff_mul_le (by omega)).mpr (by omega)
    omega
  · have e : (SS [c]).length = 1 := rfl
    unfold Builtin.Str.tooLong
    rw [e, decide_eq_false (by rw [sizeLine_eq]; simp; omega)]
theorem join_ss : ∀ ls : List (List Nat), Str.join (SS []) (ls.map SS) = SS ls.flatten
  | [] => rfl
  | [x] => by simp [Str.join]
  | x :: y :: r => by
    have ih := join_ss (y :: r)
    rw [List.map_cons] at ih
    rw [List.map_cons, List.map_cons, Str.join, ih, ss_app, ss_app]
    · simp
    · simp

def spotText (sp : List Nat) : List Nat := List.replicate (sp.length - 1) 40 ++ [41, 92, sp.getLast?.getD 0]
def ringText (ring : List (List Nat)) : List Nat := (ring.flatMap spotText).take ((ring.flatMap spotText).length - 3)

section
variable {prog : Program} {w : World} {A : Around} {env : Env} {hT : Heap} {κ : List (Str × Addr)} {X : List Addr} {ρ ρ' ρc : Ro} {ω ω' ω₁ ω₂ : Om} {K : Kn} {rest body : List Stmt} {pos p₁ p₂ p₃ p₄ p₆ : Pos} {e e₁ e₂ e₃ test l r target value lo hi : Expr} {d d₁ d₂ d₃ a b : PyData} {x y z : Str} {ds : List PyData} {i j : Int} {mg mb : Str → Option Value} {F : Frag}
theorem sl_str {j : Int} (hv : EvS prog w A env hT κ ρ ω value (.str x)) (hj : EvS prog w A env hT κ ρ ω hi (.int j)) (hz : x.length ≤ 1000)
    (hs : ∀ t i, subscripted (.Slice none (some hi) none p₁) false (.str x t) (.ref i) = operate [.ref i, .str x t] (getItem (.str x t) (.ref i)) := by intro _ _; with_unfolding_all rfl) : EvS prog w A env hT κ ρ ω (.Subscript value (.Slice none (some hi) none p₁) pos) (.str (Txt.slice x none (some j))) := .mk fun W O s₀ s Q E p h =>
  Subscript_ (hv.run W O s₀ s _ E p fun v s₁ e₁ r₁ => wpAny_Slice (by
    obtain ⟨t, rfl⟩ := r₁.str_inv
    rw [evalPart_none]
    refine wpAny_pure ?_
    rw [evalPart_some]
    refine hj.run W O s₀ s₁ _ E (p.ext e₁) fun u s₂ e₂ r₂ => ?_
    obtain ⟨u, rfl⟩ := r₂.int_inv
    refine wpAny_pure ?_
    refine tail_any (typeIs_str _ _ _) F.slot_str_getitem.lookup (wpAny_getItem_str_slice (l := none) (u := some (j, u)) (st := none) ⟨_, Heap.get?_push_size _ rfl, rfl, rfl⟩ rfl
      (post_val_or_str ⟨Nat.le_trans (Txt.slice_le x _ _) (by rw [sizeLine_eq]; omega), fun t' k => h _ _ ((e₁.trans e₂).trans ⟨fun b o q => Heap.get?_push_of_some _ q, .refl _ _, rfl⟩) (.str ..)⟩)) (hs t _)))

theorem strs_inv {O : List Addr} {h : Heap} : ∀ {vs : List Value} {texts : List Str}, RDs O h vs (texts.map .str) → ∃ l : List (Str × Tok), vs = strValues l ∧ l.map (·.1) = texts
  | _, [], .nil => ⟨[], rfl, rfl⟩
  | _, y :: texts, .cons r t => by
    obtain ⟨l, e1, e2⟩ := strs_inv t
    obtain ⟨t, rfl⟩ := r.str_inv
    exact ⟨(y, t) :: l, by rw [e1]; rfl, by rw [← e2]; rfl⟩
theorem joS {k : Nat} {pl : Sem Bool} {texts : List Str} (he : EvS prog w A env hT κ ρ ω e (.list (texts.map .str))) (hok : JoinOk x texts = true)
    (hM : eval (.Call (.Attribute (.Constant (.str x) k p₁) "join" p₂) [e] [] p₃) env = (do let ov ← eval (.Constant (.str x) k p₁) env; standAt p₂.atName; let (f, first) ← holding [ov] (getMethod ov "join" pl); callWith p₃ f first (backTo p₃ (starEach [e] env)) []) := by rfl)
    (hs : starEach [e] env = (false, eval e env) :: starEach [] env := by rfl) (hn : ((backTo p₃ (starEach [] env)).any (·.1)) = false := by rfl) :
    EvS prog w A env hT κ ρ ω (.Call (.Attribute (.Constant (.str x) k p₁) "join" p₂) [e] [] p₃) (.str (Txt.join x texts)) := .mk fun W O s₀ s Q E p h =>
  MethodCall_ (wpAny_Constant_str (GM.join (callWith_method1 (el_cons St.po (he.run W O s₀) el_nil hs p₃ _ _ E (p.ext (Ext.toks _)) fun us s₁ e₁ r₁ => by
    cases r₁ with
    | cons r₁ t =>
      cases t
      obtain ⟨a, vs, rfl, hl, _, rs⟩ := r₁.list_inv
      obtain ⟨l, e2, e3⟩ := strs_inv rs
      have hl' : s₁.heap.IsList a (strValues l).toArray := by rw [← e2, Array.toArray_toList]; exact hl
      exact SC.join hl' e3 hok fun t' k => h _ _ (((Ext.toks _).trans e₁).trans (Ext.toks _)) (.str ..)) hs hn))) hM
end

theorem text_ok {prog : Program} {w : World} {hT : Heap} {mg mb : Str → Option Value} (T : TT (KK w) mg mb hT) {ring : List (List Nat)} (h5 : ring.length ≤ 5) (hr : ∀ sp ∈ ring, sp.length ≤ 10 ∧ ∃ c, sp.getLast? = some c ∧ c ≤ 1000) (hne : ring ≠ []) :
    FnOk prog w hT 1 61 [.list (ring.map dNs)] (.str (SS (ringText ring))) := by
  refine' fn_plain (k := 0) (f := 61) (names := ["ring"]) (args' := [.list (ring.map dNs)]) T ?ho ?hcd ?hbody ?hbind ?hnd ?hloc ?hcell ?hk ?hgl ?hbi ?h ?hco ?hgen
  case ho => rfl
  case hcd => rfl
  case hbody => rfl
  case hbind =>
    intro O s vs X h
    cases h with
    | cons r₁ h =>
      cases h
      exact ⟨[_], rfl, .of_eq rfl, .cons r₁ .nil⟩
  case hnd => decide
  case hloc => decide
  case hcell => decide
  case hk => rfl
  case hgl => rfl
  case hbi => rfl
  case hco => rfl
  case hgen => rfl
  case h =>
    intro A L a k
    have hst : ∀ sp ∈ ring, (spotText sp).length ≤ 12 := fun sp hs => by
      have := (hr sp hs).1
      unfold spotText
      simp; omega
    have hsum : (ring.flatMap spotText).length ≤ 60 ∧ 3 ≤ (ring.flatMap spotText).length := by
      refine ⟨?_, ?_⟩
      · have : ∀ r : List (List Nat), (∀ sp ∈ r, (spotText sp).length ≤ 12) → (r.flatMap spotText).length ≤ r.length * 12 := by
          intro r
          induction r with
          | nil => intro _; exact Nat.zero_le _
          | cons sp r ih =>
            intro h
            have h1 := h sp (List.mem_cons_self ..)
            have h2 := ih fun q hq => h q (List.mem_cons_of_mem _ hq)
            rw [List.flatMap_cons, List.length_append, List.length_cons]; omega
        have := this ring hst
        omega
      · cases ring with
        | nil => exact absurd rfl hne
        | cons sp r => rw [List.flatMap_cons, List.length_append, spotText]; simp; omega
    have hjo : JoinOk "" ((ring.map spotText).map SS) = true := by
      refine joinOk_of ?_
      have e : (((ring.map spotText).map SS).map (·.length)).sum = (ring.flatMap spotText).length := by
        rw [List.length_flatMap, List.map_map, List.map_map]; rfl
      rw [e, List.length_map, List.length_map]
      have : (Str.length "") = 0 := rfl
      rw [this]; omega
    have hfin : Txt.slice (Txt.join "" ((ring.map spotText).map SS)) none (some (-3)) = SS (ringText ring) := by
      have e1 : Txt.join "" ((ring.map spotText).map SS) = SS (ring.flatMap spotText) := by
        show Builtin.Str.glued _ _ = _
        rw [StrLaws.glued_eq_join]
        exact (join_ss (ring.map spotText)).trans (by rw [List.flatMap_def])
      rw [e1]
      have e2 : (SS (ring.flatMap spotText)).length = (ring.flatMap spotText).length := by simp [Str.length]
      refine (StrLaws.sliceText_to_neg (x := SS (ring.flatMap spotText)) (j := -3) (by decide) (by rw [e2]; omega)).trans ?_
      rw [e2, List.drop_zero]
      show SS _ = SS _
      congr 1
      unfold ringText
      congr 1
      omega
    rw [← hfin]
    refine go_ret (sl_str (x := Txt.join "" ((ring.map spotText).map SS)) (joS ?_ hjo) (neS ci) ?_)
    · refine ev_comp (ρc := []) (cl := []) (ds := ring.map dNs) (res := fun i => (((ring.take i).map spotText).map SS).map .str) (ie_list (vr k rfl) a.handled) rfl (by decide) rfl (by decide) cap_nil rfl (fun i hi => ?_) ?_ (by simp only [List.length_map, List.take_length])
      · rw [List.length_map] at hi
        simp only [List.length_map, List.length_take]; omega
      · intro C ω' i d hd
        obtain ⟨sp, hsp, rfl⟩ := map_get hd
        obtain ⟨c1, c, c2, c3⟩ := hr sp (List.mem_of_getElem? hsp)
        have hpos : 1 ≤ sp.length := by
          cases sp with
          | nil => cases c2
          | cons => simp
        refine ⟨_, asg_name (eok_comp k rfl) rfl, (fun _ _ h => nomatch h), .inl ⟨.str (SS (spotText sp)), ts_nil, ?_, ?_⟩⟩
        · have e1 : SS (spotText sp) = (Txt.mul "(" ((sp.length : Int) - 1) ++ ")\\") ++ (⟨#[((c : Nat) : Int).toNat]⟩ : Str) := by
            have e0 : ((sp.length : Int) - 1) = ((sp.length - 1 : Nat) : Int) := by omega
            rw [e0]
            show _ = (Txt.mul (SS [40]) ((sp.length - 1 : Nat) : Int) ++ SS [41, 92]) ++ SS [((c : Nat) : Int).toNat]
            rw [mul_one, ss_app, ss_app, Int.toNat_natCast]
            unfold spotText
            rw [c2]
            simp
          rw [e1]
          have e0 : ((sp.length : Int) - 1) = ((sp.length - 1 : Nat) : Int) := by omega
          have el : (dNs sp) = dNs sp := rfl
          have elen : ((sp.map fun n => PyData.int (n : Nat)).length : Int) = (sp.length : Int) := by rw [List.length_map]
          refine bi (op_addstr ?_) (bi (op_addstr ?_) (bi (op_mulstr ?_) cs (bi op_sub (by rw [← elen]; exact cbS (fun W O s₀ => gb (eok_comp k rfl) T rfl rfl rfl) (ec (vr (eok_comp k rfl) rfl) en) (fun W O s₀ => cl_len (by simp; omega))) ci)) cs)
            (cbS (fun W O s₀ => gb (eok_comp k rfl) T rfl rfl rfl) (ec (la (vr (eok_comp k rfl) rfl) (d := .int (c : Nat)) ?_) en) (fun W O s₀ => cl_chr (by omega) (by omega)))
          · show (Txt.mul (SS [40]) _ ++ SS [41, 92]).length + (SS [((c : Nat) : Int).toNat]).length ≤ 1000
            rw [e0, mul_one, ss_app]
            simp [Str.length]; omega
          · show (Txt.mul (SS [40]) _).length + (SS [41, 92]).length ≤ 1000
            rw [e0, mul_one]
            simp [Str.length]; omega
          · rw [e0]
            exact mulOk_one 40 _ (by omega)
          · rw [List.getLast?_map, c2]; rfl
        · dsimp only
          rw [List.take_add_one, hsp]
          simp
    · have e1 : Txt.join "" ((ring.map spotText).map SS) = SS (ring.flatMap spotText) := by
        show Builtin.Str.glued _ _ = _
        rw [StrLaws.glued_eq_join]
        exact (join_ss (ring.map spotText)).trans (by rw [List.flatMap_def])
      rw [e1]
      simp only [Str.length, List.size_toArray]; omega
section
variable {prog : Program} {w : World} {A : Around} {E : Value → Shared → Prop} {s : Shared}
theorem next_item {it l : Addr} {i : Nat} {items : Array Value} {x : Value} {Q : Value → Shared → Prop} (hit : s.heap.IsListIter it l i) (hl : s.heap.IsList l items) (hx : items[i]? = some x)
    (hQ : ∀ h', h'.IsListIter it l (i + 1) → Heap.SameBut it s.heap h' → Q x { s with heap := h' }) : wpAny (model prog w) A (call (.builtin "next") [.ref it]) Q E s := by
  obtain ⟨o, ho, hc, hd⟩ := id hit
  obtain ⟨ol, hol, _, nl, hdl⟩ := hl
  refine call_function_entry (by decide +kernel) (by decide +kernel) kdk_entry_next (kdk_args_next _) ?_
  unfold Builtin.«next»
  refine wpAny_bind (m := someArgs "next" 1 2 _) (wpAny_of_eq (a := [Value.ref it]) (by first | rfl | kernel_rfl!) ?_)
  dsimp only
  refine wpAny_bind (wpAny_specialOf (name := Str.ofString "__next__") hit.typeIs slot_listiter_next.lookup ?_)
  refine wpAny_ite_split (fun hab => absurd hab (by decide)) (fun _ => ?_)
  refine wpAny_bind (wpAny_callSpecial?_slot (name := Str.ofString "__next__") hit.typeIs slot_listiter_next (wpAny_call_entry slot_listiter_next hit.typeIs entry_listiter_next ?_ (args_listiter_next _)))
  show wpAny _ _ (field (.ref it) 0 >>= _) _ _ s
  refine wpAny_bind (wpAny_field ho hd (x := .ref l) rfl ?_)
  show wpAny _ _ (if (Value.ref l == Value.none) = true then _ else _) _ _ s
  rw [if_neg (show ¬ ((Value.ref l == Value.none) = true) from Bool.false_ne_true)]
  show wpAny _ _ (field (.ref it) 1 >>= _) _ _ s
  refine wpAny_bind (wpAny_field ho hd (x := .int i 0) rfl ?_)
  show wpAny _ _ (seqItems? (.ref l) >>= _) _ _ s
  refine wpAny_bind (wpAny_seqItems hol hdl ?_)
  simp only [Int.toNat_natCast, hx]
  refine wpAny_bind (wpAny_setField ho hd (by simp) (wpAny_pure ⟨x, rfl, wpAny_pure ⟨_, rfl, hQ _ ?_ (Heap.SameBut.update ..)⟩⟩))
  exact ⟨_, Heap.get?_update_self _ ho (Obj.isFreed_of_fields (Obj.data_mapFields hd _)), (Obj.cls_mapFields ..).trans hc, by rw [Obj.data_mapFields hd]; simp [rawInt]⟩
theorem next_end {it l : Addr} {i : Nat} {items : Array Value} {Q : Value → Shared → Prop} (hh : A.handled = none) (hit : s.heap.IsListIter it l i) (hl : s.heap.IsList l items) (hx : items[i]? = none)
    (hE : ∀ h₁ h' e, Heap.SameBut it s.heap h₁ → Heap.NewExc h₁ h' e "StopIteration" → E (.ref e) { s with heap := h' }) : wpAny (model prog w) A (call (.builtin "next") [.ref it]) Q E s := by
  obtain ⟨o, ho, hc, hd⟩ := id hit
  obtain ⟨ol, hol, _, nl, hdl⟩ := hl
  refine call_function_entry (by decide +kernel) (by decide +kernel) kdk_entry_next (kdk_args_next _) ?_
  unfold Builtin.«next»
  refine wpAny_bind (m := someArgs "next" 1 2 _) (wpAny_of_eq (a := [Value.ref it]) (by first | rfl | kernel_rfl!) ?_)
  dsimp only
  refine wpAny_bind (wpAny_specialOf (name := Str.ofString "__next__") hit.typeIs slot_listiter_next.lookup ?_)
  refine wpAny_ite_split (fun hab => absurd hab (by decide)) (fun _ => ?_)
  refine wpAny_bind (wpAny_callSpecial?_slot (name := Str.ofString "__next__") hit.typeIs slot_listiter_next (wpAny_call_entry slot_listiter_next hit.typeIs entry_listiter_next ?_ (args_listiter_next _)))
  show wpAny _ _ (field (.ref it) 0 >>= _) _ _ s
  refine wpAny_bind (wpAny_field ho hd (x := .ref l) rfl ?_)
  show wpAny _ _ (if (Value.ref l == Value.none) = true then _ else _) _ _ s
  rw [if_neg (show ¬ ((Value.ref l == Value.none) = true) from Bool.false_ne_true)]
  show wpAny _ _ (field (.ref it) 1 >>= _) _ _ s
  refine wpAny_bind (wpAny_field ho hd (x := .int i 0) rfl ?_)
  show wpAny _ _ (seqItems? (.ref l) >>= _) _ _ s
  refine wpAny_bind (wpAny_seqItems hol hdl ?_)
  simp only [Int.toNat_natCast, hx]
  refine wpAny_bind (wpAny_rule (wpAny_bind (wpAny_setField ho hd (by simp) ?_)))
  show wpAny _ _ (newExc (.type "StopIteration") [] >>= _) _ _ _
  refine wpAny_bind ?_
  simp only [newExc, newTuple]
  refine wpAny_bind (wpAny_newObj_type ?_ (by size_fits))
  refine wpAny_bind (m := firstArgMember _ _) (wpAny_of_eq (a := Value.none) (by first | rfl | (simp only [firstArgMember]; rfl)) ?_)
  refine wpAny_newObj_type ?_ (by size_fits)
  simp only [raiseNew]
  refine wpAny_bind (wpAny_handled ?_)
  rw [show A.in1.in1.handled = none from hh]
  refine wpAny_bind (wpAny_pure (wpAny_throw ?_))
  refine hE _ _ _ (Heap.SameBut.update ..) ⟨fun b o q => Heap.get?_push_of_some _ (Heap.get?_push_of_some _ q), ?_, ⟨_, _, Heap.get?_push_size _ rfl, rfl, rfl⟩⟩
  refine Heap.get?_none_of_le ?_
  rw [Heap.size_push]
  exact Nat.le_succ _
end

theorem and63 (b : Nat) : b &&& 63 = b % 64 := Nat.and_two_pow_sub_one_eq_mod b 6
theorem bitAnd_nat (a b : Nat) : Builtin.bitAnd (a : Int) (b : Int) = ((a &&& b : Nat) : Int) := by
  rw [bitAnd_pp (by omega) (by omega)]; simp
theorem and_low (v y : Nat) (h : y < 64) : (v * 64) &&& y = 0 := Nat.eq_of_testBit_eq fun i => by
  rw [Nat.testBit_and, Nat.zero_testBit]
  by_cases h6 : i < 6
  · have e : (v * 64).testBit i = false := by
      rw [show v * 64 = v <<< 6 from by rw [Nat.shiftLeft_eq], Nat.testBit_shiftLeft]
      simp; omega
    rw [e, Bool.false_and]
  · have e : y.testBit i = false := Nat.testBit_lt_two_pow (Nat.lt_of_lt_of_le h (by
      have := Nat.pow_le_pow_right (n := 2) (by decide) (Nat.not_lt.mp h6)
      exact this))
    rw [e, Bool.and_false]
theorem bitOr_low (v y : Nat) (h : y < 64) : Builtin.bitOr ((v * 64 : Nat) : Int) (y : Int) = ((v * 64 + y : Nat) : Int) := by
  rw [bitOr_and, bitAnd_nat, and_low v y h]; omega

section
variable {prog : Program} {w : World} {A : Around} {x y : Nat}
theorem op_and : Op prog w A .BitAnd (.int x) (.int y) (.int ((x &&& y : Nat) : Int)) := fun O s v u Q E ht r₁ r₂ h => by
  obtain ⟨t, rfl⟩ := r₁.int_inv; obtain ⟨t', rfl⟩ := r₂.int_inv
  exact and_int (by rw [bitAnd_nat]; exact h _ _ (Ext.toks _) (.int ..))
end

section
variable {env : Env} {hT : Heap} {κ : List (Str × Addr)} {W O : List Addr} {s₀ s s' : Shared} {ρ ρ' : Ro} {ω ω' : Om}
/-- a thing of one's own that is no list is changed -/
theorem St.touch {it : Addr} {h' : Heap} {vs : Array Value} {o : Obj} (p : St env hT κ W O s₀ ρ ω s) (hO : it ∈ O) (hW : it ∈ W) (ho : s.heap.get? it = some o) (hd : o.data = .fields vs) (hs : Heap.SameBut it s.heap h') (hn : ∃ o, h'.get? it = some o ∧ NoTup o) (n : Nat) :
    St env hT κ W O s₀ ρ ω { s with heap := h', toks := n } := by
  have hsub : ∀ b ∈ [it], b ∈ O := fun b hb => by rw [List.mem_singleton.mp hb]; exact hO
  have nl : env.locals ≠ it := fun q => by
    obtain ⟨m, o', es, ep, ho', hd', _⟩ := p.ns
    rw [q, ho] at ho'; cases ho'; rw [hd] at hd'; cases hd'
  have nc : ∀ {c v}, s.heap.IsCell c v → c ≠ it := fun {c v} i q => by
    obtain ⟨o', ho', hd'⟩ := i
    rw [q, ho] at ho'; cases ho'; rw [hd] at hd'; cases hd'
  have nlst : ∀ {a vs}, s.heap.IsList a vs → a ≠ it := fun {a vs} l q => by
    obtain ⟨o', ho', _, n, hd'⟩ := l
    rw [q, ho] at ho'; cases ho'; rw [hd] at hd'; cases hd'
  obtain ⟨m, hns⟩ := p.ns
  refine ⟨fun b o e => ?_, p.topO, fm_in hs p.fm (.inl hW), p.bare, p.os, hot_same p.hot hs hn, p.wo, ⟨m, hns.sameBut hs nl⟩, p.lo, p.lw, fun y c q => ?_, fun y r' q => ?_, fun a ds q => ?_, p.nodup⟩
  · have hb : b ≠ it := by
      rintro rfl
      have := p.topO _ hO
      rw [e] at this; cases this
    exact (hs.2 b hb).trans (p.top b o e)
  · obtain ⟨a, b, d, ⟨v', i⟩, f⟩ := p.cells y c q
    exact ⟨a, b, d, ⟨v', i.sameBut hs (nc i)⟩, f⟩
  · refine VarIs.same p.hot hO hs (fun u hu => ?_) (p.vars y r' q)
    rcases hu with ⟨a, m', n', e⟩ | ⟨a, c, e, n'⟩
    · exact .inl ⟨a, m', n'.sameBut hs nl, e⟩
    · exact .inr ⟨a, c, e, n'.sameBut hs (nc n')⟩
  · obtain ⟨i, j, o⟩ := p.owns a ds q
    refine ⟨i, j, Own.same p.hot hO hs (fun e => ?_) o⟩
    obtain ⟨vs, l, _⟩ := o
    exact nlst l e
end

section
variable {prog : Program} {w : World} {A : Around} {env : Env} {hT : Heap} {κ : List (Str × Addr)} {X W O : List Addr} {s₀ s : Shared} {ρ ρ' ρc : Ro} {ω ω' ω₁ ω₂ : Om} {K : Kn} {rest body : List Stmt} {pos p₁ p₂ p₃ p₄ p₆ : Pos} {e e₁ e₂ e₃ test l r target value lo hi : Expr} {d d₁ d₂ d₃ a b : PyData} {x y z : Str} {ds : List PyData} {i j : Int} {mg mb : Str → Option Value} {F : Frag} {Q : Flow → Shared → Prop} {E : Value → Shared → Prop}
theorem ex_assign (k : EOk env) (he : EvS prog w A env hT κ ρ ω e d) (hl : env.kindOf x = some .local) (p : St env hT κ W O s₀ ρ ω s) (h : ∀ s', St env hT κ W O s₀ ((x, .d d) :: ρ) ω s' → Fm [env.locals] s.heap s'.heap → Q .next s')
    (hs : swapsWith e (some (.Name x p₁)) pos.line env = pure false := by rfl) : wpAny (model prog w) A (exec (.Assign [.Name x p₁] e pos) env) Q E s :=
  wpAny_Assign_Name (he.run W O s₀ s _ E p fun v s₁ e₁ r₁ => by
    have q := p.ext e₁
    obtain ⟨m, hn⟩ := q.ns
    exact wpAny_storeName_local hl hn (fun h' hn' hs' => h _ (q.store (r := .d d) hl hn hn' hs' r₁) ((Fm.of_keep e₁.keep).trans (Fm.of_same hs'))) (noclass k)) hs
theorem ex_aug {op : Operator} {a r : PyData} (k : EOk env) (hl : env.kindOf x = some .local) (hx : ρ.lookup x = some (.d a)) (he : EvS prog w A env hT κ ρ ω e d) (p : St env hT κ W O s₀ ρ ω s)
    (ho : ∀ (O : List Addr) (s : Shared) (v u : Value) (Q E : Value → Shared → Prop), Hot O s.heap → RD O s.heap v a → RD O s.heap u d → (∀ z s', Ext s s' → RD O s'.heap z r → Q z s') → wpAny (model prog w) A (inplaceOp op v u) Q E s)
    (h : ∀ s', St env hT κ W O s₀ ((x, .d r) :: ρ) ω s' → Fm [env.locals] s.heap s'.heap → Q .next s') : wpAny (model prog w) A (exec (.AugAssign (.Name x p₁) op e pos) env) Q E s :=
  wpAny_AugAssign_Name (by
    obtain ⟨v, at', ra⟩ := p.vars x _ hx
    rcases at' with ⟨_, m, hn, hm⟩ | ⟨hc, _⟩
    · refine wpAny_loadName_local k.kind hl hn hm (he.run W O s₀ s _ E p fun u s₁ e₁ r₁ => ho O s₁ v u _ E (p.ext e₁).hot (ra.keep e₁.keep) r₁ fun z s₂ e₂ r₂ => ?_)
      have q := p.ext (e₁.trans e₂)
      obtain ⟨m, hn⟩ := q.ns
      exact wpAny_storeName_local hl hn (fun h' hn' hs' => h _ (q.store (r := .d r) hl hn hn' hs' r₂) ((Fm.of_keep (e₁.trans e₂).keep).trans (Fm.of_same hs'))) (noclass k)
    · rw [hl] at hc; cases hc)
theorem ex_next {it lst : Addr} {n : Nat} {items : Array Value} {v : Value} {p' : Pos} (k : EOk env) (T : TT F mg mb hT) (hx : env.kindOf "next" = some .globalImplicit) (hm : nsIn F mainGlobals "next" = some none) (hl : env.kindOf x = some .local) (hy : env.kindOf y = some .local) (hyo : ρ.lookup y = some (.own it))
    (p : St env hT κ W O s₀ ρ ω s) (hO : it ∈ O) (hW : it ∈ W) (hit : s.heap.IsListIter it lst n) (hL : s.heap.IsList lst items) (hi : items[n]? = some v) (rv : ∀ h, RD O h v d)
    (h : ∀ s', St env hT κ W O s₀ ((x, .d d) :: ρ) ω s' → s'.heap.IsListIter it lst (n + 1) → Fm [env.locals, it] s.heap s'.heap → Q .next s')
    (hs : swapsWith (.Call (.Name "next" p') [.Name y p₂] [] p₃) (some (.Name x p₁)) pos.line env = pure false := by rfl)
    (hC : eval (.Call (.Name "next" p') [.Name y p₂] [] p₃) env = (do callWith p₃ (← eval (.Name "next" p') env) [] (backTo p₃ (starEach [.Name y p₂] env)) (backToKw p₃ (keywordEach [] env))) := by rfl)
    (hs' : starEach [.Name y p₂] env = (false, eval (.Name y p₂) env) :: starEach [] env := by rfl) (hn : ((backTo p₃ (starEach [] env)).any (·.1)) = false := by rfl) (hd : (y == ("__debug__" : Str)) = false := by decide) :
    wpAny (model prog w) A (exec (.Assign [.Name x p₁] (.Call (.Name "next" p') [.Name y p₂] [] p₃) pos) env) Q E s :=
  wpAny_Assign_Name (Call_ (glb_b (P := St env hT κ W O s₀ ρ ω) k T.top (fun s p => p.top) hx (mg_none_of T.frag T.top.g hm) boot_next (by decide) (by decide) p' s _ E p (PyProof.Rows.callWith_builtin1 (wpAny_items_cons (load_own k p hy hyo (wpAny_items_nil (next_item hit hL hi fun h' hit' hs₁ => by
    obtain ⟨o, ho, hc, hd⟩ := id hit
    obtain ⟨o', ho', hc', hd'⟩ := id hit'
    have q := p.touch hO hW ho hd hs₁ ⟨o', ho', fun _ vs m z => by rw [hd'] at z; cases z⟩ s.toks
    obtain ⟨m, hns⟩ := q.ns
    refine wpAny_storeName_local hl hns (fun h₂ hn₂ hs₂ => ?_) (noclass k)
    have nl : it ≠ env.locals := fun z => by
      obtain ⟨o'', es, ep, h1, h2, _⟩ := hns
      rw [← z, ho'] at h1; cases h1; rw [hd'] at h2; cases h2
    refine h _ (q.store (r := .d d) hl hns hn₂ hs₂ (rv _)) ⟨o', (hs₂.2 it nl).trans ho', hc', hd'⟩ ?_
    exact ((Fm.of_same hs₁).sub (by simp)).trans ((Fm.of_same hs₂).sub (by simp)))) hd) hs') hs' hn)) hC) hs
end

def vgo : Nat → Nat → Nat → List Nat → Option (Nat × List Nat)
  | 0, _, _, _ => none
  | f + 1, val, b, r => if b &&& 64 = 0 then some (val, r) else match r with
    | [] => none
    | b' :: r' => if val < 2 ^ 50 then vgo f (val * 64 + b' % 64) b' r' else none
def vread : List Nat → Option (Nat × List Nat)
  | [] => none
  | b :: r => vgo 20 (b % 64) b r

/-- the octets as they lie in the list -/
structure OctsAt (os : List Nat) (items : Array Value) : Prop where
  get : ∀ (j b : Nat), os[j]? = some b → ∃ t, items[j]? = some (Value.int (b : Nat) t)
  len : items.size = os.length

theorem drop_cons {os : List Nat} {i b : Nat} {r : List Nat} (h : os.drop i = b :: r) : os[i]? = some b ∧ os.drop (i + 1) = r := by
  have h1 : (os.drop i)[0]? = some b := by rw [h]; rfl
  rw [List.getElem?_drop] at h1
  refine ⟨h1, ?_⟩
  rw [← List.drop_drop, h]; rfl

theorem fn_raw {prog : Program} {w : World} {hT : Heap} {K : Frag} {mg mb : Str → Option Value} {k : Nat} {f : Addr} {oc : Value} {od : Option Addr} {fd : FuncData} {osl : Array (Option Value)} {body : List Stmt} {A : Around} {s : Shared} {vs : List Value} {binds : List (Str × Value)} {Q E : Value → Shared → Prop}
    (T : TT K mg mb hT) (a : AOk (k + 1) A) (keep : Keep hT s.heap) (ho : K.lookup f = some ⟨oc, od, .func fd, osl⟩) (hcd : codeIn K fd.code fd.qualname = true) (hbody : fd.body = .stmts body) (hbind : BindsTo s fd ⟨vs, []⟩ binds)
    (hcell : ∀ y ∈ fd.scope.names, y.2 ≠ .cell) (hloc : ∀ x ∈ binds, fd.scope.names.lookup x.1 = some .local) (hk : fd.scope.kind = .function) (hgl : fd.globals = mainGlobals) (hbi : fd.builtins = builtinsNs)
    (hco : fd.scope.isCoroutine = false) (hgen : fd.scope.isGenerator = false)
    (h : ∀ L h₀ tk, let env := callEnv fd L f; EOk env → AOk k (A.deeper env) → env.frame = some L → env.locals = L → env.scope.kind ≠ .module → s.heap.get? L = none → h₀.Ns L (fun x => binds.reverse.lookup x) → Keep s.heap h₀ →
      wpAny (model prog w) (A.deeper env) (execs body env) (fun f s' => Q (match f with | .ret v => v | _ => .none) s') (fun e s' => wpAny (model prog w) (A.deeper env) (leaving env e) (fun _ s'' => E e s'') (fun e' s'' => E e' s'') s') { s with heap := h₀, toks := tk }) :
    wpAny (model prog w) A (call (.ref f) vs) Q E s := by
  have inS : K.In s.heap := T.frag.keeps keep
  refine wpAny_call (codeAny_call_def a.room (inS _ _ ho) rfl (T.top.lim.keeps keep) (codeRec_of inS hcd) hbody hbind hcell hloc (fun h₀ hn hkeep => ?_) hco hgen hk)
  have frL : s.heap.get? s.heap.objs.size = none := by
    cases z : s.heap.get? s.heap.objs.size with
    | none => rfl
    | some o => exact absurd (Heap.lt_size z) (Nat.lt_irrefl _)
  exact h s.heap.objs.size h₀ _ ⟨hk, hgl, hbi⟩ (a.deeper _) rfl rfl (by show fd.scope.kind ≠ _; rw [hk]; decide) frL hn hkeep

theorem st_enter {env : Env} {hT h₀ : Heap} {W O : List Addr} {s : Shared} {ρ : Ro} {L : Addr} {m : Str → Option Value} (tk : Nat) (hl : env.locals = L) (keep : Keep hT s.heap) (hO : ∀ a ∈ O, hT.get? a = none) (hot : Hot O s.heap) (wo : ∀ b ∈ W, b ∈ O) (frL : s.heap.get? L = none) (hn : h₀.Ns L m) (hkeep : Keep s.heap h₀)
    (hv : ∀ y r, ρ.lookup y = some r → VarIs env (L :: O) h₀ y r) : St env hT [] W (L :: O) s ρ [] { s with heap := h₀, toks := tk } := by
  subst hl
  refine ⟨fun b o z => hkeep b o (keep b o z), fun b hb => ?_, (Fm.of_keep hkeep), .refl _ _, rfl, fun b hb => ?_, (fun b z => List.mem_cons_of_mem _ (wo b z)), ⟨_, hn⟩, List.mem_cons_self .., .inr frL, (fun y c z => nomatch z), hv, (fun b dd z => nomatch z), by simp⟩
  · rcases List.mem_cons.mp hb with rfl | hb
    · cases z : hT.get? env.locals with
      | none => rfl
      | some o => have := keep _ _ z; rw [frL] at this; cases this
    · exact hO b hb
  · rcases List.mem_cons.mp hb with rfl | hb
    · exact notup_of_ns hn
    · obtain ⟨o, h1, h2⟩ := hot b hb; exact ⟨o, hkeep _ _ h1, h2⟩

theorem pv_ok {prog : Program} {w : World} {hT : Heap} {mg mb : Str → Option Value} (T : TT (KK w) mg mb hT) {A : Around} {O : List Addr} {s : Shared} {it lst : Addr} {items : Array Value} {os rest : List Nat} {i res : Nat} {Q E : Value → Shared → Prop}
    (a : AOk 1 A) (keep : Keep hT s.heap) (hO : ∀ a ∈ O, hT.get? a = none) (hot : Hot O s.heap) (itO : it ∈ O) (hit : s.heap.IsListIter it lst i) (hL : s.heap.IsList lst items) (hI : OctsAt os items) (hv : vread (os.drop i) = some (res, rest))
    (hQ : ∀ s' t i', Fm [it] s.heap s'.heap → Gk [] s.gens s'.gens → s'.os = s.os → s'.heap.IsListIter it lst i' → os.drop i' = rest → Q (.int (res : Nat) t) s') : wpAny (model prog w) A (call (.ref 30) [.ref it]) Q E s := by
  refine' fn_raw (k := 0) (f := 30) (binds := [("iterator", .ref it)]) T a keep ?ho ?hcd ?hbody ?hbind ?hcell ?hloc ?hk ?hgl ?hbi ?hco ?hgen ?h
  case ho => rfl
  case hcd => rfl
  case hbody => rfl
  case hbind => exact .of_eq rfl
  case hcell => decide
  case hloc =>
    intro x hx
    rw [List.mem_singleton.mp hx]; rfl
  case hk => rfl
  case hgl => rfl
  case hbi => rfl
  case hco => rfl
  case hgen => rfl
  intro L h₀ tk env k ad _ hlo _ frL hn hkeep
  have lne : lst ≠ it := fun q => by
    obtain ⟨o, h1, _, h2⟩ := hit
    obtain ⟨o', h3, _, _, h4⟩ := hL
    rw [q, h1] at h3; cases h3; rw [h2] at h4; cases h4
  have q0 : St env hT [] [it] (L :: O) s [("iterator", .own it)] [] { s with heap := h₀, toks := tk } := by
    refine st_enter tk hlo keep hO hot (fun b z => by rw [List.mem_singleton.mp z]; exact itO) frL hn hkeep fun y r' z => ?_
    by_cases hy : y = "iterator"
    · subst hy
      rw [lookup_cons_eq] at z
      cases z
      exact .inl ⟨rfl, _, hn, by rw [lookup_rev (by simp)]; rfl⟩
    · rw [lookup_cons_ne hy] at z; cases z
  have hit0 : (h₀.IsListIter it lst i) := let ⟨o, h1, h2, h3⟩ := hit; ⟨o, hkeep _ _ h1, h2, h3⟩
  have hLs : ∀ {ρ : Ro} {s' : Shared}, St env hT [] [it] (L :: O) s ρ [] s' → s'.heap.IsList lst items := fun {ρ s'} p => by
    obtain ⟨o, h1, h2⟩ := hL
    exact ⟨o, p.fm _ _ h1 (fun q => lne (List.mem_singleton.mp q)), h2⟩
  obtain ⟨b, r, hdr⟩ : ∃ b r, os.drop i = b :: r := by
    cases e : os.drop i with
    | nil => rw [e] at hv; cases hv
    | cons b r => exact ⟨b, r, rfl⟩
  rw [hdr] at hv
  obtain ⟨hb, hr⟩ := drop_cons hdr
  obtain ⟨t, hbt⟩ := hI.get i b hb
  refine wpAny_execs_cons (ex_next (d := .int (b : Nat)) k T rfl rfl rfl rfl rfl q0 (List.mem_cons_of_mem _ itO) (List.mem_singleton.mpr rfl) hit0 (hLs q0) hbt (fun _ => .int ..) fun s₁ q₁ it₁ f₁ => ?_)
  refine wpAny_execs_cons (ex_assign (d := .int ((b % 64 : Nat) : Int)) k (by rw [← and63]; exact bi op_and (vr k rfl) ci) rfl q₁ fun s₂ q₂ f₂ => ?_)
  have nl : it ≠ L := fun z => by
    obtain ⟨o, h1, _⟩ := hit
    rw [z, frL] at h1; cases h1
  have it₂ : s₂.heap.IsListIter it lst (i + 1) := let ⟨o, h1, h2⟩ := it₁; ⟨o, f₂ _ _ h1 (fun q => nl (List.mem_singleton.mp q)), h2⟩
  refine wpAny_execs_cons (wpAny_While ?_)
  refine codeAny_whileLoop (fun n s' => ∃ val b r i, vgo n val b r = some (res, rest) ∧ St env hT [] [it] (L :: O) s [("val", .d (.int (val : Nat))), ("b", .d (.int (b : Nat))), ("iterator", .own it)] [] s' ∧ s'.heap.IsListIter it lst i ∧ os.drop i = r) ?_ 20
    ⟨b % 64, b, r, i + 1, hv, q₂.names (by repeat (first | exact sn | refine sc rfl ?_)), it₂, hr⟩
  rintro n s' ⟨val, b, r, i, hg, q, hit', hr⟩
  cases n with
  | zero => cases hg
  | succ n =>
    refine (tiS (i := ((b &&& 64 : Nat) : Int)) (bi op_and (vr k rfl) ci) (b := decide (b &&& 64 ≠ 0)) (by
      by_cases z : b &&& 64 = 0
      · rw [z]; rfl
      · rw [decide_eq_true z]; simp; omega)).run _ _ _ s' _ _ q fun s₃ e₃ => ?_
    have q₃ := q.ext e₃
    have it₃ : s₃.heap.IsListIter it lst i := let ⟨o, h1, h2⟩ := hit'; ⟨o, e₃.keep _ _ h1, h2⟩
    unfold vgo at hg
    by_cases z : b &&& 64 = 0
    · rw [if_pos z] at hg
      cases hg
      rw [decide_eq_false (by simpa using z), if_neg (by decide)]
      refine wpAny_execs_nil ?_
      refine wpAny_execs_cons (wpAny_Return_some ((vr k rfl).run _ _ _ s₃ _ _ q₃ fun v s₄ e₄ r₄ => ?_))
      obtain ⟨t, rfl⟩ := r₄.int_inv
      have q₄ := q₃.ext e₄
      exact hQ s₄ t i q₄.fm q₄.bare q₄.os (let ⟨o, h1, h2⟩ := it₃; ⟨o, e₄.keep _ _ h1, h2⟩) hr
    · rw [if_neg z] at hg
      rw [decide_eq_true z, if_pos rfl]
      split at hg
      · cases hg
      · rename_i b' r'
        split at hg
        · rename_i hval
          obtain ⟨hb, hr'⟩ := drop_cons hr
          obtain ⟨t, hbt⟩ := hI.get i b' hb
          refine wpAny_execs_cons (ex_aug (r := .int ((val * 64 : Nat) : Int)) k rfl rfl ci q₃ (fun O s v u Q E ht r₁ r₂ h => by
            obtain ⟨t, rfl⟩ := r₁.int_inv; obtain ⟨t', rfl⟩ := r₂.int_inv
            refine ilshift_int_small (by decide) (by decide) (by omega) ?_
            have : (val : Int) * 2 ^ (6 : Int).toNat = ((val * 64 : Nat) : Int) := by
              show (val : Int) * 64 = _
              omega
            rw [this]
            exact h _ _ (Ext.toks _) (.int ..)) fun s₄ q₄ f₄ => ?_)
          have it₄ : s₄.heap.IsListIter it lst i := let ⟨o, h1, h2⟩ := it₃; ⟨o, f₄ _ _ h1 (fun q => nl (List.mem_singleton.mp q)), h2⟩
          refine wpAny_execs_cons (ex_next (d := .int (b' : Nat)) k T rfl rfl rfl rfl rfl q₄ (List.mem_cons_of_mem _ itO) (List.mem_singleton.mpr rfl) it₄ (hLs q₄) hbt (fun _ => .int ..) fun s₅ q₅ it₅ f₅ => ?_)
          refine wpAny_execs_cons (ex_aug (a := .int ((val * 64 : Nat) : Int)) (d := .int ((b' &&& 63 : Nat) : Int)) (r := .int ((val * 64 + b' % 64 : Nat) : Int)) k rfl rfl (bi op_and (vr k rfl) ci) q₅ (fun O s v u Q E ht r₁ r₂ h => by
            obtain ⟨t, rfl⟩ := r₁.int_inv; obtain ⟨t', rfl⟩ := r₂.int_inv
            refine ior_int ?_
            rw [and63, bitOr_low val (b' % 64) (Nat.mod_lt _ (by decide))]
            exact h _ _ (Ext.toks _) (.int ..)) fun s₆ q₆ f₆ => ?_)
          have it₆ : s₆.heap.IsListIter it lst (i + 1) := let ⟨o, h1, h2⟩ := it₅; ⟨o, f₆ _ _ h1 (fun q => nl (List.mem_singleton.mp q)), h2⟩
          exact wpAny_execs_nil ⟨n, Nat.lt_succ_self n, _, b', r', i + 1, hg, q₆.names (by repeat (first | exact sn | refine sc rfl ?_)), it₆, hr'⟩
        · cases hg

theorem iter_list_call {prog : Program} {w : World} {A : Around} {E : Value → Shared → Prop} {s : Shared} {l : Addr} {items : Array Value} {Q : Value → Shared → Prop} (hl : s.heap.IsList l items)
    (h : Q (.ref s.heap.objs.size) { s with heap := s.heap.push { cls := .type "list_iterator", data := .fields #[.ref l, .int 0 0] } }) : wpAny (model prog w) A (call (.builtin "iter") [.ref l]) Q E s := by
  refine call_function_entry (by decide +kernel) (by decide +kernel) kdk_entry_iter (kdk_args_iter _) ?_
  unfold Builtin.«iter»
  refine wpAny_bind (m := someArgs "iter" 1 2 _) (wpAny_of_eq (a := [Value.ref l]) (by first | rfl | kernel_rfl!) ?_)
  show wpAny _ _ (pyIter (.ref l) >>= _) _ _ _
  exact wpAny_bind (wpAny_pyIter_list hl (wpAny_pure ⟨_, rfl, h⟩))

section
variable {env : Env} {hT : Heap} {κ : List (Str × Addr)} {W O : List Addr} {s₀ s s' : Shared} {ρ ρ' : Ro} {ω ω' : Om}
theorem St.fmit {it : Addr} {vs : Array Value} {o : Obj} (p : St env hT κ W O s₀ ρ ω s) (hO : it ∈ O) (hW : it ∈ W ∨ s₀.heap.get? it = none) (ho : s.heap.get? it = some o) (hd : o.data = .fields vs) (f : Fm [it] s.heap s'.heap) (hb : Gk [] s.gens s'.gens) (hos : s'.os = s.os) (hn : ∃ o, s'.heap.get? it = some o ∧ NoTup o) :
    St env hT κ W O s₀ ρ ω s' := by
  have hsub : ∀ b ∈ [it], b ∈ O := fun b hb => by rw [List.mem_singleton.mp hb]; exact hO
  have nm : ∀ {b}, b ≠ it → b ∉ [it] := fun h q => h (List.mem_singleton.mp q)
  obtain ⟨m, hns⟩ := p.ns
  have nl : env.locals ≠ it := fun q => by
    obtain ⟨o', es, ep, ho', hd', _⟩ := hns
    rw [q, ho] at ho'; cases ho'; rw [hd] at hd'; cases hd'
  have nc : ∀ {c v}, s.heap.IsCell c v → c ≠ it := fun {c v} i q => by
    obtain ⟨o', ho', hd'⟩ := i
    rw [q, ho] at ho'; cases ho'; rw [hd] at hd'; cases hd'
  have nlst : ∀ {a vs}, s.heap.IsList a vs → a ≠ it := fun {a vs} l q => by
    obtain ⟨o', ho', _, n, hd'⟩ := l
    rw [q, ho] at ho'; cases ho'; rw [hd] at hd'; cases hd'
  have cell : ∀ {c v}, s.heap.IsCell c v → s'.heap.IsCell c v := fun {c v} i => by
    have := nc i
    obtain ⟨o', ho', hd'⟩ := i
    exact ⟨o', f _ _ ho' (nm this), hd'⟩
  have nsx : ∀ {m}, s.heap.Ns env.locals m → s'.heap.Ns env.locals m := fun {m} n => n.at' fun o e => f _ _ e (nm nl)
  refine ⟨fun b o e => f b o (p.top b o e) (nm ?_), p.topO, fun b o e hnW => f b o (p.fm b o e hnW) (nm ?_), p.bare.trans hb, hos.trans p.os, fun a ha => ?_, p.wo, ⟨m, nsx hns⟩, p.lo, p.lw, fun y c q => ?_, fun y r' q => ?_, fun a ds q => ?_, p.nodup⟩
  · rintro rfl
    have := p.topO _ hO
    rw [e] at this; cases this
  · rintro rfl
    rcases hW with h | h
    · exact hnW h
    · rw [e] at h; cases h
  · by_cases e : a = it
    · subst e; exact hn
    · obtain ⟨o', h1, h2⟩ := p.hot a ha
      exact ⟨o', f _ _ h1 (nm e), h2⟩
  · obtain ⟨a, b, d, ⟨v', i⟩, g⟩ := p.cells y c q
    exact ⟨a, b, d, ⟨v', cell i⟩, g⟩
  · have va : ∀ v, VarAt env s.heap y v → VarAt env s'.heap y v := fun v z => by
      rcases z with ⟨a, m', n', e⟩ | ⟨a, c, e, n'⟩
      · exact .inl ⟨a, m', nsx n', e⟩
      · exact .inr ⟨a, c, e, cell n'⟩
    have z := p.vars y r' q
    cases r' with
    | d d => obtain ⟨v, a, r⟩ := z; exact ⟨v, va v a, r.fm p.hot hsub f⟩
    | own a => exact va _ z
  · obtain ⟨i, j, vs, l, pl, r⟩ := p.owns a ds q
    have := nm (nlst l)
    exact ⟨i, j, vs, (let ⟨o, h1, h2⟩ := l; ⟨o, f _ _ h1 this, h2⟩), (fun z => (pl z).at fun o y => f _ _ y this), RDs.fm r p.hot hsub f⟩
end

theorem pv_end {prog : Program} {w : World} {hT base : Heap} {mg mb : Str → Option Value} (T : TT (KK w) mg mb hT) {A : Around} {O : List Addr} {s : Shared} {it lst : Addr} {items : Array Value} {i : Nat} {outer : List Env} {Q E : Value → Shared → Prop}
    (a : AOk 1 A) (keep : Keep hT s.heap) (hO : ∀ a ∈ O, hT.get? a = none) (hot : Hot O s.heap) (itO : it ∈ O) (hit : s.heap.IsListIter it lst i) (hL : s.heap.IsList lst items) (hx : items[i]? = none)
    (hfr : A.frames = some outer) (hl : s.heap.FunFrames base outer) (hkb : base.StaysIn s.heap) (hbit : base.get? it = none)
    (hE : ∀ e a0 h' tk, Heap.FlyingW base outer e (.type "StopIteration") a0 h' → s.heap.UpToSlots h' → E (.ref e) { s with heap := h', toks := tk }) : wpAny (model prog w) A (call (.ref 30) [.ref it]) Q E s := by
  refine' fn_raw (k := 0) (f := 30) (binds := [("iterator", .ref it)]) T a keep ?ho ?hcd ?hbody ?hbind ?hcell ?hloc ?hk ?hgl ?hbi ?hco ?hgen ?h
  case ho => rfl
  case hcd => rfl
  case hbody => rfl
  case hbind => exact .of_eq rfl
  case hcell => decide
  case hloc =>
    intro x hx
    rw [List.mem_singleton.mp hx]; rfl
  case hk => rfl
  case hgl => rfl
  case hbi => rfl
  case hco => rfl
  case hgen => rfl
  intro L h₀ tk env k ad hef hlo hek frL hn hkeep
  have q0 : St env hT [] [it] (L :: O) s [("iterator", .own it)] [] { s with heap := h₀, toks := tk } := by
    refine st_enter tk hlo keep hO hot (fun b z => by rw [List.mem_singleton.mp z]; exact itO) frL hn hkeep fun y r' z => ?_
    by_cases hy : y = "iterator"
    · subst hy
      rw [lookup_cons_eq] at z
      cases z
      exact .inl ⟨rfl, _, hn, by rw [lookup_rev (by simp)]; rfl⟩
    · rw [lookup_cons_ne hy] at z; cases z
  have hit0 : (h₀.IsListIter it lst i) := let ⟨o, h1, h2, h3⟩ := hit; ⟨o, hkeep _ _ h1, h2, h3⟩
  have hL0 : h₀.IsList lst items := let ⟨o, h1, h2⟩ := hL; ⟨o, hkeep _ _ h1, h2⟩
  refine wpAny_execs_cons (wpAny_Assign_Name (Call_ (glb_b (P := St env hT [] [it] (L :: O) s [("iterator", .own it)] []) k T.top (fun s p => p.top) rfl (mg_none_of T.frag T.top.g rfl) boot_next (by decide) (by decide) _ _ _ _ q0 (PyProof.Rows.callWith_builtin1 (wpAny_items_cons (load_own k q0 rfl rfl (wpAny_items_nil (next_end ad.handled hit0 hL0 hx fun h₁ h' e hs₁ hne => ?_)) (by decide)) rfl) rfl rfl)) rfl) rfl)
  obtain ⟨oit, hoit, _, hdit⟩ := hit0
  have itb : ∀ b o, s.heap.get? b = some o → (∀ vs, o.data ≠ .fields vs) → b ≠ it := fun b o hb hd q => by
    rw [q] at hb
    have := hkeep _ _ hb
    rw [this] at hoit; cases hoit
    exact hd _ hdit
  have up1 : ∀ b o, s.heap.get? b = some o → (∀ vs, o.data ≠ .fields vs) → h'.get? b = some o := fun b o hb hd => hne.keeps _ _ ((hs₁.2 b (itb b o hb hd)).trans (hkeep _ _ hb))
  have kb : base.StaysIn h' := fun b o hb => hne.keeps _ _ ((hs₁.2 b (fun q => by rw [q, hbit] at hb; cases hb)).trans (hkeep _ _ (hkb b o hb)))
  have nl : L ≠ it := fun q => by
    obtain ⟨o', es, ep, h1, h2, _⟩ := hn
    rw [q, hoit] at h1; cases h1; rw [hdit] at h2; cases h2
  have hn' : h'.Ns L (fun x => ([("iterator", .ref it)] : List (Str × Value)).reverse.lookup x) := (hn.sameBut hs₁ nl).keeps hne.keeps
  have hbL : base.get? L = none := by
    cases z : base.get? L with
    | none => rfl
    | some o => have := hkb _ _ z; rw [frL] at this; cases this
  have hff : h'.FunFrames base (env :: outer) := Heap.FunFrames.cons hek hef hn' hbL (hl.of_keeps fun b o hb hd => ⟨o, up1 b o hb hd, rfl⟩)
  have hen : base.get? e = none := by
    cases z : base.get? e with
    | none => rfl
    | some o =>
      have := (hs₁.2 e (fun q => by rw [q, hbit] at z; cases z)).trans (hkeep _ _ (hkb _ _ z))
      rw [hne.new] at this; cases this
  obtain ⟨ob, t0, he, hc, hd⟩ := hne.there
  refine wpAny_leaving_firstW (base := base) (outer := outer) (L := L) (Around.frames_deeper hfr) hff hef he kb hen hd (a0 := t0) rfl rfl fun h'' hlw => ?_
  obtain ⟨k1, ⟨_, _, k2⟩, k3, k4⟩ := hlw
  rw [hc] at k3
  exact hE e t0 h'' tk ⟨k1, hen, k2, k3⟩ fun b o hb hnf => k4 b o (up1 b o hb hnf) hnf

def vreads : Nat → List Nat → Option (List Nat)
  | 0, _ => none
  | f + 1, os => match os with
    | [] => some []
    | b :: r => match vread (b :: r) with
      | none => none
      | some (n, rest) => (vreads f rest).map (n :: ·)

theorem ints_heap {O O' : List Addr} {h h' : Heap} : ∀ {vs : List Value} {ns : List Nat}, RDs O h vs (ns.map fun n : Nat => .int (n : Nat)) → RDs O' h' vs (ns.map fun n : Nat => .int (n : Nat))
  | _, [], .nil => .nil
  | _, n :: ns, .cons r t => by
    obtain ⟨t', rfl⟩ := r.int_inv
    exact .cons (.int ..) (ints_heap t)
theorem read_ok {prog : Program} {w : World} {hT base : Heap} {mg mb : Str → Option Value} (T : TT (KK w) mg mb hT) {A : Around} {O : List Addr} {s : Shared} {os ns : List Nat} {v : Value} {outer : List Env} {Q E : Value → Shared → Prop}
    (a : AOk 2 A) (keep : Keep hT s.heap) (hO : ∀ a ∈ O, hT.get? a = none) (hot : Hot O s.heap) (r : RD O s.heap v (dNs os)) (hz : os.length ≤ 900) (hv : vreads 900 os = some ns)
    (hfr : A.frames = some outer) (hl : s.heap.FunFrames base outer) (hkb : base.StaysIn s.heap) (hTb : Keep hT base)
    (hQ : ∀ v s', base.StaysIn s'.heap → s.heap.UpToSlots s'.heap → Gk [] s.gens s'.gens → s'.os = s.os → RD O s'.heap v (dNs ns) → Q v s') : wpAny (model prog w) A (call (.ref 68) [v]) Q E s := by
  refine' fn_raw (k := 1) (f := 68) (binds := [("octets", v)]) T a keep ?ho ?hcd ?hbody ?hbind ?hcell ?hloc ?hk ?hgl ?hbi ?hco ?hgen ?h
  case ho => rfl
  case hcd => rfl
  case hbody => rfl
  case hbind => exact .of_eq rfl
  case hcell => decide
  case hloc =>
    intro x hx
    rw [List.mem_singleton.mp hx]; rfl
  case hk => rfl
  case hgl => rfl
  case hbi => rfl
  case hco => rfl
  case hgen => rfl
  intro L h₀ tk env k ad hef hlo hek frL hn hkeep
  have q0 : St env hT [] [] (L :: O) s [("octets", .d (dNs os))] [] { s with heap := h₀, toks := tk } := by
    refine st_enter tk hlo keep hO hot (fun b z => nomatch z) frL hn hkeep fun y r' z => ?_
    by_cases hy : y = "octets"
    · subst hy
      rw [lookup_cons_eq] at z
      cases z
      exact ⟨v, .inl ⟨rfl, _, hn, by rw [lookup_rev (by simp)]; rfl⟩, (r.more frL).keep hkeep⟩
    · rw [lookup_cons_ne hy] at z; cases z
  refine wpAny_noRaise ?_
  refine wpAny_execs_cons (swap2 ad.handled (Call_ (glb_b (P := St env hT [] [] (L :: O) s [("octets", .d (dNs os))] []) k T.top (fun s p => p.top) rfl (mg_none_of T.frag T.top.g rfl) boot_iter (by decide) (by decide) _ _ _ _ q0 (PyProof.Rows.callWith_builtin1 (wpAny_items_cons ((vr (d := dNs os) k rfl).run _ _ _ _ _ _ q0 fun v₁ s₁ e₁ r₁ => wpAny_items_nil ?_) rfl) rfl rfl)) rfl) rfl rfl rfl)
  obtain ⟨lst, items, rfl, hL, hlO, rs⟩ := r₁.list_inv
  refine iter_list_call hL ?_
  have q1 := q0.ext e₁
  have frIt : s₁.heap.get? s₁.heap.objs.size = none := Heap.get?_none_of_le (Nat.le_refl _)
  have hit2 : (s₁.heap.push { cls := .type "list_iterator", data := .fields #[.ref lst, .int 0 0] }).IsListIter s₁.heap.objs.size lst 0 := ⟨_, Heap.get?_push_size _ rfl, rfl, rfl⟩
  have hit2' := hit2
  generalize hs2 : ({ s₁ with heap := s₁.heap.push { cls := .type "list_iterator", data := .fields #[.ref lst, .int 0 0] } } : Shared) = s₂
  have hh2 : s₂.heap = s₁.heap.push { cls := .type "list_iterator", data := .fields #[.ref lst, .int 0 0] } := by rw [← hs2]
  have e12 : Ext s₁ s₂ := by rw [← hs2]; exact Ext.push _
  generalize hitg : s₁.heap.objs.size = it at hit2 frIt
  rw [← hh2] at hit2
  have q2 : St env hT [] [] (it :: L :: O) s [("octets", .d (dNs os))] [] s₂ := q1.moreHot e12 frIt (by
    obtain ⟨o, h1, _, h2⟩ := hit2
    exact ⟨o, h1, fun _ vs m z => by rw [h2] at z; cases z⟩)
  have hL2 : s₂.heap.IsList lst items := let ⟨o, h1, h2⟩ := hL; ⟨o, e12.keep _ _ h1, h2⟩
  have frS : s.heap.get? it = none := by
    cases z : s.heap.get? it with
    | none => rfl
    | some o => have := q1.fm _ _ z (fun y => nomatch y); rw [frIt] at this; cases this
  refine mk_nil.run _ _ _ s₂ _ _ q2 fun D vs s₃ a₃ fD lD pD rD s₄ a₄ => ?_
  have q4 := (q2.fresh a₃ fD lD pD (rD _)).ext a₄
  have hit4 : s₄.heap.IsListIter it lst 0 := let ⟨o, h1, h2⟩ := hit2; ⟨o, a₄.keep _ _ (a₃.keep _ _ h1), h2⟩
  obtain ⟨m, hns⟩ := q4.ns
  refine wpAny_storeName_local rfl hns (fun h₅ hn₅ hs₅ => ?_) (noclass k)
  have q5 := q4.store (r := .own D) (x := "numbers") rfl hns hn₅ hs₅ rfl (n := s₄.toks + 1)
  obtain ⟨m₆, hns₆⟩ := q5.ns
  refine wpAny_storeName_local rfl hns₆ (fun h₆ hn₆ hs₆ => ?_) (noclass k)
  have q6 := q5.store (r := .own it) (x := "tape") rfl hns₆ hn₆ hs₆ rfl (n := s₄.toks + 1 + 1)
  have nl : ∀ {h : Heap} {m}, h.Ns L m → h.IsListIter it lst 0 → it ≠ L := fun {h m} hn hi z => by
    obtain ⟨o, es, ep, h1, h2, _⟩ := hn
    obtain ⟨o', h3, _, h4⟩ := hi
    rw [← z, h3] at h1; cases h1; rw [h4] at h2; cases h2
  have nL : it ≠ L := nl hns hit4
  have hit6 : h₆.IsListIter it lst 0 := let ⟨o, h1, h2⟩ := hit4; ⟨o, (hs₆.2 it nL).trans ((hs₅.2 it nL).trans h1), h2⟩
  have it2ne : ∀ {a : Addr}, s₂.heap.get? a = none → a ≠ it := fun {a} h z => by
    obtain ⟨o, h1, _⟩ := hit2
    rw [z, h1] at h; cases h
  have lst_it : lst ≠ it := fun z => by
    obtain ⟨o, h1, _⟩ := hL
    rw [z, frIt] at h1; cases h1
  have lst_D : lst ≠ D := fun z => by
    obtain ⟨o, h1, _⟩ := hL2
    rw [z, fD] at h1; cases h1
  have lst_L : lst ≠ L := fun z => hlO (by rw [z]; exact List.mem_cons_self ..)
  have hL6 : h₆.IsList lst items := let ⟨o, h1, h2⟩ := hL2; ⟨o, (hs₆.2 lst lst_L).trans ((hs₅.2 lst lst_L).trans (a₄.keep _ _ (a₃.keep _ _ h1))), h2⟩
  have hoc : OctsAt os items := by
    refine ⟨fun j b hj => ?_, by have := RDs.length rs; rw [Array.length_toList, List.length_map] at this; exact this⟩
    obtain ⟨x, hx, rx⟩ := RDs.get rs (i := j) (d := .int (b : Nat)) (by rw [List.getElem?_map, hj]; rfl)
    obtain ⟨t, rfl⟩ := rx.int_inv
    exact ⟨t, by rw [← Array.getElem?_toList]; exact hx⟩
  have hitne : ∀ {s' : Shared} {i : Nat}, s'.heap.IsListIter it lst i → ∃ o vs, s'.heap.get? it = some o ∧ o.data = .fields vs := fun {s' i} h => let ⟨o, h1, _, h2⟩ := h; ⟨o, _, h1, h2⟩
  have hitnt : ∀ {s' : Shared} {i : Nat}, s'.heap.IsListIter it lst i → ∃ o, s'.heap.get? it = some o ∧ NoTup o := fun {s' i} h => let ⟨o, h1, _, h2⟩ := h; ⟨o, h1, fun _ vs m z => by rw [h2] at z; cases z⟩
  have q7 := q6.names (ρ' := [("tape", .own it), ("numbers", .own D)]) (by repeat (first | exact sn | refine sc rfl ?_))
  have D_O : D ∉ O := fun z => q2.hot.ne fD (List.mem_cons_of_mem _ (List.mem_cons_of_mem _ z))
  clear q6 q5 q4 q2 q1 q0
  generalize hs7 : ({ heap := h₆, gens := _, drawn := _, toks := _, os := _ } : Shared) = s₇ at q7 ⊢
  have hh7 : s₇.heap = h₆ := by rw [← hs7]
  rw [← hh7] at hit6 hL6
  clear hs7 hh7
  refine wpAny_execs_cons (wpAny_Try_except ?_)
  refine wpAny_execs_cons (wpAny_While (codeAny_whileLoop (fun n s' => ∃ done more i, vreads n (os.drop i) = some more ∧ done ++ more = ns ∧ done.length + n = 900 ∧ St env hT [] [] (D :: it :: L :: O) s [("tape", .own it), ("numbers", .own D)] [(D, true, done.map fun n : Nat => .int (n : Nat))] s' ∧ s'.heap.IsListIter it lst i ∧ s'.heap.IsList lst items) ?_ 900
    ⟨[], ns, 0, hv, rfl, rfl, q7, hit6, hL6⟩))
  rintro n s' ⟨done, more, i, hvr, hdm, hdn, q, hit', hL'⟩
  refine (tst_bool (P := St env hT [] [] (D :: it :: L :: O) s [("tape", .own it), ("numbers", .own D)] [(D, true, done.map fun n : Nat => .int (n : Nat))]) (O := D :: it :: L :: O) ev_bool (by intro _; rfl)) s' _ _ q fun s₁ e₁ => ?_
  rw [if_pos rfl]
  have q₁ := q.ext e₁
  have hit₁ : s₁.heap.IsListIter it lst i := let ⟨o, h1, h2⟩ := hit'; ⟨o, e₁.keep _ _ h1, h2⟩
  have hL₁ : s₁.heap.IsList lst items := let ⟨o, h1, h2⟩ := hL'; ⟨o, e₁.keep _ _ h1, h2⟩
  obtain ⟨D0, Dw, vsD, lvD, plD, rvD⟩ := q₁.owns D (true, done.map fun n : Nat => .int (n : Nat)) (by simp)
  have inS := T.frag.keeps q₁.top
  have hof : (KK w).lookup 30 = some ⟨_, _, .func _, _⟩ := rfl
  cases n with
  | zero => cases hvr
  | succ n =>
    unfold vreads at hvr
    refine wpAny_execs_cons (wpAny_Expr (MethodCall_ (load_own k q₁ rfl rfl (meth_list (plD rfl) PySem.F.slot_list_append PySem.F.type_list_append (callWith_method1 (wpAny_items_cons (Call_ (glb_g (P := St env hT [] [] (D :: it :: L :: O) s [("tape", .own it), ("numbers", .own D)] [(D, true, done.map fun n : Nat => .int (n : Nat))]) k T.top (fun s p => p.top) rfl (mg_of T.frag T.top.g rfl) (by decide) _ _ _ _ q₁
      (callWith_def_at (T.frag _ _ hof) rfl (wpAny_items_cons (load_own k q₁ rfl rfl (wpAny_items_nil ⟨inS _ _ hof, ?_⟩) (by decide)) rfl) rfl)) rfl) rfl) rfl rfl)) (by decide)) rfl) rfl)
    cases hdr : os.drop i with
    | nil =>
      rw [hdr] at hvr
      cases hvr
      rw [List.append_nil] at hdm
      subst hdm
      have hx : items[i]? = none := by
        have := List.drop_eq_nil_iff.mp hdr
        exact Array.getElem?_eq_none (by have := hoc.len; omega)
      have hlfr : (s₁.heap).FunFrames base (env :: outer) := by
        obtain ⟨m, hn⟩ := q₁.ns
        refine Heap.FunFrames.cons hek hef hn ?_ (hl.of_keeps fun b o hb hd => ⟨o, q₁.fm _ _ hb (fun z => nomatch z), rfl⟩)
        cases z : base.get? L with
        | none => rfl
        | some o => have := hkb _ _ z; rw [frL] at this; cases this
      have hkb₁ : base.StaysIn s₁.heap := fun b o hb => q₁.fm _ _ (hkb b o hb) (fun z => nomatch z)
      have hbit : base.get? it = none := by
        cases z : base.get? it with
        | none => rfl
        | some o => have := hkb _ _ z; rw [frS] at this; cases this
      refine pv_end T ad q₁.top q₁.topO q₁.hot (by simp) hit₁ hL₁ hx (Around.frames_deeper hfr) hlfr hkb₁ hbit fun e a0 h' tk' fly up => ?_
      refine PassesOwn.looking _ _ ?_
      refine wpAny_looks_onW (Around.frames_deeper hfr) hef fly fun h₂ held up₂ => ?_
      refine wpAny_landsW held fun h₃ fly₃ up₃ => ?_
      obtain ⟨f1, f2, f3, f4⟩ := id fly₃
      obtain ⟨ob, hob, hoc'⟩ := fly₃.there
      refine wpAny_handleBy_builtin (X := "StopIteration") (T := "StopIteration") (b := true) (isSubtype_of_subB (by decide +kernel)) (isSubtype_of_subB (by decide +kernel)) (isSubtype_of_subB (by decide +kernel))
        (glb_b (P := fun s => Keep hT s.heap) k T.top (fun s p => p) rfl (mg_none_of T.frag T.top.g rfl) (by kernel_rfl) (by decide) (by decide) _ _ _ _ (fun b o z => f1 _ _ (hTb _ _ z)) ⟨rfl, ⟨ob, hob, hoc'⟩, ?_⟩)
      rw [if_pos rfl]
      refine wpAny_setFlight_noneW f1 f3 f4.at fun h₄ k1 k2 k3 k4 => ?_
      have upA : s₁.heap.UpToSlots h₄ := ((up.trans up₂).trans up₃).trans fun b o hb hd => ⟨o.slots, k4 b o hb hd⟩
      have hvn := q₁.vars "numbers" (.own D) rfl
      rcases hvn with ⟨_, m, hn₁, hm⟩ | ⟨hc, _⟩
      · refine wpAny_execs_cons (wpAny_Return_some (wpAny_Name (wpAny_loadName_local k.kind rfl (upA.ns hn₁) hm ?_) (by decide)))
        refine hQ (.ref D) _ k1 ((Heap.UpToSlots.of_keeps fun b o z => q₁.fm _ _ z (fun y => nomatch y)).trans upA) q₁.bare q₁.os ?_
        obtain ⟨oD, hD1, hD2, nD, hD3⟩ := lvD
        obtain ⟨sl, hsl⟩ := upA D oD hD1 fun vs z => by rw [hD3] at z; cases z
        exact RD.list (vs := vsD) ⟨_, hsl, hD2, nD, hD3⟩ D_O (ints_heap rvD)
      · cases hc
    | cons b r =>
      rw [hdr] at hvr
      dsimp only at hvr
      cases hvr' : vread (b :: r) with
      | none => rw [hvr'] at hvr; cases hvr
      | some nr =>
        obtain ⟨num, rest⟩ := nr
        rw [hvr'] at hvr
        dsimp only at hvr
        cases hmm : vreads n rest with
        | none => rw [hmm] at hvr; cases hvr
        | some more' =>
          rw [hmm] at hvr
          have hmore : num :: more' = more := Option.some.inj hvr
          refine pv_ok T ad q₁.top q₁.topO q₁.hot (by simp) hit₁ hL₁ hoc (by rw [hdr]; exact hvr') fun s₂ t i' f hb ho hit₂ hr => ?_
          obtain ⟨o, ho₁, _, hd₁⟩ := id hit₁
          have q₂ := q₁.fmit (by simp) (.inr frS) ho₁ hd₁ f hb ho (hitnt hit₂)
          have hL₂ : s₂.heap.IsList lst items := let ⟨o, h1, h2⟩ := hL₁; ⟨o, f _ _ h1 (fun z => lst_it (List.mem_singleton.mp z)), h2⟩
          obtain ⟨_, _, vs₂, lv₂, pl₂, rv₂⟩ := q₂.owns D (true, done.map fun n : Nat => .int (n : Nat)) (by simp)
          have hsz : vs₂.size = done.length := by
            have := RDs.length rv₂
            rw [Array.length_toList, List.length_map] at this; exact this
          refine wpAny_items_nil ?_
          refine wpAny_list_append_plain (pl₂ rfl) (fun h' hp' hs' => ?_) (by rw [sizeLine_eq]; omega)
          have nD : it ≠ D := fun z => by
            obtain ⟨o, h1, _, h2⟩ := hit₂
            obtain ⟨o', h3, _, _, h4⟩ := lv₂
            rw [z, h3] at h1; cases h1; rw [h4] at h2; cases h2
          have e2 : (done.map fun n : Nat => PyData.int (n : Nat)) ++ [.int (num : Nat)] = (done ++ [num]).map fun n : Nat => .int (n : Nat) := by rw [List.map_append]; rfl
          have q₃ := St.upd (ω₁ := []) (ω₂ := []) (ds' := (done.map fun n : Nat => .int (n : Nat)) ++ [.int (num : Nat)]) q₂ hp'.isList (fun _ => hp') hs' (by rw [Array.toList_push]; exact RDs.append rv₂ (.cons (.int ..) .nil)) s₂.toks
          rw [e2] at q₃
          refine wpAny_execs_nil ⟨n, Nat.lt_succ_self n, done ++ [num], more', i', by rw [hr]; exact hmm, by rw [← hdm, ← hmore]; simp, by rw [List.length_append]; simp; omega, q₃, ?_, ?_⟩
          · obtain ⟨o, h1, h2⟩ := hit₂
            exact ⟨o, (hs'.2 it nD).trans h1, h2⟩
          · obtain ⟨o, h1, h2⟩ := hL₂
            exact ⟨o, (hs'.2 lst lst_D).trans h1, h2⟩

section
variable {M : Model} {A : Around} {R : GenEnd} {Y : Protocol} {n : Nat} {s₀ : Shared} {c : Code} {fs : List Frame} {s : Shared} {env : Env}
  {K : Flow → Sem Fin} {H : Value → Sem Fin} {gd : Bool → Bool} {lv : List Value → List Value} {rest body orelse : List Stmt} {st : Stmt} {test e target iter : Expr} {pos ypos : Pos}
theorem seg_row (h : wpAny M (A.over c fs) (exec st env) (fun f s' => f = .next ∧ Seg M A R Y n s₀ c ((execs rest env).wrap K H gd lv) fs s') (fun _ _ => False) s) :
    Seg M A R Y n s₀ c ((execs (st :: rest) env).wrap K H gd lv) fs s :=
  seg_execs_cons (seg_wrap (wpAny_mono h (fun f s' h' => by
    obtain ⟨rfl, h'⟩ := h'
    exact h') fun _ _ z => z.elim))
theorem seg_if (h : wpAny M (A.over c fs) (isTrue test env (eval test env)) (fun b s' => Seg M A R Y n s₀ c ((execs (if b = true then body else orelse) env).wrap (fun f => match f with | .next => (execs rest env).wrap K H gd lv | f => K f) H gd lv) fs s') (fun _ _ => False) s) :
    Seg M A R Y n s₀ c ((execs (.If test body orelse pos :: rest) env).wrap K H gd lv) fs s := by
  refine seg_execs_cons ?_
  rw [exec_If]
  refine seg_bind_wrap (wpAny_standAt ?_)
  refine seg_bind_wrap (wpAny_mono h (fun b s' h' => ?_) fun _ _ z => z.elim)
  cases b <;> exact h'
theorem seg_yield_row (hfs : splitAtGen fs = none) (hgd : gd false = false) (hfg : fs.any Frame.guarded = false) (hco : env.scope.isCoroutine = false) (hi : interactive env = false)
    (h : wpAny M (A.over c fs) (eval e env) (fun v s' => ∀ kap : Resume → Shared → Prop,
        (∀ s'', Seg M A R Y n s'' c ((execs rest env).wrap K H gd lv) fs s'' → kap (.send .none) s'') → Y n s₀ v s' kap) (fun _ _ => False) s) :
    Seg M A R Y (n + 1) s₀ c ((execs (.Expr (.Yield (some e) ypos) pos :: rest) env).wrap K H gd lv) fs s :=
  seg_execs_cons (seg_Expr_Yield hfs hgd hfg (wpAny_mono h (fun v s' h' kap hk => h' kap fun s'' hs => hk .none s'' hs) fun _ _ z => z.elim) hco hi)
theorem seg_for (h : wpAny M (A.over c fs) (eval iter env) (fun x s₁ => wpAny M (A.over c fs) (pyIter x) (fun it s₂ => ∀ p, Seg M A R Y n s₀ (.forLoop target it body orelse env) (M.den (.forLoop target it body orelse env))
      (.ret (fun r => ((match r with | .ok f => (.pure f : Sem Flow) | .error e => .raise e).onRaise fun (x : Value) => do
        if (← field x 1) == Value.none then unsupported "frame.own-activation:exception-without-traceback"
        setFlight x env.frame).wrap (fun (f : Flow) => match f with | .next => (execs rest env).wrap K H gd lv | f => K f) H gd lv) none (gd false) (lv []) c p [] :: fs) s₂) (fun _ _ => False) s₁) (fun _ _ => False) s)
    (hs : ∀ x, foldedSetIterable iter env x = pure x) : Seg M A R Y n s₀ c ((execs (.For target iter body orelse pos :: rest) env).wrap K H gd lv) fs s := by
  refine seg_execs_cons ?_
  rw [PySem.exec_For]
  refine seg_bind_wrap (wpAny_standAt ?_)
  refine seg_bind_wrap (wpAny_mono h (fun x s₁ h₁ => ?_) fun _ _ z => z.elim)
  refine seg_bind_wrap (wpAny_of_eq (hs x) ?_)
  refine seg_bind_wrap (wpAny_standAt ?_)
  refine seg_bind_wrap (wpAny_holding (wpAny_mono h₁ (fun it s₂ h₂ => ?_) fun _ _ z => z.elim))
  exact seg_call h₂
end

section
variable {prog : Program} {w : World} {A : Around} {R : GenEnd} {Y : Protocol} {n : Nat} {s₀ : Shared} {fs : List Frame} {s : Shared} {env : Env} {target : Expr} {it : Value} {body orelse : List Stmt}
theorem seg_forLoop
    (h : wpAny (model prog w) (A.over (.forLoop target it body orelse env) fs) (pyNext it) (fun r s₁ => match r with
      | none => Seg (model prog w) A R Y n s₀ (.block orelse env) ((model prog w).den (.block orelse env)) fs s₁
      | some v => wpAny (model prog w) (A.over (.forLoop target it body orelse env) fs) (letOwnedTupleGo target it v) (fun _ s₂ => wpAny (model prog w) (A.over (.forLoop target it body orelse env) fs) (assign target env v) (fun _ s₃ =>
          Seg (model prog w) A R Y n s₀ (.forLoop target it body orelse env) ((execs body env).wrap (fun f => match f with
            | .next | .cont => .pure (.again (.forLoop target it body orelse env))
            | .brk => .pure (.done .next)
            | .ret v => .pure (.done (.ret v))) (fun e => (do noteFrame e env; theTreesLotGoes e : Sem Unit).bind fun _ => .raise e) id id) fs s₃) (fun _ _ => False) s₂) (fun _ _ => False) s₁) (fun _ _ => False) s) :
    Seg (model prog w) A R Y n s₀ (.forLoop target it body orelse env) ((model prog w).den (.forLoop target it body orelse env)) fs s := by
  show Seg _ A R Y n s₀ _ ((forTurn target it body orelse env).onRaise (fun x => do noteFrame x env; theTreesLotGoes x)) fs s
  rw [Sem.onRaise_eq_wrap]
  unfold forTurn
  refine seg_bind_wrap (wpAny_standAt ?_)
  refine seg_bind_wrap (wpAny_onRaise (wpAny_mono h (fun r s₁ h₁ => ?_) fun _ _ z => z.elim))
  cases r with
  | none => exact seg_again rfl h₁
  | some v =>
    refine seg_bind_wrap (wpAny_mono h₁ (fun _ s₂ h₂ => ?_) fun _ _ z => z.elim)
    refine seg_bind_wrap (wpAny_mono h₂ (fun _ s₃ h₃ => ?_) fun _ _ z => z.elim)
    rw [Sem.bind_eq_wrap', Sem.wrap_wrap]
    rw [Sem.wrap_congr (execs body env) _ _ (K' := fun f => match f with
            | .next | .cont => .pure (.again (.forLoop target it body orelse env))
            | .brk => .pure (.done .next)
            | .ret v => .pure (.done (.ret v))) (H' := fun e => (do noteFrame e env; theTreesLotGoes e : Sem Unit).bind fun _ => .raise e) (fun f => by cases f <;> rfl) (fun e => by rfl)]
    exact h₃
theorem seg_block_nil {k : Result → Sem Fin} {hnd : Option Value} {g : Bool} {l : List Value} {c₁ : Code} {p₁ : Pos} {kp : List Value}
    (h : Seg (model prog w) A R Y n s₀ c₁ (k (.ok .next)) fs s) : Seg (model prog w) A R Y n s₀ (.block [] env) ((model prog w).den (.block [] env)) (.ret k hnd g l c₁ p₁ kp :: fs) s :=
  seg_leaf (.ok .next) h
end

theorem pyNext_genQ {prog : Program} {w : World} {A : Around} {E : Value → Shared → Prop} {s : Shared} {a : Addr} {g n : Nat} {gs : GenState} {P : Nat → Shared → Shared → Prop} {Y : Protocol} {Q : Option Value → Shared → Prop} (hh : A.handled = none)
    (hl : s.heap.NoLimit) (hroom : A.depth < recursionLimit) (hg : s.heap.IsGen a g) (hgs : s.gens[g]? = some gs)
    (hgo : gs.Goes (model prog w) A.in1 (fun n s₀ r s₁ => r = .ok (.ret .none) ∧ P n s₀ s₁) Y n (.send .none) (s.setGen g .running))
    (hY : ∀ v s₁ gs', gs'.bare = true → Y (n - 1) (s.setGen g .running) v s₁ (fun r' s'' => match n with
        | 0 => False
        | m + 1 => gs'.Goes (model prog w) A.in1 (fun n s₀ r s₁ => r = .ok (.ret .none) ∧ P n s₀ s₁) Y m r' s'') → Q (some v) (s₁.setGen g gs'))
    (hP : ∀ s₁, P n (s.setGen g .running) s₁ → ∀ h', Keep s₁.heap h' → Q none { s₁.setGen g .finished with heap := h' }) : wpAny (model prog w) A (pyNext (.ref a)) Q E s := by
  unfold pyNext
  refine wpAny_bind (wpAny_attempt (wpAny_callSpecial?_slot (name := Str.ofString "__next__") hg.typeIs slot_gen_next (wpAny_call_entry slot_gen_next hg.typeIs entry_gen_next ?_ (args_gen_next _))))
  show wpAny _ A.in1 (Builtin.Generator.genWake (.ref a) (.send .none)) _ _ s
  unfold Builtin.Generator.genWake
  refine wpAny_bind (wpAny_holding (wpAny_genNumber hg (wpAny_bind (wpAny_genState hgs ?_))))
  cases gs with
  | running => exact hgo.elim
  | finished => exact hgo.elim
  | _ =>
    refine wpAny_bind (wpAny_roomToWake hl hroom ?_)
    show wpAny _ A.in1 (.resume g (.send .none) [] _) _ _ s
    refine wpAny_resumeQ hgs hgo (fun x s₁ hx => ?_) (fun v s₁ gs' hb hv => ?_)
    · obtain ⟨rfl, hp⟩ := hx
      show wpAny _ A.in1 (newExc (.type "StopIteration") [] >>= _) _ _ _
      refine wpAny_bind ?_
      simp only [newExc, newTuple]
      refine wpAny_bind (wpAny_newObj_type ?_ (by size_fits))
      refine wpAny_bind (m := firstArgMember _ _) (wpAny_of_eq (a := Value.none) (by first | rfl | (simp only [firstArgMember]; rfl)) ?_)
      refine wpAny_newObj_type ?_ (by size_fits)
      simp only [raiseNew]
      refine wpAny_bind (wpAny_bind (wpAny_handled ?_))
      first | rw [show A.in1.handled = none from hh] | rw [hh]
      refine wpAny_throw ?_
      refine wpAny_bind (wpAny_isInstance (T := "StopIteration") (b := true) ⟨_, Heap.get?_push_size _ rfl, rfl⟩ isSubtype_stop ?_)
      exact wpAny_pure (hP s₁ hp _ fun b o hb => Heap.get?_push_of_some _ (Heap.get?_push_of_some _ hb))
    · exact wpAny_pure ⟨v, rfl, wpAny_pure (hY v s₁ gs' hb hv)⟩

theorem gen_raw {prog : Program} {w : World} {hT : Heap} {K : Frag} {mg mb : Str → Option Value} {k : Nat} {f : Addr} {oc : Value} {od : Option Addr} {fd : FuncData} {osl : Array (Option Value)} {body : List Stmt} {A : Around} {s : Shared} {vs : List Value} {binds : List (Str × Value)} {Q E : Value → Shared → Prop}
    (T : TT K mg mb hT) (a : AOk k A) (keep : Keep hT s.heap) (ho : K.lookup f = some ⟨oc, od, .func fd, osl⟩) (hcd : codeIn K fd.code fd.qualname = true) (hbody : fd.body = .stmts body) (hbind : bindArgs fd ⟨vs, []⟩ = pure binds)
    (hcell : ∀ y ∈ fd.scope.names, y.2 ≠ .cell) (hloc : ∀ x ∈ binds, fd.scope.names.lookup x.1 = some .local) (hk : fd.scope.kind = .function) (hgl : fd.globals = mainGlobals) (hbi : fd.builtins = builtinsNs)
    (hco : fd.scope.isCoroutine = false) (hgen : fd.scope.isGenerator = true)
    (h : ∀ L h₀ tk nm qn, let env := callEnv fd L f; EOk env → env.locals = L → s.heap.get? L = none → h₀.Ns L (fun x => binds.reverse.lookup x) → Keep s.heap h₀ →
      Q (.ref h₀.objs.size) { s with gens := s.gens.push (.fresh (.func body env)), toks := tk, heap := h₀.push { cls := .type "generator", data := .fields #[.int s.gens.size 0, nm, qn] } }) :
    wpAny (model prog w) A (call (.ref f) vs) Q E s := by
  have inS : K.In s.heap := T.frag.keeps keep
  refine wpAny_call (codeAny_call_generator a.room (inS _ _ ho) rfl hco hgen hbody (codeRec_of inS hcd) ?_)
  rw [hbind]
  refine wpAny_pure (wpAny_newFunctionEnv hcell hloc (fun h₀ hn hs => ?_) hk)
  have frL : s.heap.get? s.heap.objs.size = none := Heap.get?_none_of_le (Nat.le_refl _)
  have hkeep : Keep s.heap h₀ := fun b o e => hs.extBut b o (Nat.ne_of_lt (Heap.lt_size e)) (Heap.get?_push_of_some _ e)
  exact ⟨(T.top.lim.keeps keep).keeps hkeep, h s.heap.objs.size h₀ _ _ _ ⟨hk, hgl, hbi⟩ rfl frL hn hkeep⟩

def Sc : PyData → Prop
  | .int _ => True
  | .str _ => True
  | .bool _ => True
  | _ => False
theorem Sc.any {d : PyData} (h : Sc d) {O O' : List Addr} {hp h' : Heap} {v : Value} (r : RD O hp v d) : RD O' h' v d := by
  cases d with
  | int i => obtain ⟨t, rfl⟩ := r.int_inv; exact .int ..
  | str i => obtain ⟨t, rfl⟩ := r.str_inv; exact .str ..
  | bool i => obtain rfl := r.bool_inv; exact .bool _
  | _ => exact h.elim
/-- the state of a generator's frame, moved over what others did -/
theorem gf_move {env : Env} {hT : Heap} {s₀ s s' : Shared} {ρ : Ro} (p : St env hT [] [env.locals] [env.locals] s₀ ρ [] s) (hsc : ∀ y r, ρ.lookup y = some r → env.kindOf y = some .local ∧ ∃ d, r = .d d ∧ Sc d) (hk : Keep hT s'.heap)
    (hL : ∀ o, s.heap.get? env.locals = some o → s'.heap.get? env.locals = some o) : St env hT [] [env.locals] [env.locals] s' ρ [] s' := by
  obtain ⟨m, hn⟩ := p.ns
  have hn' : s'.heap.Ns env.locals m := hn.at' hL
  refine ⟨hk, p.topO, Fm.refl _ _, .refl _ _, rfl, fun b hb => ?_, (fun b z => z), ⟨m, hn'⟩, p.lo, .inl (List.mem_cons_self ..), (fun y c z => nomatch z), fun y r z => ?_, (fun b dd z => nomatch z), by simp⟩
  · rw [List.mem_singleton.mp hb]; exact notup_of_ns hn'
  · obtain ⟨hloc, d, rfl, sc⟩ := hsc y r z
    obtain ⟨v, at', rv⟩ := p.vars y _ z
    rcases at' with ⟨_, m', n', e⟩ | ⟨hc, _⟩
    · exact ⟨v, .inl ⟨hloc, m', n'.at' hL, e⟩, sc.any rv⟩
    · rw [hloc] at hc; cases hc

def escs : Nat → Bool → List Nat → List (Nat × List Nat)
  | _, _, [] => []
  | p, true, c :: r => (p, [92, c]) :: escs (p + 1) false r
  | p, false, c :: r => if c = 92 then escs (p + 1) true r else (p, [c]) :: escs (p + 1) false r
def pend : Bool → List Nat → Bool
  | e, [] => e
  | true, _ :: r => pend false r
  | false, c :: r => if c = 92 then pend true r else pend false r
def dY (y : Nat × List Nat) : PyData := .tuple [.int (y.1 : Nat), .str (SS y.2)]

abbrev Same3 (l : List Addr) (s s' : Shared) : Prop := ∀ b ∈ l, ∀ o, s.heap.get? b = some o → s'.heap.get? b = some o
def gY (ys : List (Nat × List Nat)) (hT : Heap) (l : List Addr) : Protocol := fun n s₀ v s' κ =>
  ∃ y, ys[ys.length - 1 - n]? = some y ∧ (∀ O, RD O s'.heap v (dY y)) ∧ Fm l s₀.heap s'.heap ∧ Gk [] s₀.gens s'.gens ∧ s'.os = s₀.os ∧ (∀ b ∈ l, ∃ o, s'.heap.get? b = some o ∧ Kd o) ∧
    ∀ s'', Same3 l s' s'' → Keep hT s''.heap → κ (.send .none) s''
def gP (l : List Addr) : Nat → Shared → Shared → Prop := fun n s₀ s₁ => n = 0 ∧ Fm l s₀.heap s₁.heap ∧ Gk [] s₀.gens s₁.gens ∧ s₁.os = s₀.os
abbrev gR (l : List Addr) : GenEnd := fun n s₀ r s₁ => r = .ok (.ret .none) ∧ gP l n s₀ s₁

theorem enum_next {prog : Program} {w : World} {A : Around} {E : Value → Shared → Prop} {s : Shared} {e it : Addr} {x : Str} {t : Tok} {j : Nat} {old : Value} {c : Nat} {Q : Value → Shared → Prop} {elts : List Expr} {k : Nat} {tp : Pos} (hh : A.handled = none) (he : IsEnum s.heap e it j old) (hit : s.heap.IsStrIter it (strIterType x) x t j)
    (hne : e ≠ it) (hc : x.cps[j]? = some c)
    (hQ : ∀ v s' old', Fm [e, it] s.heap s'.heap → Gk [] s.gens s'.gens → s'.os = s.os → IsEnum s'.heap e it ((j + 1 : Nat) : Int) old' → s'.heap.IsStrIter it (strIterType x) x t (j + 1) → (∀ O, RD O s'.heap v (.tuple [.int (j : Nat), .str ⟨#[c]⟩])) → Q v s') :
    wpAny (model prog w) A (pyNext (.ref e)) (fun r s₁ => match r with | some v => wpAny (model prog w) A (letOwnedTupleGo (.Tuple elts k tp) (.ref e) v) (fun _ s₂ => Q v s₂) E s₁ | none => False) E s := by
  have go : ∀ (St : Nat → Heap → Prop) (D : Draws prog w A.in1 it [it] x.cps.size (fun i v => ∃ c u, x.cps[i]? = some c ∧ v = .str ⟨#[c]⟩ u) St), (∀ i h, St i h ↔ h.IsStrIter it (strIterType x) x t i) →
      wpAny (model prog w) A (pyNext (.ref e)) (fun r s₁ => match r with | some v => wpAny (model prog w) A (letOwnedTupleGo (.Tuple elts k tp) (.ref e) v) (fun _ s₂ => Q v s₂) E s₁ | none => False) E s := fun St D hS => by
    refine wpAny_pyNext_enum_itemD D he ((hS _ _).mpr hit) (Array.getElem?_eq_some_iff.mp hc).1 hne (fun q => hne (List.mem_singleton.mp q)) fun v h' tk hP ho hs' hTT hsz hk => ?_
    obtain ⟨c', u, hc', rfl⟩ := hP
    rw [hc] at hc'
    cases hc'
    refine wpAny_letOwnedTupleGo_enum ho fun h₂ he₂ hs₂ => ?_
    have hTe : s.heap.objs.size ≠ e := Nat.ne_of_gt (Heap.lt_size he)
    have f1 : Fm [e, it] s.heap h' := fun b o eb hn => hk b o (fun q => hn (by simp [q])) (fun q => hn (by simp [q])) eb
    have f2 : Fm [e, it] h' h₂ := (Fm.of_same hs₂).sub fun b hb => by rw [List.mem_singleton.mp hb]; simp
    have hit2 := (hS _ _).mp hs'
    refine hQ _ _ _ (f1.trans f2) (.refl _ _) rfl (by simpa using he₂) (let ⟨o, h1, h2⟩ := hit2; ⟨o, (hs₂.2 it (Ne.symm hne)).trans h1, h2⟩) fun O => ?_
    exact RD.tup (vs := #[.int j tk, .str ⟨#[c]⟩ u]) ⟨_, (hs₂.2 _ hTe).trans hTT, rfl, _, rfl⟩ (.cons (.int ..) (.cons (.str ..) .nil))
  cases ha : x.cps.all (· < 128) with
  | true =>
    have et : strIterType x = "str_ascii_iterator" := by unfold strIterType; rw [if_pos ha]
    exact go _ (Draws.strAscii (A := A.in1) hh it x t) (fun i h => by rw [et])
  | false =>
    have et : strIterType x = "str_iterator" := by unfold strIterType; rw [if_neg (by rw [ha]; simp)]
    exact go _ (Draws.strWide (A := A.in1) hh it x t) (fun i h => by rw [et])
theorem enum_end {prog : Program} {w : World} {A : Around} {E : Value → Shared → Prop} {s : Shared} {e it : Addr} {x : Str} {t : Tok} {j : Nat} {old : Value} {Q : Option Value → Shared → Prop} (hh : A.handled = none) (he : IsEnum s.heap e it j old) (hit : s.heap.IsStrIter it (strIterType x) x t j)
    (hj : j = x.cps.size) (hQ : ∀ s', Fm [it] s.heap s'.heap → Gk [] s.gens s'.gens → s'.os = s.os → Q none s') : wpAny (model prog w) A (pyNext (.ref e)) Q E s := by
  subst hj
  cases ha : x.cps.all (· < 128) with
  | true =>
    have et : strIterType x = "str_ascii_iterator" := by unfold strIterType; rw [if_pos ha]
    rw [et] at hit
    exact wpAny_pyNext_enum_endD (Draws.strAscii (A := A.in1) hh it x t) he hit fun h' he' => hQ _ (Fm.of_extBut he') (.refl _ _) rfl
  | false =>
    have et : strIterType x = "str_iterator" := by unfold strIterType; rw [if_neg (by rw [ha]; simp)]
    rw [et] at hit
    exact wpAny_pyNext_enum_endD (Draws.strWide (A := A.in1) hh it x t) he hit fun h' he' => hQ _ (Fm.of_extBut he') (.refl _ _) rfl

def gJ (prog : Program) (w : World) (A : Around) (hT : Heap) (ys : List (Nat × List Nat)) (a g L : Nat) (c : Code) (m : Str → Option Value) : List Addr → List Addr → Nat → Shared → Prop := fun wr O i s =>
  (∀ b ∈ O, hT.get? b = none) ∧ Keep hT s.heap ∧ s.heap.IsGen a g ∧ hT.get? L = none ∧ hT.get? a = none ∧ a ≠ L ∧
  ((i = 0 ∧ wr = [a, L] ∧ s.gens[g]? = some (.fresh c) ∧ s.heap.Ns L m) ∨
    ∃ e it gs, wr = [a, L, e, it] ∧ a ≠ e ∧ a ≠ it ∧ hT.get? e = none ∧ hT.get? it = none ∧ (∀ b ∈ [L, e, it], ∃ o, s.heap.get? b = some o ∧ Kd o) ∧ s.gens[g]? = some gs ∧
      ∀ s'', Same3 [L, e, it] s s'' → Keep hT s''.heap → gs.Goes (model prog w) A.in1 (gR [L, e, it]) (gY ys hT [L, e, it]) (ys.length - i) (.send .none) s'')

theorem kd_ns {h : Heap} {L : Addr} {m : Str → Option Value} (hn : h.Ns L m) : ∃ o, h.get? L = some o ∧ Kd o := by
  obtain ⟨o, es, ep, ho, hd, _⟩ := hn
  exact ⟨o, ho, fun _ _ q => (by rw [hd] at q; cases q), fun _ q => (by rw [hd] at q; cases q)⟩
theorem kd_gen {h : Heap} {a g : Nat} (x : h.IsGen a g) : ∃ o, h.get? a = some o ∧ Kd o := by
  obtain ⟨o, _, _, ho, _, hd, _⟩ := x
  exact ⟨o, ho, .of hd⟩
theorem gk_gen {s s₁ : Shared} {g : Nat} {gs gs' : GenState} (hgs : s.gens[g]? = some gs) (h : Gk [] (s.setGen g .running).gens s₁.gens) (hb : gs'.bare = true) : Gk [g] s.gens (s₁.setGen g gs').gens ∧ (s₁.setGen g gs').gens[g]? = some gs' := by
  have hr : (s.setGen g .running).gens[g]? = some .running := setGen_self hgs
  have hr₁ := h.keep g _ (fun z => nomatch z) hr
  have hs := setGen_self (x := gs') hr₁
  refine ⟨⟨fun ha => ?_, fun k x hk e => ?_⟩, hs⟩
  · have h0 : AllBare (s.setGen g .running).gens := fun y hy => by
      obtain ⟨i, hi, rfl⟩ := Array.mem_iff_getElem.mp hy
      by_cases e : i = g
      · subst e
        have := Array.getElem?_eq_getElem hi
        rw [hr] at this
        rw [← Option.some.inj this]; rfl
      · have h1 := (GenOnly.setGen s g .running).2 i e
        rw [Array.getElem?_eq_getElem hi] at h1
        exact ha _ (by
          obtain ⟨hi', e'⟩ := Array.getElem?_eq_some_iff.mp h1.symm
          rw [← e']; exact Array.getElem_mem hi')
    have h1 := h.bare h0
    intro y hy
    obtain ⟨i, hi, rfl⟩ := Array.mem_iff_getElem.mp hy
    by_cases e : i = g
    · subst e
      have := Array.getElem?_eq_getElem hi
      rw [hs] at this
      rw [← Option.some.inj this]; exact hb
    · have h2 := (GenOnly.setGen s₁ g gs').2 i e
      rw [Array.getElem?_eq_getElem hi] at h2
      obtain ⟨hi', e'⟩ := Array.getElem?_eq_some_iff.mp h2.symm
      rw [← e']; exact h1 _ (Array.getElem_mem hi')
  · have hkg : k ≠ g := fun q => hk (by rw [q]; exact List.mem_singleton.mpr rfl)
    rw [(GenOnly.setGen s₁ g gs').2 k hkg]
    exact h.keep k x (fun z => nomatch z) (by rw [(GenOnly.setGen s g .running).2 k hkg]; exact e)

theorem iter_gen {prog : Program} {w : World} {A : Around} {hT : Heap} {ys : List (Nat × List Nat)} {a g L : Nat} {c : Code} {m : Str → Option Value} {target : Expr} (hh : A.handled = none) (hroom : A.depth < recursionLimit) (hlim : hT.NoLimit)
    (start : ∀ s, Keep hT s.heap → s.heap.Ns L m → (GenState.fresh c).Goes (model prog w) A.in1 (gR [L, s.heap.objs.size + 1, s.heap.objs.size]) (gY ys hT [L, s.heap.objs.size + 1, s.heap.objs.size]) ys.length (.send .none) s) :
    IterAt prog w A target a [g] (ys.map dY) (gJ prog w A hT ys a g L c m) := by
  have keepS : ∀ {l : List Addr} {h h' : Heap}, Fm l h h' → (∀ b ∈ l, hT.get? b = none) → Keep hT h → Keep hT h' := fun f hl k b o e => f b o (k b o e) fun q => by rw [hl b q] at e; cases e
  refine ⟨?_, ?_, ?_, ?_, ?_, ?_, ?_⟩
  · intro wr O i s j b hb
    obtain ⟨_, _, hg, _, _, _, ⟨_, rfl, _, hn⟩ | ⟨e, it, gs, rfl, _, _, _, _, hkd, _⟩⟩ := j
    · rcases List.mem_cons.mp hb with rfl | hb
      · exact kd_gen hg
      · rw [List.mem_singleton.mp hb]; exact kd_ns hn
    · rcases List.mem_cons.mp hb with rfl | hb
      · exact kd_gen hg
      · exact hkd b hb
  · intro wr O i d s Q E hd j hot hQ
    obtain ⟨hO, hk, hg, hL0, ha0, haL, hj⟩ := j
    obtain ⟨y, hy, rfl⟩ := map_get hd
    have hi : i < ys.length := (List.getElem?_eq_some_iff.mp hy).1
    obtain ⟨o, _, _, ho, hc, _⟩ := id hg
    have ex : ∃ e it gs, (∀ b ∈ [a, L, e, it], b ∈ wr ∨ s.heap.get? b = none) ∧ (∀ b, b ∈ [L, e, it] → b ∈ wr ∨ s.heap.get? b = none) ∧ a ≠ e ∧ a ≠ it ∧ hT.get? e = none ∧ hT.get? it = none ∧ s.gens[g]? = some gs ∧ gs.Goes (model prog w) A.in1 (gR [L, e, it]) (gY ys hT [L, e, it]) (ys.length - i) (.send .none) (s.setGen g .running) := by
      rcases hj with ⟨rfl, rfl, hgs, hn⟩ | ⟨e, it, gs, rfl, h1, h2, h3, h4, hkd, hgs, hgo⟩
      · have fr : ∀ k, s.heap.get? (s.heap.objs.size + k) = none := fun k => Heap.get?_none_of_le (Nat.le_add_right _ _)
        have frT : ∀ k, hT.get? (s.heap.objs.size + k) = none := fun k => by
          cases z : hT.get? (s.heap.objs.size + k) with
          | none => rfl
          | some o => have := hk _ _ z; rw [fr k] at this; cases this
        have alt := Heap.lt_size ho
        refine ⟨s.heap.objs.size + 1, s.heap.objs.size, _, fun b hb => ?_, fun b hb => ?_, Nat.ne_of_lt (Nat.lt_succ_of_lt alt), Nat.ne_of_lt alt, frT 1, frT 0, hgs, ?_⟩
        · simp only [List.mem_cons, List.not_mem_nil, or_false] at hb
          rcases hb with rfl | rfl | rfl | rfl
          · exact .inl (by simp)
          · exact .inl (by simp)
          · exact .inr (fr 1)
          · exact .inr (fr 0)
        · simp only [List.mem_cons, List.not_mem_nil, or_false] at hb
          rcases hb with rfl | rfl | rfl
          · exact .inl (by simp)
          · exact .inr (fr 1)
          · exact .inr (fr 0)
        · exact start (s.setGen g .running) hk hn
      · exact ⟨e, it, gs, fun b hb => .inl hb, fun b hb => .inl (List.mem_cons_of_mem _ hb), h1, h2, h3, h4, hgs, hgo _ (fun b _ o z => z) hk⟩
    obtain ⟨e, it, gs, hw4, hw3, hae, hai, he0, hi0, hgs, hgo⟩ := ex
    obtain ⟨n, hn⟩ : ∃ n, ys.length - i = n + 1 := ⟨ys.length - i - 1, by omega⟩
    rw [hn] at hgo
    have l3 : ∀ b ∈ [L, e, it], hT.get? b = none := fun b hb => by
      simp only [List.mem_cons, List.not_mem_nil, or_false] at hb
      rcases hb with rfl | rfl | rfl <;> assumption
    have a3 : a ∉ [L, e, it] := by simp [haL, hae, hai]
    refine pyNext_genQ (P := gP [L, e, it]) hh (hlim.keeps hk) hroom hg hgs hgo (fun v s₁ gs' hb hv => ?_) (fun s₁ hp h' _ => absurd hp.1 (Nat.succ_ne_zero n))
    obtain ⟨y', hy', hrd, hf, hgk, hos, hkd, hkap⟩ := hv
    have ei : ys.length - 1 - (n + 1 - 1) = i := by omega
    rw [ei, hy] at hy'
    cases hy'
    obtain ⟨gk, hself⟩ := gk_gen hgs hgk hb
    refine lot_plain (s := s₁.setGen g gs') (o := o) (hf _ _ ho a3) hc (by decide) ?_
    refine hQ v (s₁.setGen g gs') [a, L, e, it] (fun b o z hnb => hf b o z fun q => ?_) gk hos hw4 ⟨hO, keepS hf l3 hk, ?_, hL0, ha0, haL, .inr ⟨e, it, gs', rfl, hae, hai, he0, hi0, hkd, hself, fun s'' hal hk'' => ?_⟩⟩ (hrd O)
    · rcases hw3 b q with h | h
      · exact hnb h
      · have z' : s.heap.get? b = some o := z
        rw [h] at z'; cases z'
    · obtain ⟨o, nm, qn, h1, h2⟩ := hg
      exact ⟨o, nm, qn, hf _ _ h1 a3, h2⟩
    · have e3 : ys.length - (i + 1) = n := by omega
      rw [e3]
      exact hkap s'' hal hk''
  · intro wr O s Q E j hQ
    obtain ⟨hO, hk, hg, hL0, ha0, haL, hj⟩ := j
    rw [List.length_map] at hj
    have ex : ∃ e it gs, (∀ b, b ∈ [L, e, it] → b ∈ wr ∨ s.heap.get? b = none) ∧ hT.get? e = none ∧ hT.get? it = none ∧ s.gens[g]? = some gs ∧ gs.Goes (model prog w) A.in1 (gR [L, e, it]) (gY ys hT [L, e, it]) 0 (.send .none) (s.setGen g .running) := by
      rcases hj with ⟨h0, rfl, hgs, hn⟩ | ⟨e, it, gs, rfl, h1, h2, h3, h4, hkd, hgs, hgo⟩
      · have fr : ∀ k, s.heap.get? (s.heap.objs.size + k) = none := fun k => Heap.get?_none_of_le (Nat.le_add_right _ _)
        have frT : ∀ k, hT.get? (s.heap.objs.size + k) = none := fun k => by
          cases z : hT.get? (s.heap.objs.size + k) with
          | none => rfl
          | some o => have := hk _ _ z; rw [fr k] at this; cases this
        refine ⟨s.heap.objs.size + 1, s.heap.objs.size, _, fun b hb => ?_, frT 1, frT 0, hgs, ?_⟩
        · simp only [List.mem_cons, List.not_mem_nil, or_false] at hb
          rcases hb with rfl | rfl | rfl
          · exact .inl (by simp)
          · exact .inr (fr 1)
          · exact .inr (fr 0)
        · have := start (s.setGen g .running) hk hn
          rw [h0] at this
          exact this
      · refine ⟨e, it, gs, fun b hb => .inl (List.mem_cons_of_mem _ hb), h3, h4, hgs, ?_⟩
        have := hgo (s.setGen g .running) (fun b _ o z => z) hk
        rw [Nat.sub_self] at this
        exact this
    obtain ⟨e, it, gs, hw3, he0, hi0, hgs, hgo⟩ := ex
    have l3 : ∀ b ∈ [L, e, it], hT.get? b = none := fun b hb => by
      simp only [List.mem_cons, List.not_mem_nil, or_false] at hb
      rcases hb with rfl | rfl | rfl <;> assumption
    refine pyNext_genQ (P := gP [L, e, it]) hh (hlim.keeps hk) hroom hg hgs hgo (fun v s₁ gs' hb hv => ?_) (fun s₁ hp h' hk' => ?_)
    · obtain ⟨y', hy', hrd, hf, hgk, hos, hkd, hkap⟩ := hv
      exact (hkap s₁ (fun b _ o z => z) (keepS hf l3 hk)).elim
    · obtain ⟨_, hf, hgk, hos⟩ := hp
      refine hQ _ (fun b o z hnb => hk' _ _ (hf b o z fun q => ?_)) (gk_gen (gs' := .finished) hgs hgk rfl).1 hos
      rcases hw3 b q with h | h
      · exact hnb h
      · have z' : s.heap.get? b = some o := z
        rw [h] at z'; cases z'
  · intro wr O W i s s' j f hW hot hwr gk
    obtain ⟨hO, hk, hg, hL0, ha0, haL, hj⟩ := j
    have kk : ∀ b ∈ wr, ∀ o, s.heap.get? b = some o → s'.heap.get? b = some o := fun b hb o z => f b o z (hwr b hb)
    have hk' := keepS f (fun b hb => hO b (hW b hb)) hk
    rcases hj with ⟨h0, rfl, hgs, hn⟩ | ⟨e, it, gs, rfl, h1, h2, h3, h4, hkd, hgs, hgo⟩
    · exact ⟨hO, hk', (let ⟨o, nm, qn, h1, h2⟩ := hg; ⟨o, nm, qn, kk a (by simp) _ h1, h2⟩), hL0, ha0, haL, .inl ⟨h0, rfl, gk.keep g _ (fun z => nomatch z) hgs, hn.at' fun o z => kk L (by simp) o z⟩⟩
    · refine ⟨hO, hk', (let ⟨o, nm, qn, h1, h2⟩ := hg; ⟨o, nm, qn, kk a (by simp) _ h1, h2⟩), hL0, ha0, haL, .inr ⟨e, it, gs, rfl, h1, h2, h3, h4, fun b hb => ?_, gk.keep g _ (fun z => nomatch z) hgs, fun s'' hal hk'' => hgo s'' (fun b hb o z => hal b hb o (kk b (List.mem_cons_of_mem _ hb) o z)) hk''⟩⟩
      obtain ⟨o, ho, kd⟩ := hkd b hb
      exact ⟨o, kk b (List.mem_cons_of_mem _ hb) o ho, kd⟩
  · intro wr O i s s' j k
    obtain ⟨hO, hk, hg, hL0, ha0, haL, hj⟩ := j
    have kk : ∀ b, ∀ o, s.heap.get? b = some o → s'.heap.get? b = some o := k.keep
    have hk' : Keep hT s'.heap := fun b o z => kk b o (hk b o z)
    rcases hj with ⟨h0, rfl, hgs, hn⟩ | ⟨e, it, gs, rfl, h1, h2, h3, h4, hkd, hgs, hgo⟩
    · exact ⟨hO, hk', hg.keeps kk, hL0, ha0, haL, .inl ⟨h0, rfl, k.bare.keep g _ (fun z => nomatch z) hgs, hn.keeps kk⟩⟩
    · refine ⟨hO, hk', hg.keeps kk, hL0, ha0, haL, .inr ⟨e, it, gs, rfl, h1, h2, h3, h4, fun b hb => ?_, k.bare.keep g _ (fun z => nomatch z) hgs, fun s'' hal hk'' => hgo s'' (fun b hb o z => hal b hb o (kk b o z)) hk''⟩⟩
      obtain ⟨o, ho, kd⟩ := hkd b hb
      exact ⟨o, kk b o ho, kd⟩
  · intro wr O i s b j hb
    obtain ⟨hO, hk, r⟩ := j
    refine ⟨fun c hc => (List.mem_cons.mp hc).elim (fun z => ?_) (hO c), hk, r⟩
    cases q : hT.get? c with
    | none => rfl
    | some o => have := hk _ _ q; rw [z, hb] at this; cases this
  · intro wr O i s Q E j hQ
    exact wpAny_pyIter_gen j.2.2.1 hQ

abbrev Scs (env : Env) (ρ : Ro) : Prop := ∀ y r, ρ.lookup y = some r → env.kindOf y = some .local ∧ ∃ d, r = .d d ∧ Sc d
theorem scs_nil {env : Env} : Scs env [] := fun y r h => nomatch h
theorem scs_cons {env : Env} {x : Str} {d : PyData} {ρ : Ro} (hk : env.kindOf x = some .local) (hd : Sc d) (t : Scs env ρ) : Scs env ((x, .d d) :: ρ) := fun y r h => by
  by_cases e : y = x
  · subst e; rw [lookup_cons_eq] at h; cases h; exact ⟨hk, d, rfl, hd⟩
  · rw [lookup_cons_ne e] at h; exact t y r h

/-- a generator's frame between its turns -/
structure GI (env : Env) (hT : Heap) (e it : Addr) (x : Str) (t : Tok) (j : Nat) (ρ : Ro) (s₀ s : Shared) : Prop where
  st : St env hT [] [env.locals] [env.locals] s ρ [] s
  fm : Fm [env.locals, e, it] s₀.heap s.heap
  gk : Gk [] s₀.gens s.gens
  os : s.os = s₀.os
  en : ∃ old, IsEnum s.heap e it (j : Nat) old
  si : s.heap.IsStrIter it (strIterType x) x t j

section
variable {env : Env} {hT : Heap} {e it : Addr} {x : Str} {t : Tok} {j j' : Nat} {ρ ρ' : Ro} {s₀ s s' : Shared}
theorem GI.ne (g : GI env hT e it x t j ρ s₀ s) : e ≠ env.locals ∧ it ≠ env.locals := by
  obtain ⟨m, o, es, ep, ho, hd, _⟩ := g.st.ns
  refine ⟨fun q => ?_, fun q => ?_⟩
  · obtain ⟨old, h⟩ := g.en
    have h' : s.heap.get? e = _ := h
    rw [q, ho] at h'; cases h'; cases hd
  · obtain ⟨o', h1, _, h2⟩ := g.si
    rw [q, ho] at h1; cases h1; rw [hd] at h2; cases h2
theorem GI.row (g : GI env hT e it x t j ρ s₀ s) (q : St env hT [] [env.locals] [env.locals] s ρ' [] s') (hsc : Scs env ρ') : GI env hT e it x t j ρ' s₀ s' := by
  obtain ⟨ne, ni⟩ := g.ne
  have nm : ∀ {b : Addr}, b ≠ env.locals → b ∉ [env.locals] := fun h z => h (List.mem_singleton.mp z)
  refine ⟨gf_move q hsc q.top fun o z => z, g.fm.trans (q.fm.sub fun b hb => by rw [List.mem_singleton.mp hb]; simp), g.gk.trans q.bare, q.os.trans g.os, ?_, ?_⟩
  · obtain ⟨old, h⟩ := g.en
    exact ⟨old, q.fm _ _ h (nm ne)⟩
  · obtain ⟨o, h1, h2⟩ := g.si
    exact ⟨o, q.fm _ _ h1 (nm ni), h2⟩
theorem GI.woke (g : GI env hT e it x t j ρ s₀ s) (hsc : Scs env ρ) (hs : Same3 [env.locals, e, it] s s') (hk : Keep hT s'.heap) : GI env hT e it x t j ρ s' s' := by
  refine ⟨gf_move g.st hsc hk fun o z => hs _ (by simp) o z, Fm.refl _ _, .refl _ _, rfl, ?_, ?_⟩
  · obtain ⟨old, h⟩ := g.en
    exact ⟨old, hs e (by simp) _ h⟩
  · obtain ⟨o, h1, h2⟩ := g.si
    exact ⟨o, hs it (by simp) _ h1, h2⟩
theorem GI.kd (g : GI env hT e it x t j ρ s₀ s) : ∀ b ∈ [env.locals, e, it], ∃ o, s.heap.get? b = some o ∧ Kd o := fun b hb => by
  simp only [List.mem_cons, List.not_mem_nil, or_false] at hb
  rcases hb with rfl | rfl | rfl
  · obtain ⟨m, hn⟩ := g.st.ns; exact kd_ns hn
  · obtain ⟨old, h⟩ := g.en; exact ⟨_, h, .of rfl⟩
  · obtain ⟨o, h1, _, h2⟩ := g.si; exact ⟨o, h1, .of h2⟩
theorem GI.turn (g : GI env hT e it x t j ρ s₀ s) (hsc : Scs env ρ) (hTe : hT.get? e = none) (hTi : hT.get? it = none) (hf : Fm [e, it] s.heap s'.heap) (hg : Gk [] s.gens s'.gens) (ho : s'.os = s.os) (hen : ∃ old, IsEnum s'.heap e it (j' : Nat) old) (hsi : s'.heap.IsStrIter it (strIterType x) x t j') :
    GI env hT e it x t j' ρ s₀ s' := by
  obtain ⟨ne, ni⟩ := g.ne
  refine ⟨gf_move g.st hsc (fun b o z => hf b o (g.st.top b o z) fun q => ?_) fun o z => hf _ _ z fun q => ?_, g.fm.trans (hf.sub fun b hb => List.mem_cons_of_mem _ hb), g.gk.trans hg, ho.trans g.os, hen, hsi⟩
  · simp only [List.mem_cons, List.not_mem_nil, or_false] at q
    rcases q with rfl | rfl
    · rw [hTe] at z; cases z
    · rw [hTi] at z; cases z
  · simp only [List.mem_cons, List.not_mem_nil, or_false] at q
    rcases q with q | q
    · exact ne q.symm
    · exact ni q.symm
end

section
variable {prog : Program} {w : World} {A : Around} {env : Env} {hT : Heap} {e it : Addr} {x : Str} {t : Tok} {j : Nat} {ρ : Ro} {s₀ s : Shared} {n : Nat} {c : Code} {fs : List Frame} {ys : List (Nat × List Nat)}
  {K : Flow → Sem Fin} {H : Value → Sem Fin} {gd : Bool → Bool} {lv : List Value → List Value} {rest : List Stmt} {ex : Expr} {pos ypos : Pos}
theorem tbS {κ : List (Str × Addr)} {ω : Om} {b : Bool} {A : Around} (he : EvS prog w A env hT κ ρ ω ex (.bool b)) (hp : ∀ whole, isTrue ex env whole = (do let v ← whole; standAt ex.pos; holding [v] (truthy v)) := by intro _; rfl) : TstS prog w A env hT κ ρ ω ex b := .mk fun W O s₀ => tst_bool (he.run W O s₀) hp
/-- a row that yields -/
theorem esc_yield {y : Nat × List Nat} (g : GI env hT e it x t j ρ s₀ s) (hsc : Scs env ρ) (he : EvS prog w (A.over c fs) env hT [] ρ [] ex (dY y)) (hy : ys[ys.length - 1 - n]? = some y) (hfs : splitAtGen fs = none) (hgd : gd false = false) (hfg : fs.any Frame.guarded = false) (hco : env.scope.isCoroutine = false) (hi : interactive env = false)
    (h : ∀ s'', GI env hT e it x t j ρ s'' s'' → Seg (model prog w) A (gR [env.locals, e, it]) (gY ys hT [env.locals, e, it]) n s'' c ((execs rest env).wrap K H gd lv) fs s'') :
    Seg (model prog w) A (gR [env.locals, e, it]) (gY ys hT [env.locals, e, it]) (n + 1) s₀ c ((execs (.Expr (.Yield (some ex) ypos) pos :: rest) env).wrap K H gd lv) fs s :=
  seg_yield_row hfs hgd hfg hco hi (he.run _ _ _ s _ _ g.st fun v s' e' r' kap hk => by
    have g' := g.row (g.st.ext e') hsc
    refine ⟨y, hy, fun O => ?_, g'.fm, g'.gk, g'.os, g'.kd, fun s'' hs hT' => hk s'' (h s'' (g'.woke hsc hs hT'))⟩
    obtain ⟨a, vs, rfl, ht, rs⟩ := r'.tup_inv
    obtain ⟨l⟩ := vs
    cases rs with
    | cons r₁ rs =>
      cases rs with
      | cons r₂ rs =>
        cases rs
        exact RD.tup ht (.cons (Sc.any (d := .int (y.1 : Nat)) trivial r₁) (.cons (Sc.any (d := .str (SS y.2)) trivial r₂) .nil)))
end

theorem ss_get {l : List Nat} {j c : Nat} {r : List Nat} (h : l.drop j = c :: r) : (SS l).cps[j]? = some c := by
  have := (drop_cons h).1
  show l.toArray[j]? = some c
  simpa using this

theorem enum_nextR {prog : Program} {w : World} {A : Around} {E : Value → Shared → Prop} {s : Shared} {target : Expr} {e : Addr} {Q : Value → Shared → Prop} {R : Shared → Prop}
    (h : wpAny (model prog w) A (pyNext (.ref e)) (fun r s₁ => match r with | some v => wpAny (model prog w) A (letOwnedTupleGo target (.ref e) v) (fun _ s₂ => Q v s₂) E s₁ | none => False) E s) :
    wpAny (model prog w) A (pyNext (.ref e)) (fun r s₁ => match r with | none => R s₁ | some v => wpAny (model prog w) A (letOwnedTupleGo target (.ref e) v) (fun _ s₂ => Q v s₂) E s₁) E s :=
  wpAny_mono h (fun r s₁ h₁ => by cases r with | none => exact h₁.elim | some v => exact h₁) fun _ _ z => z

section
variable {prog : Program} {w : World} {A : Around} {env : Env} {hT : Heap} {e it : Addr} {t : Tok} {c : Code} {ys : List (Nat × List Nat)} {l : List Nat}
  {q1 q2 q3 q4 q5 q6 q7 q8 q9 q10 q11 q12 q13 q14 q15 q16 q17 q18 q19 q20 q21 q22 q23 q24 q25 q26 q27 q28 : Pos}

theorem esc_loop (k : EOk env) {kk : Result → Sem Fin} {c₁ : Code} {p₁ : Pos} (hh : ∀ c, (A.over c [.ret kk none false [] c₁ p₁ []]).handled = none) (hei : e ≠ it) (hTe : hT.get? e = none) (hTi : hT.get? it = none) (hT_L : hT.get? env.locals = none)
    (k1 : env.kindOf "pos" = some .local) (k2 : env.kindOf "ch" = some .local) (k3 : env.kindOf "escape" = some .local) (hco : env.scope.isCoroutine = false) (hi : interactive env = false)
    (hend : ∀ s₀ s, St env hT [] [env.locals] [env.locals] s [("escape", .d (.bool false))] [] s → Fm [env.locals, e, it] s₀.heap s.heap → Gk [] s₀.gens s.gens → s.os = s₀.os → Seg (model prog w) A (gR [env.locals, e, it]) (gY ys hT [env.locals, e, it]) 0 s₀ c₁ (kk (.ok .next)) [] s) :
    ∀ (r : List Nat) (j : Nat) (esc : Bool) (done : List (Nat × List Nat)) (s₀ s : Shared), l.drop j = r → j + r.length = l.length → pend esc r = false → ys = done ++ escs j esc r → GI env hT e it (SS l) t j [("escape", .d (.bool esc))] s₀ s →
      Seg (model prog w) A (gR [env.locals, e, it]) (gY ys hT [env.locals, e, it]) (escs j esc r).length s₀
        (.forLoop (.Tuple [.Name "pos" q1, .Name "ch" q2] 0 q3) (.ref e) [.If (.Name "escape" q4) [.Expr (.Yield (some (.Tuple [.Name "pos" q5, .BinOp (.Constant (.str "\\") 0 q6) .Add (.Name "ch" q7) q8] 0 q9)) q10) q11, .Assign [.Name "escape" q12] (.Constant (.bool false) 0 q13) q14]
          [.If (.Compare (.Name "ch" q15) [.Eq] [.Constant (.str "\\") 0 q16] q17) [.Assign [.Name "escape" q18] (.Constant (.bool true) 0 q19) q20] [.Expr (.Yield (some (.Tuple [.Name "pos" q21, .Name "ch" q22] 0 q23)) q24) q25] q26] q27] [] env)
        ((model prog w).den (.forLoop (.Tuple [.Name "pos" q1, .Name "ch" q2] 0 q3) (.ref e) [.If (.Name "escape" q4) [.Expr (.Yield (some (.Tuple [.Name "pos" q5, .BinOp (.Constant (.str "\\") 0 q6) .Add (.Name "ch" q7) q8] 0 q9)) q10) q11, .Assign [.Name "escape" q12] (.Constant (.bool false) 0 q13) q14]
          [.If (.Compare (.Name "ch" q15) [.Eq] [.Constant (.str "\\") 0 q16] q17) [.Assign [.Name "escape" q18] (.Constant (.bool true) 0 q19) q20] [.Expr (.Yield (some (.Tuple [.Name "pos" q21, .Name "ch" q22] 0 q23)) q24) q25] q26] q27] [] env))
        [.ret kk none false [] c₁ p₁ []] s
  | [], j, esc, done, s₀, s, hd, hjl, hp, hys, g => by
    have he : esc = false := by cases esc <;> first | rfl | cases hp
    subst he
    have hj : j = l.length := by simpa using hjl
    subst hj
    obtain ⟨old, hen⟩ := g.en
    refine seg_forLoop (enum_end (A := A.over _ _) (hh _) hen g.si rfl fun s' hf hg ho => seg_block_nil (hend s₀ s' ?_ (g.fm.trans (hf.sub fun b hb => by rw [List.mem_singleton.mp hb]; simp)) (g.gk.trans hg) (ho.trans g.os)))
    refine gf_move g.st (scs_cons k3 trivial scs_nil) (fun b o z => hf b o (g.st.top b o z) fun q => ?_) fun o z => hf _ _ z fun q => ?_
    · rw [List.mem_singleton.mp q, hTi] at z; cases z
    · exact g.ne.2 (List.mem_singleton.mp q).symm
  | ch :: r, j, esc, done, s₀, s, hd, hjl, hp, hys, g => by
    obtain ⟨old, hen⟩ := g.en
    refine seg_forLoop (enum_nextR (enum_next (A := A.over _ _) (hh _) hen g.si hei (ss_get hd) fun v s₁ old' hf hg ho hen' hsi' hrd => ?_))
    have g₁ := g.turn (j' := j + 1) (scs_cons k3 trivial scs_nil) hTe hTi hf hg ho ⟨_, hen'⟩ hsi'
    refine (asg_tup2 (A := A.over _ _) k (hh _) k1 k2).run _ _ _ _ _ s₁ v _ _ g₁.st (hrd _) fun s₂ p₂ => ?_
    have g₂ := g₁.row p₂ (scs_cons k2 trivial (scs_cons k1 trivial (scs_cons k3 trivial scs_nil)))
    obtain ⟨hd1, hd2⟩ := drop_cons hd
    have hjl' : j + 1 + r.length = l.length := by rw [List.length_cons] at hjl; omega
    have again : ∀ (esc' : Bool) (done' : List (Nat × List Nat)) (s₀ s' : Shared) (ρ : Ro), GI env hT e it (SS l) t (j + 1) ρ s₀ s' → List.lookup ("escape" : Str) ρ = some (RV.d (.bool esc')) → pend esc' r = false → ys = done' ++ escs (j + 1) esc' r → _ := fun esc' done' s₀ s' ρ g' hρ hp' hy' =>
      esc_loop k hh hei hTe hTi hT_L k1 k2 k3 hco hi hend r (j + 1) esc' done' s₀ s' hd2 hjl' hp' hy' (g'.row (g'.st.names (sc hρ sn)) (scs_cons k3 trivial scs_nil))
    refine seg_if ((tbS (A := A.over _ _) (b := esc) (vr k rfl)).run _ _ _ s₂ _ _ g₂.st fun s₃ e₃ => ?_)
    have g₃ := g₂.row (g₂.st.ext e₃) (scs_cons k2 trivial (scs_cons k1 trivial (scs_cons k3 trivial scs_nil)))
    cases esc with
    | true =>
      rw [if_pos rfl]
      have hpj : ys[ys.length - 1 - (escs (j + 1) false r).length]? = some (j, [92, ch]) := by
        rw [hys, escs, List.length_append, List.length_cons]
        have : done.length + ((escs (j + 1) false r).length + 1) - 1 - (escs (j + 1) false r).length = done.length := by omega
        rw [this, List.getElem?_append_right (Nat.le_refl _), Nat.sub_self]; rfl
      refine esc_yield (y := (j, [92, ch])) g₃ (scs_cons k2 trivial (scs_cons k1 trivial (scs_cons k3 trivial scs_nil))) (tp (ec (vr k rfl) (ec (bi (op_addstr (x := SS [92]) (y := SS [ch]) (by show 1 + 1 ≤ 1000; decide)) cs (vr k rfl)) en)) (by show 2 ≤ 1000; decide)) hpj rfl rfl rfl hco hi fun s₄ g₄ => ?_
      refine seg_row (ex_assign k cb k3 g₄.st fun s₅ q₅ _ => ⟨rfl, ?_⟩)
      have g₅ := g₄.row q₅ (scs_cons k3 trivial (scs_cons k2 trivial (scs_cons k1 trivial (scs_cons k3 trivial scs_nil))))
      exact seg_again rfl (again false (done ++ [(j, [92, ch])]) s₄ s₅ _ g₅ rfl hp (by rw [hys, escs, List.append_assoc]; rfl))
    | false =>
      rw [if_neg (by decide)]
      refine seg_if ((tc (A := A.over _ _) (cmp_eqstr (x := SS [ch]) (y := SS [92])) (vr k rfl) cs).run _ _ _ s₃ _ _ g₃.st fun s₄ e₄ => ?_)
      have g₄ := g₃.row (g₃.st.ext e₄) (scs_cons k2 trivial (scs_cons k1 trivial (scs_cons k3 trivial scs_nil)))
      by_cases hc : ch = 92
      · subst hc
        rw [if_pos (by decide)]
        refine seg_row (ex_assign k cb k3 g₄.st fun s₅ q₅ _ => ⟨rfl, ?_⟩)
        have g₅ := g₄.row q₅ (scs_cons k3 trivial (scs_cons k2 trivial (scs_cons k1 trivial (scs_cons k3 trivial scs_nil))))
        have ee : escs j false (92 :: r) = escs (j + 1) true r := by rw [escs, if_pos rfl]
        rw [ee]
        exact seg_again rfl (again true done _ s₅ _ g₅ rfl (by simpa [pend] using hp) (by rw [hys, ee]))
      · have hne : ((SS [ch]) == (SS [92])) = false := by
          rw [beq_eq_false_iff_ne]
          intro q
          injection q with q
          injection q with q
          injection q with q _
          exact hc q
        have ee : escs j false (ch :: r) = (j, [ch]) :: escs (j + 1) false r := by rw [escs, if_neg hc]
        rw [hne, if_neg (by decide), ee]
        have hpj : ys[ys.length - 1 - (escs (j + 1) false r).length]? = some (j, [ch]) := by
          rw [hys, ee, List.length_append, List.length_cons]
          have : done.length + ((escs (j + 1) false r).length + 1) - 1 - (escs (j + 1) false r).length = done.length := by omega
          rw [this, List.getElem?_append_right (Nat.le_refl _), Nat.sub_self]; rfl
        refine esc_yield (y := (j, [ch])) g₄ (scs_cons k2 trivial (scs_cons k1 trivial (scs_cons k3 trivial scs_nil))) (tp (ec (vr k rfl) (ec (vr k rfl) en)) (by show 2 ≤ 1000; decide)) hpj rfl rfl rfl hco hi fun s₅ g₅ => ?_
        exact seg_again rfl (again false (done ++ [(j, [ch])]) s₅ s₅ _ g₅ rfl (by simpa [pend, hc] using hp) (by rw [hys, ee, List.append_assoc]; rfl))
end

theorem gf_start {env : Env} {hT : Heap} {s : Shared} {ρ : Ro} {m : Str → Option Value} (hk : Keep hT s.heap) (hTL : hT.get? env.locals = none) (hn : s.heap.Ns env.locals m)
    (hv : ∀ y r, ρ.lookup y = some r → env.kindOf y = some .local ∧ ∃ d v, r = .d d ∧ m y = some v ∧ ∀ O h, RD O h v d) : St env hT [] [env.locals] [env.locals] s ρ [] s := by
  refine ⟨hk, fun b hb => by rw [List.mem_singleton.mp hb]; exact hTL, Fm.refl _ _, .refl _ _, rfl, fun b hb => ?_, (fun b z => z), ⟨m, hn⟩, List.mem_singleton.mpr rfl, .inl (List.mem_cons_self ..), (fun y c z => nomatch z), fun y r z => ?_, (fun b dd z => nomatch z), by simp⟩
  · rw [List.mem_singleton.mp hb]; exact notup_of_ns hn
  · obtain ⟨hloc, d, v, rfl, hm, rv⟩ := hv y r z
    exact ⟨v, .inl ⟨hloc, m, hn, hm⟩, rv _ _⟩

section
variable {prog : Program} {w : World} {A : Around} {env : Env} {hT : Heap} {t : Tok} {l : List Nat} {mg mb : Str → Option Value} {F : Frag}
  {a1 a2 a3 a4 a5 a6 a7 a8 a9 a10 a11 a12 q1 q2 q3 q4 q5 q6 q7 q8 q9 q10 q11 q12 q13 q14 q15 q16 q17 q18 q19 q20 q21 q22 q23 q24 q25 q26 q27 q28 : Pos} {ifb : List Stmt}

theorem esc_start (k : EOk env) (T : TT F mg mb hT) (hh : A.handled = none) (hx : env.kindOf "enumerate" = some .globalImplicit) (hm : nsIn F mainGlobals "enumerate" = some none) (hTL : hT.get? env.locals = none)
    (k0 : env.kindOf "addr" = some .local) (k1 : env.kindOf "pos" = some .local) (k2 : env.kindOf "ch" = some .local) (k3 : env.kindOf "escape" = some .local) (hco : env.scope.isCoroutine = false) (hi : interactive env = false)
    (hp : pend false l = false) {s : Shared} {m : Str → Option Value} (hk : Keep hT s.heap) (hn : s.heap.Ns env.locals m) (ha : m "addr" = some (.str (SS l) t)) :
    (GenState.fresh (.func [.Assign [.Name "pos" a1] (.Constant (.int 0) 0 a2) a3, .Assign [.Name "escape" a4] (.Constant (.bool false) 0 a5) a6,
      .For (.Tuple [.Name "pos" q1, .Name "ch" q2] 0 q3) (.Call (.Name "enumerate" a7) [.Name "addr" a8] [] a9) [.If (.Name "escape" q4) [.Expr (.Yield (some (.Tuple [.Name "pos" q5, .BinOp (.Constant (.str "\\") 0 q6) .Add (.Name "ch" q7) q8] 0 q9)) q10) q11, .Assign [.Name "escape" q12] (.Constant (.bool false) 0 q13) q14]
          [.If (.Compare (.Name "ch" q15) [.Eq] [.Constant (.str "\\") 0 q16] q17) [.Assign [.Name "escape" q18] (.Constant (.bool true) 0 q19) q20] [.Expr (.Yield (some (.Tuple [.Name "pos" q21, .Name "ch" q22] 0 q23)) q24) q25] q26] q27] [] a10,
      .If (.Name "escape" a11) ifb [] a12] env)).Goes (model prog w) A (gR [env.locals, s.heap.objs.size + 1, s.heap.objs.size]) (gY (escs 0 false l) hT [env.locals, s.heap.objs.size + 1, s.heap.objs.size]) (escs 0 false l).length (.send .none) s := by
  refine ⟨rfl, seg_func ?_⟩
  have noc := noclass k
  refine seg_row (wpAny_Assign_Name (wpAny_Constant_int (wpAny_storeName_local k1 hn (fun h₁ hn₁ hs₁ => ⟨rfl, ?_⟩) noc)) rfl)
  refine seg_row (wpAny_Assign_Name (wpAny_Constant_bool (wpAny_storeName_local k3 hn₁ (fun h₂ hn₂ hs₂ => ⟨rfl, ?_⟩) noc)) rfl)
  have hs12 : Heap.SameBut env.locals s.heap h₂ := ⟨hs₂.1.trans hs₁.1, fun b hb => (hs₂.2 b hb).trans (hs₁.2 b hb)⟩
  have hsz := hs12.1
  have hk₂ : Keep hT h₂ := fun b o z => (hs12.2 b (fun q => by rw [q, hTL] at z; cases z)).trans (hk b o z)
  have hL : env.locals < s.heap.objs.size := by obtain ⟨o, _, _, ho, _⟩ := hn; exact Heap.lt_size ho
  refine seg_for (Call_ (glb_b (P := fun s => Keep hT s.heap) k T.top (fun s p => p) hx (mg_none_of T.frag T.top.g hm) rfl (by decide) (by decide) _ _ _ _ hk₂ (Pv.callWith_type1 (wpAny_items_cons (wpAny_Name (wpAny_loadName_local k.kind k0 hn₂ (v := .str (SS l) t) ha (wpAny_items_nil ?_)) (by decide)) rfl) rfl rfl)) rfl) (by intro _; rfl)
  refine call_enumerate_str fun h₃ hen hsi hsz₃ hkp => wpAny_pyIter_enum hen fun p => ?_
  have hen' : IsEnum h₃ (s.heap.objs.size + 1) s.heap.objs.size 0 .none := by rw [← hsz]; exact hen
  have hsi' : h₃.IsStrIter s.heap.objs.size (strIterType (SS l)) (SS l) t 0 := by rw [← hsz]; exact hsi
  have hkp' : Keep h₂ h₃ := hkp
  have he : (Value.ref (h₂.objs.size + 1)) = .ref (s.heap.objs.size + 1) := by rw [hsz]
  show Seg _ _ _ _ _ _ (.forLoop _ (.ref (h₂.objs.size + 1)) _ _ _) (Model.den _ (.forLoop _ (.ref (h₂.objs.size + 1)) _ _ _)) _ _
  rw [he]
  have frT : ∀ k, hT.get? (s.heap.objs.size + k) = none := fun k => by
    cases z : hT.get? (s.heap.objs.size + k) with
    | none => rfl
    | some o => exact absurd (Heap.lt_size (hk _ _ z)) (Nat.not_lt.mpr (Nat.le_add_right _ _))
  refine esc_loop (t := t) k (fun c => ?_) (Nat.succ_ne_self _) (frT 1) (frT 0) hTL k1 k2 k3 hco hi (fun s₀' s' q' f' g' o' => ?_) l 0 false [] s _ rfl (Nat.zero_add _) hp rfl ?_
  · show (marksOver _ (A.handled, A.handled)).1 = none
    rw [hh]; rfl
  · refine seg_if ((tbS (A := A.over _ _) (b := false) (ex := .Name "escape" a11) (vr k rfl)).run _ _ _ s' _ _ q' fun s₃ e₃ => ?_)
    rw [if_neg (by decide)]
    refine seg_execs_nil (seg_execs_nil (seg_end (.ok (.ret .none)) ⟨rfl, rfl, f'.trans (Fm.of_keep e₃.keep), g'.trans e₃.bare, e₃.os.trans o'⟩))
  · refine ⟨gf_start (fun b o z => hkp' b o (hk₂ b o z)) hTL (hn₂.keeps hkp') (fun y r z => ?_), fun b o z hb => hkp' b o ((hs12.2 b fun q => hb (by rw [q]; simp)).trans z), .refl _ _, rfl, ⟨_, hen'⟩, hsi'⟩
    by_cases hy : y = "escape"
    · subst hy
      rw [lookup_cons_eq] at z
      cases z
      exact ⟨k3, _, _, rfl, if_pos rfl, fun _ _ => .bool _⟩
    · rw [lookup_cons_ne hy] at z; cases z
end

theorem gk_push {a : Array GenState} {c : Code} : Gk [] a (a.push (.fresh c)) := by
  refine ⟨fun h y hy => ?_, fun g x _ e => ?_⟩
  · rcases Array.mem_push.mp hy with hy | rfl
    · exact h y hy
    · rfl
  · rw [Array.getElem?_push]
    have : g < a.size := (Array.getElem?_eq_some_iff.mp e).1
    rw [if_neg (Nat.ne_of_lt this)]; exact e
section
variable {prog : Program} {w : World} {A : Around} {env : Env} {hT : Heap} {κ : List (Str × Addr)} {ρ : Ro} {ω : Om} {e target : Expr} {l : List Nat} {mg mb : Str → Option Value} {pos p' : Pos} {m : Nat}
theorem ie_esc (k : EOk env) (T : TT (KK w) mg mb hT) (a : AOk m A) (hx : env.kindOf "_iter_escaped_chars" = some .globalImplicit) (he : EvS prog w A env hT κ ρ ω e (.str (SS l))) (hp : pend false l = false)
    (hC : eval (.Call (.Name "_iter_escaped_chars" p') [e] [] pos) env = (do callWith pos (← eval (.Name "_iter_escaped_chars" p') env) [] (backTo pos (starEach [e] env)) (backToKw pos (keywordEach [] env))) := by rfl)
    (hs : starEach [e] env = (false, eval e env) :: starEach [] env := by rfl) : IterEv prog w A env hT κ ρ ω (.Call (.Name "_iter_escaped_chars" p') [e] [] pos) target ((escs 0 false l).map dY) := .mk fun W O s₀ s Q E p h => by
  have hof : (KK w).lookup 37 = some ⟨_, _, .func _, _⟩ := rfl
  refine Call_ (glb_g (P := St env hT κ W O s₀ ρ ω) k T.top (fun s p => p.top) hx (mg_of T.frag T.top.g (by rfl)) (by decide) _ _ _ _ p
      (callWith_def_at (T.frag _ _ hof) rfl (wpAny_items_cons (he.run _ _ _ s _ _ p fun v s₁ e₁ r₁ => wpAny_items_nil ⟨T.frag.keeps (p.ext e₁).top _ _ hof, ?_⟩) hs) hs)) hC
  obtain ⟨t, rfl⟩ := r₁.str_inv
  have p₁ := p.ext e₁
  refine' gen_raw (f := 37) (binds := [("addr", .str (SS l) t)]) T a p₁.top ?ho ?hcd ?hbody ?hbind ?hcell ?hloc ?hk ?hgl ?hbi ?hco ?hgen ?h
  case ho => rfl
  case hcd => rfl
  case hbody => rfl
  case hbind => rfl
  case hcell => decide
  case hloc =>
    intro x hx
    rw [List.mem_singleton.mp hx]; rfl
  case hk => rfl
  case hgl => rfl
  case hbi => rfl
  case hco => rfl
  case hgen => rfl
  intro L h₀ tk nm qn env' k' hlo frL hn hkeep
  have fr0 : ∀ {b}, s₁.heap.get? b = none → hT.get? b = none := fun {b} hb => by
    cases z : hT.get? b with
    | none => rfl
    | some o => rw [p₁.top _ _ z] at hb; cases hb
  have frA : s₁.heap.get? h₀.objs.size = none := by
    cases z : s₁.heap.get? h₀.objs.size with
    | none => rfl
    | some o => exact absurd (Heap.lt_size (hkeep _ _ z)) (Nat.lt_irrefl _)
  have back : ∀ {b}, s₁.heap.get? b = none → s.heap.get? b = none := fun {b} hb => by
    cases z : s.heap.get? b with
    | none => rfl
    | some o => rw [e₁.keep _ _ z] at hb; cases hb
  have hne : h₀.objs.size ≠ L := fun q => by
    obtain ⟨o, _, _, ho, _⟩ := hn
    rw [← q] at ho
    exact absurd (Heap.lt_size ho) (Nat.lt_irrefl _)
  have e₂ : ∀ body, Ext s₁ { s₁ with gens := s₁.gens.push (.fresh (.func body env')), toks := tk, heap := h₀.push { cls := .type "generator", data := .fields #[.int s₁.gens.size 0, nm, qn] } } :=
    fun body => ⟨fun b o z => Heap.get?_push_of_some _ (hkeep _ _ z), gk_push, rfl⟩
  have hg : (h₀.push { cls := .type "generator", data := .fields #[.int s₁.gens.size 0, nm, qn] }).IsGen h₀.objs.size s₁.gens.size := ⟨_, nm, qn, Heap.get?_push_size _ rfl, rfl, rfl, rfl⟩
  have hgs : ∀ body, (s₁.gens.push (.fresh (.func body env')))[s₁.gens.size]? = some (.fresh (.func body env')) := fun body => Array.getElem?_push_size
  have hgN : s.gens[s₁.gens.size]? = none := by
    cases z : s.gens[s₁.gens.size]? with
    | none => rfl
    | some x => exact absurd (Array.getElem?_eq_some_iff.mp (e₁.bare.keep _ _ (fun q => nomatch q) z)).1 (Nat.lt_irrefl _)
  refine wpAny_pyIter_gen hg (h _ [h₀.objs.size, L] [s₁.gens.size] _ _ (e₁.trans (e₂ _)) (iter_gen (ys := escs 0 false l) (a := h₀.objs.size) (g := s₁.gens.size) (L := L) (m := fun x => ([("addr", .str (SS l) t)] : List (Str × Value)).reverse.lookup x) a.handled a.room T.top.lim fun s hk hn => ?_)
    ⟨(fun b hb => p.topO b hb), (fun b o z => (e₂ []).keep _ _ (p₁.top _ _ z)), hg, fr0 frL, fr0 frA, hne, .inl ⟨rfl, rfl, hgs _, hn.keeps fun b o z => Heap.get?_push_of_some _ z⟩⟩ (fun b hb => ?_) (fun g hg => by rw [List.mem_singleton.mp hg]; exact hgN))
  · exact esc_start (A := A.in1) k' T a.handled rfl rfl (fr0 frL) rfl rfl rfl rfl rfl rfl hp hk hn rfl
  · simp only [List.mem_cons, List.not_mem_nil, or_false] at hb
    rcases hb with rfl | rfl
    · exact back frA
    · exact back frL
end

section
variable {prog : Program} {w : World} {A : Around} {env : Env} {hT : Heap} {κ : List (Str × Addr)} {X : List Addr} {ρ ρ' ρc : Ro} {ω ω' ω₁ ω₂ : Om} {K : Kn} {rest body orelse : List Stmt} {pos p₁ p₂ p₃ p₄ p₆ : Pos} {e e₁ e₂ e₃ test l r target value lo hi iter : Expr} {d d₁ d₂ d₃ a b : PyData} {x y z : Str} {ds : List PyData} {i j : Int} {mg mb : Str → Option Value} {F : Frag}
theorem cmp_notin {x y : Str} : Cmp prog w A .NotIn (.str y) (.str x) (!Txt.contains x y) := fun O s v u Q E r₁ r₂ h => by
  obtain ⟨t, rfl⟩ := r₁.str_inv; obtain ⟨t', rfl⟩ := r₂.str_inv
  exact SB.notContains (h _ (.refl s))
theorem cl_lenS {O : List Addr} {P : Shared → Prop} {x : Str} (hz : x.length ≤ 1000) : Cl prog w A P O (.builtin "len") [.str x] (.int x.length) := fun s vs Q E pp r h => by
  cases r with
  | cons r₁ t =>
    cases t
    obtain ⟨t, rfl⟩ := r₁.str_inv
    exact PySem.P.len_str (by omega) (h _ _ (Ext.toks _) (.int ..))
theorem sl_strF {i : Int} (hv : EvS prog w A env hT κ ρ ω value (.str x)) (hj : EvS prog w A env hT κ ρ ω lo (.int i)) (hz : x.length ≤ 1000)
    (hs : ∀ t i, subscripted (.Slice (some lo) none none p₁) false (.str x t) (.ref i) = operate [.ref i, .str x t] (getItem (.str x t) (.ref i)) := by intro _ _; with_unfolding_all rfl) : EvS prog w A env hT κ ρ ω (.Subscript value (.Slice (some lo) none none p₁) pos) (.str (Txt.slice x (some i) none)) := .mk fun W O s₀ s Q E p h =>
  Subscript_ (hv.run W O s₀ s _ E p fun v s₁ e₁ r₁ => wpAny_Slice (by
    obtain ⟨t, rfl⟩ := r₁.str_inv
    rw [evalPart_some]
    refine hj.run W O s₀ s₁ _ E (p.ext e₁) fun u s₂ e₂ r₂ => ?_
    obtain ⟨u, rfl⟩ := r₂.int_inv
    rw [evalPart_none]
    refine wpAny_pure (wpAny_pure ?_)
    refine tail_any (typeIs_str _ _ _) F.slot_str_getitem.lookup (wpAny_getItem_str_slice (l := some (i, u)) (u := none) (st := none) ⟨_, Heap.get?_push_size _ rfl, rfl, rfl⟩ rfl
      (post_val_or_str ⟨Nat.le_trans (Txt.slice_le x _ _) (by rw [sizeLine_eq]; omega), fun t' k => h _ _ ((e₁.trans e₂).trans ⟨fun b o q => Heap.get?_push_of_some _ q, .refl _ _, rfl⟩) (.str ..)⟩)) (hs t _)))

theorem tcE {op : CmpOp} {x b' : Bool} (o : Cmp prog w A op a b x) (hl : EvS prog w A env hT κ ρ ω l a) (hr : EvS prog w A env hT κ ρ ω r b) (h : x = b') (hm : behindInMarks op r = false := by with_unfolding_all rfl) : TstS prog w A env hT κ ρ ω (.Compare l [op] [r] pos) b' := h ▸ tc o hl hr hm
theorem evE (he : EvS prog w A env hT κ ρ ω e d) (h : d = d₁) : EvS prog w A env hT κ ρ ω e d₁ := h ▸ he
/-- a branch that returns -/
theorem go_ifT (ht : TstS prog w A env hT κ ρ ω test true) (hb : Go prog w A env hT κ X ρ ω body (rt env hT κ d)) : Go prog w A env hT κ X ρ ω (.If test body orelse pos :: rest) (rt env hT κ d) := .mk fun W B O s₀ s E hX hB p =>
  wpAny_execs_cons (wpAny_If (ht.run W O s₀ s _ E p fun s₁ e₁ => wpAny_mono (hb.run W B O s₀ s₁ E hX hB (p.ext e₁)) (fun f s' ⟨v, hf, q⟩ => by subst hf; exact ⟨v, rfl, q⟩) fun _ _ z => z))
theorem go_ifF {test : Expr} {body orelse : List Stmt} (ht : TstS prog w A env hT κ ρ ω test false) (hb : Go prog w A env hT κ X ρ ω orelse (rt env hT κ d)) : Go prog w A env hT κ X ρ ω (.If test body orelse pos :: rest) (rt env hT κ d) := .mk fun W B O s₀ s E hX hB p =>
  wpAny_execs_cons (wpAny_If (ht.run W O s₀ s _ E p fun s₁ e₁ => wpAny_mono (hb.run W B O s₀ s₁ E hX hB (p.ext e₁)) (fun f s' ⟨v, hf, q⟩ => by subst hf; exact ⟨v, rfl, q⟩) fun _ _ z => z))
end

theorem slice_all (x : Str) : Txt.slice x (some 0) none = x := by
  refine (StrLaws.sliceText_from (x := x) (i := 0) (by simp)).trans ?_
  obtain ⟨⟨c⟩⟩ := x
  simp

theorem strip_ok {prog : Program} {w : World} {hT : Heap} {mg mb : Str → Option Value} (T : TT (KK w) mg mb hT) {l : List Nat} (hz : l.length ≤ 1000) (hne : l ≠ []) (hp : pend false l = false) (hq : ∀ y ∈ escs 0 false l, y.2 ≠ [34]) :
    FnOk prog w hT 1 44 [.str (SS l)] (.str (SS l)) := by
  refine' fn_plain (k := 0) (f := 44) (names := ["addr"]) (args' := [.str (SS l)]) T ?ho ?hcd ?hbody ?hbind ?hnd ?hloc ?hcell ?hk ?hgl ?hbi ?h ?hco ?hgen
  case ho => rfl
  case hcd => rfl
  case hbody => rfl
  case hbind =>
    intro O s vs X h
    cases h with
    | cons r₁ h =>
      cases h
      exact ⟨[_], rfl, .of_eq rfl, .cons r₁ .nil⟩
  case hnd => decide
  case hloc => decide
  case hcell => decide
  case hk => rfl
  case hgl => rfl
  case hbi => rfl
  case hco => rfl
  case hgen => rfl
  case h =>
    intro A L a k
    by_cases hc : Txt.contains (SS l) "\"" = true
    · refine go_if (b := false) (ρ₁ := [("addr", .d (.str (SS l)))]) (ω₁ := []) (tcE cmp_notin cs (vr k rfl) (by rw [hc]; rfl)) (go_nil (fun _ _ h => h) (fun _ h => h) id) ?_
      refine go_assign k ci rfl ?_
      refine go_assign k cn rfl ?_
      refine go_mk k mk_nil rfl fun ra => ?_
      refine go_for (ds := (escs 0 false l).map dY) ck0 (ie_esc k T a rfl (vr k rfl) hp) (fun i => [("start", .d (.int 0)), ("result", .own ra), ("addr", .d (.str (SS l)))]) (fun i => [(ra, true, [])]) (sc rfl (sc rfl (sc rfl sn))) rfl (fun _ => rfl) (fun i d hd => ?_) ?_
      · obtain ⟨y, hy, rfl⟩ := map_get hd
        have hq' := hq y (List.mem_of_getElem? hy)
        have hne : ((SS y.2) == (SS [34])) = false := by
          rw [beq_eq_false_iff_ne]
          intro q
          injection q with q
          exact hq' (by simpa using congrArg Array.toList q)
        refine ⟨_, asg_tup2 k a.handled rfl rfl, ?_⟩
        refine go_if (b := false) (tcE (cmp_eqstr (x := SS y.2) (y := SS [34])) (vr k rfl) cs hne) (go_nil (fun _ _ h => h) (fun _ h => h) id) (go_nil (sc rfl (sc rfl (sc rfl sn))) (fun _ h => h) id)
      · have hlen : (0 : Int) < ((SS l).length : Nat) := by
          have : (SS l).length = l.length := by simp [Str.length]
          rw [this]
          cases l with
          | nil => exact absurd rfl hne
          | cons c r => simp
        refine go_if (b := true) (ρ₁ := [("result", .own ra)]) (ω₁ := [(ra, true, [.str (SS l)])]) (tcE cmp_lt (vr k rfl) (cbS (fun W O s₀ => gb k T rfl rfl rfl) (ec (vr k rfl) en) (fun W O s₀ => cl_lenS (by simpa [Str.length] using hz))) (decide_eq_true hlen)) ?_ ?_
        · refine go_append (ω₁ := []) (ω₂ := []) k rfl rfl (evE (sl_strF (i := 0) (vr k rfl) (vr k rfl) (by simpa [Str.length] using hz)) (by rw [slice_all])) (by simp) (go_nil (sc rfl sn) (fun _ h => h) id)
        · refine go_freeze (by simp) (x := "result") rfl ?_
          have e1 : Txt.join "" [SS l] = SS l := by
            show Builtin.Str.glued _ _ = _
            rw [StrLaws.glued_eq_join]
            exact (join_ss [l]).trans (by simp)
          exact go_ret (evE (joS (texts := [SS l]) (vr k rfl) (joinOk_of (by rw [show Str.length "" = 0 from rfl]; simp [Str.length]; omega))) (by rw [e1]))
    · have hc' : Txt.contains (SS l) "\"" = false := by simpa using hc
      exact go_ifT (tcE cmp_notin cs (vr k rfl) (by rw [hc']; rfl)) (go_ret (vr k rfl))

section
variable {prog : Program} {w : World} {A : Around} {env : Env} {hT : Heap} {κ : List (Str × Addr)} {X : List Addr} {ρ ρ' : Ro} {ω ω' : Om} {rest body : List Stmt} {pos : Pos} {iter target : Expr} {dr : PyData} {ds : List PyData}
theorem go_forR (ck : CellsOk κ) (hi : IterEv prog w A env hT κ ρ ω iter target ds) (ρk : Nat → Ro) (ωk : Nat → Om)
    (hρ0 : ∀ y r, (ρk 0).lookup y = some r → ρ.lookup y = some r) (hω0 : ωk 0 = ω) (hωk : ∀ i, (ωk i).map (·.1) = ω.map (·.1)) (n : Nat) (hn : n < ds.length)
    (turn : ∀ i d, i < n → ds[i]? = some d → ∃ bs, Asg prog w A env hT κ target d bs ∧ Go prog w A env hT κ [] (bs ++ ρk i) (ωk i) body (nx env hT κ (ρk (i + 1)) (ωk (i + 1))))
    (last : ∀ d, ds[n]? = some d → ∃ bs, Asg prog w A env hT κ target d bs ∧ Go prog w A env hT κ [] (bs ++ ρk n) (ωk n) body (rt env hT κ dr))
    (hs : ∀ x, foldedSetIterable iter env x = pure x := by intro _; rfl) : Go prog w A env hT κ X ρ ω (.For target iter body [] pos :: rest) (rt env hT κ dr) := .mk fun W B O s₀ s E hX hB p => by
  refine wpAny_execs_cons (wpAny_For (hi.run W O s₀ s _ E p fun it wr gs J s₁ e₁ IA j0 hfr hgf => ?_) hs)
  have p₁ := p.ext e₁
  have fr : ∀ {s' : Shared}, St env hT κ W O s₀ [] [] s' → ∀ a, s'.heap.get? a = none → a ∉ O ∧ s₀.heap.get? a = none ∧ hT.get? a = none := fun {s'} p a ha => by
    have h1 := p.hot.ne ha
    refine ⟨h1, (fresh_back p.fm ha).resolve_left fun q => h1 (p.wo a q), ?_⟩
    cases z : hT.get? a with
    | none => rfl
    | some o => have := p.top a o z; rw [ha] at this; cases this
  have bareS : ∀ {ρ ω} {s' : Shared}, St env hT κ W O s₀ ρ ω s' → St env hT κ W O s₀ [] [] s' := fun p => p.weaken (fun _ z => z) p.wo p.lo (fun y c z => (p.cells y c z).2.1) (fun _ _ z => nomatch z) (fun _ z => nomatch z) (fun _ z => nomatch z) (by simp)
  have g0 : ∀ g ∈ gs, s₀.gens[g]? = none := fun g hg => by
    cases z : s₀.gens[g]? with
    | none => rfl
    | some x => have := p.bare.keep g x (fun q => nomatch q) z; rw [hgf g hg] at this; cases this
  have start : St env hT κ W O s₀ (ρk 0) (ωk 0) s₁ := by rw [hω0]; exact p₁.names hρ0
  refine code_for (fun m s' => ∃ i wr, i ≤ n ∧ m = n + 1 - i ∧ St env hT κ W O s₀ (ρk i) (ωk i) s' ∧ J wr O i s' ∧ ∀ a ∈ wr, a ∉ O ∧ s₀.heap.get? a = none ∧ hT.get? a = none) ?_ (n + 1) ⟨0, wr, Nat.zero_le _, rfl, start, j0, fun a ha => fr (bareS p) a (hfr a ha)⟩
  rintro m s' ⟨i, wr, hi', rfl, q, j, fw⟩
  obtain ⟨d, hd⟩ : ∃ d, ds[i]? = some d := ⟨_, List.getElem?_eq_getElem (Nat.lt_of_le_of_lt hi' hn)⟩
  refine wpAny_mono (IA.turn wr O i d s' (fun v s₂ => wpAny (model prog w) A (assign target env v) (fun _ s₂ => wpAny (model prog w) A (execs body env) (fun f s₃ => match f with
        | .next | .cont => ∃ m, m < n + 1 - i ∧ ∃ i wr, i ≤ n ∧ m = n + 1 - i ∧ St env hT κ W O s₀ (ρk i) (ωk i) s₃ ∧ J wr O i s₃ ∧ ∀ a ∈ wr, a ∉ O ∧ s₀.heap.get? a = none ∧ hT.get? a = none
        | .brk => False
        | .ret v => rt env hT κ dr W B s₀ (.ret v) s₃) (notedBy (model prog w) A env fun e s' => cameBackBy (model prog w) A env E e s') s₂) (notedBy (model prog w) A env fun e s' => cameBackBy (model prog w) A env E e s') s₂) _ hd j q.hot fun v s₂ wr' f₂ b₂ o₂ nw j₂ r₂ => ?_) (fun r s₂ h₂ => ?_) fun _ _ z => z
  · have q₂ := q.step f₂ b₂ g0 o₂ (fun a ha => (fw a ha).1) (fun a ha => (fw a ha).2.1) (fun a ha => (fw a ha).2.2) (IA.kind j)
    have fw' : ∀ a ∈ wr', a ∉ O ∧ s₀.heap.get? a = none ∧ hT.get? a = none := fun a ha => (nw a ha).elim (fw a) (fr (bareS q) a)
    have q₃ := q₂.rebase ck
    by_cases hlt : i < n
    · obtain ⟨bs, ha, hb⟩ := turn i d hlt hd
      refine ha.run _ O s₂ _ _ s₂ v _ _ q₃ r₂ fun s₃ q₄ => ?_
      refine wpAny_mono (hb.run _ O O s₂ s₃ _ (fun _ z => nomatch z) (fun _ z => z) q₄) (fun f s₄ ⟨hf, O₂, ho, q₅⟩ => ?_) fun _ _ z => z
      subst hf
      have q₆ := St.back ck q₂ q₅ ho
      have mem : ∀ p ∈ ωk (i + 1), p.1 ∈ O := fun p hp => by
        have h1 : p.1 ∈ (ωk i).map (·.1) := by rw [hωk i, ← hωk (i + 1)]; exact List.mem_map_of_mem hp
        obtain ⟨z, hz, hz'⟩ := List.mem_map.mp h1
        rw [← hz']
        exact (q.owns z.1 z.2 hz).1
      have q₇ : St env hT κ W O s₀ (ρk (i + 1)) (ωk (i + 1)) s₄ := q₆.weaken ho q.wo q.lo (fun y c z => (q.cells y c z).2.1) (fun _ _ z => z) (fun _ z => z) mem q₆.nodup
      refine ⟨n + 1 - (i + 1), by omega, i + 1, wr', hlt, rfl, q₇, ?_, fw'⟩
      exact IA.frame j₂ q₅.fm q₃.wo q₂.hot (fun a ha' z => (fw' a ha').1 (q₃.wo a z)) q₅.bare
    · have hin : i = n := Nat.le_antisymm hi' (Nat.not_lt.mp hlt)
      subst hin
      obtain ⟨bs, ha, hb⟩ := last d hd
      refine ha.run _ O s₂ _ _ s₂ v _ _ q₃ r₂ fun s₃ q₄ => ?_
      refine wpAny_mono (hb.run _ B O s₂ s₃ _ (fun _ z => nomatch z) hB q₄) (fun f s₄ ⟨v, hf, ⟨qf, qb, qo⟩, rv⟩ => ?_) fun _ _ z => z
      subst hf
      exact ⟨v, rfl, ⟨fun b o e hn => qf b o (q₂.fm b o e hn) fun hb => (wset_back ck q₂ (.inl hb)).elim hn fun z => (by rw [e] at z; cases z), q₂.bare.trans qb, qo.trans q₂.os⟩, rv⟩
  · cases r with
    | none => exact h₂.elim
    | some v =>
      refine wpAny_mono h₂ (fun _ s₃ h₃ => ?_) fun _ _ z => z
      refine wpAny_mono h₃ (fun _ s₄ h₄ => wpAny_mono h₄ (fun f s₅ h₅ => ?_) fun _ _ z => z) fun _ _ z => z
      cases f with
      | next => exact h₅
      | cont => exact h₅
      | brk => exact h₅.elim
      | ret v => exact h₅
end

def opn : List (Nat × List Nat) → Int → Int
  | [], o => o
  | y :: r, o => if y.2 = [40] then opn r (o + 1) else if y.2 = [41] then opn r (o - 1) else opn r o
def chkF : List (Nat × List Nat) → Int → Option Int
  | [], o => some o
  | y :: r, o => if y.2 = [40] then chkF r (o + 1) else if y.2 = [41] then (if o - 1 < 0 then none else chkF r (o - 1)) else chkF r o
def chk (ys : List (Nat × List Nat)) : Bool := match chkF ys 0 with | none => false | some o => o == 0
theorem opn_step : ∀ {ys : List (Nat × List Nat)} {i : Nat} {y : Nat × List Nat} {o : Int}, ys[i]? = some y → opn (ys.take (i + 1)) o = if y.2 = [40] then opn (ys.take i) o + 1 else if y.2 = [41] then opn (ys.take i) o - 1 else opn (ys.take i) o
  | z :: r, 0, y, o, h => by
    have : z = y := by simpa using h
    subst this
    simp only [List.take_succ_cons, List.take_zero, opn]
  | z :: r, i + 1, y, o, h => by
    have h' : r[i]? = some y := by simpa using h
    rw [List.take_succ_cons, List.take_succ_cons]
    by_cases h1 : z.2 = [40]
    · simp only [opn, if_pos h1]; exact opn_step h'
    · by_cases h2 : z.2 = [41]
      · simp only [opn, if_neg h1, if_pos h2]; exact opn_step h'
      · simp only [opn, if_neg h1, if_neg h2]; exact opn_step h'
def CkA (ys : List (Nat × List Nat)) (o : Int) : Prop := chkF ys o = some (opn ys o) ∧ ∀ (i : Nat) (y : Nat × List Nat), ys[i]? = some y → y.2 = [41] → ¬ opn (ys.take i) o - 1 < 0
def CkB (ys : List (Nat × List Nat)) (o : Int) : Prop := chkF ys o = none ∧ ∃ (n : Nat) (y : Nat × List Nat), ys[n]? = some y ∧ y.2 = [41] ∧ opn (ys.take n) o - 1 < 0 ∧ ∀ (i : Nat) (y : Nat × List Nat), i < n → ys[i]? = some y → y.2 = [41] → ¬ opn (ys.take i) o - 1 < 0
theorem ck_up {z : Nat × List Nat} {r : List (Nat × List Nat)} {o o' : Int} (ih : CkA r o' ∨ CkB r o') (h1 : ∀ rr, opn (z :: rr) o = opn rr o') (h0 : z.2 = [41] → ¬ o - 1 < 0) (h2 : chkF (z :: r) o = chkF r o') : CkA (z :: r) o ∨ CkB (z :: r) o := by
  rcases ih with ⟨a, b⟩ | ⟨a, n, y, b, c, d, e⟩
  · refine .inl ⟨by rw [h2, h1]; exact a, fun i y hy hy2 => ?_⟩
    cases i with
    | zero =>
      have : z = y := by simpa using hy
      subst this; exact h0 hy2
    | succ i => rw [List.take_succ_cons, h1]; exact b i y (by simpa using hy) hy2
  · refine .inr ⟨by rw [h2]; exact a, n + 1, y, by simpa using b, c, by rw [List.take_succ_cons, h1]; exact d, fun i y hi hy hy2 => ?_⟩
    cases i with
    | zero =>
      have : z = y := by simpa using hy
      subst this; exact h0 hy2
    | succ i => rw [List.take_succ_cons, h1]; exact e i y (by omega) (by simpa using hy) hy2
theorem chk_split : ∀ (ys : List (Nat × List Nat)) (o : Int), CkA ys o ∨ CkB ys o
  | [], o => .inl ⟨rfl, fun i y h => by simp at h⟩
  | z :: r, o => by
    by_cases h1 : z.2 = [40]
    · exact ck_up (chk_split r (o + 1)) (fun rr => by simp only [opn, if_pos h1]) (fun h => by rw [h1] at h; cases h) (by simp only [chkF, if_pos h1])
    · by_cases h2 : z.2 = [41]
      · by_cases h3 : o - 1 < 0
        · exact .inr ⟨by simp only [chkF, if_neg h1, if_pos h2, if_pos h3], 0, z, rfl, h2, h3, fun i y hi => absurd hi (Nat.not_lt_zero _)⟩
        · exact ck_up (chk_split r (o - 1)) (fun rr => by simp only [opn, if_neg h1, if_pos h2]) (fun _ => h3) (by simp only [chkF, if_neg h1, if_pos h2, if_neg h3])
      · exact ck_up (chk_split r o) (fun rr => by simp only [opn, if_neg h1, if_neg h2]) (fun h => absurd h h2) (by simp only [chkF, if_neg h1, if_neg h2])

theorem ss_beq (a b : List Nat) : ((SS a) == (SS b)) = decide (a = b) := by
  by_cases h : a = b
  · subst h; rw [decide_eq_true rfl, beq_self_eq_true]
  · rw [decide_eq_false h, beq_eq_false_iff_ne]
    intro q
    injection q with q
    exact h (by simpa using congrArg Array.toList q)

section
variable {prog : Program} {w : World} {A : Around} {env : Env} {hT : Heap} {κ : List (Str × Addr)} {X : List Addr} {ρ ρ' : Ro} {ω ω' : Om} {rest body : List Stmt} {pos : Pos} {e : Expr} {d : PyData}
theorem evcmp {op : CmpOp} {l r : Expr} {a b : PyData} {x : Bool} (o : Cmp prog w A op a b x) (hl : EvS prog w A env hT κ ρ ω l a) (hr : EvS prog w A env hT κ ρ ω r b) (hm : behindInMarks op r = false := by with_unfolding_all rfl) : EvS prog w A env hT κ ρ ω (.Compare l [op] [r] pos) (.bool x) := .mk fun W O s₀ => ev_cmp St.po o (hl.run W O s₀) (hr.run W O s₀) hm
theorem ip_add {x y : Int} : ∀ (O : List Addr) (s : Shared) (v u : Value) (Q E : Value → Shared → Prop), Hot O s.heap → RD O s.heap v (.int x) → RD O s.heap u (.int y) → (∀ z s', Ext s s' → RD O s'.heap z (.int (x + y)) → Q z s') → wpAny (model prog w) A (inplaceOp .Add v u) Q E s := fun O s v u Q E ht r₁ r₂ h => by
  obtain ⟨t, rfl⟩ := r₁.int_inv; obtain ⟨t', rfl⟩ := r₂.int_inv
  exact iadd_int (h _ _ (Ext.toks _) (.int ..))
theorem ip_sub {x y : Int} : ∀ (O : List Addr) (s : Shared) (v u : Value) (Q E : Value → Shared → Prop), Hot O s.heap → RD O s.heap v (.int x) → RD O s.heap u (.int y) → (∀ z s', Ext s s' → RD O s'.heap z (.int (x - y)) → Q z s') → wpAny (model prog w) A (inplaceOp .Sub v u) Q E s := fun O s v u Q E ht r₁ r₂ h => by
  obtain ⟨t, rfl⟩ := r₁.int_inv; obtain ⟨t', rfl⟩ := r₂.int_inv
  exact isub_int (h _ _ (Ext.toks _) (.int ..))
end

section
variable {prog : Program} {w : World} {A : Around} {env : Env} {hT : Heap} {q1 q2 q3 q4 q5 q6 q7 q8 q9 q10 q11 q12 q13 q14 q15 q16 q17 q18 q19 q20 : Pos} {o : Int} {y : Nat × List Nat}
abbrev ckR (y : Nat × List Nat) (o : Int) : Ro := [("ch", .d (.str (SS y.2))), ("pos", .d (.int (y.1 : Nat))), ("opens", .d (.int o))]
theorem check_turn (k : EOk env) (k1 : env.kindOf "opens" = some .local) (hy : y.2 = [41] → ¬ o - 1 < 0) :
    Go prog w A env hT [] [] (ckR y o) [] [.If (.Compare (.Name "ch" q1) [.Eq] [.Constant (.str "(") 0 q2] q3) [.AugAssign (.Name "opens" q4) .Add (.Constant (.int 1) 0 q5) q6]
      [.If (.Compare (.Name "ch" q7) [.Eq] [.Constant (.str ")") 0 q8] q9) [.AugAssign (.Name "opens" q10) .Sub (.Constant (.int 1) 0 q11) q12, .If (.Compare (.Name "opens" q13) [.Lt] [.Constant (.int 0) 0 q14] q15) [.Return (some (.Constant (.bool false) 0 q16)) q17] [] q18] [] q19] q20]
      (nx env hT [] [("opens", .d (.int (if y.2 = [40] then o + 1 else if y.2 = [41] then o - 1 else o)))] []) := by
  by_cases h1 : y.2 = [40]
  · rw [if_pos h1]
    refine go_if (b := true) (tcE (cmp_eqstr (x := SS y.2) (y := SS [40])) (vr k rfl) cs ((ss_beq _ _).trans (decide_eq_true h1))) (go_aug k k1 rfl ci ip_add (go_nil (ρ' := [("opens", .d (.int (o + 1)))]) (ω' := []) (sc rfl sn) (fun _ h => h) id)) (go_nil (fun _ _ h => h) (fun _ h => h) id)
  · rw [if_neg h1]
    refine go_if (b := false) (ρ₁ := [("opens", .d (.int (if y.2 = [41] then o - 1 else o)))]) (ω₁ := []) (tcE (cmp_eqstr (x := SS y.2) (y := SS [40])) (vr k rfl) cs ((ss_beq _ _).trans (decide_eq_false h1))) ?_ (go_nil (fun _ _ h => h) (fun _ h => h) id)
    rw [if_neg (by decide)]
    by_cases h2 : y.2 = [41]
    · rw [if_pos h2]
      refine go_if (b := true) (ρ₁ := [("opens", .d (.int (o - 1)))]) (ω₁ := []) (tcE (cmp_eqstr (x := SS y.2) (y := SS [41])) (vr k rfl) cs ((ss_beq _ _).trans (decide_eq_true h2))) ?_ (go_nil (fun _ _ h => h) (fun _ h => h) id)
      rw [if_pos rfl]
      refine go_aug k k1 rfl ci ip_sub ?_
      refine go_if (b := false) (ρ₁ := [("opens", .d (.int (o - 1)))]) (ω₁ := []) (tcE cmp_lt (vr k rfl) ci (decide_eq_false (hy h2))) ?_ (go_nil (fun _ _ h => h) (fun _ h => h) id)
      rw [if_neg (by decide)]
      exact go_nil (sc rfl sn) (fun _ h => h) id
    · rw [if_neg h2]
      refine go_if (b := false) (ρ₁ := [("opens", .d (.int o))]) (ω₁ := []) (tcE (cmp_eqstr (x := SS y.2) (y := SS [41])) (vr k rfl) cs ((ss_beq _ _).trans (decide_eq_false h2))) ?_ (go_nil (fun _ _ h => h) (fun _ h => h) id)
      rw [if_neg (by decide)]
      exact go_nil (sc rfl sn) (fun _ h => h) id
theorem check_last (k : EOk env) (k1 : env.kindOf "opens" = some .local) (h2 : y.2 = [41]) (hy : o - 1 < 0) :
    Go prog w A env hT [] [] (ckR y o) [] [.If (.Compare (.Name "ch" q1) [.Eq] [.Constant (.str "(") 0 q2] q3) [.AugAssign (.Name "opens" q4) .Add (.Constant (.int 1) 0 q5) q6]
      [.If (.Compare (.Name "ch" q7) [.Eq] [.Constant (.str ")") 0 q8] q9) [.AugAssign (.Name "opens" q10) .Sub (.Constant (.int 1) 0 q11) q12, .If (.Compare (.Name "opens" q13) [.Lt] [.Constant (.int 0) 0 q14] q15) [.Return (some (.Constant (.bool false) 0 q16)) q17] [] q18] [] q19] q20]
      (rt env hT [] (.bool false)) := by
  have h1 : y.2 ≠ [40] := fun h => by rw [h2] at h; cases h
  refine go_ifF (tcE (cmp_eqstr (x := SS y.2) (y := SS [40])) (vr k rfl) cs ((ss_beq _ _).trans (decide_eq_false h1))) ?_
  refine go_ifT (tcE (cmp_eqstr (x := SS y.2) (y := SS [41])) (vr k rfl) cs ((ss_beq _ _).trans (decide_eq_true h2))) ?_
  refine go_aug k k1 rfl ci ip_sub ?_
  exact go_ifT (tcE cmp_lt (vr k rfl) ci (decide_eq_true hy)) (go_ret cb)
end

theorem check_ok {prog : Program} {w : World} {hT : Heap} {mg mb : Str → Option Value} (T : TT (KK w) mg mb hT) {l : List Nat} (hz : l.length ≤ 1000) (hne : l ≠ []) (hp : pend false l = false) (hq : ∀ y ∈ escs 0 false l, y.2 ≠ [34]) :
    FnOk prog w hT 2 51 [.str (SS l)] (.bool (chk (escs 0 false l))) := by
  refine' fn_plain (k := 1) (f := 51) (names := ["addr"]) (args' := [.str (SS l)]) T ?ho ?hcd ?hbody ?hbind ?hnd ?hloc ?hcell ?hk ?hgl ?hbi ?h ?hco ?hgen
  case ho => rfl
  case hcd => rfl
  case hbody => rfl
  case hbind =>
    intro O s vs X h
    cases h with
    | cons r₁ h =>
      cases h
      exact ⟨[_], rfl, .of_eq rfl, .cons r₁ .nil⟩
  case hnd => decide
  case hloc => decide
  case hcell => decide
  case hk => rfl
  case hgl => rfl
  case hbi => rfl
  case hco => rfl
  case hgen => rfl
  case h =>
    intro A L a k
    refine go_assign k (cfS k T a (ec (vr k rfl) en) (strip_ok T hz hne hp hq) rfl rfl rfl) rfl ?_
    refine go_assign k ci rfl ?_
    have hs := chk_split (escs 0 false l) 0
    have h0 : opn ((escs 0 false l).take 0) 0 = 0 := rfl
    rcases hs with ⟨hc, hy⟩ | ⟨hc, n, y, hn, hy, hb, hlt⟩
    · refine go_for (ds := (escs 0 false l).map dY) ck0 (ie_esc k T a rfl (vr k rfl) hp) (fun i => [("opens", .d (.int (opn ((escs 0 false l).take i) 0)))]) (fun _ => []) (by rw [h0]; exact sc rfl sn) rfl (fun _ => rfl) (fun i d hd => ?_) ?_
      · obtain ⟨y, hy', rfl⟩ := map_get hd
        refine ⟨_, asg_tup2 k a.handled rfl rfl, ?_⟩
        rw [opn_step hy']
        exact check_turn k rfl (hy i y hy')
      · rw [List.length_map, List.take_length]
        refine go_ret (evE (evcmp cmp_eq (vr k rfl) ci) ?_)
        unfold chk
        rw [hc]
    · have hnl : n < ((escs 0 false l).map dY).length := by rw [List.length_map]; exact (List.getElem?_eq_some_iff.mp hn).1
      have hr : chk (escs 0 false l) = false := by unfold chk; rw [hc]
      rw [hr]
      refine go_forR (ds := (escs 0 false l).map dY) ck0 (ie_esc k T a rfl (vr k rfl) hp) (fun i => [("opens", .d (.int (opn ((escs 0 false l).take i) 0)))]) (fun _ => []) (by rw [h0]; exact sc rfl sn) rfl (fun _ => rfl) n hnl (fun i d hi hd => ?_) (fun d hd => ?_)
      · obtain ⟨y, hy', rfl⟩ := map_get hd
        refine ⟨_, asg_tup2 k a.handled rfl rfl, ?_⟩
        rw [opn_step hy']
        exact check_turn k rfl (hlt i y hi hy')
      · obtain ⟨y', hy', rfl⟩ := map_get hd
        rw [hn] at hy'
        cases hy'
        refine ⟨_, asg_tup2 k a.handled rfl rfl, ?_⟩
        exact check_last k rfl hy hb

section
variable {env : Env} {hT : Heap} {κ : List (Str × Addr)} {W O : List Addr} {s₀ s s' : Shared} {ρ ρ' : Ro} {ω ω' : Om}
/-- the frame's own place is touched, its names stay -/
theorem St.relocal (p : St env hT κ W O s₀ ρ ω s) (f : Fm [env.locals] s.heap s'.heap) (hn : ∀ m, s.heap.Ns env.locals m → s'.heap.Ns env.locals m) (hb : Gk [] s.gens s'.gens) (hos : s'.os = s.os) : St env hT κ W O s₀ ρ ω s' := by
  have hsub : ∀ b ∈ [env.locals], b ∈ O := fun b hb => by rw [List.mem_singleton.mp hb]; exact p.lo
  have nm : ∀ {b}, b ≠ env.locals → b ∉ [env.locals] := fun h q => h (List.mem_singleton.mp q)
  obtain ⟨m, hns⟩ := p.ns
  have cell : ∀ {c v}, s.heap.IsCell c v → s'.heap.IsCell c v := fun {c v} i => by
    have := Ne.symm (ns_ne_cell hns i)
    obtain ⟨o', ho', hd'⟩ := i
    exact ⟨o', f _ _ ho' (nm this), hd'⟩
  refine ⟨fun b o e => f b o (p.top b o e) (nm ?_), p.topO, fun b o e hnW => f b o (p.fm b o e hnW) (nm ?_), p.bare.trans hb, hos.trans p.os, fun a ha => ?_, p.wo, ⟨m, hn m hns⟩, p.lo, p.lw, fun y c q => ?_, fun y r' q => ?_, fun a ds q => ?_, p.nodup⟩
  · rintro rfl
    have := p.topO _ p.lo
    rw [e] at this; cases this
  · rintro rfl
    rcases p.lw with h | h
    · exact hnW h
    · rw [e] at h; cases h
  · by_cases e : a = env.locals
    · subst e; exact notup_of_ns (hn m hns)
    · obtain ⟨o', h1, h2⟩ := p.hot a ha
      exact ⟨o', f _ _ h1 (nm e), h2⟩
  · obtain ⟨a, b, d, ⟨v', i⟩, g⟩ := p.cells y c q
    exact ⟨a, b, d, ⟨v', cell i⟩, g⟩
  · have va : ∀ v, VarAt env s.heap y v → VarAt env s'.heap y v := fun v z => by
      rcases z with ⟨a, m', n', e⟩ | ⟨a, c, e, n'⟩
      · exact .inl ⟨a, m', hn _ n', e⟩
      · exact .inr ⟨a, c, e, cell n'⟩
    have z := p.vars y r' q
    cases r' with
    | d d => obtain ⟨v, a, r⟩ := z; exact ⟨v, va v a, r.fm p.hot hsub f⟩
    | own a => exact va _ z
  · obtain ⟨i, j, vs, l, pl, r⟩ := p.owns a ds q
    have := nm (Ne.symm (ns_ne_list hns l))
    exact ⟨i, j, vs, (let ⟨o, h1, h2⟩ := l; ⟨o, f _ _ h1 this, h2⟩), (fun z => (pl z).at fun o y => f _ _ y this), RDs.fm r p.hot hsub f⟩
end

section
variable {prog : Program} {w : World} {A : Around} {env : Env} {hT : Heap} {κ : List (Str × Addr)} {X : List Addr} {ρ : Ro} {ω : Om} {K : Kn} {rest : List Stmt} {pos p₁ p₃ p' : Pos} {e : Expr} {x : Str} {mg mb : Str → Option Value} {os ns : List Nat}
theorem go_read (k : EOk env) (T : TT (KK w) mg mb hT) (a : AOk 2 A) (hfr : A.frames = some [env]) (hef : env.frame = some env.locals) (hx : env.kindOf "_law_read" = some .globalImplicit) (hl : env.kindOf x = some .local)
    (he : EvS prog w A env hT κ ρ ω e (dNs os)) (hz : os.length ≤ 900) (hv : vreads 900 os = some ns) (h : Go prog w A env hT κ X ((x, .d (dNs ns)) :: ρ) ω rest K)
    (hsw : swapsWith (.Call (.Name "_law_read" p') [e] [] p₃) (some (.Name x p₁)) pos.line env = pure false := by rfl)
    (hC : eval (.Call (.Name "_law_read" p') [e] [] p₃) env = (do callWith p₃ (← eval (.Name "_law_read" p') env) [] (backTo p₃ (starEach [e] env)) (backToKw p₃ (keywordEach [] env))) := by rfl)
    (hs : starEach [e] env = (false, eval e env) :: starEach [] env := by rfl) :
    Go prog w A env hT κ X ρ ω (.Assign [.Name x p₁] (.Call (.Name "_law_read" p') [e] [] p₃) pos :: rest) K := .mk fun W B O s₀ s E hX hB p => by
  have hof : (KK w).lookup 68 = some ⟨_, _, .func _, _⟩ := rfl
  refine wpAny_execs_cons (wpAny_Assign_Name (Call_ (glb_g (P := St env hT κ W O s₀ ρ ω) k T.top (fun s p => p.top) hx (mg_of T.frag T.top.g (by rfl)) (by decide) _ _ _ _ p
      (callWith_def_at (T.frag _ _ hof) rfl (wpAny_items_cons (he.run _ _ _ s _ _ p fun v s₁ e₁ r₁ => wpAny_items_nil ⟨T.frag.keeps (p.ext e₁).top _ _ hof, ?_⟩) hs) hs)) hC) hsw)
  have p₁ := p.ext e₁
  obtain ⟨m, hn⟩ := p₁.ns
  have hTL := p₁.topO _ p₁.lo
  have hkb : (s₁.heap.hide env.locals).StaysIn s₁.heap := fun b o z => Heap.of_hide z
  have hTb : Keep hT (s₁.heap.hide env.locals) := fun b o z => (Heap.hide_ne _ fun q => by rw [q, hTL] at z; cases z).trans (p₁.top b o z)
  refine read_ok (base := s₁.heap.hide env.locals) T a p₁.top p₁.topO p₁.hot r₁ hz hv hfr ?_ hkb hTb fun v' s₂ hst up hg ho r₂ => ?_
  · obtain ⟨o, es, ep, h1, h2, _⟩ := hn
    exact ⟨by rw [k.kind]; decide, ⟨_, o, hef, Heap.hide_self _ _, h1, fun vs z => by rw [h2] at z; cases z⟩, trivial⟩
  · have q := p₁.relocal (s' := s₂) (fun b o z hb => hst b o ((Heap.hide_ne _ fun q => hb (by rw [q]; exact List.mem_singleton.mpr rfl)).trans z)) (fun m hm => up.ns hm) hg ho
    obtain ⟨m₂, hn₂⟩ := q.ns
    exact wpAny_storeName_local hl hn₂ (fun h' hn' hs' => h.run W B O s₀ _ E hX hB (q.store (r := .d _) hl hn₂ hn' hs' r₂)) (noclass k)
end

section
variable {prog : Program} {w : World} {A : Around} {R : Result → Shared → Prop} {s : Shared} {elt target iter target₁ iter₁ : Expr} {scope : Scope} {pos : Pos} {it acc : Value} {env : Env}
theorem compTurn_in : compTurn (.ListComp elt [⟨target, iter, [], 0⟩, ⟨target₁, iter₁, [], 0⟩] scope pos) 1 it acc env = (standAt iter₁.pos >>= fun _ => pyNext it >>= fun r => match r with
      | none => pure (.done .next)
      | some v => letOwnedTupleGo target₁ it v >>= fun _ => assign target₁ env v >>= fun _ =>
        (eval elt env >>= fun x => call (.builtin "list.append") [acc, x] >>= fun _ => pure ()) >>= fun _ =>
          again (.compLoop (.ListComp elt [⟨target, iter, [], 0⟩, ⟨target₁, iter₁, [], 0⟩] scope pos) 1 it acc env)) := by rfl
theorem compTurn_out : compTurn (.ListComp elt [⟨target, iter, [], 0⟩, ⟨target₁, iter₁, [], 0⟩] scope pos) 0 it acc env = (standAt iter.pos >>= fun _ => pyNext it >>= fun r => match r with
      | none => pure (.done .next)
      | some v => letOwnedTupleGo target it v >>= fun _ => assign target env v >>= fun _ =>
        eval iter₁ env >>= fun x => standAt iter₁.pos >>= fun _ => foldedSetIterable iter₁ env x >>= fun x => holding [x] (pyIter x) >>= fun it₁ =>
          runOwn (.compStart (.ListComp elt [⟨target, iter, [], 0⟩, ⟨target₁, iter₁, [], 0⟩] scope pos) 1 it₁ acc env) env >>= fun _ =>
          again (.compLoop (.ListComp elt [⟨target, iter, [], 0⟩, ⟨target₁, iter₁, [], 0⟩] scope pos) 0 it acc env)) := by rfl

theorem codeAny_compStart1 
    (h0 : codeAny (model prog w) A (.compLoop (.ListComp elt [⟨target, iter, [], 0⟩, ⟨target₁, iter₁, [], 0⟩] scope pos) 1 it acc env) R s)
    (h : wpAny (model prog w) A (pyIter it) (fun it' s' => codeAny (model prog w) A (.compLoop (.ListComp elt [⟨target, iter, [], 0⟩, ⟨target₁, iter₁, [], 0⟩] scope pos) 1 it' acc env) R s')
      (notedBy (model prog w) A env fun x s' => R (.error x) s') s) :
    codeAny (model prog w) A (.compStart (.ListComp elt [⟨target, iter, [], 0⟩, ⟨target₁, iter₁, [], 0⟩] scope pos) 1 it acc env) R s := by
  refine codeAny_of_tree ?_
  show wpAny _ _ ((compStart (.ListComp elt [⟨target, iter, [], 0⟩, ⟨target₁, iter₁, [], 0⟩] scope pos) 1 it acc env).onRaise (fun x => do noteFrame x env; standAt theWindowsPlace)) _ _ s
  refine wpAny_notedAt ?_
  unfold compStart
  show wpAny _ _ (ask >>= _) _ _ s
  refine wpAny_bind (wpAny_askSetting (wpAny_ite ?_))
  split
  · first
      | exact wpAny_bind (wpAny_pure (wpAny_pure (And.intro rfl h0)))
      | exact wpAny_pure (And.intro rfl h0)
  · first
      | exact wpAny_bind (wpAny_rule (wpAny_bind (wpAny_standAt (wpAny_bind (wpAny_mono h (fun it' s' h' => wpAny_pure (And.intro rfl h')) fun _ _ x => x)))))
      | (refine wpAny_bind (wpAny_rule ?_); show wpAny _ _ (standAt iter₁.pos >>= _) _ _ s; exact wpAny_bind (wpAny_standAt (wpAny_bind (wpAny_mono h (fun it' s' h' => wpAny_pure (And.intro rfl h')) fun _ _ x => x))))

theorem code_in (I : Nat → Shared → Prop)
    (turn : ∀ n s (E : Value → Shared → Prop), I n s → wpAny (model prog w) A (pyNext it) (fun r s₁ => match r with
      | none => R (.ok .next) s₁
      | some v => wpAny (model prog w) A (letOwnedTupleGo target₁ it v) (fun _ s₁' => wpAny (model prog w) A (assign target₁ env v) (fun _ s₂ =>
            wpAny (model prog w) A (eval elt env) (fun x s₄ => wpAny (model prog w) A (call (.builtin "list.append") [acc, x]) (fun _ s₅ => ∃ m, m < n ∧ I m s₅) E s₄) E s₂) E s₁') E s₁) E s)
    (n : Nat) (h : I n s) : codeAny (model prog w) A (.compLoop (.ListComp elt [⟨target, iter, [], 0⟩, ⟨target₁, iter₁, [], 0⟩] scope pos) 1 it acc env) R s := by
  refine codeAny_loop rfl I (fun n s hI => ?_) n h
  show wpAny _ A ((compTurn (.ListComp elt [⟨target, iter, [], 0⟩, ⟨target₁, iter₁, [], 0⟩] scope pos) 1 it acc env).onRaise (fun x => do noteFrame x env; theTreesLotGoes x)) _ _ s
  refine wpAny_noted ?_
  rw [compTurn_in]
  refine wpAny_bind (wpAny_standAt (wpAny_bind (wpAny_mono (turn n s _ hI) (fun r s₁ h₁ => ?_) fun _ _ z => z)))
  cases r with
  | none => exact wpAny_pure h₁
  | some v =>
    refine wpAny_bind (wpAny_mono h₁ (fun _ s₁' h₁' => ?_) fun _ _ z => z)
    exact wpAny_bind (wpAny_mono h₁' (fun _ s₂ h₂ => wpAny_bind (wpAny_bind (wpAny_mono h₂ (fun x s₄ h₄ => wpAny_bind (wpAny_mono h₄ (fun _ s₅ h₅ => wpAny_pure (wpAny_pure ⟨rfl, h₅⟩)) fun _ _ z => z)) fun _ _ z => z))) fun _ _ z => z)
theorem code_out (I : Nat → Shared → Prop) (hs : ∀ x, foldedSetIterable iter₁ env x = pure x)
    (turn : ∀ n s (E : Value → Shared → Prop), I n s → wpAny (model prog w) A (pyNext it) (fun r s₁ => match r with
      | none => R (.ok .next) s₁
      | some v => wpAny (model prog w) A (letOwnedTupleGo target it v) (fun _ s₁' => wpAny (model prog w) A (assign target env v) (fun _ s₂ =>
            wpAny (model prog w) A (eval iter₁ env) (fun x s₄ => wpAny (model prog w) A (pyIter x) (fun it₁ s₅ => codeAny (model prog w) A (.compStart (.ListComp elt [⟨target, iter, [], 0⟩, ⟨target₁, iter₁, [], 0⟩] scope pos) 1 it₁ acc env)
              (fun r s₆ => match r with | .ok _ => ∃ m, m < n ∧ I m s₆ | .error e => cameBackBy (model prog w) A env E e s₆) s₅) E s₄) E s₂) E s₁') E s₁) E s)
    (n : Nat) (h : I n s) : codeAny (model prog w) A (.compLoop (.ListComp elt [⟨target, iter, [], 0⟩, ⟨target₁, iter₁, [], 0⟩] scope pos) 0 it acc env) R s := by
  refine codeAny_loop rfl I (fun n s hI => ?_) n h
  show wpAny _ A ((compTurn (.ListComp elt [⟨target, iter, [], 0⟩, ⟨target₁, iter₁, [], 0⟩] scope pos) 0 it acc env).onRaise (fun x => do noteFrame x env; theTreesLotGoes x)) _ _ s
  refine wpAny_noted ?_
  rw [compTurn_out]
  refine wpAny_bind (wpAny_standAt (wpAny_bind (wpAny_mono (turn n s _ hI) (fun r s₁ h₁ => ?_) fun _ _ z => z)))
  cases r with
  | none => exact wpAny_pure h₁
  | some v =>
    refine wpAny_bind (wpAny_mono h₁ (fun _ s₁' h₁' => ?_) fun _ _ z => z)
    refine wpAny_bind (wpAny_mono h₁' (fun _ s₂ h₂ => wpAny_bind (wpAny_mono h₂ (fun x s₄ h₄ => wpAny_bind (wpAny_standAt (wpAny_bind (wpAny_of_eq (hs x) (wpAny_bind (wpAny_holding (wpAny_mono h₄ (fun it₁ s₅ h₅ => wpAny_bind (wpAny_runOwn (codeAny_mono h₅ fun r s₆ h₆ => ?_))) fun _ _ z => z))))))) fun _ _ z => z)) fun _ _ z => z)
    cases r with
    | ok f => exact wpAny_pure ⟨rfl, h₆⟩
    | error e => exact h₆
end

section
variable {prog : Program} {w : World} {A : Around} {env : Env} {hT : Heap} {κ : List (Str × Addr)} {X : List Addr} {ρ ρ' ρc : Ro} {ω ω' ω₁ ω₂ : Om} {K : Kn} {rest : List Stmt} {pos p₁ p₂ p₃ p₄ p₆ : Pos} {e e₁ e₂ e₃ iter target elt iter₁ target₁ : Expr} {d d₁ d₂ d₃ : PyData} {x y z : Str} {ds ds₁ ys acc : List PyData} {scope : Scope} {cl : List (Str × Addr)} {b : Bool} {res : Nat → List PyData} {D : Addr}
theorem comp_inner {env : Env} {W O : List Addr} {s₀ s : Shared} {E : Value → Shared → Prop} {R' : Shared → Prop} {R'' : Value → Shared → Prop} (hi : IterEv prog w A env hT [] ρ [(D, true, acc)] iter₁ target₁ ds) (hlen : ys.length = ds.length) (hz : acc.length + ys.length ≤ 1000)
    (turn : ∀ (j : Nat) (d' : PyData), ds[j]? = some d' → ∃ (bs : Ro) (y : PyData), ys[j]? = some y ∧ Asg prog w A env hT [] target₁ d' bs ∧ (∀ y r, ρ.lookup y = some r → (bs ++ ρ).lookup y = some r) ∧ ∀ ω, EvS prog w A env hT [] (bs ++ ρ) ω elt y)
    (p : St env hT [] W O s₀ ρ [(D, true, acc)] s) (h : ∀ s', St env hT [] W O s₀ ρ [(D, true, acc ++ ys)] s' → R' s') :
    wpAny (model prog w) A (eval iter₁ env) (fun x s₄ => wpAny (model prog w) A (pyIter x) (fun it₁ s₅ => codeAny (model prog w) A (.compStart (.ListComp elt [⟨target, iter, [], 0⟩, ⟨target₁, iter₁, [], 0⟩] scope pos) 1 it₁ (.ref D) env)
      (fun r s₆ => match r with | .ok _ => R' s₆ | .error e => R'' e s₆) s₅) E s₄) E s := by
  refine hi.run W O s₀ s _ E p fun it wr gs J s₁ e₁ IA j0 hfr hgf => ?_
  have p₁ := p.ext e₁
  have ck : CellsOk ([] : List (Str × Addr)) := fun c hc => nomatch hc
  have bareS : ∀ {ρ ω} {s' : Shared}, St env hT [] W O s₀ ρ ω s' → St env hT [] W O s₀ [] [] s' := fun p => p.weaken (fun _ z => z) p.wo p.lo (fun y c z => nomatch z) (fun _ _ z => nomatch z) (fun _ z => nomatch z) (fun _ z => nomatch z) (by simp)
  have fr : ∀ {s' : Shared}, St env hT [] W O s₀ [] [] s' → ∀ a, s'.heap.get? a = none → a ∉ O ∧ s₀.heap.get? a = none ∧ hT.get? a = none := fun {s'} p a ha => by
    have h1 := p.hot.ne ha
    refine ⟨h1, (fresh_back p.fm ha).resolve_left fun q => h1 (p.wo a q), ?_⟩
    cases z : hT.get? a with
    | none => rfl
    | some o => have := p.top a o z; rw [ha] at this; cases this
  have g0 : ∀ g ∈ gs, s₀.gens[g]? = none := fun g hg => by
    cases z : s₀.gens[g]? with
    | none => rfl
    | some x => have := p.bare.keep g x (fun q => nomatch q) z; rw [hgf g hg] at this; cases this
  have loop : codeAny (model prog w) A (.compLoop (.ListComp elt [⟨target, iter, [], 0⟩, ⟨target₁, iter₁, [], 0⟩] scope pos) 1 (.ref it) (.ref D) env) (fun r s₆ => match r with | .ok _ => R' s₆ | .error e => R'' e s₆) s₁ := by
    refine code_in (fun n s' => ∃ i wr, i ≤ ds.length ∧ n = ds.length + 1 - i ∧ St env hT [] W O s₀ ρ [(D, true, acc ++ ys.take i)] s' ∧ J wr O i s' ∧ ∀ a ∈ wr, a ∉ O ∧ s₀.heap.get? a = none ∧ hT.get? a = none) ?_ (ds.length + 1)
      ⟨0, wr, Nat.zero_le _, rfl, by rw [List.take_zero, List.append_nil]; exact p₁, j0, fun a ha => fr (bareS p) a (hfr a ha)⟩
    rintro n s' E' ⟨i, wr, hi', rfl, q, j, fw⟩
    by_cases hlt : i < ds.length
    · obtain ⟨d, hd⟩ : ∃ d, ds[i]? = some d := ⟨_, List.getElem?_eq_getElem hlt⟩
      obtain ⟨bs, y, hy, ha, hρ, he⟩ := turn i d hd
      refine wpAny_mono (IA.turn wr _ i d s' (fun v s₂ => wpAny (model prog w) A (assign target₁ env v) (fun _ s₂ =>
          wpAny (model prog w) A (eval elt env) (fun x s₄ => wpAny (model prog w) A (call (.builtin "list.append") [.ref D, x]) (fun _ s₅ => ∃ m, m < ds.length + 1 - i ∧ ∃ i wr, i ≤ ds.length ∧ m = ds.length + 1 - i ∧ St env hT [] W O s₀ ρ [(D, true, acc ++ ys.take i)] s₅ ∧ J wr O i s₅ ∧ ∀ a ∈ wr, a ∉ O ∧ s₀.heap.get? a = none ∧ hT.get? a = none) E' s₄) E' s₂) E' s₂) E' hd j q.hot fun v s₂ wr' f₂ b₂ o₂ nw j₂ r₂ => ?_) (fun r s₂ h₂ => ?_) fun _ _ z => z
      · have q₂ := q.step f₂ b₂ g0 o₂ (fun a ha => (fw a ha).1) (fun a ha => (fw a ha).2.1) (fun a ha => (fw a ha).2.2) (IA.kind j)
        have fw' : ∀ a ∈ wr', a ∉ O ∧ s₀.heap.get? a = none ∧ hT.get? a = none := fun a ha => (nw a ha).elim (fw a) (fr (bareS q) a)
        refine ha.run _ _ s₂ _ _ s₂ v _ _ (q₂.rebase ck) r₂ fun s₄ q₄ => ?_
        refine (he _).run _ _ _ s₄ _ _ q₄ fun u s₆ e₆ r₆ => ?_
        have q₆ := q₄.ext e₆
        obtain ⟨_, _, vs₁, lv₁, pl₁, rv₁⟩ := q₆.owns D (true, acc ++ ys.take i) (by simp)
        have hsz : vs₁.size = (acc ++ ys.take i).length := by rw [← Array.length_toList]; exact RDs.length rv₁
        rw [List.length_append, List.length_take] at hsz
        refine wpAny_list_append_plain (pl₁ rfl) (fun h' hp' hs' => ?_) (by rw [sizeLine_eq]; omega)
        have q₇ := St.upd (ω₁ := []) (ω₂ := []) q₆ hp'.isList (fun _ => hp') hs' (by rw [Array.toList_push]; exact RDs.append rv₁ (.cons r₆ .nil)) s₆.toks
        have ey : (acc ++ ys.take i) ++ [y] = acc ++ ys.take (i + 1) := by rw [List.take_add_one, hy, List.append_assoc]; rfl
        rw [ey] at q₇
        exact ⟨ds.length + 1 - (i + 1), by omega, i + 1, wr', hlt, rfl, (St.back ck q₂ q₇ fun _ z => z).names hρ, IA.frame j₂ q₇.fm (q₂.rebase ck).wo q₂.hot (fun a ha' z => (fw' a ha').1 ((q₂.rebase ck).wo a z)) q₇.bare, fw'⟩
      · cases r with
        | none => exact h₂.elim
        | some v => exact h₂
    · have hin : i = ds.length := Nat.le_antisymm hi' (Nat.not_lt.mp hlt)
      subst hin
      refine IA.done wr _ s' _ _ j fun s₂ f₂ b₂ o₂ => ?_
      have q₂ := q.step f₂ b₂ g0 o₂ (fun a ha => (fw a ha).1) (fun a ha => (fw a ha).2.1) (fun a ha => (fw a ha).2.2) (IA.kind j)
      rw [← hlen, List.take_length] at q₂
      exact h s₂ q₂
  exact codeAny_compStart1 loop (IA.self wr _ 0 _ _ _ j0 loop)

/-- what a turn of a double comprehension does -/
def CTurn2 (prog : Program) (w : World) (A : Around) (cenv : Addr → Env) (hT : Heap) (target elt iter₁ target₁ : Expr) (ρc : Ro) (ds : List PyData) (res : Nat → List PyData) : Prop :=
  ∀ (C D : Addr) (i : Nat) (d : PyData), ds[i]? = some d → ∃ (bs : Ro) (ds₁ ys : List PyData), Asg prog w A (cenv C) hT [] target d bs ∧ (∀ y r, ρc.lookup y = some r → (bs ++ ρc).lookup y = some r) ∧
    IterEv prog w A (cenv C) hT [] (bs ++ ρc) [(D, true, res i)] iter₁ target₁ ds₁ ∧ ys.length = ds₁.length ∧
    (∀ (j : Nat) (d' : PyData), ds₁[j]? = some d' → ∃ (bs' : Ro) (y : PyData), ys[j]? = some y ∧ Asg prog w A (cenv C) hT [] target₁ d' bs' ∧ (∀ y r, (bs ++ ρc).lookup y = some r → (bs' ++ (bs ++ ρc)).lookup y = some r) ∧ ∀ ω, EvS prog w A (cenv C) hT [] (bs' ++ (bs ++ ρc)) ω elt y) ∧ res (i + 1) = res i ++ ys

theorem comp_core2 {W O : List Addr} {s₀ s : Shared} {E : Value → Shared → Prop} {use : Option (Value → Sem Unit)} {Q : Value → Shared → Prop} {res : Nat → List PyData} (p : St env hT κ W O s₀ ρ ω s)
    (hi : IterEv prog w A env hT κ ρ ω iter target ds) (hclos : closureFor scope env = pure cl) (hcell : ∀ y ∈ scope.names, y.2 ≠ .cell) (hkind : scope.kind = .function)
    (hnames : ∀ y ∈ scope.names, y.2 = .local → scope.names.lookup y.1 = some .local) (cap : Cap env κ scope cl ρ ρc) (h0 : res 0 = []) (hz : ∀ i ≤ ds.length, (res i).length ≤ 1000)
    (hs₁ : ∀ C x, foldedSetIterable iter₁ (compEnvC scope cl C env) x = pure x) (turn : CTurn2 prog w A (fun C => compEnvC scope cl C env) hT target elt iter₁ target₁ ρc ds res)
    (hfin : ∀ C D s' vs, Ext s s' → s.heap.get? C = none → s.heap.get? D = none → C ≠ D → (∃ m, s'.heap.Ns C m) → s'.heap.IsList D vs → s'.heap.PlainList D vs → RDs (C :: D :: O) s'.heap vs.toList (res ds.length) → Hot (C :: D :: O) s'.heap →
      compPost (model prog w) A E use Q (.ref D) C (.ok .next) s')
    (hs : ∀ x, foldedSetIterable iter env x = pure x := by intro _; rfl) :
    wpAny (model prog w) A (comprehension (.ListComp elt [⟨target, iter, [], 0⟩, ⟨target₁, iter₁, [], 0⟩] scope pos) scope env p₁ (newList []) false (eval iter env) use) Q E s := by
  refine wpAny_comprehension_free rfl hs hclos hkind hnames (hi.run W O s₀ s _ E p fun it wr gs J s₁ e₁ IA j0 hfr hgf => ?_)
  refine wpAny_newObj_type (wpAny_newFunctionEnv hcell (by intro y hy; simp at hy) (fun h₁ hns₁ hsb₁ => ?_) hkind)
  dsimp only at hns₁ hsb₁ ⊢
  generalize hH2 : s₁.heap.push { cls := .type "list", dict := none, data := .seq ([] : List Value).toArray } = H2 at hns₁ hsb₁ ⊢
  have hC : H2.objs.size = s₁.heap.objs.size + 1 := by rw [← hH2, Heap.size_push]
  generalize hDD : s₁.heap.objs.size = D at *
  have hCC := hC
  generalize H2.objs.size = C at hns₁ hsb₁ hCC ⊢
  have hCD : C ≠ D := by rw [hCC]; exact Nat.succ_ne_self D
  have old₁ : Keep s₁.heap h₁ := fun b o e => by
    have lt := Heap.lt_size e
    rw [hDD] at lt
    exact hsb₁.extBut b o (by rw [hCC]; exact Nat.ne_of_lt (Nat.lt_succ_of_lt lt)) (Heap.get?_push_of_some _ (hH2 ▸ Heap.get?_push_of_some _ e))
  have fr₁ : ∀ a, D ≤ a → s₁.heap.get? a = none := fun a ha => by
    cases e : s₁.heap.get? a with
    | none => rfl
    | some o' => exact absurd (Heap.lt_size e) (by rw [hDD]; exact Nat.not_lt.mpr ha)
  have back : ∀ a, s₁.heap.get? a = none → s.heap.get? a = none := fun a ha => by
    cases e : s.heap.get? a with
    | none => rfl
    | some o' => rw [e₁.keep _ _ e] at ha; cases ha
  have sD1 := fr₁ D (Nat.le_refl _)
  have sC1 : s₁.heap.get? C = none := fr₁ C (by rw [hCC]; exact Nat.le_succ _)
  have sD := back _ sD1
  have sC := back _ sC1
  have hacc : h₁.PlainList D #[] := ⟨_, hsb₁.extBut _ _ (Ne.symm hCD) (Heap.get?_push_of_some _ (hH2 ▸ hDD ▸ Heap.get?_push_size _ rfl))⟩
  generalize hs3 : ({ s₁ with heap := h₁, toks := s₁.toks + ([] : List (Str × Value)).length } : Shared) = s₃
  have hh3 : s₃.heap = h₁ := by rw [← hs3]
  have e₃ : Ext s₁ s₃ := by rw [← hs3]; exact Ext.heap old₁ _
  have e03 := e₁.trans e₃
  have hn3 : ∃ m, s₃.heap.Ns C m := by rw [hh3]; exact ⟨_, hns₁⟩
  have hl3 : s₃.heap.PlainList D #[] := by rw [hh3]; exact hacc
  have hot3 : Hot (C :: D :: O) s₃.heap := fun a ha => by
    rcases List.mem_cons.mp ha with rfl | ha
    · obtain ⟨m, hn⟩ := hn3; exact notup_of_ns hn
    · rcases List.mem_cons.mp ha with rfl | ha
      · exact notup_of_list hl3.isList
      · exact (p.hot.keep e03.keep) a ha
  have topN : ∀ a, s.heap.get? a = none → hT.get? a = none := fun a ha => by
    cases z : hT.get? a with
    | none => rfl
    | some o => have := p.top a o z; rw [ha] at this; cases this
  have fO : ∀ a ∈ wr, a ∉ C :: D :: O := fun a ha q => by
    obtain ⟨o, ho, hd⟩ := IA.kind j0 a ha
    rcases List.mem_cons.mp q with rfl | q
    · rw [sC1] at ho; cases ho
    · rcases List.mem_cons.mp q with rfl | q
      · rw [sD1] at ho; cases ho
      · obtain ⟨o', ho', _⟩ := p.hot a q
        rw [hfr a ha] at ho'; cases ho'
  have q₃ : St (compEnvC scope cl C env) hT [] [] (C :: D :: O) s ρc [(D, true, res 0)] s₃ := by
    refine ⟨fun b o z => e03.keep b o (p.top b o z), fun a ha => ?_, Fm.of_keep e03.keep, e03.bare, e03.os, hot3, (fun a ha => nomatch ha), hn3, List.mem_cons_self .., .inr sC, (fun y c z => nomatch z), fun y r z => ?_, fun a dd z => ?_, by simp⟩
    · rcases List.mem_cons.mp ha with rfl | ha
      · exact topN _ sC
      · rcases List.mem_cons.mp ha with rfl | ha
        · exact topN _ sD
        · exact p.topO a ha
    · obtain ⟨d, c, rfl, hr, hk, hκ, hcl, hnm⟩ := cap y r z
      obtain ⟨v, at', rv⟩ := p.vars y _ hr
      obtain ⟨hcc, _⟩ := p.cells y c hκ
      rcases at' with ⟨h1, _⟩ | ⟨_, c', hc', i⟩
      · rw [hk] at h1; cases h1
      · rw [hcc] at hc'
        cases hc'
        exact ⟨v, .inr ⟨hnm, c, hcl, i.keeps e03.keep⟩, ((rv.more sD).more (by
          exact sC)).keep e03.keep⟩
    · have z' := List.mem_singleton.mp z
      cases z'
      exact ⟨by simp, .inr sD, #[], hl3.isList, fun _ => hl3, by rw [h0]; exact .nil⟩
  have j3 : J wr (C :: D :: O) 0 s₃ := by
    have j1 : J wr (C :: D :: O) 0 s₁ := IA.more (IA.more j0 sD1) sC1
    exact IA.keep j1 e₃
  have loop : codeAny (model prog w) A (.compLoop (.ListComp elt [⟨target, iter, [], 0⟩, ⟨target₁, iter₁, [], 0⟩] scope pos) 0 (.ref it) (.ref D) (compEnvC scope cl C env)) (compPost (model prog w) A E use Q (.ref D) C) s₃ := by

    refine code_out (fun n s' => ∃ i wr, i ≤ ds.length ∧ n = ds.length + 1 - i ∧ St (compEnvC scope cl C env) hT [] [] (C :: D :: O) s ρc [(D, true, res i)] s' ∧ J wr (C :: D :: O) i s' ∧ ∀ a ∈ wr, a ∉ C :: D :: O ∧ s.heap.get? a = none ∧ hT.get? a = none) (hs₁ C) ?_ (ds.length + 1) ⟨0, wr, Nat.zero_le _, rfl, q₃, j3, fun a ha => ⟨fO a ha, hfr a ha, topN a (hfr a ha)⟩⟩
    rintro n s' E' ⟨i, wr, hi', rfl, q, j, fw⟩
    have fr : ∀ a, s'.heap.get? a = none → a ∉ C :: D :: O ∧ s.heap.get? a = none ∧ hT.get? a = none := fun a ha => by
      have h2 : s.heap.get? a = none := (fresh_back q.fm ha).resolve_left (fun z => nomatch z)
      exact ⟨q.hot.ne ha, h2, topN a h2⟩
    by_cases hlt : i < ds.length
    · obtain ⟨d, hd⟩ : ∃ d, ds[i]? = some d := ⟨_, List.getElem?_eq_getElem hlt⟩
      obtain ⟨bs, ds₁, ys, ha, hρ, hi₁, hlen, hin, hr⟩ := turn C D i d hd
      refine wpAny_mono (IA.turn wr _ i d s' (fun v s₂ => wpAny (model prog w) A (assign target (compEnvC scope cl C env) v) (fun _ s₂ =>
          wpAny (model prog w) A (eval iter₁ (compEnvC scope cl C env)) (fun x s₄ => wpAny (model prog w) A (pyIter x) (fun it₁ s₅ => codeAny (model prog w) A (.compStart (.ListComp elt [⟨target, iter, [], 0⟩, ⟨target₁, iter₁, [], 0⟩] scope pos) 1 it₁ (.ref D) (compEnvC scope cl C env))
              (fun r s₆ => match r with | .ok _ => ∃ m, m < ds.length + 1 - i ∧ ∃ i wr, i ≤ ds.length ∧ m = ds.length + 1 - i ∧ St (compEnvC scope cl C env) hT [] [] (C :: D :: O) s ρc [(D, true, res i)] s₆ ∧ J wr (C :: D :: O) i s₆ ∧ ∀ a ∈ wr, a ∉ C :: D :: O ∧ s.heap.get? a = none ∧ hT.get? a = none | .error e => cameBackBy (model prog w) A (compEnvC scope cl C env) E' e s₆) s₅) E' s₄) E' s₂) E' s₂) E' hd j q.hot fun v s₂ wr' f₂ b₂ o₂ nw j₂ r₂ => ?_) (fun r s₂ h₂ => ?_) fun _ _ z => z
      · have q₂ := q.step f₂ b₂ hgf o₂ (fun a ha => (fw a ha).1) (fun a ha => (fw a ha).2.1) (fun a ha => (fw a ha).2.2) (IA.kind j)
        have fw' : ∀ a ∈ wr', a ∉ C :: D :: O ∧ s.heap.get? a = none ∧ hT.get? a = none := fun a ha => (nw a ha).elim (fw a) (fr a)
        have ck : CellsOk ([] : List (Str × Addr)) := fun c hc => nomatch hc
        have fin : ∀ s₅, St (compEnvC scope cl C env) hT [] (wset (compEnvC scope cl C env) [] [(D, true, res i)]) (C :: D :: O) s₂ (bs ++ ρc) [(D, true, res (i + 1))] s₅ →
            ∃ m, m < ds.length + 1 - i ∧ ∃ i wr, i ≤ ds.length ∧ m = ds.length + 1 - i ∧ St (compEnvC scope cl C env) hT [] [] (C :: D :: O) s ρc [(D, true, res i)] s₅ ∧ J wr (C :: D :: O) i s₅ ∧ ∀ a ∈ wr, a ∉ C :: D :: O ∧ s.heap.get? a = none ∧ hT.get? a = none := fun s₅ q₅ =>
          ⟨ds.length + 1 - (i + 1), by omega, i + 1, wr', hlt, rfl, (St.back ck q₂ q₅ fun _ z => z).names hρ, IA.frame j₂ q₅.fm (q₂.rebase ck).wo q₂.hot (fun a ha' z => (fw' a ha').1 ((q₂.rebase ck).wo a z)) q₅.bare, fw'⟩
        refine ha.run _ _ s₂ _ _ s₂ v _ _ (q₂.rebase ck) r₂ fun s₄ q₄ => ?_
        refine comp_inner (ys := ys) hi₁ hlen (by have := hz (i + 1) hlt; rw [hr, List.length_append] at this; exact this) hin q₄ fun s₅ q₅ => fin s₅ ?_
        rw [hr]
        exact q₅
      · cases r with
        | none => exact h₂.elim
        | some v => exact h₂
    · have hin : i = ds.length := Nat.le_antisymm hi' (Nat.not_lt.mp hlt)
      subst hin
      refine IA.done wr _ s' _ _ j fun s₂ f₂ b₂ o₂ => ?_
      have q₂ := q.step f₂ b₂ hgf o₂ (fun a ha => (fw a ha).1) (fun a ha => (fw a ha).2.1) (fun a ha => (fw a ha).2.2) (IA.kind j)
      obtain ⟨_, _, vs₁, lv₁, pl₁, rv₁⟩ := q₂.owns D (true, res ds.length) (by simp)
      exact hfin C D s₂ vs₁ ⟨fun b o e => q₂.fm b o e (fun z => nomatch z), q₂.bare, q₂.os⟩ sC sD hCD q₂.ns lv₁ (pl₁ rfl) rv₁ q₂.hot
  refine codeAny_compStart_list loop (IA.self wr _ 0 _ _ _ j3 loop)

theorem ev_comp2 (hi : IterEv prog w A env hT κ ρ ω iter target ds) (hclos : closureFor scope env = pure cl) (hcell : ∀ y ∈ scope.names, y.2 ≠ .cell) (hkind : scope.kind = .function)
    (hnames : ∀ y ∈ scope.names, y.2 = .local → scope.names.lookup y.1 = some .local) (cap : Cap env κ scope cl ρ ρc) (h0 : res 0 = []) (hz : ∀ i ≤ ds.length, (res i).length ≤ 1000) (hs₁ : ∀ C x, foldedSetIterable iter₁ (compEnvC scope cl C env) x = pure x)
    (turn : CTurn2 prog w A (fun C => compEnvC scope cl C env) hT target elt iter₁ target₁ ρc ds res) {r : List PyData} (hr : res ds.length = r)
    (hs : ∀ x, foldedSetIterable iter env x = pure x := by intro _; rfl) :
    EvS prog w A env hT κ ρ ω (.ListComp elt [⟨target, iter, [], 0⟩, ⟨target₁, iter₁, [], 0⟩] scope pos) (.list r) := .mk fun W O s₀ s Q E p h => by
  subst hr
  rw [eval_ListComp]
  refine comp_core2 (use := none) p hi hclos hcell hkind hnames cap h0 hz hs₁ turn (fun C D s' vs e hC hD hCD hn hl hpl hr hot => ?_) hs
  obtain ⟨m, hn⟩ := hn
  refine ⟨m, hn, fun h' hs' => h _ _ ⟨fun b o z => hs'.extBut b o (by rintro rfl; rw [hC] at z; cases z) (e.keep b o z), e.bare, e.os⟩ (comp_list hs' hCD (p.hot.ne hD) hl hr hot)⟩
end

def npick (l : List Nat) (lo hi st : Option Int) : List Nat :=
  (sliceRange (sliceBounds lo hi st l.length).1 (sliceBounds lo hi st l.length).2.1 (sliceBounds lo hi st l.length).2.2).filterMap (l[·]?)
theorem npick_map (l : List Nat) (lo hi st : Option Int) (f : Nat → PyData) : dpick (l.map f) lo hi st = (npick l lo hi st).map f := by
  unfold dpick npick
  rw [List.length_map]
  generalize sliceRange _ _ _ = is
  induction is with
  | nil => rfl
  | cons i is ih =>
    rw [List.filterMap_cons, List.filterMap_cons, List.getElem?_map]
    cases e : l[i]? with
    | none => exact ih
    | some n => rw [List.map_cons, ← ih]; rfl

theorem ints_of {O : List Addr} {h : Heap} : ∀ {vs : List Value} {ns : List Nat}, RDs O h vs (ns.map fun n : Nat => .int (n : Nat)) → IntsAre vs (ns.map fun n : Nat => (n : Int))
  | _, [], .nil => .nil
  | _, n :: ns, .cons r t => by
    obtain ⟨t', rfl⟩ := r.int_inv
    exact .cons _ _ (ints_of t)
theorem sum_cast : ∀ ns : List Nat, (ns.map fun n : Nat => (n : Int)).sum = ((ns.sum : Nat) : Int)
  | [] => rfl
  | n :: ns => by rw [List.map_cons, List.sum_cons, List.sum_cons, sum_cast ns]; omega

section
variable {prog : Program} {w : World} {A : Around} {env : Env} {hT : Heap} {κ : List (Str × Addr)} {X : List Addr} {ρ ρ' ρc : Ro} {ω ω' ω₁ ω₂ : Om} {K : Kn} {rest body : List Stmt} {pos p₁ p₂ p₃ p₄ p₆ : Pos} {e e₁ e₂ e₃ test l r target value lo hi st iter : Expr} {d d₁ d₂ d₃ a b : PyData} {x y z : Str} {ds : List PyData} {i j : Int} {mg mb : Str → Option Value} {F : Frag}
theorem cl_sum {O : List Addr} {P : Shared → Prop} {ns : List Nat} (hh : A.handled = none) : Cl prog w A P O (.builtin "sum") [dNs ns] (.int (ns.sum : Nat)) := fun s vs Q E pp r h => by
  cases r with
  | cons r₁ t =>
    cases t
    obtain ⟨a, items, rfl, hl, _, rs⟩ := r₁.list_inv
    have hi := ints_of rs
    have hl' : s.heap.IsList a items.toList.toArray := by rw [Array.toArray_toList]; exact hl
    obtain ⟨xs, hx⟩ := hi.allInts.items
    rw [hx] at hl'
    refine sum_intListG hh hl' fun h' tk t' hk => ?_
    have e1 : (ns.map fun n : Nat => (n : Int)) = xs.toList.map (·.1) := by
      rw [← nums_intItems, ← hx]
      exact (show numsOf items.toList.toArray.toList = _ from hi.numsOf).symm
    have e2 : preSum (numAt xs) xs.size = ((ns.sum : Nat) : Int) := by
      rw [preSum_eq, List.take_of_length_le (by simp), ← e1, sum_cast]
    rw [e2]
    exact h _ _ (Ext.heap hk tk) (.int ..)
theorem sl_step {ns : List Nat} {n : Nat} {k : Int} (hv : EvS prog w A env hT κ ρ ω value (dNs ns)) (hl : EvS prog w A env hT κ ρ ω lo (.int n)) (hk : EvS prog w A env hT κ ρ ω st (.int k)) (h0 : k ≠ 0) (hz : ns.length ≤ 1000)
    (hs : ∀ l i, subscripted (.Slice (some lo) none (some st) p₁) false (.ref l) (.ref i) = operate [.ref l, .ref i] (getItem (.ref l) (.ref i)) := by intro _ _; with_unfolding_all rfl) : EvS prog w A env hT κ ρ ω (.Subscript value (.Slice (some lo) none (some st) p₁) pos) (dNs (npick ns (some n) none (some k))) := .mk fun W O s₀ => by
  rw [dNs, ← npick_map]
  exact ev_slice St.po (hv.run W O s₀) (ep_int (hl.run W O s₀)) ep_none (ep_int (hk.run W O s₀)) (by simpa using h0) (by simpa using hz) hs
end

def ringOf (draws : List Nat) (i : Nat) : List (List Nat) := (spotsOf draws).drop i ++ (spotsOf draws).take i
def lowersOf (draws : List Nat) (i : Nat) : List Nat := draws.map fun d => (d + 5 - i) % 5 + 1
structure RingOk (ring : List (List Nat)) : Prop where
  len : ring.length = 5
  sp : ∀ sp ∈ ring, sp.length ≤ 10 ∧ ∃ c, sp.getLast? = some c ∧ c ≤ 1000
  tlen : (ringText ring).length ≤ 1000
  ne : ringText ring ≠ []
  pend : pend false (ringText ring) = false
  quote : ∀ y ∈ escs 0 false (ringText ring), y.2 ≠ [34]
def PLaw (ring : List (List Nat)) (lowers : List Nat) : Prop :=
  (chk (escs 0 false (ringText ring)) = true ∧ ∃ ns r, vreads 900 ring.flatten = some ns ∧ ns.length ≤ 900 ∧ (ns.map fun n => n % 64) = (ring.map fun sp => sp.getLast?.getD 0 % 64) ∧ uppersF ns = some r ∧ tried lowers = [r]) ∨
    (chk (escs 0 false (ringText ring)) = false ∧ tried lowers = [])

theorem lowers_ok {draws : List Nat} {i : Nat} : ∀ l ∈ lowersOf draws i, 1 ≤ l ∧ l ≤ 5 := fun l hl => by
  obtain ⟨d, _, rfl⟩ := List.mem_map.mp hl
  omega
def cellsN (ls : List Int) : List Nat := (ls.take 12).map fun c => (c % 1000000).toNat
def drawsN (cs : List Nat) : List Nat := [408, 410, 638, 1004].zipIdx.map fun p => p.1 + (npick cs (some p.2) none (some 4)).sum
theorem draws_len (cs : List Nat) : (drawsN cs).length = 4 := rfl

section
variable {prog : Program} {w : World} {A : Around} {env : Env} {hT : Heap} {κ : List (Str × Addr)} {ρ : Ro} {ω : Om} {pos : Pos}
theorem ls_ {es : List Expr} {ns : List Nat} (he : ElS prog w A env hT κ ρ ω es (ns.map fun n : Nat => .int (n : Nat))) (hz : ns.length ≤ 1000 := by decide) : EvS prog w A env hT κ ρ ω (.List es pos) (dNs ns) := ls he (by rw [List.length_map]; exact hz)
end
theorem deeper_frames (e : Env) : (callerA.deeper e).frames = some [e] := Around.frames_deeper (A := callerA) (env := e) rfl
theorem law_ok {prog : Program} {w : World} {hT : Heap} {mg mb : Str → Option Value} (T : TT (KK w) mg mb hT) {ls : List Int} (hz : ls.length ≤ 63) (RO : ∀ draws : List Nat, draws.length = 4 → ∀ i, i < 5 → RingOk (ringOf draws i)) (PL : ∀ draws : List Nat, draws.length = 4 → ∀ i, i < 5 → PLaw (ringOf draws i) (lowersOf draws i)) :
    ∀ O s vs (Q E : Value → Shared → Prop), AOk (2 + 1) callerA → Keep hT s.heap → (∀ a ∈ O, hT.get? a = none) → Hot O s.heap → RDs O s.heap vs [dI ls] → (∀ v s', Ext s s' → RD O s'.heap v (.bool true) → Q v s') → wpAny (model prog w) callerA (call (.ref 92) vs) Q E s := by
  refine' fn_cellsA (k := 2) (f := 92) (x := "script") (arg := dI ls) T ?ho ?hcd ?hbody ?hclo ?hbind ?hloc ?hck ?hk ?hgl ?hbi ?h ?hco ?hgen
  case ho => rfl
  case hcd => rfl
  case hbody => rfl
  case hclo => rfl
  case hbind => intro v; rfl
  case hloc => rfl
  case hck =>
    intro L c hc
    have hc' : c = L + 1 ∨ c = L + 2 := by
      rcases List.mem_cons.mp hc with h | h
      · exact .inr h
      · exact .inl (List.mem_singleton.mp h)
    rcases hc' with rfl | rfl
    · exact ⟨"cells", rfl⟩
    · exact ⟨"cut", by rfl⟩
  case hk => rfl
  case hgl => rfl
  case hbi => rfl
  case hco => rfl
  case hgen => rfl
  case h =>
    intro L a k
    generalize hA : callerA.deeper _ = A at a ⊢
    have hfr := (congrArg Around.frames hA).symm.trans (deeper_frames _)
    generalize hκ : cellsFrom (L + 1) _ [] = κ
    have hκ' : κ = [(("cut" : Str), L + 1 + 1), (("cells" : Str), L + 1)] := hκ.symm
    have ck : CellsOk κ := by
      rw [hκ']; intro c hc
      have hc' : c = L + 1 ∨ c = L + 2 := by
        rcases List.mem_cons.mp hc with h | h
        · exact .inr h
        · exact .inl (List.mem_singleton.mp h)
      rcases hc' with rfl | rfl
      · exact ⟨"cells", rfl⟩
      · exact ⟨"cut", by rfl⟩
    have e12 : ((12 : Nat) : Int) = 12 := rfl
    refine go_assignC (c := L + 1) (d := dNs (cellsN ls)) k ?cells rfl (by rw [hκ']; rfl) ?_ (by rfl)
    case cells =>
      refine ev_comp (ρc := []) (cl := []) (ds := (ls.take 12).map .int) (res := fun i => ((ls.take 12).take i).map fun c => .int (((c % 1000000).toNat : Nat) : Int)) (ie_list (evE (sl_upto (n := 12) (vr k rfl) ci (by simpa using by omega)) (by rw [List.map_take])) a.handled) rfl (by decide) rfl (by decide) cap_nil rfl (fun i hi => ?_) ?_ (by
        rw [List.length_map, List.take_length, cellsN, List.map_map]; rfl)
      · rw [List.length_map, List.length_take, List.length_take]; omega
      · intro C ω' i d hd
        obtain ⟨c, hc, rfl⟩ := map_get hd
        refine ⟨_, asg_name (eok_comp k rfl) rfl, (fun _ _ h => nomatch h), .inl ⟨.int (((c % 1000000).toNat : Nat) : Int), ts_nil, ?_, ?_⟩⟩
        · rw [show (((c % 1000000).toNat : Nat) : Int) = c % 1000000 from by omega]
          exact bi (op_mod (by decide)) (ctS (fun W O s₀ => gb (eok_comp k rfl) T rfl rfl rfl) (ec (vr (eok_comp k rfl) rfl) en) (fun W O s₀ => cl_int)) (bi op_pow106 ci ci)
        · dsimp only
          rw [List.take_add_one, hc]
          simp
    have hcl : (cellsN ls).length ≤ 12 := by
      rw [cellsN, List.length_map, List.length_take]; omega
    generalize cellsN ls = cs at hcl
    refine go_assignComp (ρc := [("cells", .d (dNs cs))]) (cl := [("cells", L + 1)]) (ds := [408, 410, 638, 1004].zipIdx.map fun q => .tuple [.int (q.2 : Nat), .int (q.1 : Nat)])
        (res := fun i => ((([408, 410, 638, 1004].zipIdx).take i).map fun p : Nat × Nat => p.1 + (npick cs (some p.2) none (some 4)).sum).map fun n : Nat => .int (n : Nat)) (r := (drawsN cs).map fun n : Nat => .int (n : Nat)) k
        (ie_enumN a.handled rfl (fun W O s₀ => gb k T rfl rfl rfl) (ls_ (ec ci (ec ci (ec ci (ec ci en)))))) rfl (by decide) rfl (by decide) ?_ rfl (fun i hi => ?_) ?_ rfl rfl ?_
    · intro y r hy
      by_cases e : y = "cells"
      · subst e
        rw [lookup_cons_eq] at hy
        cases hy
        exact ⟨_, L + 1, rfl, rfl, rfl, by rw [hκ']; rfl, rfl, rfl⟩
      · rw [lookup_cons_ne e] at hy; cases hy
    · rw [List.length_map, List.length_map, List.length_take]
      have : ([408, 410, 638, 1004].zipIdx).length = 4 := rfl
      omega
    · intro C ω' i d hd
      obtain ⟨q, hq, rfl⟩ := map_get hd
      refine ⟨_, asg_tup2 (eok_comp k rfl) a.handled rfl rfl, sc rfl sn, .inl ⟨.int ((q.1 + (npick cs (some q.2) none (some 4)).sum : Nat) : Int), ts_nil, ?_, ?_⟩⟩
      · rw [show ((q.1 + (npick cs (some q.2) none (some 4)).sum : Nat) : Int) = (q.1 : Int) + ((npick cs (some q.2) none (some 4)).sum : Nat) from by omega]
        exact bi op_add (vr (eok_comp k rfl) rfl) (cbS (fun W O s₀ => gb (eok_comp k rfl) T rfl rfl rfl) (ec (sl_step (vr (eok_comp k rfl) rfl) (vr (eok_comp k rfl) rfl) ci (by decide) (by omega)) en) (fun W O s₀ => cl_sum a.handled))
      · dsimp only
        rw [List.take_add_one, hq]
        simp
    have h4 := draws_len cs
    generalize drawsN cs = draws at h4
    refine go_assign k (d := .list ((spotsOf draws).map dNs)) (cfS k T a (ec (vr k rfl) en) (spots_ok T h4) rfl rfl rfl) rfl ?_
    refine go_for (ds := (List.range 5).map fun i => .int (i : Nat)) ck (ir1 (n := 5) a.handled k T rfl rfl ci (by decide)) (fun i => [("spots", .d (.list ((spotsOf draws).map dNs))), ("draws", .d (dNs draws))]) (fun i => []) (sc rfl (sc rfl sn)) rfl (fun _ => rfl) (fun i d hd => ?_) (go_ret cb)
    obtain ⟨i', hi', rfl⟩ := map_get hd
    have hi : i < 5 := by simpa using (List.getElem?_eq_some_iff.mp hi').1
    have hii : i' = i := by rw [List.getElem?_range hi] at hi'; exact (Option.some.inj hi').symm
    subst hii
    have R := RO draws h4 i' hi
    have P := PL draws h4 i' hi
    refine ⟨_, asg_cell (c := L + 1 + 1) k rfl (by rw [hκ']; rfl), ?_⟩
    have hsl : (spotsOf draws).length = 5 := by simp [spotsOf]
    refine go_tup2 (d₁ := .list ((ringOf draws i').map dNs)) (d₂ := .list []) a.handled k (evE (bi (op_addlist (by simp; omega)) (sl_from (n := i') (vr k rfl) (vr k rfl) (by simp; omega)) (sl_upto (n := i') (vr k rfl) (vr k rfl) (by simp; omega))) (by rw [ringOf, List.map_append, List.map_drop, List.map_take])) (Mine.ls en (by simp)) rfl rfl ?_
    have hrne : ringOf draws i' ≠ [] := fun q => by have := R.len; rw [q] at this; cases this
    have hlow : (lowersOf draws i').length ≤ 4 := by rw [lowersOf, List.length_map]; omega
    have P' : ∃ fs, tried (lowersOf draws i') = fs ∧ ((chk (escs 0 false (ringText (ringOf draws i'))) = true ∧ ∃ ns r, vreads 900 (ringOf draws i').flatten = some ns ∧ ns.length ≤ 900 ∧ (ns.map fun n => n % 64) = ((ringOf draws i').map fun sp => sp.getLast?.getD 0 % 64) ∧ uppersF ns = some r ∧ fs = [r]) ∨
        (chk (escs 0 false (ringText (ringOf draws i'))) = false ∧ fs = [])) := by
      rcases P with ⟨hc, ns, r, h1, h2, h3, h4, h5⟩ | ⟨hc, h5⟩
      · exact ⟨_, h5, .inl ⟨hc, ns, r, h1, h2, h3, h4, rfl⟩⟩
      · exact ⟨_, h5, .inr ⟨hc, rfl⟩⟩
    clear P
    obtain ⟨fs, hfs, P⟩ := P'
    generalize ringOf draws i' = ring at R P hrne
    refine go_if (b := chk (escs 0 false (ringText ring))) (ρ₁ := [("found", .d (.list (fs.map dI))), ("cut", .d (.int (i' : Nat))), ("spots", .d (.list ((spotsOf draws).map dNs))), ("draws", .d (dNs draws))]) (ω₁ := [])
      (tcE cmp_isbool (cfS k T a (ec (cfS k T (a.le (by decide : 1 ≤ 2)) (ec (vr k rfl) en) (text_ok T (Nat.le_of_eq R.len) R.sp hrne) rfl rfl rfl) en) (check_ok T R.tlen R.ne R.pend R.quote) rfl rfl rfl) cb (by cases chk (escs 0 false (ringText ring)) <;> rfl)) ?_ ?_
    · rcases P with ⟨hc, ns, r, hv, hnl, hm, hu, rfl⟩ | ⟨hc, rfl⟩
      · rw [hc, if_pos rfl]
        have hfl : ring.flatten.length ≤ 50 := by
          have : ∀ l : List (List Nat), (∀ sp ∈ l, sp.length ≤ 10) → l.flatten.length ≤ l.length * 10 := by
            intro l
            induction l with
            | nil => intro _; exact Nat.zero_le _
            | cons sp l ih =>
              intro h
              have h1 := h sp (List.mem_cons_self ..)
              have h2 := ih fun q hq => h q (List.mem_cons_of_mem _ hq)
              rw [List.flatten_cons, List.length_append, List.length_cons]; omega
          have h1 := this ring fun sp hs => (R.sp sp hs).1
          rw [R.len] at h1
          exact h1
        have hfi : ∀ j, ((ring.take j).flatten).length ≤ 50 := fun j => by
          have : ring.flatten = (ring.take j).flatten ++ (ring.drop j).flatten := by rw [← List.flatten_append, List.take_append_drop]
          rw [this, List.length_append] at hfl
          omega
        refine go_read (os := ring.flatten) (ns := ns) k T a hfr rfl rfl rfl (ev_comp2 (ρc := []) (cl := []) (ds := ring.map dNs) (res := fun j => ((ring.take j).flatten).map fun n : Nat => .int (n : Nat)) (ie_list (vr k rfl) a.handled) rfl (by decide) rfl (by decide) cap_nil rfl (fun j hj => by
          rw [List.length_map]; have := hfi j; omega) (fun _ _ => rfl) ?_ (by rw [List.length_map, List.take_length])) (by omega) hv ?_
        · intro C D j d hd
          obtain ⟨sp, hsp, rfl⟩ := map_get hd
          refine ⟨_, sp.map fun n : Nat => .int (n : Nat), sp.map fun n : Nat => .int (n : Nat), asg_name (eok_comp k rfl) rfl, (fun _ _ h => nomatch h), ie_list (vr (eok_comp k rfl) rfl) a.handled, rfl, fun j' d' hd' => ⟨_, d', hd', asg_name (eok_comp k rfl) rfl, sc rfl sn, fun ω => vr (eok_comp k rfl) rfl⟩, ?_⟩
          dsimp only
          rw [List.take_add_one, hsp, List.flatten_append, List.map_append]
          simp
        · refine go_if (b := false) (ρ₁ := [("numbers", .d (dNs ns)), ("cut", .d (.int (i' : Nat))), ("spots", .d (.list ((spotsOf draws).map dNs))), ("draws", .d (dNs draws))]) (ω₁ := [])
            (tcE (cmp_neI (a := ns.map fun n => ((n % 64 : Nat) : Int)) (b := ring.map fun sp => ((sp.getLast?.getD 0 % 64 : Nat) : Int)) a.line)
              (ev_comp (ρc := []) (cl := []) (ds := ns.map fun n : Nat => .int (n : Nat)) (res := fun j => (ns.take j).map fun n => .int ((n % 64 : Nat) : Int)) (ie_list (vr k rfl) a.handled) rfl (by decide) rfl (by decide) cap_nil rfl (fun j hj => ?_) ?_ (by rw [List.length_map, List.take_length, List.map_map]; rfl))
              (ev_comp (ρc := []) (cl := []) (ds := ring.map dNs) (res := fun j => (ring.take j).map fun sp => .int ((sp.getLast?.getD 0 % 64 : Nat) : Int)) (ie_list (vr k rfl) a.handled) rfl (by decide) rfl (by decide) cap_nil rfl (fun j hj => ?_) ?_ (by rw [List.length_map, List.take_length, List.map_map]; rfl)) ?_) ?_ ?_
          · rw [List.length_map, List.length_take]; omega
          · intro C ω' j d hd
            obtain ⟨n, hn, rfl⟩ := map_get hd
            refine ⟨_, asg_name (eok_comp k rfl) rfl, (fun _ _ h => nomatch h), .inl ⟨.int ((n % 64 : Nat) : Int), ts_nil, bi (op_mod (by decide)) (vr (eok_comp k rfl) rfl) ci, ?_⟩⟩
            dsimp only
            rw [List.take_add_one, hn]
            simp
          · have := R.len
            rw [List.length_map, List.length_take]; omega
          · intro C ω' j d hd
            obtain ⟨sp, hsp, rfl⟩ := map_get hd
            obtain ⟨_, c, hc1, hc2⟩ := R.sp sp (List.mem_of_getElem? hsp)
            refine ⟨_, asg_name (eok_comp k rfl) rfl, (fun _ _ h => nomatch h), .inl ⟨.int ((sp.getLast?.getD 0 % 64 : Nat) : Int), ts_nil, bi (op_mod (by decide)) (la (vr (eok_comp k rfl) rfl) (d := .int ((sp.getLast?.getD 0 : Nat) : Int)) (by rw [List.getLast?_map, hc1]; rfl)) ci, ?_⟩⟩
            dsimp only
            rw [List.take_add_one, hsp]
            simp
          · have e1 : (ns.map fun n => ((n % 64 : Nat) : Int)) = (ring.map fun sp => ((sp.getLast?.getD 0 % 64 : Nat) : Int)) := by
              have := congrArg (List.map fun n : Nat => (n : Int)) hm
              rw [List.map_map, List.map_map] at this
              exact this
            rw [e1]
            simp
          · rw [if_neg (by decide)]
            exact go_nil (by repeat (first | exact sn | refine sc rfl ?_)) (fun _ h => h) id
          · refine go_assign k (d := .list [dI r]) (Mine.ls (ec (cfS k T a (ec (vr k rfl) en) (uppers_ok T hnl hu) rfl rfl rfl) en) (by simp)) rfl ?_
            exact go_nil (by repeat (first | exact sn | refine sc rfl ?_)) (fun _ h => h) id
      · rw [hc, if_neg (by decide)]
        exact go_nil (by repeat (first | exact sn | refine sc rfl ?_)) (fun _ h => h) id
    · refine go_if (b := false) (ρ₁ := [("spots", .d (.list ((spotsOf draws).map dNs))), ("draws", .d (dNs draws))]) (ω₁ := [])
        (tcE (cmp_neII (a := tried (lowersOf draws i')) (b := fs) a.line)
          (cfS k T a (ec (ev_comp (ρc := [("cut", .d (.int (i' : Nat)))]) (cl := [("cut", L + 1 + 1)]) (ds := draws.map fun n : Nat => .int (n : Nat)) (res := fun j => (draws.take j).map fun d => .int (((d + 5 - i') % 5 + 1 : Nat) : Int)) (r := (lowersOf draws i').map fun l => .int (l : Nat)) (ie_list (vr k rfl) a.handled) rfl (by decide) rfl (by decide) ?_ rfl (fun j hj => ?_) ?_ (by
            rw [List.length_map, List.take_length, lowersOf, List.map_map]; rfl)) en) (tried_ok T hlow lowers_ok) rfl rfl rfl) (vr k rfl) (by rw [hfs]; simp)) ?_ ?_
      · intro y r hy
        by_cases e : y = "cut"
        · subst e
          rw [lookup_cons_eq] at hy
          cases hy
          exact ⟨_, L + 1 + 1, rfl, rfl, rfl, by rw [hκ']; rfl, rfl, rfl⟩
        · rw [lookup_cons_ne e] at hy; cases hy
      · rw [List.length_map, List.length_take]; omega
      · intro C ω' j d hd
        obtain ⟨n, hn, rfl⟩ := map_get hd
        refine ⟨_, asg_name (eok_comp k rfl) rfl, sc rfl sn, .inl ⟨.int (((n + 5 - i') % 5 + 1 : Nat) : Int), ts_nil, ?_, ?_⟩⟩
        · rw [show (((n + 5 - i') % 5 + 1 : Nat) : Int) = ((n : Int) - (i' : Nat)) % 5 + 1 from by omega]
          exact bi op_add (bi (op_mod (by decide)) (bi op_sub (vr (eok_comp k rfl) rfl) (vr (eok_comp k rfl) rfl)) ci) ci
        · dsimp only
          rw [List.take_add_one, hn]
          simp
      · rw [if_neg (by decide)]
        exact go_nil (by repeat (first | exact sn | refine sc rfl ?_)) (fun _ h => h) id
      · exact go_nil (by repeat (first | exact sn | refine sc rfl ?_)) (fun _ h => h) id

/-- what the plain law sees of a ring: for each of five places, the exchanges that lie there, the last one first -/
def digs (L : List Nat) (q : Nat) : List Nat := ((L.zipIdx.filter fun x => x.1 == q).map fun x => x.2 + 1).reverse
def numD (D : List Nat) : Nat := D.foldl (fun v d => v * 64 + d) 0
def chkN : List Nat → Int → Option Int
  | [], o => some o
  | [n], o => some (o + n)
  | n :: m :: r, o => if o + n - 1 < 0 then none else chkN (m :: r) (o + n - 1)
def chkA (L : List Nat) : Bool := match chkN ([1, 2, 3, 4, 5].map fun q => (digs L q).length) 0 with | none => false | some o => o == 0
def lowerStepG (qs : List Nat) (u : US) (l : Nat) : Option US :=
  match qs[l - 1]? with
  | none => none
  | some q =>
    match (digF 5 q []).foldlM (turnStep l) ⟨[(l : Int)], [], u.1, u.2⟩ with
    | none => none
    | some s => if s.st.length ≤ 900 then some (s.up, (s.ch, s.ho) :: s.st) else none
def uppersG (qs : List Nat) : Option (List Int) := ([5, 4, 3, 2, 1].foldlM (lowerStepG qs) ([0, 0, 0, 0], [])).map (·.1)
def lawB (L : List Nat) : Bool :=
  if chkA L then (match uppersG ([1, 2, 3, 4, 5].map fun q => numD (digs L q)) with | some r => tried L == [r] | none => false) else tried L == []
theorem lawB_11 : ∀ c < 5, ∀ d < 5, lawB [1, 1, c + 1, d + 1] = true := by decide +kernel
theorem lawB_12 : ∀ c < 5, ∀ d < 5, lawB [1, 2, c + 1, d + 1] = true := by decide +kernel
theorem lawB_13 : ∀ c < 5, ∀ d < 5, lawB [1, 3, c + 1, d + 1] = true := by decide +kernel
theorem lawB_14 : ∀ c < 5, ∀ d < 5, lawB [1, 4, c + 1, d + 1] = true := by decide +kernel
theorem lawB_15 : ∀ c < 5, ∀ d < 5, lawB [1, 5, c + 1, d + 1] = true := by decide +kernel
theorem lawB_21 : ∀ c < 5, ∀ d < 5, lawB [2, 1, c + 1, d + 1] = true := by decide +kernel
theorem lawB_22 : ∀ c < 5, ∀ d < 5, lawB [2, 2, c + 1, d + 1] = true := by decide +kernel
theorem lawB_23 : ∀ c < 5, ∀ d < 5, lawB [2, 3, c + 1, d + 1] = true := by decide +kernel
theorem lawB_24 : ∀ c < 5, ∀ d < 5, lawB [2, 4, c + 1, d + 1] = true := by decide +kernel
theorem lawB_25 : ∀ c < 5, ∀ d < 5, lawB [2, 5, c + 1, d + 1] = true := by decide +kernel
theorem lawB_31 : ∀ c < 5, ∀ d < 5, lawB [3, 1, c + 1, d + 1] = true := by decide +kernel
theorem lawB_32 : ∀ c < 5, ∀ d < 5, lawB [3, 2, c + 1, d + 1] = true := by decide +kernel
theorem lawB_33 : ∀ c < 5, ∀ d < 5, lawB [3, 3, c + 1, d + 1] = true := by decide +kernel
theorem lawB_34 : ∀ c < 5, ∀ d < 5, lawB [3, 4, c + 1, d + 1] = true := by decide +kernel
theorem lawB_35 : ∀ c < 5, ∀ d < 5, lawB [3, 5, c + 1, d + 1] = true := by decide +kernel
theorem lawB_41 : ∀ c < 5, ∀ d < 5, lawB [4, 1, c + 1, d + 1] = true := by decide +kernel
theorem lawB_42 : ∀ c < 5, ∀ d < 5, lawB [4, 2, c + 1, d + 1] = true := by decide +kernel
theorem lawB_43 : ∀ c < 5, ∀ d < 5, lawB [4, 3, c + 1, d + 1] = true := by decide +kernel
theorem lawB_44 : ∀ c < 5, ∀ d < 5, lawB [4, 4, c + 1, d + 1] = true := by decide +kernel
theorem lawB_45 : ∀ c < 5, ∀ d < 5, lawB [4, 5, c + 1, d + 1] = true := by decide +kernel
theorem lawB_51 : ∀ c < 5, ∀ d < 5, lawB [5, 1, c + 1, d + 1] = true := by decide +kernel
theorem lawB_52 : ∀ c < 5, ∀ d < 5, lawB [5, 2, c + 1, d + 1] = true := by decide +kernel
theorem lawB_53 : ∀ c < 5, ∀ d < 5, lawB [5, 3, c + 1, d + 1] = true := by decide +kernel
theorem lawB_54 : ∀ c < 5, ∀ d < 5, lawB [5, 4, c + 1, d + 1] = true := by decide +kernel
theorem lawB_55 : ∀ c < 5, ∀ d < 5, lawB [5, 5, c + 1, d + 1] = true := by decide +kernel
theorem lawB_1 (b : Nat) (hb : b < 5) : ∀ c < 5, ∀ d < 5, lawB [1, b + 1, c + 1, d + 1] = true := by
  have : b = 0 ∨ b = 1 ∨ b = 2 ∨ b = 3 ∨ b = 4 := by omega
  rcases this with rfl | rfl | rfl | rfl | rfl
  · exact lawB_11
  · exact lawB_12
  · exact lawB_13
  · exact lawB_14
  · exact lawB_15
theorem lawB_2 (b : Nat) (hb : b < 5) : ∀ c < 5, ∀ d < 5, lawB [2, b + 1, c + 1, d + 1] = true := by
  have : b = 0 ∨ b = 1 ∨ b = 2 ∨ b = 3 ∨ b = 4 := by omega
  rcases this with rfl | rfl | rfl | rfl | rfl
  · exact lawB_21
  · exact lawB_22
  · exact lawB_23
  · exact lawB_24
  · exact lawB_25
theorem lawB_3 (b : Nat) (hb : b < 5) : ∀ c < 5, ∀ d < 5, lawB [3, b + 1, c + 1, d + 1] = true := by
  have : b = 0 ∨ b = 1 ∨ b = 2 ∨ b = 3 ∨ b = 4 := by omega
  rcases this with rfl | rfl | rfl | rfl | rfl
  · exact lawB_31
  · exact lawB_32
  · exact lawB_33
  · exact lawB_34
  · exact lawB_35
theorem lawB_4 (b : Nat) (hb : b < 5) : ∀ c < 5, ∀ d < 5, lawB [4, b + 1, c + 1, d + 1] = true := by
  have : b = 0 ∨ b = 1 ∨ b = 2 ∨ b = 3 ∨ b = 4 := by omega
  rcases this with rfl | rfl | rfl | rfl | rfl
  · exact lawB_41
  · exact lawB_42
  · exact lawB_43
  · exact lawB_44
  · exact lawB_45
theorem lawB_5 (b : Nat) (hb : b < 5) : ∀ c < 5, ∀ d < 5, lawB [5, b + 1, c + 1, d + 1] = true := by
  have : b = 0 ∨ b = 1 ∨ b = 2 ∨ b = 3 ∨ b = 4 := by omega
  rcases this with rfl | rfl | rfl | rfl | rfl
  · exact lawB_51
  · exact lawB_52
  · exact lawB_53
  · exact lawB_54
  · exact lawB_55
theorem lawB_all {L : List Nat} (h4 : L.length = 4) (h : ∀ l ∈ L, 1 ≤ l ∧ l ≤ 5) : lawB L = true := by
  match L, h4 with
  | [a, b, c, d], _ =>
    have ha := h a (by simp)
    have hb := h b (by simp)
    have hc := h c (by simp)
    have hd := h d (by simp)
    obtain ⟨b', rfl⟩ : ∃ b', b = b' + 1 := ⟨b - 1, by omega⟩
    obtain ⟨c', rfl⟩ : ∃ c', c = c' + 1 := ⟨c - 1, by omega⟩
    obtain ⟨d', rfl⟩ : ∃ d', d = d' + 1 := ⟨d - 1, by omega⟩
    have : a = 1 ∨ a = 2 ∨ a = 3 ∨ a = 4 ∨ a = 5 := by omega
    rcases this with rfl | rfl | rfl | rfl | rfl
    · exact lawB_1 b' (by omega) c' (by omega) d' (by omega)
    · exact lawB_2 b' (by omega) c' (by omega) d' (by omega)
    · exact lawB_3 b' (by omega) c' (by omega) d' (by omega)
    · exact lawB_4 b' (by omega) c' (by omega) d' (by omega)
    · exact lawB_5 b' (by omega) c' (by omega) d' (by omega)

/-- a spot: the octets of its exchanges, and the closing one -/
abbrev Sp := List Nat × Nat
def spL (q : Sp) : List Nat := q.1 ++ [q.2]
def txt : List Sp → List Nat
  | [] => []
  | [q] => List.replicate q.1.length 40
  | q :: m :: r => List.replicate q.1.length 40 ++ 41 :: 92 :: q.2 :: txt (m :: r)
theorem spotText_sp (q : Sp) : spotText (spL q) = List.replicate q.1.length 40 ++ [41, 92, q.2] := by
  unfold spotText spL
  simp
theorem text_all : ∀ (ps : List Sp), ps ≠ [] → ∃ c, (ps.map spL).flatMap spotText = txt ps ++ [41, 92, c]
  | [], h => absurd rfl h
  | [q], _ => ⟨q.2, by simp [txt, spotText_sp]⟩
  | q :: m :: r, _ => by
    obtain ⟨c, hc⟩ := text_all (m :: r) (by simp)
    refine ⟨c, ?_⟩
    rw [List.map_cons, List.flatMap_cons, hc, spotText_sp, txt]
    simp
theorem ringText_sp (ps : List Sp) (h : ps ≠ []) : ringText (ps.map spL) = txt ps := by
  obtain ⟨c, hc⟩ := text_all ps h
  unfold ringText
  rw [hc, List.length_append]
  show List.take (_ + 3 - 3) _ = _
  rw [Nat.add_sub_cancel, List.take_left']
  rfl

theorem pend_rep (r : List Nat) : ∀ n, pend false (List.replicate n 40 ++ r) = pend false r
  | 0 => rfl
  | n + 1 => by rw [List.replicate_succ, List.cons_append, pend, if_neg (by decide), pend_rep r n]
theorem pend_txt : ∀ ps : List Sp, pend false (txt ps) = false
  | [] => rfl
  | [q] => by
    have := pend_rep [] q.1.length
    rw [List.append_nil] at this
    exact this
  | q :: m :: r => by
    rw [txt, pend_rep, pend, if_neg (by decide), pend, if_pos rfl, pend]
    exact pend_txt (m :: r)
theorem escs_rep {P : Nat × List Nat → Prop} (h40 : ∀ p, P (p, [40])) (r : List Nat) : ∀ n p, (∀ y ∈ escs (p + n) false r, P y) → ∀ y ∈ escs p false (List.replicate n 40 ++ r), P y
  | 0, p, h => h
  | n + 1, p, h => by
    rw [List.replicate_succ, List.cons_append, escs, if_neg (by decide)]
    intro y hy
    rcases List.mem_cons.mp hy with rfl | hy
    · exact h40 p
    · exact escs_rep h40 r n (p + 1) (by rw [Nat.add_assoc, Nat.add_comm 1 n]; exact h) y hy
theorem quote_txt : ∀ (ps : List Sp) (p : Nat), ∀ y ∈ escs p false (txt ps), y.2 ≠ [34]
  | [], p => fun y h => nomatch h
  | [q], p => by
    have := escs_rep (P := fun y => y.2 ≠ [34]) (fun p => by simp) [] q.1.length p (fun y h => nomatch h)
    rw [List.append_nil] at this
    exact this
  | q :: m :: r, p => by
    rw [txt]
    refine escs_rep (P := fun y => y.2 ≠ [34]) (fun p => by simp) _ _ _ ?_
    rw [escs, if_neg (by decide), escs, if_pos rfl, escs]
    intro y hy
    rcases List.mem_cons.mp hy with rfl | hy
    · simp
    · rcases List.mem_cons.mp hy with rfl | hy
      · simp
      · exact quote_txt (m :: r) _ y hy
theorem chk_rep (r : List Nat) : ∀ n p (o : Int), chkF (escs p false (List.replicate n 40 ++ r)) o = chkF (escs (p + n) false r) (o + n)
  | 0, p, o => by simp
  | n + 1, p, o => by
    rw [List.replicate_succ, List.cons_append, escs, if_neg (by decide), chkF, if_pos rfl, chk_rep r n]
    congr 1
    · rw [Nat.add_assoc, Nat.add_comm 1 n]
    · omega
theorem chk_txt : ∀ (ps : List Sp) (p : Nat) (o : Int), ps ≠ [] → chkF (escs p false (txt ps)) o = chkN (ps.map fun q => q.1.length) o
  | [], _, _, h => absurd rfl h
  | [q], p, o, _ => by
    have := chk_rep [] q.1.length p o
    rw [List.append_nil] at this
    rw [txt, this]; rfl
  | q :: m :: r, p, o, _ => by
    rw [txt, chk_rep, escs, if_neg (by decide), escs, if_pos rfl, escs, chkF, if_neg (by simp), if_pos rfl, List.map_cons, List.map_cons, chkN]
    by_cases h : o + (q.1.length : Nat) - 1 < 0
    · rw [if_pos h, if_pos h]
    · rw [if_neg h, if_neg h, chkF, if_neg (by simp), if_neg (by simp)]
      have := chk_txt (m :: r) (p + q.1.length + 1 + 1 + 1) (o + (q.1.length : Nat) - 1) (by simp)
      rw [List.map_cons] at this
      exact this
theorem txt_len : ∀ ps : List Sp, (∀ q ∈ ps, q.1.length ≤ 9) → (txt ps).length ≤ ps.length * 12
  | [], _ => Nat.zero_le _
  | [q], h => by
    have := h q (by simp)
    rw [txt, List.length_replicate, List.length_singleton]; omega
  | q :: m :: r, h => by
    have h1 := h q (by simp)
    have h2 := txt_len (m :: r) fun x hx => h x (List.mem_cons_of_mem _ hx)
    rw [txt, List.length_append, List.length_replicate, List.length_cons, List.length_cons, List.length_cons]
    simp only [List.length_cons] at h2 ⊢
    omega

theorem vgo_stop {f val b : Nat} {r : List Nat} (h : b &&& 64 = 0) : vgo (f + 1) val b r = some (val, r) := by unfold vgo; rw [if_pos h]
theorem vgo_run (c : Nat) (rest : List Nat) (hc : c &&& 64 = 0) : ∀ (os : List Nat) (f val o : Nat), o &&& 64 ≠ 0 → (∀ x ∈ os, x &&& 64 ≠ 0) → os.length + 2 ≤ f → (val + 1) * 64 ^ os.length ≤ 2 ^ 50 →
    vgo f val o (os ++ c :: rest) = some ((os.foldl (fun v d => v * 64 + d % 64) val) * 64 + c % 64, rest)
  | [], f, val, o, ho, _, hf, hv => by
    obtain ⟨f, rfl⟩ : ∃ g, f = g + 2 := ⟨f - 2, by simp at hf; omega⟩
    have hv' : val < 2 ^ 50 := by simp at hv; omega
    rw [List.nil_append, vgo, if_neg ho]
    try dsimp only
    rw [if_pos hv', vgo_stop hc]
    rfl
  | b :: os, f, val, o, ho, hos, hf, hv => by
    obtain ⟨f, rfl⟩ : ∃ g, f = g + 1 := ⟨f - 1, by rw [List.length_cons] at hf; omega⟩
    have hp : 1 ≤ 64 ^ (b :: os).length := Nat.pow_pos (by decide)
    have hv' : val < 2 ^ 50 := by
      have := Nat.le_mul_of_pos_right (val + 1) hp
      omega
    rw [List.cons_append, vgo, if_neg ho]
    try dsimp only
    rw [if_pos hv']
    refine vgo_run c rest hc os f (val * 64 + b % 64) b (hos b (by simp)) (fun x hx => hos x (List.mem_cons_of_mem _ hx)) (by rw [List.length_cons] at hf; omega) ?_
    refine Nat.le_trans (Nat.mul_le_mul_right _ (?_ : val * 64 + b % 64 + 1 ≤ (val + 1) * 64)) ?_
    · have := Nat.mod_lt b (by decide : 64 > 0); omega
    · rw [List.length_cons, Nat.pow_succ] at hv
      rw [Nat.mul_assoc, Nat.mul_comm 64]; exact hv
theorem fold_mod : ∀ (os : List Nat) (v : Nat), os.foldl (fun v d => v * 64 + d % 64) v = (os.map (· % 64)).foldl (fun v d => v * 64 + d) v
  | [], _ => rfl
  | o :: os, v => by rw [List.map_cons, List.foldl_cons, List.foldl_cons, fold_mod os]
structure SpOk (q : Sp) : Prop where
  len : q.1.length ≤ 4
  cont : ∀ x ∈ q.1, x &&& 64 ≠ 0
  clos : q.2 &&& 64 = 0
  small : q.2 ≤ 1000
def valS (q : Sp) : Nat := numD (q.1.map (· % 64)) * 64 + q.2 % 64
theorem vread_sp {q : Sp} (h : SpOk q) (rest : List Nat) : vread (q.1 ++ q.2 :: rest) = some (valS q, rest) := by
  obtain ⟨os, c⟩ := q
  cases os with
  | nil =>
    show vgo (19 + 1) (c % 64) c rest = _
    rw [vgo_stop h.clos]
    simp [valS, numD]
  | cons o os =>
    show vgo 20 (o % 64) o (os ++ c :: rest) = _
    have hl := h.len
    have hl' : os.length ≤ 3 := by simpa using hl
    rw [vgo_run c rest h.clos os 20 (o % 64) o (h.cont o (by simp)) (fun x hx => h.cont x (List.mem_cons_of_mem _ hx)) (by omega) ?_, fold_mod]
    · simp [valS, numD]
    · have hm := Nat.mod_lt o (by decide : 64 > 0)
      have h1 : (64 : Nat) ^ os.length ≤ 64 ^ 3 := Nat.pow_le_pow_right (by decide) hl'
      exact Nat.le_trans (Nat.mul_le_mul (by omega : o % 64 + 1 ≤ 64) h1) (by decide)
theorem vreads_sp : ∀ (ps : List Sp) (f : Nat), (∀ q ∈ ps, SpOk q) → ps.length + 1 ≤ f → vreads f (ps.map spL).flatten = some (ps.map valS)
  | [], f, _, hf => by
    obtain ⟨f, rfl⟩ : ∃ g, f = g + 1 := ⟨f - 1, by simp at hf; omega⟩
    rfl
  | q :: ps, f, h, hf => by
    obtain ⟨f, rfl⟩ : ∃ g, f = g + 1 := ⟨f - 1, by rw [List.length_cons] at hf; omega⟩
    have ih := vreads_sp ps f (fun x hx => h x (List.mem_cons_of_mem _ hx)) (by rw [List.length_cons] at hf; omega)
    have hv := vread_sp (h q (by simp)) (ps.map spL).flatten
    have e : ((q :: ps).map spL).flatten = q.1 ++ q.2 :: (ps.map spL).flatten := by simp [spL]
    rw [e]
    obtain ⟨b, r, hbr⟩ : ∃ b r, q.1 ++ q.2 :: (ps.map spL).flatten = b :: r := by
      cases q.1 with
      | nil => exact ⟨_, _, rfl⟩
      | cons o os => exact ⟨_, _, rfl⟩
    rw [hbr] at hv ⊢
    unfold vreads
    try dsimp only
    rw [hv]
    try dsimp only
    rw [ih]
    rfl

theorem lowerStep_eq {ns qs : List Nat} (h : ns.map (· / 64) = qs) (hl : ∀ n ∈ ns, n < 64 ^ 6) (u : US) (l : Nat) : lowerStep ns u l = lowerStepG qs u l := by
  unfold lowerStep lowerStepG
  subst h
  rw [List.getElem?_map]
  cases e : ns[l - 1]? with
  | none => rfl
  | some n =>
    dsimp only [Option.map]
    rw [if_pos (hl n (List.mem_of_getElem? e))]
    all_goals rfl
theorem uppers_eq {ns qs : List Nat} (h : ns.map (· / 64) = qs) (hl : ∀ n ∈ ns, n < 64 ^ 6) : uppersF ns = uppersG qs := by
  unfold uppersF uppersG
  rw [show lowerStep ns = lowerStepG qs from funext fun u => funext fun l => lowerStep_eq h hl u l]

def spOf (draws : List Nat) (place : Nat) : Sp := ((octsOf draws place).reverse, draws.getD (place % 4) 0 / 10 % 64 + 128 * (draws.getD (place % 4) 0 / 10 / 64 % 2))
theorem spotOf_sp (draws : List Nat) (place : Nat) : spotOf draws place = spL (spOf draws place) := rfl
def psOf (draws : List Nat) (i : Nat) : List Sp := [0, 1, 2, 3, 4].map fun p => spOf draws ((p + i) % 5)
theorem ring_sp (draws : List Nat) {i : Nat} (hi : i < 5) : ringOf draws i = (psOf draws i).map spL := by
  have : i = 0 ∨ i = 1 ∨ i = 2 ∨ i = 3 ∨ i = 4 := by omega
  rcases this with rfl | rfl | rfl | rfl | rfl <;> rfl

theorem clos_bits : ∀ a < 64, ∀ b < 2, (a + 128 * b) &&& 64 = 0 := by decide
theorem octs_bits : ∀ j < 4, ∀ b < 2, (65 + j + 128 * b) &&& 64 ≠ 0 := by decide
theorem octs_lt {draws : List Nat} (h4 : draws.length = 4) {x : Nat × Nat} (hx : x ∈ draws.zipIdx) : x.2 < 4 := by
  obtain ⟨k, hk⟩ := List.mem_iff_getElem?.mp hx
  rw [List.getElem?_zipIdx] at hk
  cases e : draws[k]? with
  | none => rw [e] at hk; cases hk
  | some d =>
    rw [e] at hk
    have hk' : (d, 0 + k) = x := Option.some.inj hk
    have := (List.getElem?_eq_some_iff.mp e).1
    rw [← hk']
    dsimp only
    omega
theorem sp_ok {draws : List Nat} (h4 : draws.length = 4) (place : Nat) : SpOk (spOf draws place) := by
  refine ⟨?_, fun x hx => ?_, ?_, ?_⟩
  · unfold spOf octsOf
    dsimp only
    rw [List.length_reverse, List.length_map]
    have h1 := List.length_filter_le (fun p : Nat × Nat => p.1 % 5 == place) draws.zipIdx
    rw [List.length_zipIdx] at h1
    omega
  · unfold spOf octsOf at hx
    have hx' := List.mem_reverse.mp hx
    obtain ⟨q, hq, rfl⟩ := List.mem_map.mp hx'
    exact octs_bits q.2 (octs_lt h4 (List.mem_filter.mp hq).1) _ (Nat.mod_lt _ (by decide))
  · exact clos_bits _ (Nat.mod_lt _ (by decide)) _ (Nat.mod_lt _ (by decide))
  · show draws.getD (place % 4) 0 / 10 % 64 + 128 * (draws.getD (place % 4) 0 / 10 / 64 % 2) ≤ 1000
    omega

theorem digs_sp {draws : List Nat} (h4 : draws.length = 4) {i p : Nat} (hi : i < 5) (hp : p < 5) : (spOf draws ((p + i) % 5)).1.map (· % 64) = digs (lowersOf draws i) (p + 1) := by
  unfold spOf octsOf digs lowersOf
  dsimp only
  rw [List.map_reverse, List.map_map, List.zipIdx_map, List.filter_map, List.map_map]
  congr 1
  have e : List.filter ((fun x : Nat × Nat => x.1 == p + 1) ∘ Prod.map (fun d => (d + 5 - i) % 5 + 1) id) draws.zipIdx = List.filter (fun q => q.1 % 5 == (p + i) % 5) draws.zipIdx := by
    refine List.filter_congr fun x _ => ?_
    show ((x.1 + 5 - i) % 5 + 1 == p + 1) = (x.1 % 5 == (p + i) % 5)
    rw [Bool.eq_iff_iff, beq_iff_eq, beq_iff_eq]
    omega
  rw [e]
  refine List.map_congr_left fun x hx => ?_
  have := octs_lt h4 (List.mem_filter.mp hx).1
  show (65 + x.2 + 128 * (x.1 / 5 % 2)) % 64 = x.2 + 1
  omega

theorem numD_lt : ∀ (D : List Nat) (v k : Nat), (∀ d ∈ D, d < 64) → v < 64 ^ k → D.foldl (fun v d => v * 64 + d) v < 64 ^ (k + D.length)
  | [], v, k, _, h => h
  | d :: D, v, k, hd, h => by
    have h1 := hd d (by simp)
    have h2 := numD_lt D (v * 64 + d) (k + 1) (fun x hx => hd x (List.mem_cons_of_mem _ hx)) (by rw [Nat.pow_succ]; omega)
    rw [List.foldl_cons, List.length_cons, Nat.add_comm D.length 1, ← Nat.add_assoc]
    exact h2
theorem val_lt {q : Sp} (h : SpOk q) : valS q < 64 ^ 6 ∧ valS q / 64 = numD (q.1.map (· % 64)) ∧ valS q % 64 = q.2 % 64 := by
  have h1 := numD_lt (q.1.map (· % 64)) 0 0 (fun d hd => by
    obtain ⟨x, _, rfl⟩ := List.mem_map.mp hd
    exact Nat.mod_lt _ (by decide)) (by decide)
  rw [List.length_map, Nat.zero_add] at h1
  have h2 : (64 : Nat) ^ q.1.length ≤ 64 ^ 4 := Nat.pow_le_pow_right (by decide) h.len
  have h3 : numD (q.1.map (· % 64)) < 64 ^ 4 := Nat.lt_of_lt_of_le h1 h2
  have h4 : q.2 % 64 < 64 := Nat.mod_lt _ (by decide)
  unfold valS
  refine ⟨?_, by omega, by omega⟩
  have : (64 : Nat) ^ 6 = 64 ^ 4 * 4096 := by decide
  omega

theorem ring_ok (draws : List Nat) (h4 : draws.length = 4) (i : Nat) (hi : i < 5) : RingOk (ringOf draws i) := by
  have hne : psOf draws i ≠ [] := by simp [psOf]
  have hsp : ∀ q ∈ psOf draws i, SpOk q := fun q hq => by
    obtain ⟨p, _, rfl⟩ := List.mem_map.mp hq
    exact sp_ok h4 _
  have hl : (psOf draws i).length = 5 := by simp [psOf]
  rw [ring_sp draws hi]
  refine ⟨by rw [List.length_map, hl], fun sp hs => ?_, ?_, ?_, ?_, ?_⟩
  · obtain ⟨q, hq, rfl⟩ := List.mem_map.mp hs
    have h := hsp q hq
    refine ⟨?_, q.2, by simp [spL], h.small⟩
    have := h.len
    simp [spL]; omega
  · rw [ringText_sp _ hne]
    have := txt_len (psOf draws i) fun q hq => by have := (hsp q hq).len; omega
    omega
  · rw [ringText_sp _ hne]
    intro h
    have : txt (psOf draws i) ≠ [] := by simp [psOf, txt]
    exact this h
  · rw [ringText_sp _ hne]; exact pend_txt _
  · rw [ringText_sp _ hne]; exact quote_txt _ _

theorem plaw (draws : List Nat) (h4 : draws.length = 4) (i : Nat) (hi : i < 5) : PLaw (ringOf draws i) (lowersOf draws i) := by
  have hne : psOf draws i ≠ [] := by simp [psOf]
  have hsp : ∀ q ∈ psOf draws i, SpOk q := fun q hq => by
    obtain ⟨p, _, rfl⟩ := List.mem_map.mp hq
    exact sp_ok h4 _
  have hl : (psOf draws i).length = 5 := by simp [psOf]
  have hlow : (lowersOf draws i).length = 4 := by rw [lowersOf, List.length_map]; exact h4
  have B := lawB_all hlow lowers_ok
  have hd : (psOf draws i).map (fun q => q.1.map (· % 64)) = [1, 2, 3, 4, 5].map fun q => digs (lowersOf draws i) q := by
    unfold psOf
    simp only [List.map_cons, List.map_nil]
    rw [digs_sp h4 hi (by decide : 0 < 5), digs_sp h4 hi (by decide : 1 < 5), digs_sp h4 hi (by decide : 2 < 5), digs_sp h4 hi (by decide : 3 < 5), digs_sp h4 hi (by decide : 4 < 5)]
  have hc : chk (escs 0 false (ringText (ringOf draws i))) = chkA (lowersOf draws i) := by
    rw [ring_sp draws hi, ringText_sp _ hne, chk, chk_txt _ _ _ hne, chkA]
    have := congrArg (List.map List.length) hd
    rw [List.map_map, List.map_map] at this
    rw [show ((psOf draws i).map fun q => q.1.length) = (psOf draws i).map (List.length ∘ fun q => q.1.map (· % 64)) from List.map_congr_left fun q _ => by simp, this]
    rfl
  have hv : vreads 900 (ringOf draws i).flatten = some ((psOf draws i).map valS) := by
    rw [ring_sp draws hi]
    exact vreads_sp _ _ hsp (by rw [hl]; decide)
  have hu : uppersF ((psOf draws i).map valS) = uppersG ([1, 2, 3, 4, 5].map fun q => numD (digs (lowersOf draws i) q)) := by
    refine uppers_eq ?_ fun n hn => ?_
    · have := congrArg (List.map numD) hd
      rw [List.map_map, List.map_map] at this
      rw [List.map_map, show ((psOf draws i).map ((· / 64) ∘ valS)) = (psOf draws i).map (numD ∘ fun q => q.1.map (· % 64)) from List.map_congr_left fun q hq => (val_lt (hsp q hq)).2.1, this]
      rfl
    · obtain ⟨q, hq, rfl⟩ := List.mem_map.mp hn
      exact (val_lt (hsp q hq)).1
  unfold lawB at B
  cases e : chkA (lowersOf draws i) with
  | false =>
    rw [e, if_neg (by decide)] at B
    exact .inr ⟨hc.trans e, eq_of_beq B⟩
  | true =>
    rw [e, if_pos rfl] at B
    refine .inl ⟨hc.trans e, ?_⟩
    cases er : uppersG ([1, 2, 3, 4, 5].map fun q => numD (digs (lowersOf draws i) q)) with
    | none => rw [er] at B; cases B
    | some r =>
      rw [er] at B
      refine ⟨_, r, hv, by rw [List.length_map, hl]; decide, ?_, hu.trans er, eq_of_beq B⟩
      rw [ring_sp draws hi, List.map_map, List.map_map]
      exact List.map_congr_left fun q hq => (val_lt (hsp q hq)).2.2.trans (by simp [spL])
theorem rds_ints {O : List Addr} {h : Heap} : ∀ {vs : List Value} {ns : List Int}, IntsAre vs ns → RDs O h vs (ns.map .int)
  | _, _, .nil => .nil
  | _, _, .cons _ _ t => .cons (.int ..) (rds_ints t)
theorem caller_ok : AOk (2 + 1) callerA := ⟨rfl, by decide +kernel, by decide +kernel⟩
end Mine
set_option maxRecDepth 100000 in
set_option maxHeartbeats 8000000 in
theorem PySem.Challenge.cw_wj0014_01_holds : PySem.Challenge.rw_wj0014_01.Holds := by
  refine Mine.hd ?_
  intro w s₀ s₁ mg mb G Y fa o pm cd doc dV kV ho hd hcd hD hmg hg args vals as hpre hlay hrd hwl hlo
  have KX : (Mine.KK w).In s₁.heap := kIn_of Y
  have T := G.T
  have TO : Mine.TT (Mine.KK w) mg mb s₁.heap := ⟨⟨T.g, T.b, T.builtins, T.nolimit⟩, KX⟩
  have hfa : mg "law" = some (.ref 92) := mg_of KX T.g (by rfl)
  wrow_args hpre hlay hrd hwl hlo
  rename_i ls _ _ _ _ _ _ _ a vs _ hL _ _ _ hI _ hlen _
  have hmg' : mg "law" = some (.ref fa) := hmg
  have efa : fa = 92 := by
    rw [hfa] at hmg'
    injection hmg' with h
    injection h with h
    exact h.symm
  subst efa
  have hz : ls.length ≤ 63 := by omega
  refine Mine.law_ok TO hz Mine.ring_ok Mine.plaw [] s₁ [.ref a] _ _ Mine.caller_ok (fun _ _ e => e) (fun _ q => nomatch q) (fun _ q => nomatch q) (.cons (Mine.RD.list hL (fun q => nomatch q) (by rw [List.toList_toArray]; exact Mine.rds_ints hI)) .nil) fun v s' e r => ?_
  obtain rfl := r.bool_inv
  refine ⟨.inl ⟨.bool true, _, [], rfl, raisesW_false (by wrow_none_raised), readsW_of_reads (.bool true), ?_, ?_⟩, ?_, e.os, e.bare.bare (.of_eq hg)⟩
  · exact postW_of (by wrow_shape) (by wtm_val) (by str_meet; first | done | w_fin)
  · exact unshared_nil
  · exact .of_keep e.keep

