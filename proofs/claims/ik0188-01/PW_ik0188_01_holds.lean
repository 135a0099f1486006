import PyProof.Rows.All
import Wide.All
import OpenK.AllK
import Wide.FinOn
import PySem.Challenge.RW_ik0188_01
set_option Elab.async false
section
set_option autoImplicit false
set_option Elab.async false
open PySem PySem.W PyProof.Rows PySem.Calls
namespace Mine
theorem ar_pred {i m n : Nat} (h : i + m = n) (hl : i < n) : ∃ m', m = m' + 1 := ⟨m - 1, by omega⟩
theorem ar_pos {j : Nat} (h : 1 ≤ j) : ∃ m', j = m' + 1 := ⟨j - 1, by omega⟩
theorem ar_ne {j : Nat} (h : ¬ j = 0) : ∃ m', j = m' + 1 := ⟨j - 1, by omega⟩
theorem ar_step {i m n : Nat} (h : i + (m + 1) = n) : i + 1 + m = n := by omega
theorem ar_end {i m n : Nat} (h : i + m = n) (hl : ¬ i < n) : i = n := by omega
theorem len1 {α : Type} {l : List α} (h : l.length = 1) : ∃ u, l = [u] := by
  cases l with
  | nil => cases h
  | cons u l =>
    cases l with
    | nil => exact ⟨u, rfl⟩
    | cons v l => cases h
theorem len2 {α : Type} {l : List α} (h : l.length = 2) : ∃ u v, l = [u, v] := by
  cases l with
  | nil => cases h
  | cons u l => obtain ⟨v, rfl⟩ := len1 (Nat.succ.inj h); exact ⟨u, v, rfl⟩
theorem len3 {α : Type} {l : List α} (h : l.length = 3) : ∃ u v x, l = [u, v, x] := by
  cases l with
  | nil => cases h
  | cons u l => obtain ⟨v, x, rfl⟩ := len2 (Nat.succ.inj h); exact ⟨u, v, x, rfl⟩
theorem ar_A {N k : Nat} : N ≠ N + (k + 1) := fun h => absurd h (Nat.ne_of_lt (Nat.lt_add_of_pos_right (Nat.succ_pos k)))
theorem ar_B {N k : Nat} : N + (k + 1) ≠ N := fun h => ar_A h.symm
theorem ar_C {N a b : Nat} (h : a ≠ b) : N + a ≠ N + b := fun q => h (Nat.add_left_cancel q)
theorem ln_map {α β : Type} {f : α → β} {l : List α} {k m : Nat} (h : l.length ≤ k) (hk : k ≤ m := by decide) : (l.map f).length ≤ m := by rw [List.length_map]; exact Nat.le_trans h hk
theorem ar_n {m n k : Nat} (h : n = m) (hk : k ≤ m := by decide) : k ≤ n := h ▸ hk
theorem ar_n2 {m n n' k : Nat} (h' : n' = n) (h : n = m) (hk : k ≤ m := by decide) : k ≤ n' := h' ▸ h ▸ hk
abbrev PH := Addr → Option Obj
def Sub (f g : PH) : Prop := ∀ a o, f a = some o → g a = some o
def Inn (f : PH) (h : Heap) : Prop := ∀ a o, f a = some o → h.get? a = some o
theorem Sub.refl (f : PH) : Sub f f := fun _ _ e => e
theorem Sub.trans {f g k : PH} (x : Sub f g) (y : Sub g k) : Sub f k := fun a o e => y a o (x a o e)
inductive D where
  | none
  | bool (b : Bool)
  | int (i : Int)
  | str (s : Str)
  | list (l : List D)
  | tup (l : List D)
  | ty (T : String)
def lobj (vs : List Value) (n : Nat) : Obj := ⟨.type "list", none, .seq vs.toArray n, #[]⟩
def tobj (vs : List Value) (n : Nat) : Obj := ⟨.type "tuple", none, .seq vs.toArray n, #[]⟩
mutual
inductive Rep (f : PH) : Value → D → Prop
  | none : Rep f .none .none
  | bool (b : Bool) : Rep f (.bool b) (.bool b)
  | int (i : Int) (t : Tok) : Rep f (.int i t) (.int i)
  | str (s : Str) (t : Tok) : Rep f (.str s t) (.str s)
  | ty (T : String) : Rep f (.type T) (.ty T)
  | list (a : Addr) (vs : List Value) (n : Nat) (ds : List D) : f a = some (lobj vs n) → Reps f vs ds → Rep f (.ref a) (.list ds)
  | tup (a : Addr) (vs : List Value) (n : Nat) (ds : List D) : f a = some (tobj vs n) → Reps f vs ds → Rep f (.ref a) (.tup ds)
inductive Reps (f : PH) : List Value → List D → Prop
  | nil : Reps f [] []
  | cons (v : Value) (d : D) (vs : List Value) (ds : List D) : Rep f v d → Reps f vs ds → Reps f (v :: vs) (d :: ds)
end
mutual
theorem Rep.mono {f g : PH} (k : Sub f g) : ∀ {v : Value} {d : D}, Rep f v d → Rep g v d
  | _, _, .none => .none
  | _, _, .bool b => .bool b
  | _, _, .int i t => .int i t
  | _, _, .str s t => .str s t
  | _, _, .ty T => .ty T
  | _, _, .list a vs n ds e r => .list a vs n ds (k _ _ e) (Reps.mono k r)
  | _, _, .tup a vs n ds e r => .tup a vs n ds (k _ _ e) (Reps.mono k r)
theorem Reps.mono {f g : PH} (k : Sub f g) : ∀ {vs : List Value} {ds : List D}, Reps f vs ds → Reps g vs ds
  | _, _, .nil => .nil
  | _, _, .cons v d vs ds r rs => .cons v d vs ds (Rep.mono k r) (Reps.mono k rs)
end
theorem Reps.length {f : PH} : ∀ {vs : List Value} {ds : List D}, Reps f vs ds → vs.length = ds.length
  | _, _, .nil => rfl
  | _, _, .cons _ _ _ _ _ rs => by simp [Reps.length rs]
theorem Reps.get {f : PH} : ∀ {vs : List Value} {ds : List D}, Reps f vs ds → ∀ {i : Nat} {d : D}, ds[i]? = some d → ∃ v, vs[i]? = some v ∧ Rep f v d
  | _, _, .nil, i, d, e => by simp at e
  | _, _, .cons v d' vs ds r rs, 0, d, e => by
    simp only [List.getElem?_cons_zero, Option.some.injEq] at e; subst e; exact ⟨v, rfl, r⟩
  | _, _, .cons v d' vs ds r rs, i + 1, d, e => by
    simp only [List.getElem?_cons_succ] at e ⊢; exact rs.get e
theorem Reps.append {f : PH} : ∀ {vs us : List Value} {ds es : List D}, Reps f vs ds → Reps f us es → Reps f (vs ++ us) (ds ++ es)
  | _, _, _, _, .nil, r => r
  | _, _, _, _, .cons v d vs ds r rs, q => .cons v d _ _ r (rs.append q)
theorem Reps.drop {f : PH} : ∀ {vs : List Value} {ds : List D}, Reps f vs ds → ∀ n, Reps f (vs.drop n) (ds.drop n)
  | _, _, .nil, n => by simp; exact .nil
  | _, _, .cons v d vs ds r rs, 0 => .cons v d vs ds r rs
  | _, _, .cons v d vs ds r rs, n + 1 => rs.drop n
theorem Reps.take {f : PH} : ∀ {vs : List Value} {ds : List D}, Reps f vs ds → ∀ n, Reps f (vs.take n) (ds.take n)
  | _, _, .nil, n => by simp; exact .nil
  | _, _, .cons v d vs ds r rs, 0 => .nil
  | _, _, .cons v d vs ds r rs, n + 1 => .cons v d _ _ r (rs.take n)
theorem Reps.one {f : PH} {v : Value} {d : D} (r : Rep f v d) : Reps f [v] [d] := .cons _ _ _ _ r .nil
def Ext (h h' : Heap) : Prop := ∀ a o, h.get? a = some o → ∃ sl, h'.get? a = some { o with slots := sl } ∧ ((∀ es ep, o.data ≠ .dict es ep) → sl = o.slots)
structure Step (f : PH) (s : Shared) (f' : PH) (s' : Shared) : Prop where
  sub : Sub f f'
  inn : Inn f' s'.heap
  ext : Ext s.heap s'.heap
  new : ∀ a o, f' a = some o → f a = some o ∨ s.heap.get? a = none
  toks : s.toks ≤ s'.toks
  os : s'.os = s.os
  gens : s'.gens = s.gens
theorem Ext.refl (h : Heap) : Ext h h := fun _ o e => ⟨o.slots, e, fun _ => rfl⟩
theorem Ext.trans {h h' h'' : Heap} (x : Ext h h') (y : Ext h' h'') : Ext h h'' := fun a o e => by
  obtain ⟨sl, e', k⟩ := x a o e
  obtain ⟨sl', e'', k'⟩ := y a _ e'
  exact ⟨sl', e'', fun q => (k' q).trans (k q)⟩
theorem Ext.of_keep {h h' : Heap} (hk : ∀ b o, h.get? b = some o → h'.get? b = some o) : Ext h h' := fun a o e => ⟨o.slots, hk a o e, fun _ => rfl⟩
theorem Ext.seq {h h' : Heap} (x : Ext h h') {a : Addr} {o : Obj} (e : h.get? a = some o) (hd : ∀ es ep, o.data ≠ .dict es ep) : h'.get? a = some o := by
  obtain ⟨sl, e', k⟩ := x a o e
  rw [k hd] at e'; exact e'
theorem Ext.gone {h h' : Heap} (x : Ext h h') {a : Addr} (e : h'.get? a = none) : h.get? a = none := by
  cases q : h.get? a with
  | none => rfl
  | some o => obtain ⟨sl, e', _⟩ := x a o q; rw [e] at e'; cases e'
theorem Step.refl {f : PH} {s : Shared} (i : Inn f s.heap) : Step f s f s :=
  ⟨.refl f, i, .refl _, fun _ _ e => .inl e, Nat.le_refl _, rfl, rfl⟩
theorem Step.trans {f f' f'' : PH} {s s' s'' : Shared} (x : Step f s f' s') (y : Step f' s' f'' s'') : Step f s f'' s'' :=
  ⟨x.sub.trans y.sub, y.inn, x.ext.trans y.ext, fun a o e => (y.new a o e).elim (x.new a o) fun e' => .inr (x.ext.gone e'),
    Nat.le_trans x.toks y.toks, y.os.trans x.os, y.gens.trans x.gens⟩
def grow (f : PH) (h h' : Heap) : PH := fun a => match h.get? a with
  | some _ => f a
  | none => h'.get? a
theorem grow_sub {f : PH} {h h' : Heap} (i : Inn f h) : Sub f (grow f h h') := fun a o e => by
  unfold grow; rw [i a o e]; exact e
theorem grow_new {f : PH} {h h' : Heap} {a : Addr} {o : Obj} (n : h.get? a = none) (e : h'.get? a = some o) : grow f h h' a = some o := by
  unfold grow; rw [n]; exact e
theorem Step.keep {f : PH} {s : Shared} {h' : Heap} {k : Nat} (i : Inn f s.heap) (hk : ∀ b o, s.heap.get? b = some o → h'.get? b = some o) (ht : s.toks ≤ k) :
    Step f s (grow f s.heap h') { s with heap := h', toks := k } := by
  refine ⟨grow_sub i, fun a o e => ?_, Ext.of_keep hk, fun a o e => ?_, ht, rfl, rfl⟩
  · unfold grow at e
    split at e
    · rename_i o' q; exact hk a o (i a o e)
    · exact e
  · unfold grow at e
    split at e
    · exact .inl e
    · rename_i q; exact .inr q
theorem Step.same {f : PH} {s : Shared} {k : Nat} (i : Inn f s.heap) (ht : s.toks ≤ k) : Step f s f { s with toks := k } :=
  ⟨.refl f, i, .refl _, fun _ _ e => .inl e, ht, rfl, rfl⟩
theorem Step.same' {f : PH} {s : Shared} {h' : Heap} {k : Nat} (i : Inn f s.heap) (hk : ∀ b o, s.heap.get? b = some o → h'.get? b = some o) (ht : s.toks ≤ k) :
    Step f s f { s with heap := h', toks := k } :=
  ⟨.refl f, fun a o e => hk a o (i a o e), Ext.of_keep hk, fun _ _ e => .inl e, ht, rfl, rfl⟩
def FF (f : PH) (h : Heap) (l : List Env) : Prop :=
  ∀ env ∈ l, env.scope.kind ≠ .module ∧ ∃ L o, env.frame = some L ∧ f L = none ∧ h.get? L = some o ∧ ∃ es ep, o.data = .dict es ep
structure AOK (A : Around) (n : Nat) (f : PH) (h : Heap) : Prop where
  handled : 0 < n → A.handled = none
  depth : A.depth + n < 900
  units : A.units + 10 * n < 9000
  frames : ∃ l, A.frames = some l ∧ FF f h l
theorem FF.step {f f' : PH} {s s' : Shared} {l : List Env} (x : FF f s.heap l) (st : Step f s f' s') : FF f' s'.heap l := fun env he => by
  obtain ⟨k, L, o, hf, hn, ho, hd⟩ := x env he
  obtain ⟨sl, e, _⟩ := st.ext L o ho
  refine ⟨k, L, _, hf, ?_, e, hd⟩
  cases q : f' L with
  | none => rfl
  | some o' =>
    rcases st.new L o' q with r | r
    · rw [hn] at r; cases r
    · rw [ho] at r; cases r
theorem AOK.step {A : Around} {n : Nat} {f f' : PH} {s s' : Shared} (x : AOK A n f s.heap) (st : Step f s f' s') : AOK A n f' s'.heap :=
  ⟨x.handled, x.depth, x.units, let ⟨l, e, k⟩ := x.frames; ⟨l, e, k.step st⟩⟩
theorem AOK.room {A : Around} {n : Nat} {f : PH} {h : Heap} (x : AOK A n f h) : A.depth < recursionLimit := by
  have := x.depth; show A.depth < 1000; omega
theorem AOK.line {A : Around} {n : Nat} {f : PH} {h : Heap} (x : AOK A n f h) : A.units < cLine := by
  have := x.units; show A.units < 9900; omega
structure Cx (prog : Program) (w : World) (G : Heap) (vs : List Str) (nl : Nat) (oc : Bool) (gs : List Str) where
  A : Around
  env : Env
  n : Nat
  kind : env.scope.kind = .function
  glo : env.globals = mainGlobals
  bui : env.builtins = builtinsNs
  loc : ∀ (i : Nat) x, i < nl → vs[i]? = some x → env.kindOf x = some .local
  cel : ∀ (i : Nat) x, nl ≤ i → vs[i]? = some x → (env.kindOf x = some .cell ∨ env.kindOf x = some .free) ∧ ∃ ca, env.cells.lookup x = some ca
  own : oc = true → ∀ (i : Nat) x, nl ≤ i → vs[i]? = some x → env.kindOf x = some .cell
  glob : ∀ x ∈ gs, env.kindOf x = some .globalImplicit
  nodup : vs.Nodup
  nodeb : ∀ x ∈ vs ++ gs, (x == ("__debug__" : Str)) = false
  nocd : ∀ x ∈ vs, (x == ("__classdict__" : Str)) = false
  inj : ∀ x y ca, env.cells.lookup x = some ca → env.cells.lookup y = some ca → x = y
structure Bs {prog : Program} {w : World} {G : Heap} {vs : List Str} {nl : Nat} {oc : Bool} {gs : List Str} (c : Cx prog w G vs nl oc gs) where
  f0 : PH
  s0 : Shared
  gsub : Sub G.get? f0
  tok0 : 0 ≤ s0.toks
  newL : s0.heap.get? c.env.locals = none
  ownc : oc = true → ∀ x ca, c.env.cells.lookup x = some ca → s0.heap.get? ca = none
inductive AV where
  | undef
  | dat (d : D)
  | own (ds : List D)
section
variable {prog : Program} {w : World} {G : Heap} {vs : List Str} {nl : Nat} {oc : Bool} {gs : List Str}
def Holds (c : Cx prog w G vs nl oc gs) (h : Heap) (x : Str) (v : Value) : Prop :=
  (c.env.kindOf x = some .local ∧ ∃ m, h.Ns c.env.locals m ∧ m x = some v) ∨
  ((c.env.kindOf x = some .cell ∨ c.env.kindOf x = some .free) ∧ ∃ ca, c.env.cells.lookup x = some ca ∧ h.IsCell ca (some v))
def OwnAt {c : Cx prog w G vs nl oc gs} (B : Bs c) (f : PH) (h : Heap) (a : Addr) (ds : List D) : Prop :=
  ∃ us n, h.get? a = some (lobj us n) ∧ f a = none ∧ B.s0.heap.get? a = none ∧ Reps f us ds
def AVOk {c : Cx prog w G vs nl oc gs} (B : Bs c) (f : PH) (h : Heap) (x : Str) : AV → Prop
  | .undef => True
  | .dat d => ∃ v, Holds c h x v ∧ Rep f v d
  | .own ds => ∃ a, Holds c h x (.ref a) ∧ OwnAt B f h a ds
structure Good (c : Cx prog w G vs nl oc gs) (B : Bs c) (ρ : List AV) (f : PH) (s : Shared) : Prop where
  st : Step B.f0 B.s0 f s
  aok : AOK c.A c.n f s.heap
  ns : ∃ m, s.heap.Ns c.env.locals m
  fL : f c.env.locals = none
  fc : ∀ x ca, c.env.cells.lookup x = some ca → f ca = none ∧ ∃ v, s.heap.IsCell ca v
  vals : ∀ (i : Nat) x a, vs[i]? = some x → ρ[i]? = some a → AVOk B f s.heap x a
  apart : ∀ (i j : Nat) x y ds es a, i ≠ j → vs[i]? = some x → vs[j]? = some y → ρ[i]? = some (.own ds) → ρ[j]? = some (.own es) → Holds c s.heap x (.ref a) → Holds c s.heap y (.ref a) → False
theorem Good.inn {c : Cx prog w G vs nl oc gs} {B : Bs c} {ρ : List AV} {f : PH} {s : Shared} (g : Good c B ρ f s) : Inn f s.heap := g.st.inn
theorem Good.tok {c : Cx prog w G vs nl oc gs} {B : Bs c} {ρ : List AV} {f : PH} {s : Shared} (g : Good c B ρ f s) : 0 ≤ s.toks := Nat.le_trans B.tok0 g.st.toks
theorem Good.gsub {c : Cx prog w G vs nl oc gs} {B : Bs c} {ρ : List AV} {f : PH} {s : Shared} (g : Good c B ρ f s) : Sub G.get? f := B.gsub.trans g.st.sub
theorem Good.keepG {c : Cx prog w G vs nl oc gs} {B : Bs c} {ρ : List AV} {f : PH} {s : Shared} (g : Good c B ρ f s) : ∀ b o, G.get? b = some o → s.heap.get? b = some o :=
  fun b o e => g.inn b o (g.gsub b o e)
theorem Ns.ext {h h' : Heap} {a : Addr} {m : Str → Option Value} (hn : h.Ns a m) (x : Ext h h') : h'.Ns a m :=
  let ⟨o, es, ep, e, hd, r⟩ := hn; let ⟨_, e', _⟩ := x a o e; ⟨_, es, ep, e', hd, r⟩
theorem IsCell.ext {h h' : Heap} {a : Addr} {v : Option Value} (hn : h.IsCell a v) (x : Ext h h') : h'.IsCell a v :=
  let ⟨o, e, hd⟩ := hn; let ⟨_, e', _⟩ := x a o e; ⟨_, e', hd⟩
theorem Holds.ext {c : Cx prog w G vs nl oc gs} {h h' : Heap} {x : Str} {v : Value} (y : Holds c h x v) (e : Ext h h') : Holds c h' x v :=
  y.imp (fun ⟨k, m, hn, hm⟩ => ⟨k, m, Ns.ext hn e, hm⟩) fun ⟨k, ca, hc, hv⟩ => ⟨k, ca, hc, IsCell.ext hv e⟩
theorem Ns.unique {h : Heap} {a : Addr} {m m' : Str → Option Value} (x : h.Ns a m) (y : h.Ns a m') : m = m' := by
  obtain ⟨o, es, ep, e, hd, _, r⟩ := x
  obtain ⟨o', es', ep', e', hd', _, r'⟩ := y
  rw [e] at e'; cases e'
  rw [hd] at hd'; cases hd'
  exact funext fun x => (r x).symm.trans (r' x)
theorem IsCell.unique {h : Heap} {a : Addr} {v v' : Option Value} (x : h.IsCell a v) (y : h.IsCell a v') : v = v' := by
  obtain ⟨o, e, hd⟩ := x
  obtain ⟨o', e', hd'⟩ := y
  rw [e] at e'; cases e'
  rw [hd] at hd'; cases hd'
  rfl
theorem Holds.unique {c : Cx prog w G vs nl oc gs} {h : Heap} {x : Str} {v v' : Value} (y : Holds c h x v) (z : Holds c h x v') : v = v' := by
  rcases y with ⟨k, m, hn, hm⟩ | ⟨k, ca, hc, hv⟩ <;> rcases z with ⟨k', m', hn', hm'⟩ | ⟨k', ca', hc', hv'⟩
  · rw [Ns.unique hn hn'] at hm; rw [hm] at hm'; exact Option.some.inj hm'
  · rw [k] at k'; rcases k' with e | e <;> cases e
  · rw [k'] at k; rcases k with e | e <;> cases e
  · rw [hc] at hc'; cases hc'; exact Option.some.inj (IsCell.unique hv hv')
theorem OwnAt.step {c : Cx prog w G vs nl oc gs} {B : Bs c} {f f' : PH} {s s' : Shared} {a : Addr} {ds : List D} (x : OwnAt B f s.heap a ds) (st : Step f s f' s') : OwnAt B f' s'.heap a ds := by
  obtain ⟨us, n, e, hf, h0, r⟩ := x
  refine ⟨us, n, st.ext.seq e (fun es ep q => by cases q), ?_, h0, r.mono st.sub⟩
  cases q : f' a with
  | none => rfl
  | some o =>
    rcases st.new a o q with z | z
    · rw [hf] at z; cases z
    · rw [e] at z; cases z
theorem AVOk.step {c : Cx prog w G vs nl oc gs} {B : Bs c} {f f' : PH} {s s' : Shared} {x : Str} {a : AV} (y : AVOk B f s.heap x a) (st : Step f s f' s') : AVOk B f' s'.heap x a := by
  cases a with
  | undef => trivial
  | dat d => obtain ⟨v, hh, r⟩ := y; exact ⟨v, hh.ext st.ext, r.mono st.sub⟩
  | own ds => obtain ⟨a, hh, o⟩ := y; exact ⟨a, hh.ext st.ext, o.step st⟩
theorem none_step {f f' : PH} {s s' : Shared} {a : Addr} {o : Obj} (st : Step f s f' s') (hf : f a = none) (ho : s.heap.get? a = some o) : f' a = none := by
  cases q : f' a with
  | none => rfl
  | some o' =>
    rcases st.new a o' q with r | r
    · rw [hf] at r; cases r
    · rw [ho] at r; cases r
theorem Holds.back {c : Cx prog w G vs nl oc gs} {B : Bs c} {ρ : List AV} {f f' : PH} {s s' : Shared} (g : Good c B ρ f s) (st : Step f s f' s') {x : Str} (hx : x ∈ vs) {v : Value} (y : Holds c s'.heap x v) : Holds c s.heap x v := by
  rcases y with ⟨k, m, hn, hm⟩ | ⟨k, ca, hc, hv⟩
  · obtain ⟨m', hn'⟩ := g.ns
    have := Ns.unique hn (Ns.ext hn' st.ext)
    exact .inl ⟨k, m', hn', this ▸ hm⟩
  · obtain ⟨_, v', hv'⟩ := g.fc x ca hc
    have := IsCell.unique hv (IsCell.ext hv' st.ext)
    exact .inr ⟨k, ca, hc, this ▸ hv'⟩
theorem Good.step {c : Cx prog w G vs nl oc gs} {B : Bs c} {ρ : List AV} {f f' : PH} {s s' : Shared} (g : Good c B ρ f s) (st : Step f s f' s') : Good c B ρ f' s' := by
  refine ⟨g.st.trans st, g.aok.step st, ?_, ?_, fun x ca hc => ?_, fun i x a hx ha => (g.vals i x a hx ha).step st, fun i j x y ds es a hij hx hy hi hj h1 h2 => ?_⟩
  · obtain ⟨m, hn⟩ := g.ns; exact ⟨m, Ns.ext hn st.ext⟩
  · obtain ⟨m, o, es, ep, e, _⟩ := g.ns; exact none_step st g.fL e
  · obtain ⟨hf, v, hv⟩ := g.fc x ca hc
    refine ⟨?_, v, IsCell.ext hv st.ext⟩
    obtain ⟨o, e, _⟩ := hv
    exact none_step st hf e
  · exact g.apart i j x y ds es a hij hx hy hi hj (h1.back g st (List.mem_of_getElem? hx)) (h2.back g st (List.mem_of_getElem? hy))
end
end Mine
end
section
set_option autoImplicit false
set_option Elab.async false
set_option linter.unusedVariables false
open PySem PySem.W PyProof.Rows PySem.Calls
namespace Mine
section
variable {prog : Program} {w : World} {G : Heap} {vs : List Str} {nl : Nat} {oc : Bool} {gs : List Str}
theorem getElem?_set_ne' {α : Type} {l : List α} {i j : Nat} {a b : α} (h : i ≠ j) (e : (l.set i a)[j]? = some b) : l[j]? = some b := by
  rw [List.getElem?_set_ne h] at e; exact e
theorem nodup_ne {l : List Str} (h : l.Nodup) {i j : Nat} {x y : Str} (hi : l[i]? = some x) (hj : l[j]? = some y) (hij : i ≠ j) : x ≠ y := by
  intro e; subst e
  obtain ⟨h1, e1⟩ := List.getElem?_eq_some_iff.mp hi
  obtain ⟨h2, e2⟩ := List.getElem?_eq_some_iff.mp hj
  have hp := List.pairwise_iff_getElem.mp h
  rcases Nat.lt_or_gt_of_ne hij with q | q
  · exact hp i j h1 h2 q (e1.trans e2.symm)
  · exact hp j i h2 h1 q (e2.trans e1.symm)
def Gets {c : Cx prog w G vs nl oc gs} (B : Bs c) (ρ : List AV) (i : Nat) (f : PH) (h : Heap) (v : Value) : AV → Prop
  | .undef => True
  | .dat d => Rep f v d
  | .own ds => ∃ a, v = .ref a ∧ OwnAt B f h a ds ∧ ∀ (j : Nat) y es, j ≠ i → vs[j]? = some y → ρ[j]? = some (.own es) → ¬ Holds c h y (.ref a)
theorem Holds.other {c : Cx prog w G vs nl oc gs} {h h' : Heap} {L : Addr} {x : Str} {v : Value} (hs : Heap.SameBut L h h')
    (hl : c.env.kindOf x = some .local → L = c.env.locals → (∀ m, h.Ns c.env.locals m → ∃ m', h'.Ns c.env.locals m' ∧ m' x = m x))
    (hc : ∀ ca, c.env.cells.lookup x = some ca → (∃ v, h.IsCell ca v) → ca ≠ L) (y : Holds c h x v) : Holds c h' x v := by
  rcases y with ⟨k, m, hn, hm⟩ | ⟨k, ca, hca, hv⟩
  · by_cases e : L = c.env.locals
    · obtain ⟨m', hn', e'⟩ := hl k e m hn
      exact .inl ⟨k, m', hn', e'.trans hm⟩
    · exact .inl ⟨k, m, hn.sameBut hs (Ne.symm e), hm⟩
  · exact .inr ⟨k, ca, hca, hv.sameBut hs (hc ca hca ⟨_, hv⟩)⟩
theorem OwnAt.other {c : Cx prog w G vs nl oc gs} {B : Bs c} {f : PH} {h h' : Heap} {L a : Addr} {ds : List D} (hs : Heap.SameBut L h h') (n : a ≠ L) (y : OwnAt B f h a ds) : OwnAt B f h' a ds := by
  obtain ⟨us, k, e, r⟩ := y
  exact ⟨us, k, (hs.2 a n).trans e, r⟩
theorem OwnAt.notNs {c : Cx prog w G vs nl oc gs} {B : Bs c} {f : PH} {h : Heap} {L a : Addr} {ds : List D} {m : Str → Option Value} (y : OwnAt B f h a ds) (hn : h.Ns L m) : a ≠ L := by
  rintro rfl
  obtain ⟨us, k, e, _⟩ := y
  obtain ⟨o, es, ep, e', hd, _⟩ := hn
  rw [e] at e'; cases e'; cases hd
theorem OwnAt.notCell {c : Cx prog w G vs nl oc gs} {B : Bs c} {f : PH} {h : Heap} {L a : Addr} {ds : List D} {v : Option Value} (y : OwnAt B f h a ds) (hn : h.IsCell L v) : a ≠ L := by
  rintro rfl
  obtain ⟨us, k, e, _⟩ := y
  obtain ⟨o, e', hd⟩ := hn
  rw [e] at e'; cases e'; cases hd
theorem cell_notNs {h : Heap} {L : Addr} {v : Option Value} {m : Str → Option Value} (y : h.IsCell L v) (hn : h.Ns L m) : False := by
  obtain ⟨o, e, hd⟩ := y
  obtain ⟨o', es, ep, e', hd', _⟩ := hn
  rw [e] at e'; cases e'
  rw [hd] at hd'; cases hd'
theorem Ext.of_sameBut_new {s0 : Heap} {L : Addr} {h h' : Heap} (x : Ext s0 h) (hs : Heap.SameBut L h h') (n : s0.get? L = none) : Ext s0 h' := fun a o e => by
  obtain ⟨sl, e', k⟩ := x a o e
  exact ⟨sl, (hs.2 a (by rintro rfl; rw [n] at e; cases e)).trans e', k⟩
theorem Step.sameBut {f0 f : PH} {s0 s : Shared} {L : Addr} {h' : Heap} {k : Nat} (st : Step f0 s0 f s) (hs : Heap.SameBut L s.heap h') (n : s0.heap.get? L = none) (hf : f L = none) (hk : s.toks ≤ k) :
    Step f0 s0 f { s with heap := h', toks := k } :=
  ⟨st.sub, fun a o e => (hs.2 a (by rintro rfl; rw [hf] at e; cases e)).trans (st.inn a o e), st.ext.of_sameBut_new hs n, st.new, Nat.le_trans st.toks hk, st.os, st.gens⟩
theorem FF.sameBut {f : PH} {h h' : Heap} {L : Addr} {l : List Env} (x : FF f h l) (hs : Heap.SameBut L h h') (hL : ∀ o es ep, h.get? L = some o → o.data = .dict es ep → ∃ o', h'.get? L = some o' ∧ ∃ es ep, o'.data = .dict es ep) : FF f h' l := fun env he => by
  obtain ⟨k, L', o, hf, hn, ho, hd⟩ := x env he
  by_cases e : L' = L
  · subst e
    obtain ⟨es, ep, hd⟩ := hd
    obtain ⟨o', e', hd'⟩ := hL o es ep ho hd
    exact ⟨k, _, o', hf, hn, e', hd'⟩
  · exact ⟨k, L', o, hf, hn, (hs.2 L' e).trans ho, hd⟩
theorem AOK.sameBut {A : Around} {n : Nat} {f : PH} {h h' : Heap} {L : Addr} (x : AOK A n f h) (hs : Heap.SameBut L h h') (hL : ∀ o es ep, h.get? L = some o → o.data = .dict es ep → ∃ o', h'.get? L = some o' ∧ ∃ es ep, o'.data = .dict es ep) : AOK A n f h' :=
  ⟨x.handled, x.depth, x.units, let ⟨l, e, k⟩ := x.frames; ⟨l, e, k.sameBut hs hL⟩⟩
theorem Ns.isDict {h : Heap} {L : Addr} {m : Str → Option Value} (hn : h.Ns L m) : ∃ o, h.get? L = some o ∧ ∃ es ep, o.data = .dict es ep := by
  obtain ⟨o, es, ep, e, hd, _⟩ := hn
  exact ⟨o, e, es, ep, hd⟩
theorem IsCell.notDict {h : Heap} {L : Addr} {v : Option Value} (hn : h.IsCell L v) {o : Obj} {es : Array DictEntry} {ep : Nat} (e : h.get? L = some o) (hd : o.data = .dict es ep) : False := by
  obtain ⟨o', e', hd'⟩ := hn
  rw [e] at e'; cases e'
  rw [hd] at hd'; cases hd'
theorem Good.setLocal {c : Cx prog w G vs nl oc gs} {B : Bs c} {ρ : List AV} {f : PH} {s : Shared} {h' : Heap} {k i : Nat} {x : Str} {v : Value} {a : AV} {m : Str → Option Value} (g : Good c B ρ f s)
    (hx : vs[i]? = some x) (hl : c.env.kindOf x = some .local) (hm : s.heap.Ns c.env.locals m) (hn : h'.Ns c.env.locals (fun y => if y = x then some v else m y)) (hs : Heap.SameBut c.env.locals s.heap h')
    (hk : s.toks ≤ k) (hv : Gets B ρ i f s.heap v a) : Good c B (ρ.set i a) f { s with heap := h', toks := k } := by
  have keep : ∀ {y : Str} {u : Value}, y ≠ x → Holds c s.heap y u → Holds c h' y u := fun {y u} ny z =>
    z.other hs (fun _ _ m1 hm1 => ⟨_, hn, by rw [if_neg ny, Ns.unique hm hm1]⟩) (fun ca _ ⟨w, hw⟩ e => cell_notNs hw (e ▸ hm))
  have back : ∀ {y : Str} {u : Value}, y ≠ x → Holds c h' y u → Holds c s.heap y u := fun {y u} ny z => by
    rcases z with ⟨q, m1, hm1, e⟩ | ⟨q, ca, hca, w⟩
    · have := Ns.unique hn hm1
      refine .inl ⟨q, m, hm, ?_⟩
      rw [← this] at e; simp only [if_neg ny] at e; exact e
    · refine .inr ⟨q, ca, hca, ?_⟩
      obtain ⟨o, e, d⟩ := w
      refine ⟨o, (hs.2 ca ?_).symm.trans e, d⟩
      rintro rfl
      exact cell_notNs ⟨o, e, d⟩ hn
  have here : Holds c h' x v := .inl ⟨hl, _, hn, if_pos rfl⟩
  refine ⟨g.st.sameBut hs B.newL g.fL hk, g.aok.sameBut hs (fun _ _ _ _ _ => Ns.isDict hn), ⟨_, hn⟩, g.fL, fun y ca hca => ?_, fun j y b hy hb => ?_, fun j1 j2 y1 y2 ds es a' hij hy1 hy2 h1 h2 z1 z2 => ?_⟩
  · obtain ⟨q, w, hw⟩ := g.fc y ca hca
    exact ⟨q, w, hw.sameBut hs fun e => cell_notNs hw (e ▸ hm)⟩
  · by_cases e : i = j
    · subst e
      rw [hx] at hy; cases hy
      rw [List.getElem?_set_self'] at hb
      have hb' : b = a := by
        cases q : ρ[i]? with
        | none => rw [q] at hb; cases hb
        | some z => rw [q] at hb; exact (Option.some.inj hb).symm
      subst hb'
      cases b with
      | undef => trivial
      | dat d => exact ⟨v, here, hv⟩
      | own ds =>
        obtain ⟨a, rfl, o, _⟩ := hv
        exact ⟨a, here, o.other hs (o.notNs hm)⟩
    · have ny := nodup_ne c.nodup hy hx (Ne.symm e)
      have := g.vals j y b hy (getElem?_set_ne' e hb)
      cases b with
      | undef => trivial
      | dat d => obtain ⟨u, z, r⟩ := this; exact ⟨u, keep ny z, r⟩
      | own ds => obtain ⟨a, z, o⟩ := this; exact ⟨a, keep ny z, o.other hs (o.notNs hm)⟩
  · have set : ∀ {j : Nat} {es : List D}, (ρ.set i a)[j]? = some (.own es) → j = i → a = .own es := fun {j es} q e => by
      subst e
      rw [List.getElem?_set_self'] at q
      cases z : ρ[j]? with
      | none => rw [z] at q; cases q
      | some z' => rw [z] at q; exact Option.some.inj q
    by_cases e1 : j1 = i
    · have ea := set h1 e1
      subst ea
      subst e1
      have ny := nodup_ne c.nodup hy2 hx (Ne.symm hij)
      rw [hx] at hy1; cases hy1
      have := here.unique z1; subst this
      obtain ⟨a1, e, _, k⟩ := hv
      cases e
      exact k j2 y2 es (Ne.symm hij) hy2 (getElem?_set_ne' hij h2) (back ny z2)
    · have ny1 := nodup_ne c.nodup hy1 hx e1
      by_cases e2 : j2 = i
      · have ea := set h2 e2
        subst ea
        subst e2
        rw [hx] at hy2; cases hy2
        have := here.unique z2; subst this
        obtain ⟨a1, e, _, k⟩ := hv
        cases e
        exact k j1 y1 ds hij hy1 (getElem?_set_ne' (Ne.symm hij) h1) (back ny1 z1)
      · have ny2 := nodup_ne c.nodup hy2 hx e2
        exact g.apart j1 j2 y1 y2 ds es a' hij hy1 hy2 (getElem?_set_ne' (Ne.symm e1) h1) (getElem?_set_ne' (Ne.symm e2) h2) (back ny1 z1) (back ny2 z2)
theorem Good.setCell {c : Cx prog w G vs nl oc gs} {B : Bs c} {ρ : List AV} {f : PH} {s : Shared} {h' : Heap} {k i : Nat} {x : Str} {v : Value} {d : D} {ca : Addr} (g : Good c B ρ f s)
    (hx : vs[i]? = some x) (hl : c.env.kindOf x = some .cell) (hca : c.env.cells.lookup x = some ca) (hnew : B.s0.heap.get? ca = none) (hn : h'.IsCell ca (some v)) (hs : Heap.SameBut ca s.heap h')
    (hk : s.toks ≤ k) (hv : Rep f v d) : Good c B (ρ.set i (.dat d)) f { s with heap := h', toks := k } := by
  obtain ⟨hf, w0, hw0⟩ := g.fc x ca hca
  obtain ⟨m, hm⟩ := g.ns
  have nL : ca ≠ c.env.locals := fun e => cell_notNs hw0 (e ▸ hm)
  have keep : ∀ {y : Str} {u : Value}, y ≠ x → Holds c s.heap y u → Holds c h' y u := fun {y u} ny z =>
    z.other hs (fun _ e => absurd e nL) (fun ca' hca' _ e => ny (c.inj y x ca (e ▸ hca') hca))
  have back : ∀ {y : Str} {u : Value}, y ≠ x → Holds c h' y u → Holds c s.heap y u := fun {y u} ny z => by
    rcases z with ⟨q, m1, hm1, e⟩ | ⟨q, ca', hca', w⟩
    · have := Ns.unique (hm.sameBut hs (Ne.symm nL)) hm1
      exact .inl ⟨q, m, hm, this ▸ e⟩
    · refine .inr ⟨q, ca', hca', ?_⟩
      obtain ⟨o, e, d⟩ := w
      refine ⟨o, (hs.2 ca' ?_).symm.trans e, d⟩
      rintro rfl
      exact ny (c.inj y x ca' hca' hca)
  have here : Holds c h' x v := .inr ⟨.inl hl, ca, hca, hn⟩
  refine ⟨g.st.sameBut hs hnew hf hk, g.aok.sameBut hs (fun _ _ _ e hd => (IsCell.notDict hw0 e hd).elim), ⟨_, hm.sameBut hs (Ne.symm nL)⟩, g.fL, fun y ca' hca' => ?_, fun j y b hy hb => ?_, fun j1 j2 y1 y2 ds es a' hij hy1 hy2 h1 h2 z1 z2 => ?_⟩
  · obtain ⟨q, w, hw⟩ := g.fc y ca' hca'
    by_cases e : ca' = ca
    · exact ⟨q, some v, e ▸ hn⟩
    · exact ⟨q, w, hw.sameBut hs e⟩
  · by_cases e : i = j
    · subst e
      rw [hx] at hy; cases hy
      rw [List.getElem?_set_self'] at hb
      have hb' : b = .dat d := by
        cases q : ρ[i]? with
        | none => rw [q] at hb; cases hb
        | some z => rw [q] at hb; exact (Option.some.inj hb).symm
      subst hb'
      exact ⟨v, here, hv⟩
    · have ny := nodup_ne c.nodup hy hx (Ne.symm e)
      have := g.vals j y b hy (getElem?_set_ne' e hb)
      cases b with
      | undef => trivial
      | dat d => obtain ⟨u, z, r⟩ := this; exact ⟨u, keep ny z, r⟩
      | own ds => obtain ⟨a, z, o⟩ := this; exact ⟨a, keep ny z, o.other hs (o.notCell hw0)⟩
  · have ne : ∀ {j : Nat} {es : List D}, (ρ.set i (.dat d))[j]? = some (.own es) → j ≠ i := fun {j es} q e => by
      subst e
      rw [List.getElem?_set_self'] at q
      cases z : ρ[j]? with
      | none => rw [z] at q; cases q
      | some z' => rw [z] at q; cases q
    have ny1 := nodup_ne c.nodup hy1 hx (ne h1)
    have ny2 := nodup_ne c.nodup hy2 hx (ne h2)
    exact g.apart j1 j2 y1 y2 ds es a' hij hy1 hy2 (getElem?_set_ne' (Ne.symm (ne h1)) h1) (getElem?_set_ne' (Ne.symm (ne h2)) h2) (back ny1 z1) (back ny2 z2)
theorem Good.setOwn {c : Cx prog w G vs nl oc gs} {B : Bs c} {ρ : List AV} {f : PH} {s : Shared} {h' : Heap} {k i : Nat} {x : Str} {a : Addr} {ds es : List D} {us : List Value} {n : Nat} (g : Good c B ρ f s)
    (hx : vs[i]? = some x) (hr : ρ[i]? = some (.own ds)) (hh : Holds c s.heap x (.ref a)) (ho : OwnAt B f s.heap a ds) (hn : h'.get? a = some (lobj us n)) (hs : Heap.SameBut a s.heap h')
    (hk : s.toks ≤ k) (hv : Reps f us es) : Good c B (ρ.set i (.own es)) f { s with heap := h', toks := k } := by
  obtain ⟨m, hm⟩ := g.ns
  have nL := ho.notNs hm
  have nC : ∀ y ca, c.env.cells.lookup y = some ca → ca ≠ a := fun y ca hca e => by
    obtain ⟨_, w, hw⟩ := g.fc y ca hca
    exact ho.notCell hw e.symm
  have hnew : B.s0.heap.get? a = none := by obtain ⟨_, _, _, _, q, _⟩ := ho; exact q
  have hf : f a = none := by obtain ⟨_, _, _, q, _⟩ := ho; exact q
  have keep : ∀ {y : Str} {u : Value}, Holds c s.heap y u → Holds c h' y u := fun {y u} z =>
    z.other hs (fun _ e => absurd e nL) (fun ca' hca' _ e => nC _ _ hca' e)
  have back : ∀ {y : Str} {u : Value}, Holds c h' y u → Holds c s.heap y u := fun {y u} z => by
    rcases z with ⟨q, m1, hm1, e⟩ | ⟨q, ca', hca', w⟩
    · have := Ns.unique (hm.sameBut hs (Ne.symm nL)) hm1
      exact .inl ⟨q, m, hm, this ▸ e⟩
    · refine .inr ⟨q, ca', hca', ?_⟩
      obtain ⟨o, e, d⟩ := w
      exact ⟨o, (hs.2 ca' (nC _ _ hca')).symm.trans e, d⟩
  refine ⟨g.st.sameBut hs hnew hf hk, g.aok.sameBut hs (fun o es ep e hd => by obtain ⟨us', n', e', _⟩ := ho; rw [e] at e'; cases e'; cases hd), ⟨_, hm.sameBut hs (Ne.symm nL)⟩, g.fL, fun y ca' hca' => ?_, fun j y b hy hb => ?_, fun j1 j2 y1 y2 ds1 es1 a' hij hy1 hy2 h1 h2 z1 z2 => ?_⟩
  · obtain ⟨q, w, hw⟩ := g.fc y ca' hca'
    exact ⟨q, w, hw.sameBut hs (nC _ _ hca')⟩
  · by_cases e : i = j
    · subst e
      rw [hx] at hy; cases hy
      rw [List.getElem?_set_self', hr] at hb
      obtain rfl := (Option.some.inj hb).symm
      exact ⟨a, keep hh, us, n, hn, hf, hnew, hv⟩
    · have hb' := getElem?_set_ne' e hb
      have := g.vals j y b hy hb'
      cases b with
      | undef => trivial
      | dat d => obtain ⟨u, z, r⟩ := this; exact ⟨u, keep z, r⟩
      | own ds1 =>
        obtain ⟨a1, z, o⟩ := this
        refine ⟨a1, keep z, o.other hs ?_⟩
        rintro rfl
        exact g.apart i j x y ds ds1 a1 e hx hy hr hb' hh z
  · have un : ∀ {j : Nat} {es1 : List D}, (ρ.set i (.own es))[j]? = some (.own es1) → ∃ ds1, ρ[j]? = some (.own ds1) := fun {j es1} q => by
      by_cases e : i = j
      · subst e; exact ⟨_, hr⟩
      · exact ⟨_, getElem?_set_ne' e q⟩
    obtain ⟨d1, k1⟩ := un h1
    obtain ⟨d2, k2⟩ := un h2
    exact g.apart j1 j2 y1 y2 d1 d2 a' hij hy1 hy2 k1 k2 (back z1) (back z2)
end
end Mine
end
section
set_option autoImplicit false
set_option Elab.async false
set_option linter.unusedVariables false
open PySem PySem.W PyProof.Rows PySem.Calls
namespace Mine
section
variable {prog : Program} {w : World} {G : Heap} {vs : List Str} {nl : Nat} {oc : Bool} {gs : List Str}
def Ev (c : Cx prog w G vs nl oc gs) (ρ : List AV) (e : Expr) (d : D) : Prop :=
  ∀ ⦃B : Bs c⦄ (f : PH) (s : Shared) (Q E : Value → Shared → Prop), Good c B ρ f s → (∀ v f' s', Step f s f' s' → Rep f' v d → Q v s') → wpAny (model prog w) c.A (eval e c.env) Q E s
def Evs (c : Cx prog w G vs nl oc gs) (ρ : List AV) (es : List Expr) (ds : List D) : Prop :=
  ∀ ⦃B : Bs c⦄ (pos : Pos) (f : PH) (s : Shared) (Q : List Value → Shared → Prop) (E : Value → Shared → Prop), Good c B ρ f s → (∀ us f' s', Step f s f' s' → Reps f' us ds → Q us s') →
    wpAny (model prog w) c.A (spliced (backTo pos (starEach es c.env))) Q E s
def EvF (c : Cx prog w G vs nl oc gs) (ρ : List AV) (e : Expr) (ds : List D) : Prop :=
  ∀ ⦃B : Bs c⦄ (f : PH) (s : Shared) (Q E : Value → Shared → Prop), Good c B ρ f s →
    (∀ a us n f' s', Step f s f' s' → s.heap.get? a = none → s'.heap.get? a = some (lobj us n) → f' a = none → Reps f' us ds → Q (.ref a) s') → wpAny (model prog w) c.A (eval e c.env) Q E s
def Tr (c : Cx prog w G vs nl oc gs) (ρ : List AV) (e : Expr) (b : Bool) : Prop :=
  ∀ ⦃B : Bs c⦄ (f : PH) (s : Shared) (Q : Bool → Shared → Prop) (E : Value → Shared → Prop), Good c B ρ f s → (∀ f' s', Step f s f' s' → Q b s') → wpAny (model prog w) c.A (isTrue e c.env (eval e c.env)) Q E s
theorem Step.freeze {f f' : PH} {s s' : Shared} {a : Addr} {o : Obj} (st : Step f s f' s') (hn : s.heap.get? a = none) (ho : s'.heap.get? a = some o) (hf : f' a = none) :
    Step f s (fun b => if b = a then some o else f' b) s' := by
  refine ⟨fun b o' e => ?_, fun b o' e => ?_, st.ext, fun b o' e => ?_, st.toks, st.os, st.gens⟩
  · have := st.sub b o' e
    by_cases h : b = a
    · subst h; rw [hf] at this; cases this
    · simp only [h, if_false]; exact this
  · by_cases h : b = a
    · subst h; simp only [if_true] at e; exact e ▸ ho
    · simp only [h, if_false] at e; exact st.inn b o' e
  · by_cases h : b = a
    · subst h; exact .inr hn
    · simp only [h, if_false] at e; exact st.new b o' e
theorem freeze_sub {f : PH} {a : Addr} {o : Obj} (hf : f a = none) : Sub f (fun b => if b = a then some o else f b) := fun b o' e => by
  by_cases h : b = a
  · subst h; rw [hf] at e; cases e
  · simp only [h, if_false]; exact e
theorem EvF.ev {c : Cx prog w G vs nl oc gs} {ρ : List AV} {e : Expr} {ds : List D} (h : EvF c ρ e ds) : Ev c ρ e (.list ds) := fun _ f s Q E g k =>
  h f s Q E g fun a us n f' s' st hn ho hf r => k _ _ _ (st.freeze hn ho hf) (.list a us n ds (if_pos rfl) (r.mono (freeze_sub hf)))
section
variable {c : Cx prog w G vs nl oc gs} {B : Bs c} {ρ : List AV}
theorem Ev.var (i : Nat) {x : Str} {pos : Pos} {d : D} (hx : vs[i]? = some x) (hr : ρ[i]? = some (.dat d)) : Ev c ρ (.Name x pos) d := fun _ f s Q E g k => by
  obtain ⟨v, hh, r⟩ := g.vals i x _ hx hr
  have hm := List.mem_of_getElem? hx
  refine wpAny_Name ?_ (c.nodeb x (List.mem_append_left _ hm))
  rcases hh with ⟨kd, m, hn, hv⟩ | ⟨kd | kd, ca, hc, hv⟩
  · exact wpAny_loadName_local c.kind kd hn hv (k _ _ _ (.refl g.inn) r)
  · exact wpAny_loadName_cell c.kind kd hc hv (k _ _ _ (.refl g.inn) r)
  · exact wpAny_loadName_free c.kind kd hc hv (k _ _ _ (.refl g.inn) r) (c.nocd x hm)
theorem Ev.int {i : Int} {k : Nat} {pos : Pos} : Ev c ρ (.Constant (.int i) k pos) (.int i) := fun _ f s Q E g h =>
  wpAny_Constant_int (h _ _ _ (.same g.inn (Nat.le_succ _)) (.int i _))
theorem Ev.str {x : Str} {k : Nat} {pos : Pos} : Ev c ρ (.Constant (.str x) k pos) (.str x) := fun _ f s Q E g h =>
  wpAny_Constant_str (h _ _ _ (.same g.inn (Nat.le_succ _)) (.str x _))
theorem Ev.cnone {k : Nat} {pos : Pos} : Ev c ρ (.Constant .none k pos) .none := fun _ f s Q E g h =>
  wpAny_Constant_none (h _ _ _ (.refl g.inn) .none)
theorem Ev.bool {b : Bool} {k : Nat} {pos : Pos} : Ev c ρ (.Constant (.bool b) k pos) (.bool b) := fun _ f s Q E g h =>
  wpAny_Constant_bool (h _ _ _ (.refl g.inn) (.bool b))
theorem Evs.nil : Evs c ρ [] [] := fun _ pos f s Q E g k => wpAny_items_nil (k _ _ _ (.refl g.inn) .nil)
theorem Evs.cons {e : Expr} {es : List Expr} {d : D} {ds : List D} (h : Ev c ρ e d) (hs : Evs c ρ es ds)
    (he : ∀ env, starEach (e :: es) env = (false, eval e env) :: starEach es env := by intro _; rfl) : Evs c ρ (e :: es) (d :: ds) := fun _ pos f s Q E g k =>
  wpAny_items_cons (h f s _ E g fun v f' s' st r => hs pos f' s' _ E (g.step st) fun us f'' s'' st' rs => k _ _ _ (st.trans st') (.cons _ _ _ _ (r.mono st'.sub) rs)) (he _)
theorem Inn.none_of {f : PH} {h : Heap} (i : Inn f h) {a : Addr} (e : h.get? a = none) : f a = none := by
  cases q : f a with
  | none => rfl
  | some o => rw [i a o q] at e; cases e
theorem get_size_none (h : Heap) : h.get? h.objs.size = none := Heap.get?_none_of_le (Nat.le_refl _)
theorem Step.push {f : PH} {s : Shared} (i : Inn f s.heap) (o : Obj) : Step f s f { s with heap := s.heap.push o } :=
  Step.same' (k := s.toks) i (fun b o' e => Heap.get?_push_of_some _ e) (Nat.le_refl _)
theorem push_list {f0 f : PH} {s0 s : Shared} {us : List Value} {ds : List D} {P : Prop} (st : Step f0 s0 f s) (r : Reps f us ds)
    (k : ∀ a us n f' s', Step f0 s0 f' s' → s0.heap.get? a = Option.none → s'.heap.get? a = some (lobj us n) → f' a = Option.none → Reps f' us ds → a = s.heap.objs.size → s' = { s with heap := s.heap.push (lobj us n) } → n = 0 → P) : P :=
  k s.heap.objs.size us 0 f { s with heap := s.heap.push (lobj us 0) } (st.trans (.push st.inn _)) (st.ext.gone (get_size_none _)) (Heap.get?_push_size _ rfl) (st.inn.none_of (get_size_none _)) r rfl rfl rfl
theorem EvF.list {es : List Expr} {pos : Pos} {ds : List D} (h : Evs c ρ es ds) (hsz : ds.length ≤ 1000000) : EvF c ρ (.List es pos) ds := fun _ f s Q E g k =>
  wpAny_List (h pos f s _ E g fun us f' s' st r => ⟨by rw [r.length]; exact Nat.le_trans hsz (by decide),
    k _ us 0 f' _ (st.trans (.push st.inn _)) (st.ext.gone (get_size_none _)) (Heap.get?_push_size _ rfl) (st.inn.none_of (get_size_none _)) r⟩)
theorem Ev.tuple {es : List Expr} {n : Nat} {pos : Pos} {ds : List D} (h : Evs c ρ es ds) (hsz : ds.length ≤ 1000000) : Ev c ρ (.Tuple es n pos) (.tup ds) := fun _ f s Q E g k =>
  wpAny_Tuple (h pos f s _ E g fun us f' s' st r => ⟨by rw [r.length]; exact Nat.le_trans hsz (by decide),
    k _ _ _ ((st.trans (.push st.inn _)).freeze (a := s'.heap.objs.size) (o := tobj us 0) (st.ext.gone (get_size_none _)) (Heap.get?_push_size _ rfl) (st.inn.none_of (get_size_none _)))
      (.tup _ us 0 ds (if_pos rfl) (r.mono (freeze_sub (st.inn.none_of (get_size_none _)))))⟩)
end
end
section
variable (prog : Program) (w : World)
def BinD (op : Operator) (a b d : D) : Prop :=
  ∀ (A : Around) (n : Nat) (f : PH) (s : Shared) (u v : Value) (Q E : Value → Shared → Prop), AOK A n f s.heap → Inn f s.heap → Rep f u a → Rep f v b →
    (∀ r f' s', Step f s f' s' → Rep f' r d → Q r s') → wpAny (model prog w) A (binaryOp op u v) Q E s
def CmpD (op : CmpOp) (a b : D) (d : Bool) : Prop :=
  ∀ (A : Around) (n : Nat) (f : PH) (s : Shared) (u v : Value) (Q E : Value → Shared → Prop), AOK A n f s.heap → Inn f s.heap → Rep f u a → Rep f v b →
    (∀ f' s', Step f s f' s' → Q (.bool d) s') → wpAny (model prog w) A (compareOp op u v) Q E s
def TruD (a : D) (d : Bool) : Prop :=
  ∀ (A : Around) (n : Nat) (f : PH) (s : Shared) (u : Value) (Q : Bool → Shared → Prop) (E : Value → Shared → Prop), AOK A n f s.heap → Inn f s.heap → Rep f u a →
    (∀ f' s', Step f s f' s' → Q d s') → wpAny (model prog w) A (truthy u) Q E s
def CalD (id : String) (as : List D) (d : D) : Prop :=
  ∀ (A : Around) (n : Nat) (f : PH) (s : Shared) (us : List Value) (Q E : Value → Shared → Prop), AOK A n f s.heap → Inn f s.heap → Reps f us as →
    (∀ r f' s', Step f s f' s' → Rep f' r d → Q r s') → wpAny (model prog w) A (call (.builtin id) us) Q E s
def GetD (a i d : D) : Prop :=
  ∀ (A : Around) (n : Nat) (f : PH) (s : Shared) (u v : Value) (Q E : Value → Shared → Prop), AOK A n f s.heap → Inn f s.heap → Rep f u a → Rep f v i →
    (∀ r f' s', Step f s f' s' → Rep f' r d → Q r s') → wpAny (model prog w) A (getItem u v) Q E s
end
section
variable {prog : Program} {w : World} {G : Heap} {vs : List Str} {nl : Nat} {oc : Bool} {gs : List Str} {c : Cx prog w G vs nl oc gs} {B : Bs c} {ρ : List AV}
theorem Ev.bin {l r : Expr} {op : Operator} {pos : Pos} {a b d : D} (h1 : Ev c ρ l a) (h2 : Ev c ρ r b) (h : BinD prog w op a b d) : Ev c ρ (.BinOp l op r pos) d := fun _ f s Q E g k =>
  wpAny_BinOp (h1 f s _ E g fun u f1 s1 st1 r1 => h2 f1 s1 _ E (g.step st1) fun v f2 s2 st2 r2 =>
    h c.A c.n f2 s2 u v Q E ((g.step st1).step st2).aok st2.inn (r1.mono st2.sub) r2 fun x f3 s3 st3 r3 => k _ _ _ ((st1.trans st2).trans st3) r3)
theorem Ev.cmp {l r : Expr} {op : CmpOp} {pos : Pos} {a b : D} {d : Bool} (h1 : Ev c ρ l a) (h2 : Ev c ρ r b) (h : CmpD prog w op a b d) (hm : behindInMarks op r = false := by with_unfolding_all rfl) :
    Ev c ρ (.Compare l [op] [r] pos) (.bool d) := fun _ f s Q E g k =>
  wpAny_Compare1 (hm := hm) (h1 f s _ E g fun u f1 s1 st1 r1 => h2 f1 s1 _ E (g.step st1) fun v f2 s2 st2 r2 =>
    h c.A c.n f2 s2 u v Q E ((g.step st1).step st2).aok st2.inn (r1.mono st2.sub) r2 fun f3 s3 st3 => k _ _ _ ((st1.trans st2).trans st3) (.bool d))
theorem Tr.cmp {l r : Expr} {op : CmpOp} {pos : Pos} {a b : D} {d : Bool} (h1 : Ev c ρ l a) (h2 : Ev c ρ r b) (h : CmpD prog w op a b d) (hm : behindInMarks op r = false := by with_unfolding_all rfl) :
    Tr c ρ (.Compare l [op] [r] pos) d := fun _ f s Q E g k =>
  wpAny_isTrue_Compare1 (hm := hm) (h1 f s _ E g fun u f1 s1 st1 r1 => h2 f1 s1 _ E (g.step st1) fun v f2 s2 st2 r2 =>
    h c.A c.n f2 s2 u v _ E ((g.step st1).step st2).aok st2.inn (r1.mono st2.sub) r2 fun f3 s3 st3 => wpAny_truthy_bool (k _ _ ((st1.trans st2).trans st3)))
theorem Tr.not {x : Expr} {pos : Pos} {b : Bool} (h : Tr c ρ x b) : Tr c ρ (.UnaryOp .Not x pos) (!b) := fun _ f s Q E g k =>
  wpAny_isTrue_Not (h f s _ E g fun f' s' st => k _ _ st)
theorem Tr.of_ev {e : Expr} {d : D} {b : Bool} (h : Ev c ρ e d) (ht : TruD prog w d b)
    (he : ∀ env whole, isTrue e env whole = (do let v ← whole; standAt e.pos; holding [v] (truthy v)) := by intro _ _; rfl) : Tr c ρ e b := fun _ f s Q E g k =>
  wpAny_isTrue_value (h f s _ E g fun v f1 s1 st1 r1 => ht c.A c.n f1 s1 v Q E (g.step st1).aok st1.inn r1 fun f2 s2 st2 => k _ _ (st1.trans st2)) (he _ _)
theorem Tr.and_f {x : Expr} {rest : List Expr} {pos : Pos} (h : Tr c ρ x false) : Tr c ρ (.BoolOp .And (x :: rest) pos) false := fun _ f s Q E g k =>
  PyProof.Rows.isTrue_and (h f s _ E g fun f' s' st => k _ _ st)
theorem Tr.and_t {x : Expr} {rest : List Expr} {pos : Pos} {b : Bool} (h : Tr c ρ x true) (hr : Tr c ρ (.BoolOp .And rest pos) b) : Tr c ρ (.BoolOp .And (x :: rest) pos) b := fun _ f s Q E g k =>
  PyProof.Rows.isTrue_and (h f s _ E g fun f' s' st => hr f' s' Q E (g.step st) fun f2 s2 st2 => k _ _ (st.trans st2))
theorem Tr.and_nil {pos : Pos} : Tr c ρ (.BoolOp .And [] pos) true := fun _ f s Q E g k => PyProof.Rows.isTrue_and_nil (k _ _ (.refl g.inn))
theorem Tr.or_t {x : Expr} {rest : List Expr} {pos : Pos} (h : Tr c ρ x true) : Tr c ρ (.BoolOp .Or (x :: rest) pos) true := fun _ f s Q E g k =>
  PyProof.Rows.isTrue_or (h f s _ E g fun f' s' st => k _ _ st)
theorem Tr.or_f {x : Expr} {rest : List Expr} {pos : Pos} {b : Bool} (h : Tr c ρ x false) (hr : Tr c ρ (.BoolOp .Or rest pos) b) : Tr c ρ (.BoolOp .Or (x :: rest) pos) b := fun _ f s Q E g k =>
  PyProof.Rows.isTrue_or (h f s _ E g fun f' s' st => hr f' s' Q E (g.step st) fun f2 s2 st2 => k _ _ (st.trans st2))
theorem Tr.or_nil {pos : Pos} : Tr c ρ (.BoolOp .Or [] pos) false := fun _ f s Q E g k => PyProof.Rows.isTrue_or_nil (k _ _ (.refl g.inn))
theorem Tr.and2 {x y : Expr} {pos : Pos} {a b : Bool} (h : Tr c ρ x a) (hr : a = true → Tr c ρ y b) : Tr c ρ (.BoolOp .And [x, y] pos) (a && b) := by
  cases a with
  | false => exact Tr.and_f h
  | true => cases b with
    | false => exact Tr.and_t h (Tr.and_f (hr rfl))
    | true => exact Tr.and_t h (Tr.and_t (hr rfl) Tr.and_nil)
theorem Tr.or2 {x y : Expr} {pos : Pos} {a b : Bool} (h : Tr c ρ x a) (hr : a = false → Tr c ρ y b) : Tr c ρ (.BoolOp .Or [x, y] pos) (a || b) := by
  cases a with
  | true => exact Tr.or_t h
  | false => cases b with
    | true => exact Tr.or_f h (Tr.or_t (hr rfl))
    | false => exact Tr.or_f h (Tr.or_f (hr rfl) Tr.or_nil)
theorem Ev.ite {t a b : Expr} {pos : Pos} {q : Bool} {d : D} (ht : Tr c ρ t q) (h1 : q = true → Ev c ρ a d) (h2 : q = false → Ev c ρ b d) : Ev c ρ (.IfExp t a b pos) d := fun _ f s Q E g k =>
  wpAny_IfExp (ht f s _ E g fun f1 s1 st1 => by
    cases q with
    | true => exact h1 rfl f1 s1 Q E (g.step st1) fun v f2 s2 st2 r2 => k _ _ _ (st1.trans st2) r2
    | false => exact h2 rfl f1 s1 Q E (g.step st1) fun v f2 s2 st2 r2 => k _ _ _ (st1.trans st2) r2)
theorem Ev.neg {x : Expr} {pos : Pos} {i : Int} (h : Ev c ρ x (.int i)) : Ev c ρ (.UnaryOp .USub x pos) (.int (-i)) := fun _ f s Q E g k =>
  wpAny_UnaryOp (h f s _ E g fun v f1 s1 st1 r1 => by
    cases r1 with
    | int i t => exact PyProof.Rows.neg_int (k _ _ _ (st1.trans (.same st1.inn (Nat.le_succ _))) (.int _ _)))
end
end Mine
end
section
set_option autoImplicit false
set_option Elab.async false
set_option linter.unusedVariables false
open PySem PySem.W PyProof.Rows PySem.Calls
namespace Mine
abbrev mk (l : List Nat) : Str := ⟨l.toArray⟩
abbrev S (l : List Nat) : D := .str (mk l)
theorem mk_app (a b : List Nat) : mk a ++ mk b = mk (a ++ b) := by
  show Str.append _ _ = _
  simp [Str.append, mk]
theorem mk_len (a : List Nat) : (mk a).length = a.length := by simp [Str.length, mk]
theorem mk_inj {a b : List Nat} : mk a = mk b ↔ a = b := by simp [mk]
theorem beq_mk (a b : List Nat) : (mk a == mk b) = decide (a = b) := by
  by_cases h : a = b
  · subst h; simp
  · have : mk a ≠ mk b := fun e => h (mk_inj.mp e)
    simp [h]
section
variable {prog : Program} {w : World}
theorem Step.tk {f : PH} {s : Shared} (i : Inn f s.heap) {k : Nat} (h : s.toks ≤ k) : Step f s f { s with toks := k } := .same i h
theorem BinD.addI {a b : Int} : BinD prog w .Add (.int a) (.int b) (.int (a + b)) := fun A n f s u v Q E ok i r1 r2 k => by
  cases r1; cases r2
  exact PyProof.Rows.add_int (k _ _ _ (.tk i (Nat.le_succ _)) (.int _ _))
theorem BinD.subI {a b : Int} : BinD prog w .Sub (.int a) (.int b) (.int (a - b)) := fun A n f s u v Q E ok i r1 r2 k => by
  cases r1; cases r2
  exact PyProof.Rows.sub_int (k _ _ _ (.tk i (Nat.le_succ _)) (.int _ _))
theorem BinD.divI {a b : Int} (h : 0 < b) (hs : b < 1000000 := by decide) : BinD prog w .FloorDiv (.int a) (.int b) (.int (a / b)) := fun A n f s u v Q E ok i r1 r2 k => by
  cases r1; cases r2
  refine PyProof.Rows.floordiv_int (by first | assumption | exact Nat.le_trans (by assumption) (by decide) | omega) ?_ (.inl (PyProof.noPylong_small (by first | assumption | exact Nat.le_trans (by assumption) (by decide) | omega)))
  rw [Int.fdiv_eq_ediv_of_nonneg _ (Int.le_of_lt h)]
  exact k _ _ _ (.tk i (Nat.le_succ _)) (.int _ _)
theorem BinD.modI {a b : Int} (h : 0 < b) (hs : b < 1000000 := by decide) : BinD prog w .Mod (.int a) (.int b) (.int (a % b)) := fun A n f s u v Q E ok i r1 r2 k => by
  cases r1; cases r2
  refine PyProof.Rows.mod_int' (by first | assumption | exact Nat.le_trans (by assumption) (by decide) | omega) ?_
  rw [Int.fmod_eq_emod_of_nonneg _ (Int.le_of_lt h)]
  exact k _ _ _ (.tk i (Nat.le_succ _)) (.int _ _)
theorem BinD.powI {a n : Int} (hn : 0 ≤ n) (hsz : (Builtin.Int.intBits a : Int) * n ≤ 2 ^ 27) : BinD prog w .Pow (.int a) (.int n) (.int (a ^ n.toNat)) := fun A _ f s u v Q E ok i r1 r2 k => by
  cases r1; cases r2
  exact PyProof.Rows.pow_int hn hsz (k _ _ _ (.tk i (Nat.le_succ _)) (.int _ _))
theorem CmpD.eqI {a b : Int} : CmpD prog w .Eq (.int a) (.int b) (a == b) := fun A n f s u v Q E ok i r1 r2 k => by
  cases r1; cases r2; exact PyProof.Rows.eq_int (k _ _ (.refl i))
theorem CmpD.ltI {a b : Int} : CmpD prog w .Lt (.int a) (.int b) (decide (a < b)) := fun A n f s u v Q E ok i r1 r2 k => by
  cases r1; cases r2; exact PyProof.Rows.lt_int (k _ _ (.refl i))
theorem CmpD.gtI {a b : Int} : CmpD prog w .Gt (.int a) (.int b) (decide (b < a)) := fun A n f s u v Q E ok i r1 r2 k => by
  cases r1; cases r2; exact PyProof.Rows.gt_int (k _ _ (.refl i))
theorem CmpD.geI {a b : Int} : CmpD prog w .GtE (.int a) (.int b) (decide (b ≤ a)) := fun A n f s u v Q E ok i r1 r2 k => by
  cases r1; cases r2; exact PyProof.Rows.ge_int (k _ _ (.refl i))
theorem BinD.addS {a b : List Nat} (h : a.length + b.length ≤ 1000000) : BinD prog w .Add (S a) (S b) (S (a ++ b)) := fun A n f s u v Q E ok i r1 r2 k => by
  cases r1; cases r2
  refine wpAny_with_toks (Nat.le_refl _) (PyProof.Rows.add_str (fun t' tk ht => k _ _ _ (.tk i ht) ?_) (by rw [mk_len, mk_len]; exact Nat.le_trans h (by decide)))
  rw [mk_app]; exact .str _ _
theorem CmpD.eqS {a b : List Nat} : CmpD prog w .Eq (S a) (S b) (decide (a = b)) := fun A n f s u v Q E ok i r1 r2 k => by
  cases r1; cases r2; refine PyProof.Rows.eq_str ?_; rw [beq_mk]; exact k _ _ (.refl i)
theorem CmpD.neS {a b : List Nat} : CmpD prog w .NotEq (S a) (S b) (!decide (a = b)) := fun A n f s u v Q E ok i r1 r2 k => by
  cases r1; cases r2; refine PyProof.Rows.ne_str ?_; rw [bne, beq_mk]; exact k _ _ (.refl i)
theorem CmpD.ltS {a b : List Nat} : CmpD prog w .Lt (S a) (S b) (decide (a < b)) := fun A n f s u v Q E ok i r1 r2 k => by
  cases r1; cases r2; exact PyProof.Rows.lt_str (k _ _ (.refl i))
theorem CmpD.gtS {a b : List Nat} : CmpD prog w .Gt (S a) (S b) (decide (b < a)) := fun A n f s u v Q E ok i r1 r2 k => by
  cases r1; cases r2; exact PySem.P.gt_str (k _ _ (.refl i))
theorem TruD.str {a : List Nat} (h : a.length ≤ 1000000) : TruD prog w (S a) (!a.isEmpty) := fun A n f s u Q E ok i r k => by
  cases r
  refine PySem.P.truthy_str (by rw [mk_len]; omega) ?_
  have : ((((mk a).length : Nat) : Int) != 0) = !a.isEmpty := by
    rw [mk_len]; cases a <;> simp
    omega
  rw [this]
  exact k _ _ (.tk i (by show s.toks ≤ s.toks + 1 + 1; omega))
theorem CalD.lenS {a : List Nat} (h : a.length ≤ 1000000) : CalD prog w "len" [S a] (.int a.length) := fun A n f s us Q E ok i r k => by
  cases r with | cons _ _ _ _ r rs => cases rs; cases r
                                      refine PyProof.Rows.len_str (by rw [mk_len]; omega) ?_
                                      rw [mk_len]
                                      exact k _ _ _ (.tk i (by show s.toks ≤ s.toks + 1 + 1; omega)) (.int _ _)
theorem seqIndex_nn {j : Int} {n : Nat} (h0 : 0 ≤ j) (h : j.toNat < n) : seqIndex? j n = some j.toNat := by
  unfold seqIndex?
  have h1 : ¬ j < 0 := by omega
  have h2 : j < (n : Int) := by omega
  simp only [h1, if_false]
  rw [if_pos (by simp; exact ⟨h0, h2⟩)]
theorem GetD.str {a : List Nat} {j : Int} {x : Nat} (h0 : 0 ≤ j) (hx : a[j.toNat]? = some x) (hl : a.length ≤ 1000000) : GetD prog w (S a) (.int j) (S [x]) := fun A n f s u v Q E ok i r1 r2 k => by
  cases r1; cases r2
  have hlt : j.toNat < a.length := (List.getElem?_eq_some_iff.mp hx).1
  have h1 : (decide (j < -(2 ^ 63 : Int)) || decide (j ≥ 2 ^ 63)) = false := by
    rw [Bool.or_eq_false_iff]; exact ⟨decide_eq_false (by first | assumption | exact Nat.le_trans (by assumption) (by decide) | omega), decide_eq_false (by first | assumption | exact Nat.le_trans (by assumption) (by decide) | omega)⟩
  refine PySem.P.getItem_str (c := x) h1 ?_ (k _ _ _ (.tk i (Nat.le_succ _)) (.str _ _))
  rw [seqIndex_nn h0 (by rw [mk_len]; omega)]
  simpa using hx
theorem IsListR {f : PH} {h : Heap} (i : Inn f h) {a : Addr} {us : List Value} {n : Nat} (e : f a = some (lobj us n)) : h.get? a = some (lobj us n) := i a _ e
theorem lobj_isList {h : Heap} {a : Addr} {us : List Value} {n : Nat} (e : h.get? a = some (lobj us n)) : h.IsList a us.toArray := ⟨_, e, rfl, n, rfl⟩
theorem TruD.list {ds : List D} (h : ds.length ≤ 1000000) : TruD prog w (.list ds) (!ds.isEmpty) := fun A n f s u Q E ok i r k => by
  cases r with
  | list a us m _ e rs =>
    refine wpAny_truthy_list (lobj_isList (i _ _ e)) (by rw [List.size_toArray, rs.length]; omega) ?_
    have : (!us.toArray.isEmpty) = !ds.isEmpty := by
      have := rs.length
      cases us <;> cases ds <;> simp_all
    rw [this]
    exact k _ _ (.tk i (by show s.toks ≤ s.toks + 1 + 1; omega))
theorem CalD.lenL {ds : List D} (h : ds.length ≤ 1000000) : CalD prog w "len" [.list ds] (.int ds.length) := fun A n f s us Q E ok i r k => by
  cases r with
  | cons _ _ _ _ r rs =>
    cases rs
    cases r with
    | list a us m _ e rs =>
      refine call_len_list (lobj_isList (i _ _ e)) (by rw [List.size_toArray, rs.length]; omega) ?_
      rw [List.size_toArray, rs.length]
      exact k _ _ _ (.tk i (by show s.toks ≤ s.toks + 1 + 1; omega)) (.int _ _)
theorem GetD.list {ds : List D} {j : Int} {d : D} (h0 : 0 ≤ j) (hx : ds[j.toNat]? = some d) (hl : ds.length ≤ 1000000) : GetD prog w (.list ds) (.int j) d := fun A n f s u v Q E ok i r1 r2 k => by
  cases r2
  cases r1 with
  | list a us m _ e rs =>
    obtain ⟨y, hy, ry⟩ := rs.get hx
    have hlt : j.toNat < ds.length := (List.getElem?_eq_some_iff.mp hx).1
    exact wpAny_getItem_list (lobj_isList (i _ _ e)) h0 (by first | assumption | exact Nat.le_trans (by assumption) (by decide) | omega) (by simpa using hy) (k _ _ _ (.refl i) ry)
def fz (f : PH) (a : Addr) (o : Obj) : PH := fun b => if b = a then some o else f b
theorem rep_new_list {f : PH} {s : Shared} {us : List Value} {ds : List D} {items : Array Value} (i : Inn f s.heap) (r : Reps f us ds) (hi : items = us.toArray) :
    Step f s (fz f s.heap.objs.size (lobj us 0)) { s with heap := s.heap.push { cls := .type "list", data := .seq items } } ∧ Rep (fz f s.heap.objs.size (lobj us 0)) (.ref s.heap.objs.size) (.list ds) := by
  subst hi
  have n := i.none_of (get_size_none s.heap)
  exact ⟨(Step.push i (lobj us 0)).freeze (a := s.heap.objs.size) (o := lobj us 0) (get_size_none _) (Heap.get?_push_size _ rfl) n, .list _ us 0 ds (if_pos rfl) (r.mono (freeze_sub n))⟩
theorem BinD.addL {as bs : List D} (h : as.length + bs.length ≤ 1000000) : BinD prog w .Add (.list as) (.list bs) (.list (as ++ bs)) := fun A n f s u v Q E ok i r1 r2 k => by
  cases r1 with
  | list a us m _ e rs =>
    cases r2 with
    | list b vs' m' _ e' rs' =>
      refine P.add_list (i _ _ e) (i _ _ e') ?_ (by rw [List.size_toArray, List.size_toArray, rs.length, rs'.length]; exact Nat.le_trans h (by decide))
      have := rep_new_list i (rs.append rs') (items := us.toArray ++ vs'.toArray) (by simp)
      exact k _ _ _ this.1 this.2
def eqSD (x : List Nat) : D → Bool
  | .str y => y == mk x
  | _ => false
def isPlain : D → Bool
  | .str _ => true
  | .none => true
  | _ => false
theorem EqGives.noneStr (y : Str) (u : Tok) : MeetsSeq.EqGives .none (.str y u) false := fun prog w A E s Q h => SeqAt.EqAt.none_str y u prog w E Q h
theorem eqSD_gives {f : PH} {x : List Nat} {t : Tok} : ∀ {us : List Value} {ds : List D}, Reps f us ds → (ds.all isPlain = true) → ∃ e : Value → Bool, (∀ y, y ∈ us → MeetsSeq.EqGives y (.str (mk x) t) (e y)) ∧ us.map e = ds.map (eqSD x) := by
  intro us ds r h
  refine ⟨fun v => match v with | .str y _ => y == mk x | _ => false, ?_, ?_⟩
  · induction ds generalizing us with
    | nil => cases r; intro y hy; cases hy
    | cons d ds ih =>
      cases r with
      | cons v _ vs _ r rs =>
        simp only [List.all_cons, Bool.and_eq_true] at h
        intro y hy
        rcases List.mem_cons.mp hy with rfl | hy
        · cases r with
          | none => exact EqGives.noneStr _ _
          | str y t' =>
            have := SeqRoads2.EqGives.str y (mk x) t' t
            rw [SeqAt.str_beq] at this
            exact this
          | _ => simp [isPlain] at h
        · exact ih rs h.2 y hy
  · induction ds generalizing us with
    | nil => cases r; rfl
    | cons d ds ih =>
      cases r with
      | cons v _ vs _ r rs =>
        simp only [List.all_cons, Bool.and_eq_true] at h
        rw [List.map_cons, List.map_cons, ih rs h.2]
        congr 1
        cases r <;> rfl
theorem any_of_map {α β : Type} {e : α → Bool} {g : β → Bool} : ∀ {l : List α} {k : List β}, l.map e = k.map g → l.any e = k.any g
  | [], [], _ => rfl
  | [], _ :: _, h => by simp at h
  | _ :: _, [], h => by simp at h
  | a :: l, b :: k, h => by
    simp only [List.map_cons, List.cons.injEq] at h
    simp only [List.any_cons, h.1, any_of_map h.2]
theorem countP_of_map {α β : Type} {e : α → Bool} {g : β → Bool} : ∀ {l : List α} {k : List β}, l.map e = k.map g → l.countP e = k.countP g
  | [], [], _ => rfl
  | [], _ :: _, h => by simp at h
  | _ :: _, [], h => by simp at h
  | a :: l, b :: k, h => by
    simp only [List.map_cons, List.cons.injEq] at h
    simp only [List.countP_cons, h.1, countP_of_map h.2]
theorem CmpD.inS {x : List Nat} {ds : List D} (h : ds.all isPlain = true) : CmpD prog w .In (S x) (.list ds) (ds.any (eqSD x)) := fun A n f s u v Q E ok i r1 r2 k => by
  cases r1
  cases r2 with
  | list a us m _ e rs =>
    obtain ⟨g, hg, hm⟩ := eqSD_gives (x := x) rs h
    refine SeqRoads2.in_list (items := us.toArray) g (fun y hy => hg y (by simpa using hy)) (i _ _ e) ?_
    rw [List.any_toArray, any_of_map hm]
    exact k _ _ (.refl i)
theorem CmpD.notInS {x : List Nat} {ds : List D} (h : ds.all isPlain = true) : CmpD prog w .NotIn (S x) (.list ds) (!ds.any (eqSD x)) := fun A n f s u v Q E ok i r1 r2 k => by
  cases r1
  cases r2 with
  | list a us m _ e rs =>
    obtain ⟨g, hg, hm⟩ := eqSD_gives (x := x) rs h
    refine SeqRoads2.notIn_list (items := us.toArray) g (fun y hy => hg y (by simpa using hy)) (i _ _ e) ?_
    rw [List.any_toArray, any_of_map hm]
    exact k _ _ (.refl i)
end
end Mine
end
section
set_option autoImplicit false
set_option Elab.async false
set_option linter.unusedVariables false
set_option linter.unusedSimpArgs false
open PySem PySem.W PyProof.Rows PySem.Calls
namespace Mine
def sl {α : Type} (lo hi : Option Int) (l : List α) : List α :=
  (l.drop (lo.elim 0 (clipAt l.length))).take (hi.elim l.length (clipAt l.length) - lo.elim 0 (clipAt l.length))
theorem clipAt_le (n : Nat) (i : Int) : clipAt n i ≤ n := by unfold clipAt; omega
theorem strIdx (lo hi : Option Int) (n : Nat) : Builtin.Str.strSliceIndices lo hi 1 n = (List.range (hi.elim n (clipAt n) - lo.elim 0 (clipAt n))).map ((lo.elim 0 (clipAt n)) + ·) := by
  have h : Builtin.Str.strSliceIndices lo hi 1 n = sliceRange (sliceBounds lo hi none n).1 (sliceBounds lo hi none n).2.1 (sliceBounds lo hi none n).2.2 := rfl
  rw [h, sliceBounds_plain]
  exact sliceRange_one _ _
theorem sl_length {α : Type} (lo hi : Option Int) (l : List α) : (sl lo hi l).length = hi.elim l.length (clipAt l.length) - lo.elim 0 (clipAt l.length) := by
  have h1 : hi.elim l.length (clipAt l.length) ≤ l.length := by cases hi with
    | none => exact Nat.le_refl _
    | some i => exact clipAt_le _ _
  unfold sl
  rw [List.length_take, List.length_drop]; omega
theorem sl_full {α : Type} (lo hi : Option Int) (l : List α) (h : (sl lo hi l).length = l.length) : sl lo hi l = l :=
  ((List.take_sublist _ _).trans (List.drop_sublist _ _)).eq_of_length h
section
variable {prog : Program} {w : World} {G : Heap} {vs : List Str} {nl : Nat} {oc : Bool} {gs : List Str} {c : Cx prog w G vs nl oc gs} {B : Bs c} {ρ : List AV}
def EvP (c : Cx prog w G vs nl oc gs) (ρ : List AV) (e : Option Expr) (i : Option Int) : Prop :=
  ∀ ⦃B : Bs c⦄ (f : PH) (s : Shared) (Q E : Value → Shared → Prop), Good c B ρ f s → (∀ v f' s', Step f s f' s' → (∃ p : Option (Int × Tok), v = partValue p ∧ p.map (·.1) = i) → Q v s') → wpAny (model prog w) c.A (evalPart e c.env) Q E s
theorem EvP.nil : EvP c ρ none none := fun _ f s Q E g k => wpAny_evalPart_none (k _ _ _ (.refl g.inn) ⟨.none, rfl, rfl⟩)
theorem EvP.one {e : Expr} {i : Int} (h : Ev c ρ e (.int i)) : EvP c ρ (some e) (some i) := fun _ f s Q E g k =>
  wpAny_evalPart_some (h f s Q E g fun v f' s' st r => by
    cases r with
    | int _ t => exact k _ _ _ st ⟨.some (i, t), rfl, rfl⟩)
theorem part_isPart {p : Option (Int × Tok)} {i : Option Int} (h : p.map (·.1) = i) : IsPart (partValue p) i := by
  subst h
  cases p with
  | none => exact .none
  | some q => exact .int _ _
theorem Ev.sliceS {value : Expr} {lower upper : Option Expr} {p pos : Pos} {a : List Nat} {lo hi : Option Int} (hv : Ev c ρ value (S a)) (h1 : EvP c ρ lower lo) (h2 : EvP c ρ upper hi) (hsz : a.length ≤ 1000000)
    (ht : ∀ o r, letTemporaryGo value o r = pure () := by intro _ _; rfl) :
    Ev c ρ (.Subscript value (.Slice lower upper none p) pos) (S (sl lo hi a)) := fun _ f s Q E g k =>
  wpAny_Subscript_str_slice (ht := ht) (hv f s _ E g fun v f1 s1 st1 r1 => h1 f1 s1 _ E (g.step st1) fun vl f2 s2 st2 ⟨pl, el, ml⟩ => h2 f2 s2 _ E ((g.step st1).step st2) fun vu f3 s3 st3 ⟨pu, eu, mu⟩ => by
    cases r1 with
    | str _ t =>
      refine ⟨mk a, t, pl, pu, rfl, el, eu, ?_⟩
      have st := ((st1.trans st2).trans st3).trans (.push st3.inn ({ cls := .type "slice", data := .fields #[vl, vu, .none] }))
      have hp : slicePicked (mk a) pl pu none = (List.range (hi.elim a.length (clipAt a.length) - lo.elim 0 (clipAt a.length))).map ((lo.elim 0 (clipAt a.length)) + ·) := by
        unfold slicePicked
        rw [ml, mu, mk_len]
        exact strIdx lo hi a.length
      have hf : ((slicePicked (mk a) pl pu none).filterMap ((mk a).cps[·]?)) = sl lo hi a := by
        rw [hp, pick_run]; rfl
      unfold sliceMade
      split
      · rename_i hc
        simp only [Bool.and_eq_true, beq_iff_eq] at hc
        have hlen : (sl lo hi a).length = a.length := by
          have hq : (slicePicked (mk a) pl pu none).length = (sl lo hi a).length := by rw [hp, sl_length]; simp
          rw [← hq, hc.2, mk_len]
        show Q (.str (mk a) t) _
        exact k _ _ _ st (by rw [sl_full lo hi a hlen]; exact .str _ _)
      · refine ⟨?_, ?_⟩
        · show (mk _).length ≤ _
          rw [hf, mk_len, sl_length]
          have h1 : hi.elim a.length (clipAt a.length) ≤ a.length := by cases hi with
            | none => exact Nat.le_refl _
            | some i => exact clipAt_le _ _
          exact Nat.le_trans (Nat.le_trans (Nat.sub_le _ _) h1) (Nat.le_trans hsz (by decide))
        · rw [hf]
          exact k _ _ _ (st.trans (.tk st.inn (Nat.le_succ _))) (.str _ _))
theorem Reps.sl {f : PH} {us : List Value} {ds : List D} (r : Reps f us ds) (lo hi : Option Int) : Reps f (sl lo hi us) (sl lo hi ds) := by
  unfold Mine.sl
  rw [r.length]
  exact (r.drop _).take _
theorem EvF.sliceL {value : Expr} {lower upper : Option Expr} {p pos : Pos} {ds : List D} {lo hi : Option Int} (hv : Ev c ρ value (.list ds)) (h1 : EvP c ρ lower lo) (h2 : EvP c ρ upper hi) (hsz : ds.length ≤ 1000000)
    (ht : ∀ o r, letTemporaryGo value o r = pure () := by intro _ _; rfl) :
    EvF c ρ (.Subscript value (.Slice lower upper none p) pos) (sl lo hi ds) := fun _ f s Q E g k =>
  wpAny_Subscript_list_slice (ht := ht) (hv f s _ E g fun v f1 s1 st1 r1 => h1 f1 s1 _ E (g.step st1) fun vl f2 s2 st2 ⟨pl, el, ml⟩ => h2 f2 s2 _ E ((g.step st1).step st2) fun vu f3 s3 st3 ⟨pu, eu, mu⟩ => by
    cases r1 with
    | list b us m _ e rs =>
      have rs3 := rs.mono (st2.sub.trans st3.sub)
      have st0 := (st1.trans st2).trans st3
      have st := st0.trans (.push st3.inn ({ cls := .type "slice", data := .fields #[vl, vu, .none] }))
      refine ⟨b, us.toArray, lo, hi, rfl, lobj_isList (st3.inn _ _ (st3.sub _ _ (st2.sub _ _ e))), by rw [List.size_toArray, rs.length]; exact Nat.le_trans hsz (by decide), el ▸ part_isPart ml, eu ▸ part_isPart mu, ?_⟩
      have hp : slicePick us.toArray lo hi none = (sl lo hi us).toArray := by rw [slicePick_plain]; simp [Mine.sl]
      rw [hp]
      have sz : (s3.heap.push ({ cls := .type "slice", data := .fields #[vl, vu, .none] } : Obj)).objs.size = s3.heap.objs.size + 1 := by simp
      have q := (st.trans (.push st.inn (lobj (sl lo hi us) 0)))
      refine k (s3.heap.objs.size + 1) (sl lo hi us) 0 f3 _ q (st.ext.gone (by rw [← sz]; exact get_size_none _)) ?_ (st.inn.none_of (by rw [← sz]; exact get_size_none _)) (rs3.sl lo hi)
      rw [← sz]
      exact Heap.get?_push_size _ rfl)
def isSeq : D → Bool
  | .list _ => true
  | .tup _ => true
  | .str _ => true
  | _ => false
theorem Ev.sub {value slice : Expr} {pos : Pos} {a i d : D} (hv : Ev c ρ value a) (hi : Ev c ρ slice i) (hg : GetD prog w a i d) (ha : isSeq a = true)
    (hs : ∀ o i, ∃ ops, subscripted slice false o i = operate ops (getItem o i) := by exact fun _ _ => ⟨_, rfl⟩) : Ev c ρ (.Subscript value slice pos) d := fun _ f s Q E g k =>
  Subscript_ (hv f s _ E g fun v f1 s1 st1 r1 => hi f1 s1 _ E (g.step st1) fun u f2 s2 st2 r2 => by
    obtain ⟨ops, ho⟩ := hs v u
    have r1' := r1.mono st2.sub
    have hq := hg c.A c.n f2 s2 v u Q E ((g.step st1).step st2).aok st2.inn r1' r2 fun r f3 s3 st3 r3 => k _ _ _ ((st1.trans st2).trans st3) r3
    cases r1' with
    | list b us m _ e rs => exact tail_any (T := "list") ⟨_, st2.inn _ _ e, rfl⟩ slot_list_getitem.lookup hq ho
    | tup b us m _ e rs => exact tail_any (T := "tuple") ⟨_, st2.inn _ _ e, rfl⟩ F.slot_tuple_getitem.lookup hq ho
    | str x t => exact tail_any (T := "str") rfl F.slot_str_getitem.lookup hq ho
    | _ => simp [isSeq] at ha)
theorem evalArgs0 {f0 : Value} {pos : Pos} (f : PH) (s : Shared) (Q : Args → Shared → Prop) (E : Value → Shared → Prop) (g : Good c B ρ f s)
    (k : ∀ us f' s', Step f s f' s' → Reps f' us [] → Q ⟨us, []⟩ s') : wpAny (model prog w) c.A (evalArgs f0 true (backTo pos (starEach [] c.env)) []) Q E s :=
  PySem.evalArgs_none (k [] f s (.refl g.inn) .nil)
theorem evalArgsS {f0 : Value} {e : Expr} {es : List Expr} {ds : List D} {pos : Pos} (h : Evs c ρ (e :: es) ds) (f : PH) (s : Shared) (Q : Args → Shared → Prop) (E : Value → Shared → Prop) (g : Good c B ρ f s)
    (k : ∀ us f' s', Step f s f' s' → Reps f' us ds → Q ⟨us, []⟩ s') (he : starEach (e :: es) c.env = (false, eval e c.env) :: starEach es c.env) :
    wpAny (model prog w) c.A (evalArgs f0 true (backTo pos (starEach (e :: es) c.env)) []) Q E s := by
  have hh := h pos f s (fun us s' => Q ⟨us, []⟩ s') E g k
  rw [he] at hh ⊢
  exact Calls.evalArgs_plain hh
def EvA (c : Cx prog w G vs nl oc gs) (ρ : List AV) (es : List Expr) (ds : List D) : Prop :=
  ∀ ⦃B : Bs c⦄ (f0 : Value) (pos : Pos) (f : PH) (s : Shared) (Q : Args → Shared → Prop) (E : Value → Shared → Prop), Good c B ρ f s → (∀ us f' s', Step f s f' s' → Reps f' us ds → Q ⟨us, []⟩ s') →
    wpAny (model prog w) c.A (evalArgs f0 true (backTo pos (starEach es c.env)) []) Q E s
theorem EvA.nil : EvA c ρ [] [] := fun _ f0 pos f s Q E g k => evalArgs0 f s Q E g k
theorem EvA.cons {e : Expr} {es : List Expr} {d : D} {ds : List D} (h : Ev c ρ e d) (hs : Evs c ρ es ds)
    (he : ∀ env, starEach (e :: es) env = (false, eval e env) :: starEach es env := by intro _; rfl) : EvA c ρ (e :: es) (d :: ds) := fun _ f0 pos f s Q E g k =>
  evalArgsS (Evs.cons h hs he) f s Q E g k (he _)
theorem global_b {x : Str} {v : Value} {pos : Pos} {Q E : Value → Shared → Prop} {f : PH} {s : Shared} (hx : x ∈ gs) {mg mb : Str → Option Value} (hg : G.Ns mainGlobals mg) (hb : G.Ns builtinsNs mb) (h0 : mg x = none) (hv : mb x = some v)
    (g : Good c B ρ f s) (k : Q v s) : wpAny (model prog w) c.A (eval (.Name x pos) c.env) Q E s :=
  Name_function_global c.kind (c.glob x hx) (loadGlobal_builtin (by rw [c.glo]; exact hg.keeps g.keepG) h0 (by rw [c.bui]; exact hb.keeps g.keepG) hv k) (c.nodeb x (List.mem_append_right _ hx))
theorem global_m {x : Str} {v : Value} {pos : Pos} {Q E : Value → Shared → Prop} {f : PH} {s : Shared} (hx : x ∈ gs) {mg : Str → Option Value} (hg : G.Ns mainGlobals mg) (hv : mg x = some v)
    (g : Good c B ρ f s) (k : Q v s) : wpAny (model prog w) c.A (eval (.Name x pos) c.env) Q E s :=
  Name_function_global c.kind (c.glob x hx) (loadGlobal_global (by rw [c.glo]; exact hg.keeps g.keepG) hv k) (c.nodeb x (List.mem_append_right _ hx))
def IsB (G : Heap) (x : Str) (v : Value) : Prop := ∃ mg mb, G.Ns mainGlobals mg ∧ G.Ns builtinsNs mb ∧ mg x = none ∧ mb x = some v
def IsM (G : Heap) (x : Str) (v : Value) : Prop := ∃ mg, G.Ns mainGlobals mg ∧ mg x = some v
def EvG (c : Cx prog w G vs nl oc gs) (ρ : List AV) (e : Expr) (v : Value) : Prop :=
  ∀ ⦃B : Bs c⦄ (f : PH) (s : Shared) (Q E : Value → Shared → Prop), Good c B ρ f s → Q v s → wpAny (model prog w) c.A (eval e c.env) Q E s
theorem EvG.b {x : Str} {v : Value} {pos : Pos} (h : IsB G x v) (hx : x ∈ gs) : EvG c ρ (.Name x pos) v := fun _ f s Q E g k => by
  obtain ⟨mg, mb, h1, h2, h3, h4⟩ := h
  exact global_b hx h1 h2 h3 h4 g k
theorem EvG.m {x : Str} {v : Value} {pos : Pos} (h : IsM G x v) (hx : x ∈ gs) : EvG c ρ (.Name x pos) v := fun _ f s Q E g k => by
  obtain ⟨mg, h1, h2⟩ := h
  exact global_m hx h1 h2 g k
theorem starred_false (pos : Pos) : ∀ (es : List Expr) (env : Env), (∀ e ∈ es, ∀ x p, e ≠ .Starred x p) → (backTo pos (starEach es env)).any (·.1) = false
  | [], _, _ => rfl
  | e :: es, env, h => by
    have he : starEach (e :: es) env = (false, eval e env) :: starEach es env := by
      cases e <;> first | rfl | exact absurd rfl (h _ (.head _) _ _)
    rw [he]
    show (false || (backTo pos (starEach es env)).any (·.1)) = false
    rw [starred_false pos es env fun e he => h e (.tail _ he)]; rfl
theorem Ev.callB {fe : Expr} {id : String} {es : List Expr} {pos : Pos} {ds : List D} {d : D} (hf : EvG c ρ fe (.builtin id)) (ha : EvA c ρ es ds) (h : CalD prog w id ds d)
    (hp : (∀ env, (backTo pos (starEach es env)).any (·.1) = false) := by intro _; rfl)
    (hc : ∀ env, eval (.Call fe es [] pos) env = (do callWith pos (← eval fe env) [] (backTo pos (starEach es env)) (backToKw pos (keywordEach [] env))) := by intro _; rfl) :
    Ev c ρ (.Call fe es [] pos) d := fun _ f s Q E g k => by
  rw [hc]
  refine wpAny_bind (hf f s _ E g ?_)
  refine callWith_builtin (hp _) (ha _ pos f s _ E g fun us f1 s1 st1 r1 => ?_)
  exact h c.A c.n f1 s1 us Q E (g.step st1).aok st1.inn r1 fun r f2 s2 st2 r2 => k _ _ _ (st1.trans st2) r2
end
end Mine
end
section
set_option autoImplicit false
set_option Elab.async false
set_option linter.unusedVariables false
set_option linter.unusedSimpArgs false
open PySem PySem.W PyProof.Rows PySem.Calls
namespace Mine
def sp (c : Nat) : List Nat → List (List Nat)
  | [] => [[]]
  | x :: r => if x = c then [] :: sp c r else match sp c r with
    | h :: t => (x :: h) :: t
    | [] => [[x]]
def jn (sep : List Nat) : List (List Nat) → List Nat
  | [] => []
  | [x] => x
  | x :: y :: r => x ++ sep ++ jn sep (y :: r)
theorem sp_ne (c : Nat) (l : List Nat) : sp c l ≠ [] := by
  cases l with
  | nil => simp [sp]
  | cons x r => unfold sp; split; · simp
                · split <;> simp
theorem sp_free (c : Nat) : ∀ (l : List Nat), ∀ p ∈ sp c l, c ∉ p
  | [], p, h => by simp [sp] at h; subst h; simp
  | x :: r, p, h => by
    have ih := sp_free c r
    unfold sp at h
    split at h
    · rcases List.mem_cons.mp h with rfl | h
      · simp
      · exact ih p h
    · rename_i hx
      cases hs : sp c r with
      | nil => exact absurd hs (sp_ne c r)
      | cons q t =>
        rw [hs] at h
        rcases List.mem_cons.mp h with rfl | h
        · intro hc
          rcases List.mem_cons.mp hc with e | e
          · exact hx e.symm
          · exact ih q (by rw [hs]; exact .head _) e
        · exact ih p (by rw [hs]; exact .tail _ h)
theorem jn_sp (c : Nat) : ∀ l : List Nat, jn [c] (sp c l) = l
  | [] => rfl
  | x :: r => by
    have ih := jn_sp c r
    unfold sp
    split
    · rename_i h; subst h
      cases hs : sp x r with
      | nil => exact absurd hs (sp_ne x r)
      | cons q t => rw [hs] at ih; simp [jn, ih]
    · cases hs : sp c r with
      | nil => exact absurd hs (sp_ne c r)
      | cons q t =>
        rw [hs] at ih
        cases t with
        | nil => simp only [jn] at ih ⊢; rw [ih]
        | cons u v => simp only [jn, List.cons_append] at ih ⊢; rw [ih]
theorem sp_of_free {c : Nat} : ∀ {p : List Nat}, c ∉ p → sp c p = [p]
  | [], _ => rfl
  | x :: r, h => by
    simp only [List.mem_cons, not_or] at h
    unfold sp
    rw [if_neg (Ne.symm h.1), sp_of_free h.2]
theorem sp_cons {c x : Nat} {r : List Nat} (h : ¬ x = c) : sp c (x :: r) = match sp c r with
    | h :: t => (x :: h) :: t
    | [] => [[x]] := by rw [sp, if_neg h]
theorem sp_app {c : Nat} : ∀ {p : List Nat} (q : List Nat), c ∉ p → sp c (p ++ c :: q) = p :: sp c q
  | [], q, _ => by simp [sp]
  | x :: r, q, h => by
    simp only [List.mem_cons, not_or] at h
    rw [List.cons_append, sp_cons (Ne.symm h.1), sp_app q h.2]
theorem sp_jn {c : Nat} : ∀ {ps : List (List Nat)}, ps ≠ [] → (∀ p ∈ ps, c ∉ p) → sp c (jn [c] ps) = ps
  | [], h, _ => absurd rfl h
  | [p], _, h => sp_of_free (h p (.head _))
  | p :: q :: r, _, h => by
    have ih := @sp_jn c (q :: r) (by simp) (fun x hx => h x (.tail _ hx))
    show sp c (p ++ [c] ++ jn [c] (q :: r)) = _
    rw [List.append_assoc, List.singleton_append, sp_app _ (h p (.head _)), ih]
theorem sjoin_mk (s : List Nat) : ∀ ls : List (List Nat), Str.join (mk s) (ls.map mk) = mk (jn s ls)
  | [] => rfl
  | [x] => rfl
  | x :: y :: r => by
    show mk x ++ mk s ++ Str.join (mk s) ((y :: r).map mk) = _
    rw [sjoin_mk s (y :: r), mk_app, mk_app]; rfl
theorem map_mk_exists : ∀ l : List Str, ∃ ls : List (List Nat), l = ls.map mk
  | [] => ⟨[], rfl⟩
  | x :: r => by
    obtain ⟨ls, e⟩ := map_mk_exists r
    exact ⟨x.cps.toList :: ls, by rw [List.map_cons, ← e]⟩
theorem split_mk (c : Nat) (l : List Nat) : Txt.split (mk l) ⟨#[c]⟩ = (sp c l).map mk := by
  obtain ⟨ls, e⟩ := map_mk_exists (Txt.split (mk l) ⟨#[c]⟩)
  have h1 := StrLaws.join_split (mk l) ⟨#[c]⟩
  have h2 := StrLaws.split_free (mk l) c
  rw [e] at h1 h2
  have h3 : jn [c] ls = l := by
    have : Str.join (mk [c]) (ls.map mk) = mk l := h1
    rw [sjoin_mk] at this
    exact mk_inj.mp this
  have hne : ls ≠ [] := by
    intro q
    have := PyProof.Rows.split_pos (mk l) ⟨#[c]⟩
    rw [e, q] at this; simp at this
  rw [e, ← h3, sp_jn hne fun p hp => by simpa using h2 (mk p) (List.mem_map_of_mem hp)]
theorem sp_length (c : Nat) : ∀ l : List Nat, (sp c l).length ≤ l.length + 1
  | [] => by simp [sp]
  | x :: r => by
    have ih := sp_length c r
    unfold sp
    split
    · simp; exact ih
    · cases hs : sp c r with
      | nil => simp
      | cons q t => rw [hs] at ih; simp at ih ⊢; omega
section
variable {prog : Program} {w : World}
theorem reps_strsFrom (f : PH) : ∀ (l : List (List Nat)) (k : Nat), Reps f (strsFrom k (l.map mk)) (l.map S)
  | [], _ => .nil
  | x :: r, k => .cons _ _ _ _ (.str _ _) (reps_strsFrom f r (k + 1))
theorem CalD.split {a : List Nat} {x : Nat} (h : a.length ≤ 1000000) : CalD prog w "str.split" [S a, S [x]] (.list ((sp x a).map S)) := fun A n f s us Q E ok i r k => by
  obtain ⟨t, u, rfl⟩ : ∃ t u, us = [.str (mk a) t, .str (mk [x]) u] := by
    cases r with | cons _ _ _ _ r rs => cases rs with | cons _ _ _ _ r' rs => cases rs; cases r; cases r'; exact ⟨_, _, rfl⟩
  have hy : ((mk [x]).length == 0) = false := rfl
  have hsp : Txt.split (mk a) (mk [x]) = (sp x a).map mk := split_mk x a
  have hsz : (mk a).length ≤ sizeLine := by rw [mk_len]; exact Nat.le_trans h (by decide)
  have hn : (Builtin.Str.partsBetween (mk a) (Builtin.Str.occurrences (mk a) (mk [x]) 0 (mk a).length ((mk a).length + 1)) (mk [x]).length).length ≤ sizeLine := by
    have e1 := StrLaws.occ_length_le (mk a) (mk [x]) 0 (mk a).length ((mk a).length + 1)
    rw [length_partsBetween]
    have e2 := mk_len a
    have : sizeLine = 16777216 := rfl
    omega
  cases h1 : (decide ((mk a).length < (mk [x]).length) || decide (Builtin.Str.strKind (mk a) < Builtin.Str.strKind (mk [x])))
  · cases hf : (Builtin.Str.occurrences (mk a) (mk [x]) 0 (mk a).length ((mk a).length + 1)).isEmpty
    · refine call_meets F.slot_str_split (typeIs_str _ _ _) F.entry_str_split (F.args_str_split_2 _ _) (meets_str_split_sep (mk a) (mk [x]) t u h1 hy hf hsz hn) ?_
      have e : Builtin.Str.partsBetween (mk a) (Builtin.Str.occurrences (mk a) (mk [x]) 0 (mk a).length ((mk a).length + 1)) (mk [x]).length = (sp x a).map mk := by
        rw [← hsp]; unfold Txt.split; rw [h1, hf]; simp
      rw [e]
      have q := rep_new_list (s := { s with toks := s.toks + ((sp x a).map mk).length }) i (reps_strsFrom f (sp x a) s.toks) (items := (strsFrom s.toks ((sp x a).map mk)).toArray) rfl
      exact k _ _ _ ((Step.tk i (Nat.le_add_right _ _)).trans q.1) q.2
    · refine call_meets F.slot_str_split (typeIs_str _ _ _) F.entry_str_split (F.args_str_split_2 _ _) (meets_str_split_not_found (mk a) (mk [x]) t u h1 hy hf) ?_
      have e : (sp x a).map mk = [mk a] := by rw [← hsp]; unfold Txt.split; rw [h1, hf]; simp
      have e' : sp x a = [a] := by
        cases hs : sp x a with
        | nil => exact absurd hs (sp_ne x a)
        | cons p q => rw [hs] at e; cases q with
          | nil => simp only [List.map_cons, List.map_nil, List.cons.injEq, and_true] at e; rw [mk_inj.mp e]
          | cons _ _ => simp at e
      rw [e'] at k
      have q := rep_new_list i (Reps.one (Rep.str (f := f) (mk a) t)) (items := [Value.str (mk a) t].toArray) rfl
      exact k _ _ _ q.1 q.2
  · refine call_meets F.slot_str_split (typeIs_str _ _ _) F.entry_str_split (F.args_str_split_2 _ _) (meets_str_split_cannot_occur (mk a) (mk [x]) t u h1) ?_
    have e : (sp x a).map mk = [mk a] := by rw [← hsp]; unfold Txt.split; rw [h1]; simp
    have e' : sp x a = [a] := by
      cases hs : sp x a with
      | nil => exact absurd hs (sp_ne x a)
      | cons p q => rw [hs] at e; cases q with
        | nil => simp only [List.map_cons, List.map_nil, List.cons.injEq, and_true] at e; rw [mk_inj.mp e]
        | cons _ _ => simp at e
    rw [e'] at k
    have q := rep_new_list i (Reps.one (Rep.str (f := f) (mk a) t)) (items := [Value.str (mk a) t].toArray) rfl
    exact k _ _ _ q.1 q.2
theorem strsAre_of {f : PH} : ∀ {us : List Value} {ls : List (List Nat)}, Reps f us (ls.map S) → StrsAre us (ls.map mk)
  | us, [], r => by cases r; exact .nil
  | us, x :: ls, r => by
    cases r with
    | cons _ _ _ _ r rs => cases r; exact .cons _ _ (strsAre_of rs)
def total (ls : List (List Nat)) : Nat := (ls.map List.length).sum
theorem CalD.join {a : List Nat} {ls : List (List Nat)} (h : total ls + ls.length * a.length ≤ 1000000) : CalD prog w "str.join" [S a, .list (ls.map S)] (S (jn a ls)) := fun A n f s us Q E ok i r k => by
  cases r with
  | cons _ _ _ _ r1 rs =>
    cases rs with
    | cons _ _ _ _ r2 rs =>
      cases rs
      cases r1
      cases r2 with
      | list b vs' m _ e rs =>
        refine wpAny_with_toks (Nat.le_refl _) (PyProof.Rows.join_list (items := vs'.toArray) (ys := ls.map mk) (lobj_isList (i _ _ e)) (by simpa using strsAre_of rs) ?_ fun t' tk ht => k _ _ _ (.tk i ht) ?_)
        · have : ((ls.map mk).map (·.length)) = ls.map List.length := by rw [List.map_map]; exact List.map_congr_left fun x _ => mk_len x
          rw [this, List.length_map, mk_len]
          exact Nat.le_trans h (by decide)
        · have : Txt.join (mk a) (ls.map mk) = mk (jn a ls) := by
            unfold Txt.join; rw [StrLaws.glued_eq_join, sjoin_mk]
          rw [this]; exact .str _ _
end
end Mine
end
section
set_option autoImplicit false
set_option Elab.async false
set_option linter.unusedVariables false
set_option linter.unusedSimpArgs false
open PySem PySem.W PyProof.Rows PySem.Calls
namespace Mine
inductive O where
  | next (ρ : List AV)
  | ret (d : D)
  | brk (ρ : List AV)
  | cont (ρ : List AV)
section
variable {prog : Program} {w : World} {G : Heap} {vs : List Str} {nl : Nat} {oc : Bool} {gs : List Str} {c : Cx prog w G vs nl oc gs} {B : Bs c} {ρ : List AV}
def Out (c : Cx prog w G vs nl oc gs) (B : Bs c) (f : PH) : O → PH → Shared → Flow → Prop
  | .next ρ, f', s', fl => fl = .next ∧ Sub f f' ∧ Good c B ρ f' s'
  | .ret d, f', s', fl => ∃ v, fl = .ret v ∧ Sub f f' ∧ Rep f' v d ∧ Step B.f0 B.s0 f' s'
  | .brk ρ, f', s', fl => fl = .brk ∧ Sub f f' ∧ Good c B ρ f' s'
  | .cont ρ, f', s', fl => fl = .cont ∧ Sub f f' ∧ Good c B ρ f' s'
def Ex1 (c : Cx prog w G vs nl oc gs) (ρ : List AV) (st : Stmt) (o : O) : Prop :=
  ∀ ⦃B : Bs c⦄ (f : PH) (s : Shared) (Q : Flow → Shared → Prop) (E : Value → Shared → Prop), Good c B ρ f s → (∀ fl f' s', Out c B f o f' s' fl → Q fl s') → wpAny (model prog w) c.A (exec st c.env) Q E s
def Ex (c : Cx prog w G vs nl oc gs) (ρ : List AV) (ss : List Stmt) (o : O) : Prop :=
  ∀ ⦃B : Bs c⦄ (f : PH) (s : Shared) (Q : Flow → Shared → Prop) (E : Value → Shared → Prop), Good c B ρ f s → (∀ fl f' s', Out c B f o f' s' fl → Q fl s') → wpAny (model prog w) c.A (execs ss c.env) Q E s
theorem Out.mono {f g f' : PH} {s' : Shared} {fl : Flow} (h : Sub f g) : ∀ {o : O}, Out c B g o f' s' fl → Out c B f o f' s' fl
  | .next _, ⟨e, a, b⟩ => ⟨e, h.trans a, b⟩
  | .ret _, ⟨v, e, a, b⟩ => ⟨v, e, h.trans a, b⟩
  | .brk _, ⟨e, a, b⟩ => ⟨e, h.trans a, b⟩
  | .cont _, ⟨e, a, b⟩ => ⟨e, h.trans a, b⟩
theorem Ex.nil : Ex c ρ [] (.next ρ) := fun _ f s Q E g k => wpAny_execs_nil (k _ f s ⟨rfl, .refl f, g⟩)
theorem Ex.cons {st : Stmt} {rest : List Stmt} {ρ' : List AV} {o : O} (h : Ex1 c ρ st (.next ρ')) (h' : Ex c ρ' rest o) : Ex c ρ (st :: rest) o := fun _ f s Q E g k =>
  wpAny_execs_cons (h f s _ E g fun fl f' s' ⟨e, sb, g'⟩ => by
    subst e
    exact h' f' s' Q E g' fun fl f'' s'' o => k _ _ _ (o.mono sb))
def O.stops : O → Bool
  | .next _ => false
  | _ => true
theorem Ex.stop {st : Stmt} {rest : List Stmt} {o : O} (h : Ex1 c ρ st o) (ho : o.stops = true := by rfl) : Ex c ρ (st :: rest) o := fun _ f s Q E g k =>
  wpAny_execs_cons (h f s _ E g fun fl f' s' q => by
    have := k fl f' s' q
    cases o with
    | next _ => cases ho
    | ret d => obtain ⟨v, e, _⟩ := q; subst e; exact this
    | brk _ => obtain ⟨e, _⟩ := q; subst e; exact this
    | cont _ => obtain ⟨e, _⟩ := q; subst e; exact this)
theorem Ex.one {st : Stmt} {o : O} (h : Ex1 c ρ st o) : Ex c ρ [st] o := by
  cases ho : o with
  | next ρ' => rw [ho] at h; exact Ex.cons h Ex.nil
  | ret d => rw [ho] at h; exact Ex.stop h
  | brk ρ' => rw [ho] at h; exact Ex.stop h
  | cont ρ' => rw [ho] at h; exact Ex.stop h
theorem Good.store {i : Nat} {x : Str} {v : Value} {d : D} {f : PH} {s : Shared} {Q : Unit → Shared → Prop} {E : Value → Shared → Prop} (g : Good c B ρ f s) (hx : vs[i]? = some x) (hi : i < nl ∨ oc = true) (r : Rep f v d)
    (k : ∀ s', Good c B (ρ.set i (.dat d)) f s' → Q () s') : wpAny (model prog w) c.A (storeName c.env x v) Q E s := by
  obtain ⟨m, hm⟩ := g.ns
  by_cases hn : i < nl
  · have hl := c.loc i x hn hx
    refine wpAny_storeName_local hl hm (fun h' hn' hs => k _ (g.setLocal hx hl hm hn' hs (Nat.le_succ _) r)) (by rw [c.kind]; rfl)
  · have ho := hi.resolve_left hn
    have hn' := Nat.le_of_not_lt hn
    have hk := c.own ho i x hn' hx
    obtain ⟨_, ca, hca⟩ := c.cel i x hn' hx
    obtain ⟨_, w0, hw0⟩ := g.fc x ca hca
    exact wpAny_storeName_cell c.kind hk hca hw0 fun h' hc' hs => k _ (g.setCell (k := s.toks) hx hk hca (B.ownc ho x ca hca) hc' hs (Nat.le_refl _) r)
theorem Good.storeOwn {i : Nat} {x : Str} {a : Addr} {ds : List D} {f : PH} {s : Shared} {Q : Unit → Shared → Prop} {E : Value → Shared → Prop} (g : Good c B ρ f s) (hx : vs[i]? = some x) (hi : i < nl)
    (r : Gets B ρ i f s.heap (.ref a) (.own ds)) (k : ∀ s', Good c B (ρ.set i (.own ds)) f s' → Q () s') : wpAny (model prog w) c.A (storeName c.env x (.ref a)) Q E s := by
  obtain ⟨m, hm⟩ := g.ns
  have hl := c.loc i x hi hx
  exact wpAny_storeName_local hl hm (fun h' hn' hs => k _ (g.setLocal hx hl hm hn' hs (Nat.le_succ _) r)) (by rw [c.kind]; rfl)
def As (c : Cx prog w G vs nl oc gs) (ρ : List AV) (t : Expr) (d : D) (ρ' : List AV) : Prop :=
  ∀ ⦃B : Bs c⦄ (f : PH) (s : Shared) (v : Value) (Q : Unit → Shared → Prop) (E : Value → Shared → Prop), Good c B ρ f s → Rep f v d → (∀ s', Good c B ρ' f s' → Q () s') → wpAny (model prog w) c.A (assign t c.env v) Q E s
theorem As.name (i : Nat) {x : Str} {p : Pos} {d : D} (hx : vs[i]? = some x) (hi : i < nl ∨ oc = true := by first | exact .inl (by decide) | exact .inr rfl) : As c ρ (.Name x p) d (ρ.set i (.dat d)) := fun _ f s v Q E g r k =>
  wpAny_assign_Name (g.store hx hi r k)
def NamesAt (vs : List Str) (nl : Nat) (oc : Bool) : List Expr → List Nat → Prop
  | [], [] => True
  | e :: es, i :: is => (∃ x p, e = .Name x p ∧ vs[i]? = some x ∧ (i < nl ∨ oc = true)) ∧ NamesAt vs nl oc es is
  | _, _ => False
def setAll : List AV → List Nat → List D → List AV
  | ρ, i :: is, d :: ds => setAll (ρ.set i (.dat d)) is ds
  | ρ, _, _ => ρ
theorem inOrder {f : PH} {Q : Unit → Shared → Prop} {E : Value → Shared → Prop} : ∀ {es : List Expr} {is : List Nat} {us : List Value} {ds : List D} {ρ : List AV} {s : Shared}, NamesAt vs nl oc es is → Reps f us ds → us.length = es.length → Good c B ρ f s →
    (∀ s', Good c B (setAll ρ is ds) f s' → Q () s') → wpAny (model prog w) c.A (assignInOrder ((assignEach es c.env).map (·.2)) us) Q E s := by
  intro es
  induction es with
  | nil =>
    intro is us ds ρ s hn r hl g k
    cases is with
    | cons i is => exact hn.elim
    | nil =>
      cases r with
      | nil => exact wpAny_assignInOrder_none (k _ g)
      | cons => cases hl
  | cons e es ih =>
    intro is us ds ρ s hn r hl g k
    cases is with
    | nil => exact hn.elim
    | cons i is =>
      obtain ⟨⟨x, p, he, hx, hi⟩, hn⟩ := hn
      subst he
      cases r with
      | nil => cases hl
      | cons v d us ds r rs =>
        exact wpAny_assignInOrder_more (wpAny_assign_Name (g.store hx hi r fun s' g' => ih hn rs (Nat.succ.inj hl) g' k))
theorem plain_targets {es : List Expr} {is : List Nat} (h : NamesAt vs nl oc es is) (env : Env) : (assignEach es env).length = es.length ∧ (assignEach es env).findIdx? (·.1) = none := by
  induction es generalizing is with
  | nil => exact ⟨rfl, rfl⟩
  | cons e es ih =>
    cases is with
    | nil => exact h.elim
    | cons i is =>
      obtain ⟨⟨x, p, he, _⟩, hn⟩ := h
      subst he
      have := ih hn
      refine ⟨by show (assignEach es env).length + 1 = _; rw [this.1]; rfl, ?_⟩
      show List.findIdx? _ ((false, _) :: assignEach es env) = none
      rw [List.findIdx?_cons, this.2]; rfl
theorem NamesAt.len {es : List Expr} {is : List Nat} (h : NamesAt vs nl oc es is) : es.length = is.length := by
  induction es generalizing is with
  | nil => cases is; rfl; exact h.elim
  | cons e es ih =>
    cases is with
    | nil => exact h.elim
    | cons i is => simp [ih h.2]
theorem Good.extBut {f : PH} {s : Shared} {h' : Heap} (g : Good c B ρ f s) (he : Heap.ExtBut s.heap.objs.size s.heap h') {k : Nat} (hk : s.toks ≤ k) : Good c B ρ f { s with heap := h', toks := k } :=
  g.step (.same' g.inn (fun b o e => he b o (Nat.ne_of_lt (Heap.lt_size e)) e) hk)
theorem As.tup {es : List Expr} {q : Nat} {p : Pos} (is : List Nat) {ds : List D} {d : D} (hn : NamesAt vs nl oc es is) (hl : ds.length = is.length) (hd : d = .tup ds ∨ d = .list ds) (h0n : 0 < c.n := by first | exact ar_n (by assumption) | exact ar_n2 (by assumption) (by assumption) | omega) : As c ρ (.Tuple es q p) d (setAll ρ is ds) := fun _ f s v Q E g r k => by
  have hp := plain_targets hn c.env
  have hlen : es.length = ds.length := hn.len.trans hl.symm
  rcases hd with rfl | rfl
  · cases r with
    | tup a us m _ e rs =>
      exact wpAny_assign_Tuple (g.aok.handled h0n) ⟨_, g.inn _ _ e, rfl, m, rfl⟩ (by rw [hp.1, hlen, List.size_toArray, rs.length]) hp.2 fun h' he =>
        inOrder (is := is) hn (by simpa using rs) (by simp [rs.length, hlen]) (g.extBut (k := s.toks) he (Nat.le_refl _)) k
  · cases r with
    | list a us m _ e rs =>
      have hlu : us.toArray.size = (assignEach es c.env).length := by rw [hp.1, hlen, List.size_toArray, rs.length]
      rw [arm_assign_Tuple]
      refine wpAny_bind (wpAny_standAt ?_)
      unfold unpack
      rw [← hlu, hp.2]
      exact wpAny_bind (wpAny_holding (kun_itemsOf (g.aok.handled h0n) (lobj_isList (g.inn _ _ e)) fun h' he =>
        inOrder (is := is) hn (by simpa using rs) (by simp [rs.length, hlen]) (g.extBut (k := s.toks) he (Nat.le_refl _)) k))
theorem Ex1.assign (i : Nat) {x : Str} {p pos : Pos} {e : Expr} {d : D} (h : Ev c ρ e d) (hx : vs[i]? = some x) (hi : i < nl ∨ oc = true := by first | exact .inl (by decide) | exact .inr rfl)
    (hs : ∀ env, swapsWith e (some (.Name x p)) pos.line env = pure false := by intro _; rfl) : Ex1 c ρ (.Assign [.Name x p] e pos) (.next (ρ.set i (.dat d))) := fun _ f s Q E g k =>
  wpAny_Assign_Name (hs := hs _) (h f s _ E g fun v f' s' st r => (g.step st).store hx hi r fun s'' g' => k _ f' s'' ⟨rfl, st.sub, g'⟩)
theorem fresh_apart {f f' : PH} {s s' : Shared} {a : Addr} (g : Good c B ρ f s) (st : Step f s f' s') (hn : s.heap.get? a = none) {us : List Value} {n : Nat} {ds : List D} (ha : s'.heap.get? a = some (lobj us n)) (hf : f' a = none) (r : Reps f' us ds) (i : Nat) :
    Gets B ρ i f' s'.heap (.ref a) (.own ds) := by
  refine ⟨a, rfl, ⟨us, n, ha, hf, g.st.ext.gone hn, r⟩, fun j y es _ hy hr hh => ?_⟩
  have := hh.back g st (List.mem_of_getElem? hy)
  obtain ⟨b, hb, us', m, eb, _⟩ := g.vals j y _ hy hr
  have := this.unique hb
  cases this
  rw [hn] at eb; cases eb
theorem Ex1.assignOwn (i : Nat) {x : Str} {p pos : Pos} {e : Expr} {ds : List D} (h : EvF c ρ e ds) (hx : vs[i]? = some x) (hi : i < nl := by decide)
    (hs : ∀ env, swapsWith e (some (.Name x p)) pos.line env = pure false := by intro _; rfl) : Ex1 c ρ (.Assign [.Name x p] e pos) (.next (ρ.set i (.own ds))) := fun _ f s Q E g k =>
  wpAny_Assign_Name (hs := hs _) (h f s _ E g fun a us n f' s' st hn ha hf r => (g.step st).storeOwn hx hi (fresh_apart g st hn ha hf r i) fun s'' g' => k _ f' s'' ⟨rfl, st.sub, g'⟩)
theorem Ex1.assign2 (i j : Nat) {x y : Str} {p q pos : Pos} {e : Expr} {d : D} (h : Ev c ρ e d) (hx : vs[i]? = some x) (hy : vs[j]? = some y) (hi : i < nl ∨ oc = true := by first | exact .inl (by decide) | exact .inr rfl)
    (hj : j < nl ∨ oc = true := by first | exact .inl (by decide) | exact .inr rfl) : Ex1 c ρ (.Assign [.Name x p, .Name y q] e pos) (.next ((ρ.set i (.dat d)).set j (.dat d))) := fun _ f s Q E g k =>
  wpAny_Assign_two (h f s _ E g fun v f' s' st r => wpAny_assign_Name ((g.step st).store hx hi r fun s1 g1 => wpAny_assign_Name (g1.store hy hj r fun s2 g2 => k _ f' s2 ⟨rfl, st.sub, g2⟩)))
theorem Ex1.assignT {es : List Expr} {q : Nat} {p pos : Pos} (is : List Nat) {e : Expr} {ds : List D} {d : D} (h : Ev c ρ e d) (hn : NamesAt vs nl oc es is) (hl : ds.length = is.length) (hd : d = .tup ds ∨ d = .list ds)
    (hs : ∀ env, swapsWithSole [.Tuple es q p] e pos.line env = pure false := by intro _; rfl) (hw : swappedStores [.Tuple es q p] e c.env = pure none := by rfl) (h0n : 0 < c.n := by first | exact ar_n (by assumption) | exact ar_n2 (by assumption) (by assumption) | omega) :
    Ex1 c ρ (.Assign [.Tuple es q p] e pos) (.next (setAll ρ is ds)) := fun _ f s Q E g k =>
  Assign_Tuple (hs := hs _) (hw := hw) (h f s _ E g fun v f' s' st r => As.tup is hn hl hd h0n f' s' v _ E (g.step st) r fun s'' g' => k _ f' s'' ⟨rfl, st.sub, g'⟩)
theorem binds_inOrder {f : PH} {Q : Unit → Shared → Prop} {E : Value → Shared → Prop} : ∀ {xs : List Str} {is : List Nat} {us : List Value} {ds : List D} {ρ : List AV} {s : Shared}, is.map (vs[·]?) = xs.map some → (∀ i ∈ is, i < nl ∨ oc = true) → Reps f us ds → us.length = xs.length → Good c B ρ f s →
    (∀ s', Good c B (setAll ρ is ds) f s' → Q () s') → wpAny (model prog w) c.A (assignInOrder (xs.map fun n => bindName c.env n) us) Q E s
  | [], [], _, _, ρ, s, _, _, r, hl, g, k => by
    cases r with
    | nil => exact wpAny_assignInOrder_none (k _ g)
    | cons => simp at hl
  | [], _ :: _, _, _, ρ, s, h, _, r, hl, g, k => by simp at h
  | _ :: _, [], _, _, ρ, s, h, _, r, hl, g, k => by simp at h
  | x :: xs, i :: is, us, ds, ρ, s, h, hi, r, hl, g, k => by
    simp only [List.map_cons, List.cons.injEq] at h
    cases r with
    | nil => simp at hl
    | cons v d us ds r rs =>
      exact wpAny_assignInOrder_more (wpAny_bindName (g.store h.1 (hi i (.head _)) r fun s' g' => binds_inOrder h.2 (fun j hj => hi j (.tail _ hj)) rs (by simpa using hl) g' k))
theorem Reps.reverse {f : PH} {us : List Value} {ds : List D} (r : Reps f us ds) : Reps f us.reverse ds.reverse := by
  induction ds generalizing us with
  | nil => cases r; exact .nil
  | cons d ds ih =>
    cases r with
    | cons v _ us _ r rs =>
      rw [List.reverse_cons, List.reverse_cons]
      exact (ih rs).append (.one r)
theorem Ex1.assignS {es : List Expr} {q : Nat} {p pos : Pos} {xs : List Str} (is : List Nat) {e : Expr} {ds : List D} (h : Ev c ρ e (.tup ds)) (hn : is.map (vs[·]?) = xs.map some) (hi : ∀ i ∈ is, i < nl ∨ oc = true) (hl : ds.length = xs.length)
    (hw : swappedStores [.Tuple es q p] e c.env = pure (some xs)) (hs : ∀ env, swapsWithSole [.Tuple es q p] e pos.line env = pure false := by intro _; rfl) (h0n : 0 < c.n := by first | exact ar_n (by assumption) | exact ar_n2 (by assumption) (by assumption) | omega) :
    Ex1 c ρ (.Assign [.Tuple es q p] e pos) (.next (setAll ρ is.reverse ds.reverse)) := fun _ f s Q E g k =>
  Assign_Tuple_swapped (hs := hs _) (hw := hw) (h f s _ E g fun v f' s' st r => by
    cases r with
    | tup a us m _ e rs =>
      have g1 := g.step st
      have hu : us.toArray.size = xs.length := by rw [List.size_toArray, rs.length, hl]
      rw [← hu]
      refine wpAny_unpackItems_tuple (g1.aok.handled h0n) ⟨_, st.inn _ _ e, rfl, m, rfl⟩ fun h' he => ?_
      refine binds_inOrder (is := is.reverse) (by rw [List.map_reverse, List.map_reverse, hn]) (fun i hi' => hi i (by simpa using hi')) (by simpa using rs.reverse) (by simp [rs.length, hl]) (g1.extBut (k := s'.toks) he (Nat.le_refl _)) fun s'' g' => k _ f' s'' ⟨rfl, st.sub, g'⟩)
theorem Ex1.aug (i : Nat) {x : Str} {p pos : Pos} {op : Operator} {e : Expr} {a b d : D} (hx : vs[i]? = some x) (hr : ρ[i]? = some (.dat a)) (h : Ev c ρ e b)
    (hop : ∀ (A : Around) (n : Nat) (f : PH) (s : Shared) (u v : Value) (Q E : Value → Shared → Prop), AOK A n f s.heap → Inn f s.heap → Rep f u a → Rep f v b → (∀ r f' s', Step f s f' s' → Rep f' r d → Q r s') → wpAny (model prog w) A (inplaceOp op u v) Q E s)
    (hi : i < nl := by decide) : Ex1 c ρ (.AugAssign (.Name x p) op e pos) (.next (ρ.set i (.dat d))) := fun _ f s Q E g k => by
  obtain ⟨v, hh, r⟩ := g.vals i x _ hx hr
  have hl := c.loc i x hi hx
  rcases hh with ⟨kd, m, hn, hv⟩ | ⟨kd | kd, _⟩
  · refine wpAny_AugAssign_Name (wpAny_loadName_local c.kind kd hn hv (h f s _ E g fun u f1 s1 st1 r1 => hop c.A c.n f1 s1 v u _ E (g.step st1).aok st1.inn (r.mono st1.sub) r1 fun z f2 s2 st2 r2 => ?_))
    exact ((g.step st1).step st2).store hx (.inl hi) r2 fun s3 g3 => k _ f2 s3 ⟨rfl, st1.sub.trans st2.sub, g3⟩
  · rw [hl] at kd; cases kd
  · rw [hl] at kd; cases kd
theorem Ex1.ret {e : Expr} {pos : Pos} {d : D} (h : Ev c ρ e d) : Ex1 c ρ (.Return (some e) pos) (.ret d) := fun _ f s Q E g k =>
  wpAny_Return_some (h f s _ E g fun v f' s' st r => k _ f' s' ⟨v, rfl, st.sub, r, g.st.trans st⟩)
theorem Ex1.brk {pos : Pos} : Ex1 c ρ (.Break pos) (.brk ρ) := fun _ f s Q E g k => wpAny_Break (k _ f s ⟨rfl, .refl f, g⟩)
theorem Ex1.cont {pos : Pos} : Ex1 c ρ (.Continue pos) (.cont ρ) := fun _ f s Q E g k => wpAny_Continue (k _ f s ⟨rfl, .refl f, g⟩)
theorem Ex1.ite {t : Expr} {a b : List Stmt} {pos : Pos} {q : Bool} {o : O} (h : Tr c ρ t q) (h1 : q = true → Ex c ρ a o) (h2 : q = false → Ex c ρ b o) : Ex1 c ρ (.If t a b pos) o := fun _ f s Q E g k =>
  wpAny_If (h f s _ E g fun f1 s1 st => by
    cases q with
    | true => exact h1 rfl f1 s1 Q E (g.step st) fun fl f' s' o => k _ _ _ (o.mono st.sub)
    | false => exact h2 rfl f1 s1 Q E (g.step st) fun fl f' s' o => k _ _ _ (o.mono st.sub))
end
end Mine
end
section
set_option autoImplicit false
set_option Elab.async false
set_option linter.unusedVariables false
set_option linter.unusedSimpArgs false
open PySem PySem.W PyProof.Rows PySem.Calls
namespace Mine
theorem AOK.le {A : Around} {n m : Nat} {f : PH} {h : Heap} (x : AOK A n f h) (k : m ≤ n) : AOK A m f h :=
  ⟨fun h => x.handled (by first | assumption | exact Nat.le_trans (by assumption) (by decide) | omega), by have := x.depth; omega, by have := x.units; omega, x.frames⟩
section
variable (prog : Program) (w : World) (G : Heap)
def CallsTo (n : Nat) (a : Addr) (ds : List D) (d : D) : Prop :=
  ∀ (A : Around) (f : PH) (s : Shared) (us : List Value) (Q E : Value → Shared → Prop), AOK A n f s.heap → Sub G.get? f → Inn f s.heap → 0 ≤ s.toks → Reps f us ds →
    (∀ v f' s', Step f s f' s' → Rep f' v d → Q v s') → wpAny (model prog w) A (call (.ref a) us []) Q E s
end
def FnAt (G : Heap) (a : Addr) (name : Str) (params : Arguments) (body : List Stmt) (scope : Scope) : Prop :=
  ∃ oc od osl doc pm an cdv ct, G.get? a = some ⟨oc, od, .func (fnOf name name params body scope .none .none doc pm an cdv ct), osl⟩ ∧ G.CodeRec cdv name
section
variable {prog : Program} {w : World} {G : Heap} {vs : List Str} {nl : Nat} {oc : Bool} {gs : List Str} {c : Cx prog w G vs nl oc gs} {B : Bs c} {ρ : List AV}
theorem Ev.callF {fe : Expr} {a : Addr} {es : List Expr} {pos : Pos} {ds : List D} {d : D} {m : Nat} {name : Str} {params : Arguments} {body : List Stmt} {scope : Scope} (hf : EvG c ρ fe (.ref a)) (hF : FnAt G a name params body scope)
    (ha : EvA c ρ es ds) (h : CallsTo prog w G m a ds d) (hm : m ≤ c.n)
    (hc : ∀ env, eval (.Call fe es [] pos) env = (do callWith pos (← eval fe env) [] (backTo pos (starEach es env)) (backToKw pos (keywordEach [] env))) := by intro _; rfl) :
    Ev c ρ (.Call fe es [] pos) d := fun _ f s Q E g k => by
  obtain ⟨oc', od, osl, doc, pm, an, cdv, ct, hG, _⟩ := hF
  rw [hc]
  refine wpAny_bind (hf f s _ E g ?_)
  refine Calls.callWith_function (o := ⟨oc', od, .func (fnOf name name params body scope .none .none doc pm an cdv ct), osl⟩) (fd := fnOf name name params body scope .none .none doc pm an cdv ct) (ha _ pos f s _ E g fun us f1 s1 st1 r1 => ⟨⟨(g.step st1).keepG _ _ hG, rfl⟩, ?_⟩)
  exact h c.A f1 s1 us Q E ((g.step st1).aok.le hm) (g.step st1).gsub st1.inn (g.step st1).tok r1 fun r f2 s2 st2 r2 => k _ _ _ (st1.trans st2) r2
theorem bindL_get {kindOf : Str → Option NameKind} {x : Str} {v : Value} (hx : kindOf x = some .local) : ∀ {binds : List (Str × Value)} {m : Str → Option Value}, (binds.map (·.1)).Nodup → (x, v) ∈ binds → bindL kindOf binds m x = some v
  | [], _, _, h => by cases h
  | (y, u) :: r, m, hn, h => by
    have hn' := List.nodup_cons.mp hn
    unfold bindL
    rcases List.mem_cons.mp h with e | h
    · cases e
      have : ∀ {r : List (Str × Value)} {m : Str → Option Value}, x ∉ r.map (·.1) → bindL kindOf r m x = m x := by
        intro r
        induction r with
        | nil => intro m _; rfl
        | cons p r ih =>
          intro m hx'
          simp only [List.map_cons, List.mem_cons, not_or] at hx'
          unfold bindL
          rw [ih hx'.2]
          split
          · simp [hx'.1]
          · rfl
      rw [this hn'.1, if_pos hx]; simp
    · exact bindL_get hx hn'.2 h
theorem bindC_get {kindOf : Str → Option NameKind} {x : Str} {v : Value} (hx : kindOf x = some .cell) : ∀ {binds : List (Str × Value)} {m : Str → Option Value}, (binds.map (·.1)).Nodup → (x, v) ∈ binds → bindC kindOf binds m x = some v
  | [], _, _, h => by cases h
  | (y, u) :: r, m, hn, h => by
    have hn' := List.nodup_cons.mp hn
    have hnl : ¬ kindOf x = some .local := by rw [hx]; decide
    unfold bindC
    rcases List.mem_cons.mp h with e | h
    · cases e
      have : ∀ {r : List (Str × Value)} {m : Str → Option Value}, x ∉ r.map (·.1) → bindC kindOf r m x = m x := by
        intro r
        induction r with
        | nil => intro m _; rfl
        | cons p r ih =>
          intro m hx'
          simp only [List.map_cons, List.mem_cons, not_or] at hx'
          unfold bindC
          rw [ih hx'.2]
          split
          · rfl
          · simp [hx'.1]
      rw [this hn'.1, if_neg hnl]; simp
    · exact bindC_get hx hn'.2 h
def okScope (scope : Scope) (ps vs : List Str) (nl : Nat) (gs : List Str) : Bool :=
  decide (scope.kind = .function) && !scope.isGenerator && !scope.isCoroutine &&
  (vs.take nl).all (fun x => decide (scope.names.lookup x = some .local)) && (vs.drop nl).all (fun x => decide (scope.names.lookup x = some .cell)) &&
  gs.all (fun x => decide (scope.names.lookup x = some .globalImplicit)) && decide vs.Nodup && (vs ++ gs).all (fun x => !(x == ("__debug__" : Str))) && vs.all (fun x => !(x == ("__classdict__" : Str))) &&
  decide ps.Nodup && ps.all (fun x => vs.contains x)
theorem take_get {l : List Str} {n i : Nat} {x : Str} (h : i < n) (e : l[i]? = some x) : x ∈ l.take n :=
  List.mem_of_getElem? (i := i) (by rw [List.getElem?_take, if_pos h]; exact e)
theorem drop_get {l : List Str} {n i : Nat} {x : Str} (h : n ≤ i) (e : l[i]? = some x) : x ∈ l.drop n :=
  List.mem_of_getElem? (i := i - n) (by rw [List.getElem?_drop, show n + (i - n) = i by omega]; exact e)
theorem callsTo_body {n : Nat} {a : Addr} {name : Str} {params : Arguments} {body : List Stmt} {scope : Scope} {ps : List Str} {ds : List D} {d : D} {ρ0 : List AV} (vs : List Str) (nl : Nat) (gs : List Str) (hF : FnAt G a name params body scope) (hN : G.NoLimit)
    (hok : okScope scope ps vs nl gs = true) (hps : ps.length = ds.length)
    (hb : ∀ (us : List Value) dV kV doc pm an cdv ct, us.length = ps.length → dV = Value.none → kV = Value.none → ∀ (s : Shared), BindsTo s (fnOf name name params body scope dV kV doc pm an cdv ct) ⟨us, []⟩ (ps.zip us))
    (hρ : ∀ (i : Nat) x av, vs[i]? = some x → ρ0[i]? = some av → av = .undef ∨ ∃ (j : Nat) (d : D), ps[j]? = some x ∧ ds[j]? = some d ∧ av = .dat d)
    (h : ∀ c : Cx prog w G vs nl true gs, c.n = n → Ex c ρ0 body (.ret d)) : CallsTo prog w G (n + 1) a ds d := fun A f s us Q E ok hG i ht r k => by
  simp only [okScope, Bool.and_eq_true, decide_eq_true_eq, Bool.not_eq_true', List.all_eq_true] at hok
  obtain ⟨⟨⟨⟨⟨⟨⟨⟨⟨⟨k1, k2⟩, k3⟩, k4⟩, k5⟩, k6⟩, k7⟩, k8⟩, k9⟩, k10⟩, k11⟩ := hok
  obtain ⟨oc', od, osl, doc, pm, an, cdv, ct, hg, hcd⟩ := hF
  have keepG : ∀ b o, G.get? b = some o → s.heap.get? b = some o := fun b o e => i b o (hG b o e)
  have hul : us.length = ps.length := r.length.trans hps.symm
  refine wpAny_call (codeAny_call_function ok.room (keepG _ _ hg) rfl k3 k2 rfl (hcd.keeps keepG) ?_)
  refine hb us _ _ doc pm an cdv ct hul rfl rfl s _ _ _ _ ?_
  refine wpAny_with_toks (Nat.le_refl _) ?_
  have hz : (ps.zip us).map (·.1) = ps := by rw [List.map_fst_zip]; omega
  have hkind : ∀ y ∈ ps.zip us, scope.names.lookup y.1 = some .local ∨ (scope.names.lookup y.1 = some .cell ∧ ((cellsFrom (s.heap.objs.size + 1) scope.names []).lookup y.1).isSome = true) := fun y hy => by
    have hm : y.1 ∈ ps := by rw [← hz]; exact List.mem_map_of_mem hy
    have hv : y.1 ∈ vs := by simpa using k11 _ hm
    obtain ⟨j, hj⟩ := List.mem_iff_getElem?.mp hv
    by_cases hl : j < nl
    · exact .inl (k4 _ (take_get hl hj))
    · have := k5 _ (drop_get (Nat.le_of_not_lt hl) hj)
      exact .inr ⟨this, cellsFrom_some _ _ _ (.inl this)⟩
  refine wpAny_newFunctionEnv_cells k1 hkind fun env he s1 X tk => ?_
  subst he
  have hk1 := X.toInCall.keep
  refine ⟨(hN.keeps keepG).keeps hk1, codeAny_func ?_⟩
  generalize henv : newEnv _ _ _ _ _ _ _ _ _ = env at X ⊢
  have eL : env.locals = s.heap.objs.size := by rw [← henv]; rfl
  have eS : env.scope = scope := by rw [← henv]; rfl
  have eF : env.frame = some s.heap.objs.size := by rw [← henv]; rfl
  have eC : env.cells = cellsFrom (s.heap.objs.size + 1) scope.names [] := by rw [← henv]; rfl
  have eK : ∀ x, env.kindOf x = scope.names.lookup x := fun x => by unfold Env.kindOf; rw [eS]
  have nL : s.heap.get? env.locals = none := by rw [eL]; exact get_size_none _
  obtain ⟨h1, tk1, e1⟩ := X.toInCall.same
  subst e1
  have nC : ∀ x ca, env.cells.lookup x = some ca → s.heap.get? ca = none := fun x ca hca => by
    have := X.above x ca (PySem.mem_of_lookup hca)
    rw [eL] at this
    exact Heap.get?_none_of_le (Nat.le_of_lt this)
  let c : Cx prog w G vs nl true gs := {
    A := A.deeper env, env := env, n := n
    kind := by rw [eS]; exact k1
    glo := by rw [← henv]; rfl
    bui := by rw [← henv]; rfl
    loc := fun j x hj hx => by rw [eK]; exact k4 _ (take_get hj hx)
    cel := fun j x hj hx => by
      have := k5 _ (drop_get hj hx)
      refine ⟨.inl (by rw [eK]; exact this), ?_⟩
      rw [eC]
      exact Option.isSome_iff_exists.mp (cellsFrom_some _ _ _ (.inl this))
    own := fun _ j x hj hx => by rw [eK]; exact k5 _ (drop_get hj hx)
    glob := fun x hx => by rw [eK]; exact k6 x hx
    nodup := k7
    nodeb := fun x hx => by simpa using k8 x hx
    nocd := fun x hx => by simpa using k9 x hx
    inj := fun x y ca hx hy => PySem.name_of_addr X.apart (PySem.mem_of_lookup hx) (PySem.mem_of_lookup hy)
    }
  let B : Bs c := { f0 := f, s0 := s, gsub := hG, tok0 := ht, newL := nL, ownc := fun _ x ca hca => nC x ca hca }
  have st : Step f s f { s with heap := h1, toks := tk1 } := Step.same' i hk1 tk
  obtain ⟨l, hl, hFF⟩ := ok.frames
  have g : Good c B ρ0 f { s with heap := h1, toks := tk1 } := by
    refine ⟨st, ⟨fun _ => ok.handled (Nat.succ_pos n), ?_, ?_, ⟨env :: l, ?_, ?_⟩⟩, ⟨_, X.toInCall.ns⟩, ?_, fun x ca hca => ⟨?_, _, X.cell x ca hca⟩, fun j x av hx hav => ?_, fun j1 j2 x y es1 es2 a' hij hx hy h1' h2' _ _ => ?_⟩
    · have := ok.depth; show A.depth + 1 + n < 900; omega
    · have := ok.units; show A.units + 3 + 10 * n < 9000; omega
    · show A.frames.map _ = _; rw [hl]; rfl
    · intro env' he'
      rcases List.mem_cons.mp he' with rfl | he'
      · obtain ⟨o, es, ep, eo, hd, _⟩ := X.toInCall.ns
        refine ⟨by rw [eS, k1]; decide, _, o, eF, i.none_of (get_size_none _), eL ▸ eo, ⟨es, ep, hd⟩⟩
      · exact hFF.step st env' he'
    · exact i.none_of nL
    · exact i.none_of (nC x ca hca)
    · rcases hρ j x av hx hav with rfl | ⟨q, d', hq, hd', rfl⟩
      · trivial
      · obtain ⟨v, hv, rv⟩ := r.get hd'
        have hmem : (x, v) ∈ ps.zip us := List.mem_of_getElem? (i := q) (by rw [List.getElem?_zip_eq_some]; exact ⟨hq, hv⟩)
        refine ⟨v, ?_, rv⟩
        by_cases hj : j < nl
        · have hk := c.loc j x hj hx
          exact .inl ⟨hk, _, X.toInCall.ns, bindL_get hk (by rw [hz]; exact k10) hmem⟩
        · have hk := c.own rfl j x (Nat.le_of_not_lt hj) hx
          obtain ⟨_, ca, hca⟩ := c.cel j x (Nat.le_of_not_lt hj) hx
          refine .inr ⟨.inl hk, ca, hca, ?_⟩
          have := X.cell x ca hca
          rw [bindC_get hk (by rw [hz]; exact k10) hmem] at this
          exact this
    · rcases hρ j1 x _ hx h1' with q | ⟨_, _, _, _, q⟩ <;> cases q
  refine h c rfl f _ _ _ g fun fl f' s' ⟨v, e, _, rv, st'⟩ => ?_
  subst e
  exact k v f' s' st' rv
end
end Mine
end
section
set_option autoImplicit false
set_option Elab.async false
set_option linter.unusedVariables false
set_option linter.unusedSimpArgs false
open PySem PySem.W PyProof.Rows PySem.Calls
namespace Mine
open Classical in
noncomputable def hideP (h : Heap) (p : Addr → Prop) : Heap := ⟨h.objs.mapIdx fun a o => if p a then { o with data := .freed } else o, h.life⟩
theorem hideP_get (h : Heap) (p : Addr → Prop) (a : Addr) : (p a → (hideP h p).get? a = none) ∧ (¬ p a → (hideP h p).get? a = h.get? a) := by
  constructor
  · intro hp
    unfold hideP Heap.get?
    simp only [Array.getElem?_mapIdx]
    cases h.objs[a]? with
    | none => rfl
    | some o => simp [hp]
  · intro hp
    unfold hideP Heap.get?
    simp only [Array.getElem?_mapIdx]
    cases h.objs[a]? with
    | none => rfl
    | some o => simp [hp]
def Free (o : Obj) : Prop := (∀ es ep, o.data ≠ .dict es ep) ∧ (∀ v, o.data ≠ .cell v) ∧ ∀ us n, o ≠ lobj us n
section
variable {prog : Program} {w : World} {G : Heap} {vs : List Str} {nl : Nat} {oc : Bool} {gs : List Str} {c : Cx prog w G vs nl oc gs} {B : Bs c} {ρ : List AV}
def Mut (c : Cx prog w G vs nl oc gs) (ρ : List AV) (h : Heap) (a : Addr) : Prop :=
  a = c.env.locals ∨ (oc = true ∧ ∃ x, c.env.cells.lookup x = some a) ∨ ∃ (i : Nat) (x : Str) (ds : List D), vs[i]? = some x ∧ ρ[i]? = some (.own ds) ∧ Holds c h x (.ref a)
theorem Mut.free {f : PH} {s : Shared} (g : Good c B ρ f s) {a : Addr} {o : Obj} (h : s.heap.get? a = some o) (fr : Free o) : ¬ Mut c ρ s.heap a := by
  rintro (rfl | ⟨_, x, hx⟩ | ⟨i, x, ds, hx, hr, hh⟩)
  · obtain ⟨m, o', es, ep, e, hd, _⟩ := g.ns
    rw [h] at e; cases e; exact fr.1 _ _ hd
  · obtain ⟨_, v, o', e, hd⟩ := g.fc x a hx
    rw [h] at e; cases e; exact fr.2.1 _ hd
  · obtain ⟨b, hb, us, n, e, _⟩ := g.vals i x _ hx hr
    have := hh.unique hb
    cases this
    rw [h] at e; cases e; exact fr.2.2 _ _ rfl
theorem Mut.new {f : PH} {s : Shared} (g : Good c B ρ f s) {a : Addr} (h : Mut c ρ s.heap a) : B.s0.heap.get? a = none := by
  rcases h with rfl | ⟨ho, x, hx⟩ | ⟨i, x, ds, hx, hr, hh⟩
  · exact B.newL
  · exact B.ownc ho x a hx
  · obtain ⟨b, hb, us, n, _, _, e, _⟩ := g.vals i x _ hx hr
    have := hh.unique hb
    cases this
    exact e
structure Framed (c : Cx prog w G vs nl oc gs) (B : Bs c) (ρ : List AV) (f : PH) (s : Shared) (B' : Bs c) : Prop where
  good : ∀ {ρ' f' s'}, Good c B' ρ' f' s' → Good c B ρ' f' s'
  keep : ∀ {f' s'}, Step B'.f0 B'.s0 f' s' → ∀ a o, s.heap.get? a = some o → ¬ Mut c ρ s.heap a → (∀ es ep, o.data ≠ .dict es ep) → s'.heap.get? a = some o ∧ (f a = none → f' a = none)
  step : ∀ {f' s'}, Step B'.f0 B'.s0 f' s' → Step B.f0 B.s0 f' s'
  base : B'.f0 = f
  back : ∀ a, B'.s0.heap.get? a = none → B.s0.heap.get? a = none
  has : ∀ a o, s.heap.get? a = some o → ¬ Mut c ρ s.heap a → B'.s0.heap.get? a = some o
theorem Good.frame {f : PH} {s : Shared} (g : Good c B ρ f s) : ∃ B' : Bs c, Good c B' ρ f s ∧ Framed c B ρ f s B' := by
  have hh := hideP_get s.heap (Mut c ρ s.heap)
  let B' : Bs c := ⟨f, { s with heap := hideP s.heap (Mut c ρ s.heap) }, g.gsub, g.tok, (hh _).1 (.inl rfl), fun ho x ca hca => (hh _).1 (.inr (.inl ⟨ho, x, hca⟩))⟩
  have of0 : ∀ a o, B'.s0.heap.get? a = some o → s.heap.get? a = some o ∧ ¬ Mut c ρ s.heap a := fun a o e => by
    by_cases hm : Mut c ρ s.heap a
    · have := (hh a).1 hm; rw [show B'.s0.heap.get? a = none from this] at e; cases e
    · exact ⟨((hh a).2 hm).symm.trans e, hm⟩
  have n0 : ∀ a, B'.s0.heap.get? a = none → B.s0.heap.get? a = none := fun a e => by
    by_cases hm : Mut c ρ s.heap a
    · exact hm.new g
    · exact g.st.ext.gone (((hh a).2 hm).symm.trans e)
  have st0 : Step f B'.s0 f s := ⟨.refl f, g.inn, fun a o e => ⟨o.slots, (of0 a o e).1, fun _ => rfl⟩, fun _ _ e => .inl e, Nat.le_refl _, rfl, rfl⟩
  have step : ∀ {f' s'}, Step B'.f0 B'.s0 f' s' → Step B.f0 B.s0 f' s' := fun {f' s'} st => by
    refine ⟨g.st.sub.trans st.sub, st.inn, fun a o e => ?_, fun a o e => (st.new a o e).elim (g.st.new a o) fun q => .inr (n0 a q), Nat.le_trans g.st.toks st.toks, st.os.trans g.st.os, st.gens.trans g.st.gens⟩
    obtain ⟨sl, e1, k1⟩ := g.st.ext a o e
    have hm : ¬ Mut c ρ s.heap a := fun hm => by rw [hm.new g] at e; cases e
    obtain ⟨sl2, e2, k2⟩ := st.ext a _ (((hh a).2 hm).trans e1)
    exact ⟨sl2, e2, fun q => (k2 q).trans (k1 q)⟩
  refine ⟨B', ⟨st0, g.aok, g.ns, g.fL, g.fc, fun i x a hx ha => ?_, g.apart⟩, fun {ρ' f' s'} g' => ?_, fun {f' s'} st a o e hm fr => ?_, step, rfl, n0, fun a o e hm => ((hh a).2 hm).trans e⟩
  · have := g.vals i x a hx ha
    cases a with
    | undef => trivial
    | dat d => exact this
    | own ds =>
      obtain ⟨a, hv, us, n, e, hf, _, r⟩ := this
      exact ⟨a, hv, us, n, e, hf, (hh a).1 (.inr (.inr ⟨i, x, ds, hx, ha, hv⟩)), r⟩
  · refine ⟨step g'.st, g'.aok, g'.ns, g'.fL, g'.fc, fun i x a hx ha => ?_, g'.apart⟩
    have := g'.vals i x a hx ha
    cases a with
    | undef => trivial
    | dat d => exact this
    | own ds =>
      obtain ⟨a, hv, us, n, e, hf, h0, r⟩ := this
      exact ⟨a, hv, us, n, e, hf, n0 a h0, r⟩
  · have e0 : B'.s0.heap.get? a = some o := ((hh a).2 hm).trans e
    refine ⟨st.ext.seq e0 fr, fun hf => ?_⟩
    cases q : f' a with
    | none => rfl
    | some o' =>
      rcases st.new a o' q with z | z
      · rw [show B'.f0 = f from rfl, hf] at z; cases z
      · rw [e0] at z; cases z
theorem Framed.good' {c : Cx prog w G vs nl oc gs} {B B' : Bs c} {ρ ρ' : List AV} {f f' : PH} {s s' : Shared} (F : Framed c B ρ f s B') (g : Good c B' ρ' f' s') : Good c B ρ' f' s' := F.good g
def Turn (c : Cx prog w G vs nl oc gs) (ρ : List AV) (body : List Stmt) (ρ' : List AV) : Prop := Ex c ρ body (.next ρ') ∨ Ex c ρ body (.cont ρ')
theorem Turn.run {body : List Stmt} {ρ' : List AV} (h : Turn c ρ body ρ') (f : PH) (s : Shared) (Q : Flow → Shared → Prop) (E : Value → Shared → Prop) (g : Good c B ρ f s)
    (k : ∀ f' s', Sub f f' → Good c B ρ' f' s' → Q .next s' ∧ Q .cont s') : wpAny (model prog w) c.A (execs body c.env) Q E s := by
  rcases h with h | h
  · exact h f s Q E g fun fl f' s' ⟨e, sb, g'⟩ => e ▸ (k f' s' sb g').1
  · exact h f s Q E g fun fl f' s' ⟨e, sb, g'⟩ => e ▸ (k f' s' sb g').2
theorem fieldsFree {o : Obj} {fs : Array Value} (h : o.data = .fields fs) : Free o :=
  ⟨fun _ _ q => (by rw [h] at q; cases q), fun _ q => (by rw [h] at q; cases q), fun us n q => (by rw [q] at h; cases h)⟩
theorem Good.butX {f : PH} {s : Shared} {h' : Heap} {wr : List Addr} {k : Nat} (g : Good c B ρ f s) (hk : ∀ b o, b ∉ wr → s.heap.get? b = some o → h'.get? b = some o) (ht : s.toks ≤ k)
    (hw : ∀ b ∈ wr, f b = none ∧ B.s0.heap.get? b = none) (hL : c.env.locals ∉ wr) (hC : ∀ x ca, c.env.cells.lookup x = some ca → ca ∉ wr)
    (hO : ∀ (i : Nat) x ds a, vs[i]? = some x → ρ[i]? = some (.own ds) → Holds c s.heap x (.ref a) → a ∉ wr) (hD : ∀ b ∈ wr, ∀ l, c.A.frames = some l → ∀ env ∈ l, env.frame ≠ some b) : Good c B ρ f { s with heap := h', toks := k } := by
  have kNs : ∀ {m}, s.heap.Ns c.env.locals m → h'.Ns c.env.locals m := fun {m} ⟨o, es, ep, e, hd, r⟩ => ⟨o, es, ep, hk _ _ hL e, hd, r⟩
  have kC : ∀ {x ca v}, c.env.cells.lookup x = some ca → s.heap.IsCell ca v → h'.IsCell ca v := fun {x ca v} hc ⟨o, e, hd⟩ => ⟨o, hk _ _ (hC x ca hc) e, hd⟩
  have kH : ∀ {x v}, Holds c s.heap x v → Holds c h' x v := fun {x v} y => y.imp (fun ⟨q, m, hn, hm⟩ => ⟨q, m, kNs hn, hm⟩) fun ⟨q, ca, hc, hv⟩ => ⟨q, ca, hc, kC hc hv⟩
  obtain ⟨m0, hm0⟩ := g.ns
  have bH : ∀ {x v}, Holds c h' x v → Holds c s.heap x v := fun {x v} y => by
    rcases y with ⟨q, m, hn, hm⟩ | ⟨q, ca, hc, hv⟩
    · have := Ns.unique hn (kNs hm0)
      exact .inl ⟨q, m0, hm0, this ▸ hm⟩
    · obtain ⟨_, v', hv'⟩ := g.fc x ca hc
      have := IsCell.unique hv (kC hc hv')
      exact .inr ⟨q, ca, hc, this ▸ hv'⟩
  refine ⟨⟨g.st.sub, fun a o e => hk a o (fun hb => by rw [(hw a hb).1] at e; cases e) (g.inn a o e), fun a o e => ?_, g.st.new, Nat.le_trans g.st.toks ht, g.st.os, g.st.gens⟩,
    ⟨g.aok.handled, g.aok.depth, g.aok.units, ?_⟩, ⟨_, kNs hm0⟩, g.fL, fun x ca hc => ?_, fun i x a hx ha => ?_, fun i j x y ds es a hij hx hy hi hj h1 h2 => g.apart i j x y ds es a hij hx hy hi hj (bH h1) (bH h2)⟩
  · obtain ⟨sl, e1, k1⟩ := g.st.ext a o e
    exact ⟨sl, hk a _ (fun hb => by rw [(hw a hb).2] at e; cases e) e1, k1⟩
  · obtain ⟨l, hl, hF⟩ := g.aok.frames
    refine ⟨l, hl, fun env he => ?_⟩
    obtain ⟨q, L, o, hf, hn, ho, es, ep, hd⟩ := hF env he
    exact ⟨q, L, o, hf, hn, hk L o (fun hb => hD L hb l hl env he hf) ho, es, ep, hd⟩
  · obtain ⟨q, v, hv⟩ := g.fc x ca hc
    exact ⟨q, v, kC hc hv⟩
  · have := g.vals i x a hx ha
    cases a with
    | undef => trivial
    | dat d => obtain ⟨v, hh, r⟩ := this; exact ⟨v, kH hh, r⟩
    | own ds =>
      obtain ⟨a, hh, us, n, e, q⟩ := this
      exact ⟨a, kH hh, us, n, hk a _ (hO i x ds a hx ha hh) e, q⟩
theorem Good.but {f : PH} {s : Shared} {h' : Heap} {wr : List Addr} {k : Nat} (g : Good c B ρ f s) (hk : ∀ b o, b ∉ wr → s.heap.get? b = some o → h'.get? b = some o) (ht : s.toks ≤ k)
    (hw : ∀ b ∈ wr, f b = none ∧ B.s0.heap.get? b = none ∧ ∃ o, s.heap.get? b = some o ∧ Free o) : Good c B ρ f { s with heap := h', toks := k } := by
  refine g.butX hk ht (fun b hb => ⟨(hw b hb).1, (hw b hb).2.1⟩) (fun hb => ?_) (fun x ca hc hb => ?_) (fun i x ds a hx hr hh hb => ?_) fun b hb l hl env he hfr => ?_
  · obtain ⟨_, _, o, e, fr⟩ := hw _ hb
    obtain ⟨m, o', es, ep, e', hd, _⟩ := g.ns
    rw [e] at e'; cases e'; exact fr.1 _ _ hd
  · obtain ⟨_, _, o, e, fr⟩ := hw _ hb
    obtain ⟨_, v, o', e', hd⟩ := g.fc x ca hc
    rw [e] at e'; cases e'; exact fr.2.1 _ hd
  · obtain ⟨_, _, o, e, fr⟩ := hw _ hb
    obtain ⟨b, hh', us, n, e', _⟩ := g.vals i x _ hx hr
    have := hh.unique hh'
    cases this
    rw [e] at e'; cases e'; exact fr.2.2 _ _ rfl
  · obtain ⟨_, _, o', e', fr⟩ := hw _ hb
    obtain ⟨l', hl', hF⟩ := g.aok.frames
    rw [hl] at hl'; cases hl'
    obtain ⟨_, L, o, hf, _, ho, es, ep, hd⟩ := hF env he
    rw [hfr] at hf; cases hf
    rw [ho] at e'; cases e'; exact fr.1 _ _ hd
theorem frames_ne {f : PH} {s : Shared} (g : Good c B ρ f s) {b : Addr} (h : ∀ o es ep, s.heap.get? b = some o → o.data ≠ .dict es ep) : ∀ l, c.A.frames = some l → ∀ env ∈ l, env.frame ≠ some b := fun l hl env he hfr => by
  obtain ⟨l', hl', hF⟩ := g.aok.frames
  rw [hl] at hl'; cases hl'
  obtain ⟨_, L, o, hf, _, ho, es, ep, hd⟩ := hF env he
  rw [hfr] at hf; cases hf
  exact h o es ep ho hd
structure ItOk (prog : Program) (w : World) (A : Around) (h0 : Heap) (f : PH) (s : Shared) (it : Value) (ds : List D) : Prop where
  ex : ∃ (I : Addr) (fp wr : List Addr) (P : Nat → Value → Prop) (St : Nat → Heap → Prop), it = .ref I ∧ Walks prog w A I fp wr ds.length P St ∧ St 0 s.heap ∧
    (∀ b ∈ fp, (∃ o, f b = some o) ∨ b ∈ wr) ∧ (∀ b ∈ wr, f b = none ∧ h0.get? b = none) ∧
    (∀ i h, St i h → ∀ b ∈ wr, ∃ o, h.get? b = some o ∧ Free o) ∧ (∀ i v, i < ds.length → P i v → ∀ f', Sub f f' → ∃ d, ds[i]? = some d ∧ Rep f' v d) ∧
    ∀ (elts : List Expr) (k : Nat) (pos : Pos) i v (s' : Shared) (Q : Unit → Shared → Prop) (E : Value → Shared → Prop), St i s'.heap → Q () s' → wpAny (model prog w) A (letOwnedTupleGo (.Tuple elts k pos) (.ref I) v) Q E s'
theorem letOwned_any {target : Expr} {it v : Value} {A : Around} {s' : Shared} {Q : Unit → Shared → Prop} {E : Value → Shared → Prop} (ht : (∃ x p, target = .Name x p) ∨ ∃ es k p, target = .Tuple es k p)
    (h : ∀ es k p, target = .Tuple es k p → wpAny (model prog w) A (letOwnedTupleGo (.Tuple es k p) it v) Q E s') (q : Q () s') : wpAny (model prog w) A (letOwnedTupleGo target it v) Q E s' := by
  rcases ht with ⟨x, p, rfl⟩ | ⟨es, k, p, rfl⟩
  · exact wpAny_pure q
  · exact h es k p rfl
theorem forLoop_ok {target it : _} {body : List Stmt} {ds : List D} (ρs mid : Nat → List AV) {f : PH} {s : Shared} {R : Result → Shared → Prop} (g : Good c B (ρs 0) f s) (hI : ItOk prog w c.A B.s0.heap f s it ds)
    (ht : (∃ x p, target = .Name x p) ∨ ∃ es k p, target = Expr.Tuple es k p)
    (hA : ∀ k d, ds[k]? = some d → As c (ρs k) target d (mid k)) (hb : ∀ k d, ds[k]? = some d → Turn c (mid k) body (ρs (k + 1)))
    (k : ∀ f' s', Sub f f' → Good c B (ρs ds.length) f' s' → R (.ok .next) s') : codeAny (model prog w) c.A (.forLoop target it body [] c.env) R s := by
  obtain ⟨I, fp, wr, P, St, rfl, W, hSt, hfp, hwr, hfree, hP, hgo⟩ := hI.ex
  let J : Nat → Shared → Prop := fun m s => ∃ i f', i + m = ds.length ∧ Sub f f' ∧ Good c B (ρs i) f' s ∧ St i s.heap ∧ ∀ b ∈ wr, f' b = none
  refine codeAny_forLoop_any J (fun m s1 hJ => ?_) ds.length ⟨0, f, by omega, .refl f, g, hSt, fun b hb => (hwr b hb).1⟩
  obtain ⟨i, f1, him, hs1, g1, hSt1, hn1⟩ := hJ
  have hw1 : ∀ b ∈ wr, f1 b = none ∧ B.s0.heap.get? b = none ∧ ∃ o, s1.heap.get? b = some o ∧ Free o := fun b hb => ⟨hn1 b hb, (hwr b hb).2, hfree i _ hSt1 b hb⟩
  by_cases hlt : i < ds.length
  · refine wpAny_with_toks (Nat.le_refl _) (W.item i s1 _ _ hlt hSt1 fun v h' tk hPv hSt2 hk htk => ?_)
    have g2 := g1.but hk htk hw1
    obtain ⟨d, hd, rv⟩ := hP i v hlt hPv f1 hs1
    dsimp only
    obtain ⟨m', rfl⟩ : ∃ m', m = m' + 1 := ⟨m - 1, by omega⟩
    refine letOwned_any ht (fun es q p _ => hgo es q p (i + 1) v _ _ _ hSt2 ?_) ?_
    all_goals
      obtain ⟨B', gB, FB⟩ := g2.frame
      have hSt2' : St (i + 1) h' := hSt2
      refine hA i d hd f1 _ v _ _ gB rv fun s3 g3 => ?_
      refine (hb i d hd).run f1 s3 _ _ g3 fun f4 s4 sb4 g4 => ?_
      have hfin : ∃ m2, m2 < m' + 1 ∧ J m2 s4 := by
        refine ⟨m', Nat.lt_succ_self _, i + 1, f4, by omega, hs1.trans sb4, FB.good g4, ?_, fun b hb' => ?_⟩
        · refine W.frame (i + 1) h' s4.heap hSt2' fun b hb' o e => ?_
          rcases hfp b hb' with ⟨o', e'⟩ | hbw
          · have e1 := hs1 b o' e'
            have := g2.inn b o' e1
            rw [show (h'.get? b = some o) from e] at this; cases this
            exact g4.inn b _ (sb4 b _ e1)
          · obtain ⟨o', e', fr⟩ := hfree (i + 1) h' hSt2' b hbw
            rw [e] at e'; cases e'
            exact (FB.keep g4.st b o e (Mut.free g2 e fr) fr.1).1
        · obtain ⟨o', e', fr⟩ := hfree (i + 1) h' hSt2' b hb'
          exact (FB.keep g4.st b o' e' (Mut.free g2 e' fr) fr.1).2 (hn1 b hb')
      exact ⟨hfin, hfin⟩
  · have hi : i = ds.length := by omega
    subst hi
    refine wpAny_with_toks (Nat.le_refl _) (W.done s1 _ _ hSt1 fun h' tk hk htk => ?_)
    exact wpAny_execs_nil (k f1 _ hs1 (g1.but hk htk hw1))
end
end Mine
end
section
set_option autoImplicit false
set_option Elab.async false
set_option linter.unusedVariables false
set_option linter.unusedSimpArgs false
open PySem PySem.W PyProof.Rows PySem.Calls
namespace Mine
section
variable {prog : Program} {w : World} {G : Heap} {vs : List Str} {nl : Nat} {oc : Bool} {gs : List Str} {c : Cx prog w G vs nl oc gs} {B : Bs c} {ρ : List AV}
theorem Good.push {f : PH} {s : Shared} (g : Good c B ρ f s) (o : Obj) : Good c B ρ f { s with heap := s.heap.push o } := g.step (.push g.inn o)
theorem iter_list {A : Around} {h0 : Heap} (hh : A.handled = none) {f : PH} {s : Shared} {v : Value} {ds : List D} {Q : Value → Shared → Prop} {E : Value → Shared → Prop} (i0 : Inn f s.heap) (e0 : Ext h0 s.heap) (r : Rep f v (.list ds))
    (k : ∀ it s', Step f s f s' → ItOk prog w A h0 f s' it ds → Q it s') : wpAny (model prog w) A (pyIter v) Q E s := by
  cases r with
  | list ax us m _ e rs =>
    refine wpAny_pyIter_list (lobj_isList (i0 _ _ e)) ?_
    have hne : ax ≠ s.heap.objs.size := fun q => by have := i0 _ _ e; rw [q, get_size_none] at this; cases this
    have hW := Walks.list (prog := prog) (w := w) hh s.heap.objs.size ax hne us.toArray
    rw [show us.toArray.size = ds.length from (List.size_toArray).trans rs.length] at hW
    refine k _ _ (.push i0 _) ⟨s.heap.objs.size, [s.heap.objs.size, ax], [s.heap.objs.size], _, (fun i h => h.IsListIter s.heap.objs.size ax i ∧ h.IsList ax us.toArray), rfl, hW,
      ⟨⟨_, Heap.get?_push_size _ rfl, rfl, rfl⟩, (lobj_isList (i0 _ _ e)).push _⟩, fun b hb => ?_, fun b hb => ?_, fun i h hS b hb => ?_, fun i v _ hP f' sb => ?_, fun elts q pos i v s' Q E hS hQ => ?_⟩
    · rcases List.mem_cons.mp hb with rfl | hb
      · exact .inr (.head _)
      · rw [List.mem_singleton.mp hb]; exact .inl ⟨_, e⟩
    · rw [List.mem_singleton.mp hb]
      exact ⟨i0.none_of (get_size_none _), e0.gone (get_size_none _)⟩
    · rw [List.mem_singleton.mp hb]
      obtain ⟨⟨o, ho, _, hd⟩, _⟩ := hS
      exact ⟨o, ho, fieldsFree hd⟩
    · have hv : us[i]? = some v := by simpa using hP
      have hlt : i < ds.length := by rw [← rs.length]; exact (List.getElem?_eq_some_iff.mp hv).1
      obtain ⟨d, hd⟩ : ∃ d, ds[i]? = some d := ⟨_, List.getElem?_eq_getElem hlt⟩
      obtain ⟨v', hv', rv⟩ := rs.get hd
      rw [hv] at hv'; cases hv'
      exact ⟨d, hd, rv.mono sb⟩
    · obtain ⟨hit, _⟩ := hS
      cases v with
      | ref T => exact wpAny_letOwnedTupleGo_listiter hit hQ
      | _ => exact wpAny_pure hQ
theorem iter_tup {A : Around} {h0 : Heap} (hh : A.handled = none) {f : PH} {s : Shared} {v : Value} {ds : List D} {Q : Value → Shared → Prop} {E : Value → Shared → Prop} (i0 : Inn f s.heap) (e0 : Ext h0 s.heap) (r : Rep f v (.tup ds))
    (k : ∀ it s', Step f s f s' → ItOk prog w A h0 f s' it ds → Q it s') : wpAny (model prog w) A (pyIter v) Q E s := by
  cases r with
  | tup ax us m _ e rs =>
    have hT : s.heap.IsTuple ax us.toArray := ⟨_, i0 _ _ e, rfl, m, rfl⟩
    refine wpAny_pyIter_tuple hT ?_
    have hne : ax ≠ s.heap.objs.size := fun q => by have := i0 _ _ e; rw [q, get_size_none] at this; cases this
    have hW := Walks.tuple (prog := prog) (w := w) hh s.heap.objs.size ax hne us.toArray
    rw [show us.toArray.size = ds.length from (List.size_toArray).trans rs.length] at hW
    refine k _ _ (.push i0 _) ⟨s.heap.objs.size, [s.heap.objs.size, ax], [s.heap.objs.size], _, (fun i h => h.IsTupleIter s.heap.objs.size ax i ∧ h.IsTuple ax us.toArray), rfl, hW,
      ⟨⟨_, Heap.get?_push_size _ rfl, rfl, rfl⟩, hT.push _⟩, fun b hb => ?_, fun b hb => ?_, fun i h hS b hb => ?_, fun i v _ hP f' sb => ?_, fun elts q pos i v s' Q E hS hQ => ?_⟩
    · rcases List.mem_cons.mp hb with rfl | hb
      · exact .inr (.head _)
      · rw [List.mem_singleton.mp hb]; exact .inl ⟨_, e⟩
    · rw [List.mem_singleton.mp hb]
      exact ⟨i0.none_of (get_size_none _), e0.gone (get_size_none _)⟩
    · rw [List.mem_singleton.mp hb]
      obtain ⟨⟨o, ho, _, hd⟩, _⟩ := hS
      exact ⟨o, ho, fieldsFree hd⟩
    · have hv : us[i]? = some v := by simpa using hP
      have hlt : i < ds.length := by rw [← rs.length]; exact (List.getElem?_eq_some_iff.mp hv).1
      obtain ⟨d, hd⟩ : ∃ d, ds[i]? = some d := ⟨_, List.getElem?_eq_getElem hlt⟩
      obtain ⟨v', hv', rv⟩ := rs.get hd
      rw [hv] at hv'; cases hv'
      exact ⟨d, hd, rv.mono sb⟩
    · cases v with
      | ref T =>
        obtain ⟨o, ho, hc, hd⟩ := hS.1
        unfold letOwnedTupleGo
        refine wpAny_bind (wpAny_load ho ?_)
        rw [hc, hd]
        exact wpAny_pure hQ
      | _ => exact wpAny_pure hQ
def EvI (c : Cx prog w G vs nl oc gs) (ρ : List AV) (iter : Expr) (ds : List D) : Prop :=
  ∀ ⦃B : Bs c⦄ (f : PH) (s : Shared) (K : Value → Shared → Prop) (E : Value → Shared → Prop), Good c B ρ f s → (∀ it f' s', Step f s f' s' → ItOk prog w c.A s.heap f' s' it ds → K it s') →
    wpAny (model prog w) c.A (eval iter c.env) (fun x s₁ => wpAny (model prog w) c.A (pyIter x) K E s₁) E s
theorem EvI.list {iter : Expr} {ds : List D} (h : Ev c ρ iter (.list ds)) (h0n : 0 < c.n := by first | exact ar_n (by assumption) | exact ar_n2 (by assumption) (by assumption) | omega) : EvI c ρ iter ds := fun _ f s K E g k =>
  h f s _ E g fun v f1 s1 st1 r1 => iter_list (g.aok.handled h0n) st1.inn st1.ext r1 fun it s2 st2 hI => k it f1 s2 (st1.trans st2) hI
theorem EvI.tup {iter : Expr} {ds : List D} (h : Ev c ρ iter (.tup ds)) (h0n : 0 < c.n := by first | exact ar_n (by assumption) | exact ar_n2 (by assumption) (by assumption) | omega) : EvI c ρ iter ds := fun _ f s K E g k =>
  h f s _ E g fun v f1 s1 st1 r1 => iter_tup (g.aok.handled h0n) st1.inn st1.ext r1 fun it s2 st2 hI => k it f1 s2 (st1.trans st2) hI
theorem ItOk.back {A : Around} {h0 h1 : Heap} {f : PH} {s : Shared} {it : Value} {ds : List D} (x : ItOk prog w A h1 f s it ds) (e : Ext h0 h1) : ItOk prog w A h0 f s it ds := by
  obtain ⟨I, fp, wr, P, St, h1, h2, h3, h4, h5, h6⟩ := x.ex
  exact ⟨I, fp, wr, P, St, h1, h2, h3, h4, fun b hb => ⟨(h5 b hb).1, e.gone (h5 b hb).2⟩, h6⟩
theorem Ex1.for_ {target iter : Expr} {body : List Stmt} {pos : Pos} {ds : List D} (ρs mid : Nat → List AV) (hi : EvI c ρ iter ds) (h0 : ρs 0 = ρ)
    (hA : ∀ k d, ds[k]? = some d → As c (ρs k) target d (mid k)) (hb : ∀ k d, ds[k]? = some d → Turn c (mid k) body (ρs (k + 1)))
    (ht : (∃ x p, target = .Name x p) ∨ ∃ es k p, target = Expr.Tuple es k p := by first | exact .inl ⟨_, _, rfl⟩ | exact .inr ⟨_, _, _, rfl⟩)
    (hs : ∀ env x, foldedSetIterable iter env x = pure x := by intro _ _; rfl) :
    Ex1 c ρ (.For target iter body [] pos) (.next (ρs ds.length)) := fun _ f s Q E g k =>
  wpAny_For (hs := hs _) (hi f s _ E g fun it f1 s1 st1 hI =>
    forLoop_ok (R := fun r s' => match r with | .ok f => Q f s' | .error e => cameBackBy (model prog w) c.A c.env E e s') ρs mid (h0 ▸ g.step st1) (hI.back g.st.ext) ht hA hb fun f' s' sb g' => k _ f' s' ⟨rfl, st1.sub.trans sb, g'⟩)
theorem Ex1.whileN {test : Expr} {body : List Stmt} {pos : Pos} (N : Nat) (ρs : Nat → List AV) (h0 : ρs 0 = ρ) (hT : ∀ k, k < N → Tr c (ρs k) test true) (hb : ∀ k, k < N → Turn c (ρs k) body (ρs (k + 1)))
    {o : List AV} (hend : (Tr c (ρs N) test false ∧ o = ρs N) ∨ (Tr c (ρs N) test true ∧ Ex c (ρs N) body (.brk o))) : Ex1 c ρ (.While test body [] pos) (.next o) := fun B f s Q E g k =>
  wpAny_While (by
    let J : Nat → Shared → Prop := fun m s => ∃ i f', i + m = N ∧ Sub f f' ∧ Good c B (ρs i) f' s
    refine codeAny_whileLoop J (fun m s1 hJ => ?_) N ⟨0, f, by omega, .refl f, h0 ▸ g⟩
    obtain ⟨i, f1, him, hs1, g1⟩ := hJ
    by_cases hlt : i < N
    · refine hT i hlt f1 s1 _ _ g1 fun f2 s2 st2 => ?_
      rw [if_pos rfl]
      refine (hb i hlt).run f2 s2 _ _ (g1.step st2) fun f3 s3 sb3 g3 => ?_
      have : ∃ m2, m2 < m ∧ J m2 s3 := ⟨m - 1, by omega, i + 1, f3, by omega, (hs1.trans st2.sub).trans sb3, g3⟩
      exact ⟨this, this⟩
    · have hi : i = N := by omega
      subst hi
      rcases hend with ⟨hf, rfl⟩ | ⟨ht, hbr⟩
      · refine hf f1 s1 _ _ g1 fun f2 s2 st2 => ?_
        rw [if_neg (by decide)]
        exact wpAny_execs_nil (k _ f2 s2 ⟨rfl, hs1.trans st2.sub, g1.step st2⟩)
      · refine ht f1 s1 _ _ g1 fun f2 s2 st2 => ?_
        rw [if_pos rfl]
        exact hbr f2 s2 _ _ (g1.step st2) fun fl f3 s3 ⟨e, sb, g3⟩ => by
          subst e
          exact k _ f3 s3 ⟨rfl, (hs1.trans st2.sub).trans sb, g3⟩)
end
end Mine
end
section
set_option autoImplicit false
set_option Elab.async false
set_option linter.unusedVariables false
set_option linter.unusedSimpArgs false
open PySem PySem.W PyProof.Rows PySem.Calls
namespace Mine
def tyD : D → Option String
  | .str _ => some "str"
  | .list _ => some "list"
  | .tup _ => some "tuple"
  | _ => none
theorem Rep.typeIs {f : PH} {s : Shared} {v : Value} {d : D} {T : String} (r : Rep f v d) (i : Inn f s.heap) (h : tyD d = some T) : s.TypeIs v T ∧ ∀ a, v = .ref a → ∃ ob, s.heap.get? a = some ob ∧ ob.dict = Option.none := by
  cases r with
  | str x t => cases h; exact ⟨rfl, fun _ e => by cases e⟩
  | list a us n ds e rs => cases h; exact ⟨⟨_, i _ _ e, rfl⟩, fun b q => by cases q; exact ⟨_, i _ _ e, rfl⟩⟩
  | tup a us n ds e rs => cases h; exact ⟨⟨_, i _ _ e, rfl⟩, fun b q => by cases q; exact ⟨_, i _ _ e, rfl⟩⟩
  | _ => cases h
section
variable {prog : Program} {w : World} {G : Heap} {vs : List Str} {nl : Nat} {oc : Bool} {gs : List Str} {c : Cx prog w G vs nl oc gs} {ρ : List AV}
theorem Ev.meth {o : Expr} {name : Str} {apos pos : Pos} {es : List Expr} {T id : String} {a d : D} {ds : List D} (pa : PlainAttrs T) (slot : Slot T name id) (hty : typeOf (.builtin id) = pure (.type "method_descriptor"))
    (ho : Ev c ρ o a) (ha : EvA c ρ es ds) (hT : tyD a = some T) (h : CalD prog w id (a :: ds) d)
    (hbase : ∀ env, attributeBase o name env (eval o env) = eval o env := by intro _; rfl)
    (hfew : ∀ env, ((backTo pos (starEach es env)).all (fun x => !x.1) && (backToKw pos (keywordEach [] env)).all (fun x => x.1.isSome) && decide (es.length + ([] : List Keyword).length + (if ([] : List Keyword).isEmpty then 0 else 1) < 30)) = true := by intro _; rfl)
    (hline : (apos.endLine == pos.line) = true := by rfl) (hp : ∀ env, (backTo pos (starEach es env)).any (·.1) = false := by intro _; rfl) : Ev c ρ (.Call (.Attribute o name apos) es [] pos) d := fun _ f s Q E g k =>
  wpAny_Call_method (hbase _) (hfew _) hline pa slot hty (ho f s _ E g fun v f1 s1 st1 r1 =>
    ⟨(r1.typeIs st1.inn hT).1, (r1.typeIs st1.inn hT).2, callWith_builtin (hp _) (ha _ pos f1 s1 _ E (g.step st1) fun us f2 s2 st2 r2 =>
      h c.A c.n f2 s2 (v :: us) Q E ((g.step st1).step st2).aok st2.inn (.cons _ _ _ _ (r1.mono st2.sub) r2) fun r f3 s3 st3 r3 => k _ _ _ ((st1.trans st2).trans st3) r3)⟩)
theorem Good.freezeOwn {B : Bs c} {f : PH} {s : Shared} {i : Nat} {x : Str} {ds : List D} (g : Good c B ρ f s) (hx : vs[i]? = some x) (hr : ρ[i]? = some (.own ds)) :
    ∃ f', Sub f f' ∧ Good c B (ρ.set i (.dat (.list ds))) f' s := by
  obtain ⟨a, hh, us, n, ha, hf, h0, r⟩ := g.vals i x _ hx hr
  have sb : Sub f (fz f a (lobj us n)) := freeze_sub hf
  have nn : ∀ {b o}, s.heap.get? b = some o → o ≠ lobj us n → f b = none → fz f a (lobj us n) b = none := fun {b o} e no hb => by
    unfold fz
    rw [if_neg]; exact hb
    rintro rfl
    rw [ha] at e; cases e; exact no rfl
  refine ⟨_, sb, ⟨g.st.sub.trans sb, fun b o e => ?_, g.st.ext, fun b o e => ?_, g.st.toks, g.st.os, g.st.gens⟩, ⟨g.aok.handled, g.aok.depth, g.aok.units, ?_⟩, g.ns, ?_, fun y ca hc => ?_, fun j y b hy hb => ?_, fun j1 j2 y1 y2 d1 d2 b hij hy1 hy2 h1 h2 z1 z2 => ?_⟩
  · unfold fz at e
    by_cases q : b = a
    · subst q; rw [if_pos rfl] at e; cases e; exact ha
    · rw [if_neg q] at e; exact g.inn b o e
  · unfold fz at e
    by_cases q : b = a
    · subst q; exact .inr h0
    · rw [if_neg q] at e; exact g.st.new b o e
  · obtain ⟨l, hl, hF⟩ := g.aok.frames
    refine ⟨l, hl, fun env he => ?_⟩
    obtain ⟨q, L, o, hfr, hn, ho, es, ep, hd⟩ := hF env he
    exact ⟨q, L, o, hfr, nn ho (fun e => by rw [e] at hd; cases hd) hn, ho, es, ep, hd⟩
  · obtain ⟨m, o, es, ep, e, hd, _⟩ := g.ns
    exact nn e (fun q => by rw [q] at hd; cases hd) g.fL
  · obtain ⟨q, v, o, e, hd⟩ := g.fc y ca hc
    exact ⟨nn e (fun q => by rw [q] at hd; cases hd) q, v, o, e, hd⟩
  · by_cases e : i = j
    · subst e
      rw [hx] at hy; cases hy
      rw [List.getElem?_set_self', hr] at hb
      obtain rfl := (Option.some.inj hb).symm
      exact ⟨.ref a, hh, .list a us n ds (if_pos rfl) (r.mono sb)⟩
    · have hb' := getElem?_set_ne' e hb
      have := g.vals j y b hy hb'
      cases b with
      | undef => trivial
      | dat d => obtain ⟨v, z, q⟩ := this; exact ⟨v, z, q.mono sb⟩
      | own d1 =>
        obtain ⟨a1, z, us1, n1, e1, hf1, q1, r1⟩ := this
        refine ⟨a1, z, us1, n1, e1, ?_, q1, r1.mono sb⟩
        unfold fz
        rw [if_neg]; exact hf1
        rintro rfl
        exact g.apart i j x y ds d1 a1 e hx hy hr hb' hh z
  · have un : ∀ {j : Nat} {d1 : List D}, (ρ.set i (.dat (.list ds)))[j]? = some (.own d1) → ρ[j]? = some (.own d1) := fun {j d1} q => by
      by_cases e : i = j
      · subst e
        rw [List.getElem?_set_self', hr] at q; cases q
      · exact getElem?_set_ne' e q
    exact g.apart j1 j2 y1 y2 d1 d2 b hij hy1 hy2 (un h1) (un h2) z1 z2
theorem Ex.freeze (i : Nat) {x : Str} {ds : List D} {ss : List Stmt} {o : O} (hx : vs[i]? = some x) (hr : ρ[i]? = some (.own ds)) (h : Ex c (ρ.set i (.dat (.list ds))) ss o) : Ex c ρ ss o := fun _ f s Q E g k => by
  obtain ⟨f', sb, g'⟩ := g.freezeOwn hx hr
  exact h f' s Q E g' fun fl f2 s2 o => k _ _ _ (o.mono sb)
theorem ownName {B : Bs c} (i : Nat) {x : Str} {pos : Pos} {ds : List D} {f : PH} {s : Shared} {Q E : Value → Shared → Prop} (g : Good c B ρ f s) (hx : vs[i]? = some x) (hr : ρ[i]? = some (.own ds))
    (k : ∀ a, Holds c s.heap x (.ref a) → OwnAt B f s.heap a ds → Q (.ref a) s) : wpAny (model prog w) c.A (eval (.Name x pos) c.env) Q E s := by
  obtain ⟨a, hh, ho⟩ := g.vals i x _ hx hr
  have hm := List.mem_of_getElem? hx
  refine wpAny_Name ?_ (c.nodeb x (List.mem_append_left _ hm))
  have := k a hh ho
  rcases hh with ⟨kd, m, hn, hv⟩ | ⟨kd | kd, ca, hc, hv⟩
  · exact wpAny_loadName_local c.kind kd hn hv this
  · exact wpAny_loadName_cell c.kind kd hc hv this
  · exact wpAny_loadName_free c.kind kd hc hv this (c.nocd x hm)
theorem Tr.ownName (i : Nat) {x : Str} {pos : Pos} {ds : List D} (hx : vs[i]? = some x) (hr : ρ[i]? = some (.own ds)) (hl : ds.length ≤ 1000000) : Tr c ρ (.Name x pos) (!ds.isEmpty) := fun _ f s Q E g k =>
  wpAny_isTrue_value (Mine.ownName i g hx hr fun a hh ⟨us, n, e, _, _, r⟩ => by
    refine wpAny_truthy_list (lobj_isList e) (by rw [List.size_toArray, r.length]; omega) ?_
    have : (!us.toArray.isEmpty) = !ds.isEmpty := by
      have := r.length
      cases us <;> cases ds <;> simp_all
    rw [this]
    exact k _ _ (.tk g.inn (by show s.toks ≤ s.toks + 1 + 1; omega)))
theorem Ev.subOwn (i : Nat) {x : Str} {p pos : Pos} {slice : Expr} {ds : List D} {j : Int} {d : D} (hx : vs[i]? = some x) (hr : ρ[i]? = some (.own ds)) (hi : Ev c ρ slice (.int j)) (hl : ds.length ≤ 1000000)
    (hj : (0 ≤ j ∧ ds[j.toNat]? = some d) ∨ (j < 0 ∧ -(ds.length : Int) ≤ j ∧ ds[(j + ds.length).toNat]? = some d))
    (hs : ∀ o i, ∃ ops, subscripted slice false o i = operate ops (getItem o i) := by exact fun _ _ => ⟨_, rfl⟩) : Ev c ρ (.Subscript (.Name x p) slice pos) d := fun B f s Q E g k =>
  Subscript_ (Mine.ownName i g hx hr fun a hh ho => hi f s _ E g fun u f2 s2 st2 r2 => by
    obtain ⟨us, n, e, _, _, r⟩ := ho.step st2
    cases r2 with
    | int _ t =>
      obtain ⟨ops, hop⟩ := hs (.ref a) (.int j t)
      refine tail_any (T := "list") ⟨_, e, rfl⟩ slot_list_getitem.lookup ?_ hop
      have hlen := r.length
      rcases hj with ⟨h0, hd⟩ | ⟨h0, h1, hd⟩
      · obtain ⟨v, hv, rv⟩ := r.get hd
        have hlt : j.toNat < ds.length := (List.getElem?_eq_some_iff.mp hd).1
        exact wpAny_getItem_list (lobj_isList e) h0 (by first | assumption | exact Nat.le_trans (by assumption) (by decide) | omega) (by simpa using hv) (k _ _ _ st2 rv)
      · obtain ⟨v, hv, rv⟩ := r.get hd
        refine wpAny_getItem_list_neg (lobj_isList e) h0 (by rw [List.size_toArray, hlen]; exact h1) (by first | assumption | exact Nat.le_trans (by assumption) (by decide) | omega) ?_ (k _ _ _ st2 rv)
        rw [List.size_toArray, hlen]
        simpa using hv)
theorem interactive_false (c : Cx prog w G vs nl oc gs) : interactive c.env = false := by unfold interactive; rw [c.kind]; rfl
theorem lobj_update {h : Heap} {a : Addr} {us : List Value} {n : Nat} (e : h.get? a = some (lobj us n)) (f : Array Value → Array Value) (ws : List Value) (hw : f us.toArray = ws.toArray) : ∃ n', (h.update a (Obj.mapSeq f)).get? a = some (lobj ws n') := by
  have := IsL.update (items := us.toArray) e f
  rw [hw] at this
  exact ⟨_, this⟩
theorem Ex1.append (i : Nat) {x : Str} {p apos pos spos : Pos} {e : Expr} {ds : List D} {d : D} (hx : vs[i]? = some x) (hr : ρ[i]? = some (.own ds)) (h : Ev c ρ e d) (hl : ds.length ≤ 1000000)
    (hbase : ∀ env, attributeBase (.Name x p) "append" env (eval (.Name x p) env) = eval (.Name x p) env := by intro _; rfl)
    (hfew : ∀ env, ((backTo pos (starEach [e] env)).all (fun x => !x.1) && (backToKw pos (keywordEach [] env)).all (fun x => x.1.isSome) && decide ([e].length + ([] : List Keyword).length + (if ([] : List Keyword).isEmpty then 0 else 1) < 30)) = true := by intro _; rfl)
    (hline : (apos.endLine == pos.line) = true := by rfl) (htr : ∀ env, backTo pos (starEach [e] env) = [(false, eval e env)] := by intro _; rfl)
    (hsw : ∀ env, swapsWith (.Call (.Attribute (.Name x p) "append" apos) [e] [] pos) none spos.line env = pure false := by intro _; rfl) :
    Ex1 c ρ (.Expr (.Call (.Attribute (.Name x p) "append" apos) [e] [] pos) spos) (.next (ρ.set i (.own (ds ++ [d])))) := fun B f s Q E g k =>
  wpAny_Expr (hi := interactive_false c) (hs := hsw _) (wpAny_Call_method (hbase _) (hfew _) hline F.plainAttrs_list slot_list_append F.type_list_append (Mine.ownName i g hx hr fun a hh ho => by
    obtain ⟨us, n, e0, _, _, r⟩ := id ho
    refine ⟨⟨_, e0, rfl⟩, fun b q => by cases q; exact ⟨_, e0, rfl⟩, ?_⟩
    rw [htr]
    refine P.append_list (h f s _ E g fun v f1 s1 st1 r1 => ?_)
    have g1 := g.step st1
    have ho1 := ho.step st1
    obtain ⟨us, n, e1, _, _, r⟩ := id ho1
    obtain ⟨n', e2⟩ := lobj_update e1 (fun xs => xs.push v) (us ++ [v]) (by simp)
    refine ⟨us.toArray, n, by rw [List.size_toArray, r.length]; exact Nat.le_trans hl (by decide), e1, ?_⟩
    exact k _ f1 _ ⟨rfl, st1.sub, g1.setOwn (k := s1.toks) hx hr (hh.ext st1.ext) ho1 e2 (Heap.SameBut.update _ _ _) (Nat.le_refl _) (r.append (.one r1))⟩))
theorem pop_at {B : Bs c} (i : Nat) {x : Str} {p apos pos : Pos} {ds : List D} {d : D} {f : PH} {s : Shared} {Q E : Value → Shared → Prop} (hx : vs[i]? = some x) (hr : ρ[i]? = some (.own (ds ++ [d]))) (hl : ds.length ≤ 900000) (g : Good c B ρ f s)
    (k : ∀ v s', Rep f v d → Good c B (ρ.set i (.own ds)) f s' → Q v s')
    (hbase : ∀ env, attributeBase (.Name x p) "pop" env (eval (.Name x p) env) = eval (.Name x p) env := by intro _; rfl) (hline : (apos.endLine == pos.line) = true := by rfl) :
    wpAny (model prog w) c.A (eval (.Call (.Attribute (.Name x p) "pop" apos) [] [] pos) c.env) Q E s :=
  wpAny_Call_method (hbase _) rfl hline F.plainAttrs_list F.slot_list_pop F.type_list_pop (Mine.ownName i g hx hr fun a hh ho => by
    obtain ⟨us, n, e0, _, _, r⟩ := id ho
    refine ⟨⟨_, e0, rfl⟩, fun b q => by cases q; exact ⟨_, e0, rfl⟩, ?_⟩
    have hlen := r.length
    simp only [List.length_append, List.length_cons, List.length_nil] at hlen
    obtain ⟨v, hv, rv⟩ := r.get (i := ds.length) (d := d) (by simp)
    refine P.pop_list (items := us.toArray) (n := n) (y := v) e0 (by simpa [hlen] using hv) ?_ (by rw [List.size_toArray, hlen]; exact Nat.le_trans (Nat.succ_le_succ hl) (by decide))
    have hd : us.eraseIdx (us.length - 1) = us.take ds.length := by
      rw [hlen]
      show us.eraseIdx ds.length = _
      rw [List.eraseIdx_eq_take_drop_succ, List.drop_eq_nil_of_le (by first | assumption | exact Nat.le_trans (by assumption) (by decide) | omega)]; simp
    obtain ⟨n', e2⟩ := lobj_update e0 (fun xs => xs.eraseIdxIfInBounds (us.toArray.size - 1)) (us.take ds.length) (by
      rw [← hd]
      simp [Array.eraseIdxIfInBounds, hlen])
    have rt := r.take ds.length
    rw [List.take_left'] at rt
    · exact k v _ rv (g.setOwn (k := s.toks) hx hr hh ho e2 (Heap.SameBut.update _ _ _) (Nat.le_refl _) rt)
    · rfl)
theorem Ex1.pop (i : Nat) {x : Str} {p apos pos spos : Pos} {ds : List D} {z : Str} (hx : vs[i]? = some x) (hr : ρ[i]? = some (.own (ds ++ [.str z]))) (hl : ds.length ≤ 900000)
    (hbase : ∀ env, attributeBase (.Name x p) "pop" env (eval (.Name x p) env) = eval (.Name x p) env := by intro _; rfl) (hline : (apos.endLine == pos.line) = true := by rfl)
    (hsw : ∀ env, swapsWith (.Call (.Attribute (.Name x p) "pop" apos) [] [] pos) none spos.line env = pure false := by intro _; rfl) :
    Ex1 c ρ (.Expr (.Call (.Attribute (.Name x p) "pop" apos) [] [] pos) spos) (.next (ρ.set i (.own ds))) := fun B f s Q E g k =>
  wpAny_Expr (hi := interactive_false c) (hs := hsw _) (pop_at i hx hr hl g (fun v s' rv g' => by
    cases rv with
    | str _ t => exact k _ f s' ⟨rfl, .refl f, g'⟩) hbase hline)
theorem Ex1.assignPop (i j : Nat) {x y : Str} {p q apos pos spos : Pos} {ds : List D} {d : D} (hx : vs[i]? = some x) (hr : ρ[i]? = some (.own (ds ++ [d]))) (hy : vs[j]? = some y) (hl : ds.length ≤ 900000) (hj : j < nl := by decide)
    (hbase : ∀ env, attributeBase (.Name x p) "pop" env (eval (.Name x p) env) = eval (.Name x p) env := by intro _; rfl) (hline : (apos.endLine == pos.line) = true := by rfl)
    (hsw : ∀ env, swapsWith (.Call (.Attribute (.Name x p) "pop" apos) [] [] pos) (some (.Name y q)) spos.line env = pure false := by intro _; rfl) :
    Ex1 c ρ (.Assign [.Name y q] (.Call (.Attribute (.Name x p) "pop" apos) [] [] pos) spos) (.next ((ρ.set i (.own ds)).set j (.dat d))) := fun B f s Q E g k =>
  wpAny_Assign_Name (hs := hsw _) (pop_at i hx hr hl g (fun v s' rv g' => g'.store hy (.inl hj) rv fun s2 g2 => k _ f s2 ⟨rfl, .refl f, g2⟩) hbase hline)
end
end Mine
end
section
set_option autoImplicit false
set_option Elab.async false
set_option linter.unusedVariables false
set_option linter.unusedSimpArgs false
open PySem PySem.W PyProof.Rows PySem.Calls
namespace Mine
def clGo (addr : Str → Addr) : List (Str × NameKind) → List (Str × Addr) → List (Str × Addr)
  | [], acc => acc
  | (n, k) :: r, acc => clGo addr r (if k == .free then (n, addr n) :: acc else acc)
theorem closureFor_go {env : Env} (addr : Str → Addr) : ∀ (names : List (Str × NameKind)) (acc : List (Str × Addr)), (∀ x ∈ names, x.2 = .free → env.cells.lookup x.1 = some (addr x.1)) →
    (forIn names acc fun x cs => (match x with | (name, kind) => if (kind == .free) = true then do let a ← cellOf env name; pure (ForInStep.yield ((name, a) :: cs)) else pure (ForInStep.yield cs)) : Sem (List (Str × Addr))) = pure (clGo addr names acc)
  | [], acc, _ => rfl
  | (n, k) :: r, acc, h => by
    rw [List.forIn_cons]
    by_cases hk : k = .free
    · subst hk
      have : cellOf env n = pure (addr n) := by unfold cellOf; rw [h (n, .free) (.head _) rfl]
      simp only [beq_self_eq_true, if_true, this]
      show (forIn r _ _ : Sem _) = _
      rw [closureFor_go addr r _ fun x hx => h x (.tail _ hx)]
      simp [clGo]
    · have hb : (k == NameKind.free) = false := by simpa using hk
      simp only [hb, Bool.false_eq_true, if_false]
      show (forIn r _ _ : Sem _) = _
      rw [closureFor_go addr r _ fun x hx => h x (.tail _ hx)]
      simp [clGo, hb]
theorem closureFor_eq {env : Env} {scope : Scope} (addr : Str → Addr) (h : ∀ x ∈ scope.names, x.2 = .free → env.cells.lookup x.1 = some (addr x.1)) : closureFor scope env = pure (clGo addr scope.names []) := by
  have := closureFor_go (env := env) addr scope.names [] h
  unfold closureFor
  show (forIn scope.names [] _ >>= fun cs => pure cs : Sem (List (Str × Addr))) = _
  rw [show (forIn scope.names [] _ : Sem (List (Str × Addr))) = _ from this]
  rfl
theorem clGo_some {addr : Str → Addr} {x : Str} {ca : Addr} : ∀ {names : List (Str × NameKind)} {acc : List (Str × Addr)}, (clGo addr names acc).lookup x = some ca → acc.lookup x = some ca ∨ (ca = addr x ∧ (x, NameKind.free) ∈ names)
  | [], acc, h => .inl h
  | (n, k) :: r, acc, h => by
    rcases clGo_some (names := r) h with h1 | ⟨h1, hm⟩
    · by_cases hk : (k == NameKind.free) = true
      · rw [if_pos hk, List.lookup_cons] at h1
        cases hx : x == n with
        | true =>
          rw [hx] at h1
          have e1 : addr n = ca := Option.some.inj h1
          have e2 : x = n := by simpa using hx
          have hk' : k = .free := by simpa using hk
          exact .inr ⟨by rw [e2, e1], by rw [e2, hk']; exact .head _⟩
        | false => rw [hx] at h1; exact .inl h1
      · rw [if_neg hk] at h1; exact .inl h1
    · exact .inr ⟨h1, .tail _ hm⟩
theorem clGo_has {addr : Str → Addr} {x : Str} : ∀ {names : List (Str × NameKind)} {acc : List (Str × Addr)}, ((x, NameKind.free) ∈ names ∨ acc.lookup x = some (addr x)) → (clGo addr names acc).lookup x = some (addr x)
  | [], acc, h => by rcases h with h | h; cases h; exact h
  | (n, k) :: r, acc, h => by
    refine clGo_has (names := r) ?_
    rcases h with h | h
    · rcases List.mem_cons.mp h with e | h
      · cases e
        right; simp [List.lookup_cons]
      · exact .inl h
    · right
      split
      · rw [List.lookup_cons]
        cases hx : x == n with
        | true =>
          have : x = n := by simpa using hx
          subst this; rfl
        | false => exact h
      · exact h
theorem relabel_lookup {scope : Scope} {env : Env} {x : Str} {k : NameKind} (h : scope.names.lookup x = some k) : (relabel scope env).names.lookup x = some k ∨ (k = .free ∧ (relabel scope env).names.lookup x = some .cell) := by
  unfold relabel
  show (List.map _ scope.names).lookup x = some k ∨ _ ∧ (List.map _ scope.names).lookup x = some NameKind.cell
  revert h
  induction scope.names with
  | nil => intro h; cases h
  | cons p r ih =>
    obtain ⟨n, q⟩ := p
    intro h
    rw [List.lookup_cons] at h
    rw [List.map_cons]
    dsimp only
    cases hx : x == n with
    | true =>
      rw [hx] at h
      simp only [Option.some.injEq] at h
      subst h
      by_cases hc : (q == NameKind.free && env.scope.kind == .function && env.kindOf n == some .cell) = true
      · have hq : q = .free := by simp only [Bool.and_eq_true, beq_iff_eq] at hc; exact hc.1.1
        right
        rw [if_pos hc, List.lookup_cons, hx]
        exact ⟨hq, rfl⟩
      · left
        rw [if_neg hc, List.lookup_cons, hx]
    | false =>
      rw [hx] at h
      have := ih h
      by_cases hc : (q == NameKind.free && env.scope.kind == .function && env.kindOf n == some .cell) = true
      · rw [if_pos hc, List.lookup_cons, hx]; exact this
      · rw [if_neg hc, List.lookup_cons, hx]; exact this
def okComp (scope : Scope) (x : Str) (fr gs : List Str) : Bool :=
  decide (scope.kind = .function) && decide (scope.names.lookup x = some .local) && fr.all (fun y => decide (scope.names.lookup y = some .free) && scope.names.contains (y, .free)) && gs.all (fun y => decide (scope.names.lookup y = some .globalImplicit)) &&
  decide (x :: fr).Nodup && (x :: fr ++ gs).all (fun x => !(x == ("__debug__" : Str))) && (x :: fr).all (fun x => !(x == ("__classdict__" : Str))) &&
  scope.names.all (fun y => !decide (y.2 = .cell) && (!decide (y.2 = .local) || decide (scope.names.lookup y.1 = some .local)) && (!decide (y.2 = .free) || fr.contains y.1))
theorem Step.sameBut' {f f' : PH} {s s' : Shared} {C : Addr} {h6 : Heap} (st : Step f s f' s') (hs : Heap.SameBut C s'.heap h6) (n : s.heap.get? C = none) (hf : f' C = none) : Step f s f' { s' with heap := h6 } :=
  st.sameBut (k := s'.toks) hs n hf (Nat.le_refl _)
section
variable {prog : Program} {w : World} {G : Heap} {vs : List Str} {nl : Nat} {oc : Bool} {gs : List Str} {c : Cx prog w G vs nl oc gs} {ρ : List AV}
theorem comp_core {B : Bs c} {use : Option (Value → Sem Unit)} {elt iter : Expr} {x : Str} {px : Pos} {ifs : List Expr} {scope : Scope} {pos pos' : Pos} {ds : List D} (fr gs' : List Str) (is : List Nat) (fv : List AV) (p : D → Bool) (t : D → D)
    (hok : okComp scope x fr gs' = true) (hi : EvI c ρ iter ds) (hsz : ds.length ≤ 900000)
    (hfr : ∀ (j : Nat) y, fr[j]? = some y → ∃ i d, is[j]? = some i ∧ vs[i]? = some y ∧ nl ≤ i ∧ ρ[i]? = some (.dat d) ∧ fv[j]? = some (.dat d)) (hfv : fv.length = fr.length)
    (h : ∀ c' : Cx prog w G (x :: fr) 1 false gs', c'.n = c.n → ∀ d ∈ ds, ((ifs = [] ∧ p d = true) ∨ ∃ e, ifs = [e] ∧ Tr c' (.dat d :: fv) e (p d)) ∧ (p d = true → Ev c' (.dat d :: fv) elt (t d)))
    (hs : ∀ env x, foldedSetIterable iter env x = pure x) (f : PH) (s : Shared) (Q E : Value → Shared → Prop) (g : Good c B ρ f s)
    (k : ∀ a us n f' s' C m, Step f s f' s' → s.heap.get? a = none → s'.heap.get? a = some (lobj us n) → f' a = none → Reps f' us ((ds.filter p).map t) → C ≠ a → s.heap.get? C = none → s'.heap.Ns C m → f' C = none → compPost (model prog w) c.A E use Q (.ref a) C (.ok .next) s') :
    wpAny (model prog w) c.A (comprehension (.ListComp elt [⟨.Name x px, iter, ifs, 0⟩] scope pos) scope c.env pos' (newList []) false (eval iter c.env) use) Q E s := by
  simp only [okComp, Bool.and_eq_true, decide_eq_true_eq, List.all_eq_true, Bool.not_eq_true', decide_eq_false_iff_not, Bool.or_eq_true] at hok
  obtain ⟨⟨⟨⟨⟨⟨⟨k1, k2⟩, k3⟩, k4⟩, k5⟩, k6⟩, k7⟩, k8⟩ := hok
  have hfree : ∀ y ∈ scope.names, y.2 = .free → ∃ ca, c.env.cells.lookup y.1 = some ca := fun y hy e => by
    have : y.1 ∈ fr := by
      rcases (k8 y hy).2 with q | q
      · exact absurd e q
      · simpa using q
    obtain ⟨j, hj⟩ := List.mem_iff_getElem?.mp this
    obtain ⟨i, d, _, hv, hn, _⟩ := hfr j y.1 hj
    exact (c.cel i y.1 hn hv).2
  let addr : Str → Addr := fun y => (c.env.cells.lookup y).getD 0
  have haddr : ∀ {y ca}, c.env.cells.lookup y = some ca → addr y = ca := fun {y ca} e => by show (c.env.cells.lookup y).getD 0 = ca; rw [e]; rfl
  have hclos : closureFor scope c.env = pure (clGo addr scope.names []) := closureFor_eq addr fun y hy e => by
    obtain ⟨ca, hca⟩ := hfree y hy e
    rw [hca, haddr hca]
  have hcl : ∀ {y ca}, (clGo addr scope.names []).lookup y = some ca → c.env.cells.lookup y = some ca := fun {y ca} e => by
    rcases clGo_some e with e | ⟨e, hm⟩
    · cases e
    · obtain ⟨ca', hca⟩ := hfree _ hm rfl
      rw [e, haddr hca]; exact hca
  refine wpAny_comprehension_free (use := use) rfl (hs _) hclos k1 (fun y hy e => ?_) (hi f s _ _ g fun it f1 s1 st1 hI => ?_)
  · rcases (k8 y hy).1.2 with q | q
    · exact absurd e q
    · exact q
  refine wpAny_newList (wpAny_with_toks (Nat.le_refl _) (wpAny_newFunctionEnv (fun y hy => (k8 y hy).1.1) (fun _ q => nomatch q) (fun h2 hn2 hs2 tk2 => ?_) k1)) (by decide)
  have st2 : Step f s f1 { s1 with heap := s1.heap.push (lobj [] 0) } := st1.trans (.push st1.inn _)
  generalize hs2e : ({ s1 with heap := s1.heap.push { cls := .type "list", data := .seq ([] : List Value).toArray } } : Shared) = s2 at *
  have e2 : s2 = { s1 with heap := s1.heap.push (lobj [] 0) } := hs2e.symm
  rw [← e2] at st2
  have hD0 : s.heap.get? s1.heap.objs.size = none := st1.ext.gone (get_size_none _)
  have hD2 : s2.heap.get? s1.heap.objs.size = some (lobj [] 0) := by rw [e2]; exact Heap.get?_push_size _ rfl
  have hfD : f1 s1.heap.objs.size = none := st1.inn.none_of (get_size_none _)
  have hk12 : ∀ b o, s1.heap.get? b = some o → s2.heap.get? b = some o := fun b o e => by rw [e2]; exact Heap.get?_push_of_some _ e
  generalize hDe : s1.heap.objs.size = Dd at *
  have hk23 : ∀ b o, s2.heap.get? b = some o → h2.get? b = some o := fun b o e => hs2.extBut b o (Nat.ne_of_lt (Heap.lt_size e)) (Heap.get?_push_of_some _ e)
  have hC2 : s2.heap.get? s2.heap.objs.size = none := get_size_none _
  have st3 : Step f s f1 { s2 with heap := h2, toks := s2.toks + ([] : List (Str × Value)).length } := st2.trans (Step.same' st2.inn hk23 tk2)
  have hnD : s2.heap.objs.size ≠ Dd := fun q => by rw [q, hD2] at hC2; cases hC2
  have hC0 : s.heap.get? s2.heap.objs.size = none := st2.ext.gone hC2
  show codeAny (model prog w) c.A (.compStart _ 0 it (.ref Dd) (compEnvC scope (clGo addr scope.names []) s2.heap.objs.size c.env)) (compPost (model prog w) c.A E use Q (.ref Dd) s2.heap.objs.size) _
  generalize hC : s2.heap.objs.size = C at *
  obtain ⟨env', henv⟩ : ∃ e, e = compEnvC scope (clGo addr scope.names []) C c.env := ⟨_, rfl⟩
  rw [← henv]
  have eL : env'.locals = C := by rw [henv]; rfl
  have eS : env'.scope = relabel scope c.env := by rw [henv]; rfl
  have eC : env'.cells = clGo addr scope.names [] := by rw [henv]; rfl
  have eK : ∀ {y k}, scope.names.lookup y = some k → env'.kindOf y = some k ∨ (k = .free ∧ env'.kindOf y = some .cell) := fun {y k} e => by
    show env'.scope.names.lookup y = _ ∨ _ ∧ env'.scope.names.lookup y = _
    rw [eS]; exact relabel_lookup e
  let c' : Cx prog w G (x :: fr) 1 false gs' := {
    A := c.A, env := env', n := c.n
    kind := by rw [eS]; exact k1
    glo := by rw [henv]; exact c.glo
    bui := by rw [henv]; exact c.bui
    loc := fun j y hj hy => by
      obtain rfl : j = 0 := Nat.lt_one_iff.mp hj
      simp only [List.getElem?_cons_zero, Option.some.injEq] at hy
      subst hy
      rcases eK k2 with e | ⟨e, _⟩
      · exact e
      · cases e
    cel := fun j y hj hy => by
      obtain ⟨j, rfl⟩ := ar_pos hj
      simp only [List.getElem?_cons_succ] at hy
      have hq := k3 y (List.mem_of_getElem? hy)
      refine ⟨?_, ?_⟩
      · rcases eK hq.1 with e | ⟨_, e⟩
        · exact .inr e
        · exact .inl e
      · rw [eC]
        exact ⟨_, clGo_has (.inl (by simpa using hq.2))⟩
    own := fun e => by cases e
    glob := fun y hy => by
      rcases eK (k4 y hy) with e | ⟨e, _⟩
      · exact e
      · cases e
    nodup := k5
    nodeb := fun y hy => k6 y hy
    nocd := fun y hy => k7 y hy
    inj := fun y z ca hy hz => by rw [eC] at hy hz; exact c.inj y z ca (hcl hy) (hcl hz) }
  let B' : Bs c' := ⟨f, s, g.gsub, g.tok, by show s.heap.get? env'.locals = none; rw [eL]; exact hC0, fun e => by cases e⟩
  have hC1 : f1 C = none := st2.inn.none_of hC2
  have noOwn : ∀ {a : AV} {i : Nat} {q : List D}, (∀ l, a ≠ .own l) → (a :: fv)[i]? = some (.own q) → False := fun {a i q} ha e => by
    cases i with
    | zero => simp only [List.getElem?_cons_zero, Option.some.injEq] at e; exact ha _ e
    | succ j =>
      simp only [List.getElem?_cons_succ] at e
      have hj : j < fr.length := by rw [← hfv]; exact (List.getElem?_eq_some_iff.mp e).1
      obtain ⟨_, d, _, _, _, _, h2⟩ := hfr j _ (List.getElem?_eq_getElem hj)
      rw [e] at h2; cases h2
  have g3 : Good c' B' (.undef :: fv) f1 { s2 with heap := h2, toks := s2.toks + ([] : List (Str × Value)).length } := by
    have gg := g.step st3
    refine ⟨st3, gg.aok, ⟨_, eL ▸ hn2⟩, eL ▸ hC1, fun y ca hy => ?_, fun j y a hy ha => ?_, fun i j y z q1 q2 a hij hy hz h1 _ _ _ => (noOwn (fun _ e => by cases e) h1).elim⟩
    · have hy' : (clGo addr scope.names []).lookup y = some ca := by rw [← eC]; exact hy
      exact gg.fc y ca (hcl hy')
    · cases j with
      | zero => simp only [List.getElem?_cons_zero, Option.some.injEq] at ha; subst ha; trivial
      | succ j =>
        simp only [List.getElem?_cons_succ] at hy ha
        obtain ⟨i, d, _, hv, hn, hr, hf⟩ := hfr j y hy
        rw [hf] at ha; cases ha
        obtain ⟨v, hh, rv⟩ := gg.vals i y _ hv hr
        refine ⟨v, ?_, rv⟩
        have hk := c.cel i y hn hv
        rcases hh with ⟨kd, _⟩ | ⟨_, ca, hca, hcell⟩
        · rcases hk.1 with e | e <;> (rw [kd] at e; cases e)
        · have hq := k3 y (List.mem_of_getElem? hy)
          refine .inr ⟨(c'.cel (j + 1) y (Nat.le_add_left 1 j) hy).1, ca, ?_, hcell⟩
          show env'.cells.lookup y = some ca
          rw [eC, clGo_has (.inl (by simpa using hq.2)), haddr hca]
  obtain ⟨I, fp, wr, P, St, rfl, W, hSt, hfp, hwr, hfree', hP, hgo⟩ := hI.ex
  have hfpk : ∀ b ∈ fp, ∀ o, s1.heap.get? b = some o → h2.get? b = some o := fun b _ o e => hk23 b o (hk12 b o e)
  have hSt3 : St 0 h2 := W.frame 0 s1.heap h2 hSt hfpk
  have notMut : ∀ {a : AV} {h : Heap}, (∀ l, a ≠ .own l) → ¬ Mut c' (a :: fv) h Dd := fun {a h} ha hm => by
    rcases hm with e | ⟨e, _⟩ | ⟨i, y, q, _, hr, _⟩
    · exact hnD (by rw [← eL]; exact e.symm)
    · cases e
    · exact noOwn ha hr
  let J : Nat → Shared → Prop := fun m s' => ∃ i f' a us n, i + m = ds.length ∧ Sub f1 f' ∧ (∀ l, a ≠ AV.own l) ∧ Good c' B' (a :: fv) f' s' ∧ St i s'.heap ∧ (∀ b ∈ wr, f' b = none) ∧
    s'.heap.get? Dd = some (lobj us n) ∧ f' Dd = none ∧ Reps f' us (((ds.take i).filter p).map t)
  have hJ0 : J ds.length { s2 with heap := h2, toks := s2.toks + ([] : List (Str × Value)).length } :=
    ⟨0, f1, .undef, [], 0, Nat.zero_add _, .refl _, (fun _ e => by cases e), g3, hSt3, fun b hb => (hwr b hb).1, hk23 _ _ hD2, hfD, .nil⟩
  have loop : codeAny (model prog w) c.A (.compLoop (.ListComp elt [⟨.Name x px, iter, ifs, 0⟩] scope pos) 0 (.ref I) (.ref Dd) env') (compPost (model prog w) c.A E use Q (.ref Dd) C) { s2 with heap := h2, toks := s2.toks + ([] : List (Str × Value)).length } := by
    refine codeAny_compLoop_tests J (fun m s4 hJ => ?_) ds.length hJ0
    obtain ⟨i, f4, a4, us, n, him, sb4, ha4, g4, hSt4, hn4, hDD, hfDD, r4⟩ := hJ
    have hw4 : ∀ b ∈ wr, f4 b = none ∧ B'.s0.heap.get? b = none ∧ ∃ o, s4.heap.get? b = some o ∧ Free o := fun b hb => ⟨hn4 b hb, (hwr b hb).2, hfree' i _ hSt4 b hb⟩
    have hDw : Dd ∉ wr := fun hb => by
      obtain ⟨_, _, o, e, fr⟩ := hw4 Dd hb
      rw [hDD] at e; cases e; exact fr.2.2 _ _ rfl
    by_cases hlt : i < ds.length
    · obtain ⟨m', rfl⟩ := ar_pred him hlt
      refine wpAny_with_toks (Nat.le_refl _) (W.item i s4 _ _ hlt hSt4 fun v h5 tk5 hPv hSt5 hk5 htk5 => ?_)
      have g5 := g4.but hk5 htk5 hw4
      have hD5 : h5.get? Dd = some (lobj us n) := hk5 _ _ hDw hDD
      obtain ⟨d, hd, rv⟩ := hP i v hlt hPv f4 sb4
      have hmem := List.mem_of_getElem? hd
      obtain ⟨hT, hE⟩ := h c' rfl d hmem
      have hS5 : St (i + 1) h5 := hSt5
      have htake : ((ds.take (i + 1)).filter p).map t = ((ds.take i).filter p).map t ++ (if p d = true then [t d] else []) := by
        rw [List.take_add_one, hd, List.filter_append, List.map_append]
        congr 1
        cases hp : p d <;> simp [hp]
      obtain ⟨B5, gB, FB⟩ := g5.frame
      have hw5 : ∀ b ∈ wr, ∃ o, h5.get? b = some o ∧ Free o := fun b hb => hfree' (i + 1) h5 hS5 b hb
      have keep5 : ∀ {f' : PH} {s' : Shared}, Sub f4 f' → Step B5.f0 B5.s0 f' s' → Inn f' s'.heap → St (i + 1) s'.heap ∧ (∀ b ∈ wr, f' b = none) ∧ s'.heap.get? Dd = some (lobj us n) ∧ f' Dd = none := fun {f' s'} sb st inn => by
        refine ⟨W.frame (i + 1) h5 s'.heap hS5 fun b hb' o e => ?_, fun b hb' => ?_, ?_⟩
        · rcases hfp b hb' with ⟨o', e'⟩ | hbw
          · have e1 := sb4 b o' e'
            have := g5.inn b o' e1
            rw [show (h5.get? b = some o) from e] at this; cases this
            exact inn b _ (sb b _ e1)
          · obtain ⟨o', e', fr⟩ := hw5 b hbw
            rw [e] at e'; cases e'
            exact (FB.keep st b o e (Mut.free g5 e fr) fr.1).1
        · obtain ⟨o', e', fr⟩ := hw5 b hb'
          exact (FB.keep st b o' e' (Mut.free g5 e' fr) fr.1).2 (hn4 b hb')
        · have := FB.keep st Dd _ hD5 (notMut ha4) (fun es ep q => by cases q)
          exact ⟨this.1, this.2 hfDD⟩
      dsimp only
      refine As.name (c := c') 0 (x := x) rfl (.inl (Nat.lt_succ_self 0)) f4 _ v _ _ gB rv fun s6 g6 => ?_
      have g6' : Good c' B5 (.dat d :: fv) f4 s6 := g6
      have tests : ∀ (Q' : Bool → Shared → Prop) (E' : Value → Shared → Prop), (∀ f7 s7, Sub f4 f7 → Good c' B5 (.dat d :: fv) f7 s7 → Q' (p d) s7) →
          wpAny (model prog w) c.A (forIn ifs true fun c r => if r = true then do let ok ← isTrue c env' (eval c env'); pure (ForInStep.yield ok) else pure (ForInStep.yield r)) Q' E' s6 := fun Q' E' kk => by
        rcases hT with ⟨rfl, hp⟩ | ⟨e, rfl, hTr⟩
        · rw [hp] at kk
          exact wpAny_tests_nil (kk f4 s6 (.refl _) g6')
        · exact wpAny_tests_one (hTr f4 s6 _ _ g6' fun f7 s7 st7 => kk f7 s7 st7.sub (g6'.step st7))
      refine tests _ _ fun f7 s7 sb7 g7 => ?_
      cases hp : p d with
      | false =>
        rw [if_neg (by decide)]
        obtain ⟨q1, q2, q3, q4⟩ := keep5 sb7 g7.st g7.inn
        refine ⟨m', Nat.lt_succ_self _, i + 1, f7, .dat d, us, n, ar_step him, sb4.trans sb7, (fun _ e => by cases e), FB.good' g7, q1, q2, q3, q4, ?_⟩
        rw [htake, hp]; simpa using r4.mono sb7
      | true =>
        rw [if_pos rfl]
        refine hE hp f7 s7 _ _ g7 fun u f8 s8 st8 r8 => ?_
        have g8 := g7.step st8
        have sb8 := sb7.trans st8.sub
        obtain ⟨q1, q2, q3, q4⟩ := keep5 sb8 g8.st g8.inn
        have hlen : us.length ≤ ds.length := by
          rw [r4.length, List.length_map]
          exact Nat.le_trans (List.length_filter_le _ _) (by rw [List.length_take]; exact Nat.min_le_right _ _)
        refine call_meets slot_list_append ⟨_, q3, rfl⟩ entry_list_append (args_list_append _ _) (PySem.list_append Dd us.toArray n u (by rw [List.size_toArray]; exact Nat.le_trans hlen (Nat.le_trans hsz (by decide)))) ?_
        refine ⟨q3, ?_⟩
        obtain ⟨n', e9⟩ := lobj_update q3 (fun xs => xs.push u) (us ++ [u]) (by simp)
        have hother : ∀ b, b ≠ Dd → (s8.heap.update Dd (Obj.mapSeq fun xs => xs.push u)).get? b = s8.heap.get? b := fun b hb => Heap.get?_update_other _ _ (Ne.symm hb)
        have g8' := FB.good' g8
        have g9 : Good c' B' (.dat d :: fv) f8 { s8 with heap := s8.heap.update Dd (Obj.mapSeq fun xs => xs.push u), toks := s8.toks } := by
          refine g8'.butX (wr := [Dd]) (fun b o hb e => (hother b (by simpa using hb)).trans e) (Nat.le_refl _) (fun b hb => ?_) (fun hb => ?_) (fun y ca hy hb => ?_) (fun j y q a' _ hr _ _ => (noOwn (fun _ e => by cases e) hr).elim) fun b hb => ?_
          · rw [List.mem_singleton.mp hb]; exact ⟨q4, hD0⟩
          · have := List.mem_singleton.mp hb
            exact hnD (by rw [← eL]; exact this)
          · obtain ⟨_, v', o', e', hd'⟩ := g8'.fc y ca hy
            rw [List.mem_singleton.mp hb, q3] at e'; cases e'; cases hd'
          · rw [List.mem_singleton.mp hb]
            exact frames_ne g8' fun o es ep e hd => by rw [q3] at e; cases e; cases hd
        refine ⟨m', Nat.lt_succ_self _, i + 1, f8, .dat d, us ++ [u], n', ar_step him, sb4.trans sb8, (fun _ e => by cases e), g9, ?_, q2, e9, q4, ?_⟩
        · refine W.frame (i + 1) s8.heap _ q1 fun b hb o e => ?_
          by_cases hbD : b = Dd
          · subst hbD
            rcases hfp b hb with ⟨o', e'⟩ | hbw
            · have := sb8 b o' (sb4 b o' e')
              rw [q4] at this; cases this
            · exact absurd hbw hDw
          · exact (hother b hbD).trans e
        · rw [htake, if_pos hp]
          exact (r4.mono sb8).append (.one r8)
    · have hi' : i = ds.length := ar_end him hlt
      subst hi'
      refine wpAny_with_toks (Nat.le_refl _) (W.done s4 _ _ hSt4 fun h5 tk5 hk5 htk5 => ?_)
      have g5 := g4.but hk5 htk5 hw4
      have hD5 : h5.get? Dd = some (lobj us n) := hk5 _ _ hDw hDD
      obtain ⟨m5, hm5⟩ := g5.ns
      have hfC : f4 C = none := by rw [← eL]; exact g4.fL
      rw [List.take_length] at r4
      exact k Dd us n f4 _ C m5 g5.st hD0 hD5 hfDD r4 hnD hC0 (by rw [← eL]; exact hm5) hfC
  exact codeAny_compStart_list loop (W.self 0 _ _ _ hSt3 loop)
theorem EvF.comp {elt iter : Expr} {x : Str} {px : Pos} {ifs : List Expr} {scope : Scope} {pos : Pos} {ds : List D} (fr gs' : List Str) (is : List Nat) (fv : List AV) (p : D → Bool) (t : D → D)
    (hok : okComp scope x fr gs' = true) (hi : EvI c ρ iter ds) (hsz : ds.length ≤ 900000)
    (hfr : ∀ (j : Nat) y, fr[j]? = some y → ∃ i d, is[j]? = some i ∧ vs[i]? = some y ∧ nl ≤ i ∧ ρ[i]? = some (.dat d) ∧ fv[j]? = some (.dat d)) (hfv : fv.length = fr.length)
    (h : ∀ c' : Cx prog w G (x :: fr) 1 false gs', c'.n = c.n → ∀ d ∈ ds, ((ifs = [] ∧ p d = true) ∨ ∃ e, ifs = [e] ∧ Tr c' (.dat d :: fv) e (p d)) ∧ (p d = true → Ev c' (.dat d :: fv) elt (t d)))
    (hs : ∀ env x, foldedSetIterable iter env x = pure x := by intro _ _; rfl) : EvF c ρ (.ListComp elt [⟨.Name x px, iter, ifs, 0⟩] scope pos) ((ds.filter p).map t) := fun B f s Q E g k => by
  rw [eval_ListComp]
  refine comp_core fr gs' is fv p t hok hi hsz hfr hfv h hs f s Q E g fun a us n f' s' C m st hn ha hf r hne hC hm hfC => ?_
  refine ⟨m, hm, fun h6 hs6 => ?_⟩
  exact k a us n f' _ (st.sameBut' hs6 hC hfC) hn ((hs6.2 a (Ne.symm hne)).trans ha) hf r
theorem Ex1.assignComp (i : Nat) {elt iter : Expr} {x y : Str} {px py : Pos} {ifs : List Expr} {scope : Scope} {pos spos : Pos} {ds : List D} (fr gs' : List Str) (is : List Nat) (fv : List AV) (p : D → Bool) (t : D → D)
    (hok : okComp scope x fr gs' = true) (hi : EvI c ρ iter ds) (hsz : ds.length ≤ 900000)
    (hfr : ∀ (j : Nat) y, fr[j]? = some y → ∃ i d, is[j]? = some i ∧ vs[i]? = some y ∧ nl ≤ i ∧ ρ[i]? = some (.dat d) ∧ fv[j]? = some (.dat d)) (hfv : fv.length = fr.length)
    (h : ∀ c' : Cx prog w G (x :: fr) 1 false gs', c'.n = c.n → ∀ d ∈ ds, ((ifs = [] ∧ p d = true) ∨ ∃ e, ifs = [e] ∧ Tr c' (.dat d :: fv) e (p d)) ∧ (p d = true → Ev c' (.dat d :: fv) elt (t d)))
    (hy : vs[i]? = some y) (hl : i < nl := by decide) (hline : (py.line == pos.line) = true := by rfl) (hnm : (scope.names.any fun (n, k) => n == y && (k == .local || k == .cell)) = false := by decide +kernel)
    (hs : ∀ env x, foldedSetIterable iter env x = pure x := by intro _ _; rfl) :
    Ex1 c ρ (.Assign [.Name y py] (.ListComp elt [⟨.Name x px, iter, ifs, 0⟩] scope pos) spos) (.next (ρ.set i (.dat (.list ((ds.filter p).map t))))) := fun B f s Q E g k => by
  have hsw : swapsWith (.ListComp elt [⟨.Name x px, iter, ifs, 0⟩] scope pos) (some (.Name y py)) spos.line c.env = pure true := by
    show (pure (c.env.blockKind == .function && c.env.kindOf y == some .local && py.line == pos.line && !(scope.names.any fun (n, k) => n == y && (k == .local || k == .cell))) : Sem Bool) = pure true
    have hb : c.env.blockKind = .function := by unfold Env.blockKind; rw [c.kind]; rfl
    rw [hb, c.loc i y hl hy, hline, hnm]; rfl
  rw [exec_Assign_Name_used _ _ _ _ hsw]
  refine wpAny_bind (wpAny_standAt ?_)
  show wpAny (model prog w) c.A ((do let _ ← comprehension (.ListComp elt [⟨.Name x px, iter, ifs, 0⟩] scope pos) scope c.env _ (newList []) false (eval iter c.env) (some (PySem.assign (.Name y py) c.env)) : Sem Unit) >>= fun _ => pure Flow.next) Q E s
  refine wpAny_bind (wpAny_bind ?_)
  refine comp_core fr gs' is fv p t hok hi hsz hfr hfv h hs f s _ E g fun a us n f' s' C m st hn ha hf r hne hC hm hfC => ?_
  have stz := st.freeze hn ha hf
  have gz := g.step stz
  have rz : Rep (fun b => if b = a then some (lobj us n) else f' b) (.ref a) (.list ((ds.filter p).map t)) := .list a us n _ (if_pos rfl) (r.mono (freeze_sub hf))
  have hCL : c.env.locals ≠ C := fun e => by obtain ⟨_, o, es, ep, eo, _⟩ := g.ns; rw [e, hC] at eo; cases eo
  have hCc : ∀ x ca, c.env.cells.lookup x = some ca → ca ≠ C := fun x ca hc e => by obtain ⟨_, v, o, eo, _⟩ := g.fc x ca hc; rw [e, hC] at eo; cases eo
  obtain ⟨m0, hm0⟩ := gz.ns
  refine wpAny_assign_Name (wpAny_storeName_local (c.loc i y hl hy) hm0 (fun h7 hn7 hs7 => ?_) (by rw [c.kind]; rfl))
  refine ⟨m, hm.sameBut hs7 (Ne.symm hCL), fun h8 hs8 => ?_⟩
  have g7 : Good c B (ρ.set i (.dat (.list ((ds.filter p).map t)))) (fun b => if b = a then some (lobj us n) else f' b) { s' with heap := h7, toks := s'.toks + 1 } :=
    gz.setLocal hy (c.loc i y hl hy) hm0 hn7 hs7 (Nat.le_succ _) rz
  have hfCz : (fun b => if b = a then some (lobj us n) else f' b) C = none := by simp only [hne, if_false]; exact hfC
  have g8 := g7.butX (h' := h8) (k := s'.toks + 1) (wr := [C]) (fun b o hb e => (hs8.2 b (by simpa using hb)).trans e) (Nat.le_refl _) (fun b hb => by rw [List.mem_singleton.mp hb]; exact ⟨hfCz, g.st.ext.gone hC⟩)
    (fun hb => hCL (List.mem_singleton.mp hb)) (fun x ca hc hb => hCc x ca hc (List.mem_singleton.mp hb)) (fun j z q b hz hr hh hb => by
      have hbC := List.mem_singleton.mp hb
      subst hbC
      have hij : i ≠ j := fun e => by subst e; rw [List.getElem?_set_self'] at hr; cases hq : ρ[i]? <;> rw [hq] at hr <;> cases hr
      have hr' := getElem?_set_ne' hij hr
      obtain ⟨b2, hb2, us2, n2, e2, _⟩ := g.vals j z _ hz hr'
      obtain ⟨b3, hb3, us3, n3, e3, _⟩ := g7.vals j z _ hz hr
      have e4 := hh.unique hb3
      cases e4
      obtain ⟨o, es, ep, eo, hd, _⟩ := hm.sameBut hs7 (Ne.symm hCL)
      rw [show (h7.get? b = some o) from eo] at e3; cases e3; cases hd) (fun b hb l hl env he hfr => by
      have hbC := List.mem_singleton.mp hb
      subst hbC
      obtain ⟨l', hl', hF⟩ := g.aok.frames
      rw [hl] at hl'; cases hl'
      obtain ⟨_, L, o, hf', _, ho, _⟩ := hF env he
      rw [hfr] at hf'; cases hf'
      rw [hC] at ho; cases ho)
  exact wpAny_pure (wpAny_pure (k _ _ _ ⟨rfl, stz.sub, g8⟩))
end
end Mine
end
section
set_option autoImplicit false
set_option Elab.async false
set_option linter.unusedVariables false
set_option linter.unusedSimpArgs false
open PySem PySem.W PyProof.Rows PySem.Calls
namespace Mine
section
variable {prog : Program} {w : World} {G : Heap} {vs : List Str} {nl : Nat} {oc : Bool} {gs : List Str} {c : Cx prog w G vs nl oc gs} {ρ : List AV}
def CalT (prog : Program) (w : World) (T : String) (as : List D) (d : D) : Prop :=
  ∀ (A : Around) (n : Nat) (f : PH) (s : Shared) (us : List Value) (Q E : Value → Shared → Prop), AOK A n f s.heap → Inn f s.heap → Reps f us as →
    (∀ r f' s', Step f s f' s' → Rep f' r d → Q r s') → wpAny (model prog w) A (call (.type T) us) Q E s
theorem Ev.callT {fe : Expr} {T : String} {es : List Expr} {pos : Pos} {ds : List D} {d : D} (hf : EvG c ρ fe (.type T)) (ha : EvA c ρ es ds) (h : CalT prog w T ds d)
    (hp : (∀ env, (backTo pos (starEach es env)).any (·.1) = false) := by intro _; rfl)
    (hc : ∀ env, eval (.Call fe es [] pos) env = (do callWith pos (← eval fe env) [] (backTo pos (starEach es env)) (backToKw pos (keywordEach [] env))) := by intro _; rfl) :
    Ev c ρ (.Call fe es [] pos) d := fun _ f s Q E g k => by
  rw [hc]
  refine wpAny_bind (hf f s _ E g ?_)
  refine PySem.callWith_type (hp _) (ha _ pos f s _ E g fun us f1 s1 st1 r1 => ?_)
  exact h c.A c.n f1 s1 us Q E (g.step st1).aok st1.inn r1 fun r f2 s2 st2 r2 => k _ _ _ (st1.trans st2) r2
theorem Ev.ty {e : Expr} {T : String} (h : EvG c ρ e (.type T)) : Ev c ρ e (.ty T) := fun _ f s Q E g k => h f s Q E g (k _ _ _ (.refl g.inn) (.ty T))
theorem CalT.listT {ds : List D} (h : ds.length ≤ 1000000) : CalT prog w "list" [.tup ds] (.list ds) := fun A n f s us Q E ok i r k => by
  cases r with
  | cons _ _ _ _ r rs =>
    cases rs
    cases r with
    | tup a us m _ e rs =>
      refine call_list_seq a (.inr rfl) (i _ _ e) rfl rfl (fun h' c' hk hD => ?_) (by rw [List.size_toArray, rs.length]; exact Nat.le_trans h (by decide))
      have st := Step.keep (k := s.toks) i hk (Nat.le_refl _)
      exact k _ _ _ st (.list _ us c' ds (grow_new (get_size_none _) hD) (rs.mono st.sub))
theorem CalT.type {d : D} {T : String} (h : tyD d = some T) (hb : (Value.type T == Value.type "builtin_function_or_method") = false) : CalT prog w "type" [d] (.ty T) := fun A n f s us Q E ok i r k => by
  cases r with
  | cons _ _ _ _ r rs =>
    cases rs
    exact PySem.call_type_of (r.typeIs i h).1 hb (k _ _ _ (.refl i) (.ty T))
theorem range_up {n : Int} : Builtin.Range.rangeSize 0 n 1 = ((n.toNat : Nat) : Int) := by
  unfold Builtin.Range.rangeSize
  simp only [gt_iff_lt, Int.zero_lt_one, if_true, Int.sub_zero]
  split <;> omega
theorem range_down {n : Nat} : Builtin.Range.rangeSize ((n : Int) - 1) (-1) (-1) = (n : Int) := by
  unfold Builtin.Range.rangeSize
  rw [if_neg (by decide)]
  have e : ((n : Int) - 1 - -1 - 1) / (- -1) = n - 1 := by
    rw [show (- -1 : Int) = 1 from rfl, Int.ediv_one]; omega
  rw [e]
  split <;> omega
theorem iter_range {A : Around} {h0 : Heap} (hh : A.handled = none) {f : PH} {s : Shared} {r : Addr} {a b e : Int} {t u v : Tok} {m : Nat} {K : Value → Shared → Prop} {E : Value → Shared → Prop} (i0 : Inn f s.heap) (e0 : Ext h0 s.heap)
    (hr : IsRange s.heap r a b e t u v) (hsmall : Builtin.Range.small a b e = true) (hm : Builtin.Range.rangeSize a b e = (m : Int))
    (k : ∀ it s', Step f s f s' → ItOk prog w A h0 f s' it ((List.range m).map fun k : Nat => D.int (a + (k : Int) * e)) → K it s') : wpAny (model prog w) A (pyIter (.ref r)) K E s := by
  refine wpAny_pyIter_range hr hsmall ?_
  rw [hm]
  refine k _ _ (.push i0 _) ⟨s.heap.objs.size, [s.heap.objs.size], [s.heap.objs.size], (fun i v => ∃ t, v = .int (a + (i : Nat) * e) t), (fun i h => IsRangeIter h s.heap.objs.size (a + (i : Nat) * e) (((m : Nat) : Int) - (i : Nat)) e), rfl, ?_, ?_, fun b hb => .inr hb, fun b hb => ?_, fun i h hS b hb => ?_, fun i v hlt hP f' sb => ?_, fun elts q pos i v s' Q E hS hQ => ?_⟩
  · have := Walks.range (prog := prog) (w := w) (A := A) hh s.heap.objs.size a e m
    rw [show ((List.range m).map fun k : Nat => D.int (a + (k : Int) * e)).length = m by simp]
    exact this
  · show IsRangeIter _ _ _ _ _
    have : IsRangeIter (s.heap.push { cls := .type "range_iterator", data := .fields #[rawInt a, rawInt (m : Int), rawInt e] }) s.heap.objs.size a (m : Int) e := Heap.get?_push_size _ rfl
    simpa using this
  · rw [List.mem_singleton.mp hb]
    exact ⟨i0.none_of (get_size_none _), e0.gone (get_size_none _)⟩
  · rw [List.mem_singleton.mp hb]
    exact ⟨_, hS, fieldsFree rfl⟩
  · obtain ⟨t', rfl⟩ := hP
    have hi : i < m := by simpa using hlt
    exact ⟨.int (a + (i : Int) * e), by simp [hi], .int _ _⟩
  · cases v with
    | ref T =>
      unfold letOwnedTupleGo
      refine wpAny_bind (wpAny_load hS ?_)
      exact wpAny_pure hQ
    | _ => exact wpAny_pure hQ
theorem small_of {a b e : Int} {m : Nat} (hm : Builtin.Range.rangeSize a b e = (m : Int)) (h1 : -2000000 ≤ a) (h2 : a ≤ 2000000) (h3 : -2000000 ≤ b) (h4 : b ≤ 2000000) (h5 : -10 ≤ e) (h6 : e ≤ 10) (h7 : m ≤ 2000000) : Builtin.Range.small a b e = true := by
  unfold Builtin.Range.small
  rw [hm]
  simp only [Builtin.Range.rangeFitsLong, Bool.and_eq_true, Bool.or_eq_true, decide_eq_true_eq]
  refine ⟨⟨⟨⟨⟨by omega, by omega⟩, by omega, by omega⟩, by omega, by omega⟩, by omega, by omega⟩, .inr ?_⟩
  split
  · simp only [Bool.and_eq_true, decide_eq_true_eq]; omega
  · simp only [Bool.and_eq_true, decide_eq_true_eq]; omega
theorem EvI.range1 {fe e : Expr} {pos : Pos} {n : Int} (hf : EvG c ρ fe (.type "range")) (he : Ev c ρ e (.int n)) (h1 : n ≤ 1000000) (h0 : -1000000 ≤ n)
    (hp : (∀ env, (backTo pos (starEach [e] env)).any (·.1) = false) := by intro _; rfl) (hst : ∀ env, starEach [e] env = (false, eval e env) :: starEach [] env := by intro _; rfl)
    (hc : ∀ env, eval (.Call fe [e] [] pos) env = (do callWith pos (← eval fe env) [] (backTo pos (starEach [e] env)) (backToKw pos (keywordEach [] env))) := by intro _; rfl)
    (h0n : 0 < c.n := by first | exact ar_n (by assumption) | exact ar_n2 (by assumption) (by assumption) | omega) : EvI c ρ (.Call fe [e] [] pos) ((List.range n.toNat).map fun k : Nat => D.int k) := fun B f s K E g k => by
  rw [hc]
  refine wpAny_bind (hf f s _ E g ?_)
  refine PySem.callWith_type (hp _) (EvA.cons he Evs.nil hst _ pos f s _ E g fun us f1 s1 st1 r1 => ?_)
  cases r1 with
  | cons _ _ _ _ r rs =>
    cases rs
    cases r with
    | int _ t =>
      refine PySem.call_range_1 ?_
      have st2 : Step f s f1 { s1 with heap := s1.heap.push { cls := .type "range", data := .fields #[.int 0 s1.toks, .int n t, .int 1 (s1.toks + 1)] }, toks := s1.toks + 1 + 1 } :=
        st1.trans ((Step.push st1.inn _).trans (.tk (Step.push st1.inn _).inn (by show s1.toks ≤ s1.toks + 1 + 1; omega)))
      generalize hs2 : ({ s1 with heap := s1.heap.push { cls := .type "range", data := .fields #[.int 0 s1.toks, .int n t, .int 1 (s1.toks + 1)] }, toks := s1.toks + 1 + 1 } : Shared) = s2 at *
      have hr : IsRange s2.heap s1.heap.objs.size 0 n 1 s1.toks t (s1.toks + 1) := by rw [← hs2]; exact Heap.get?_push_size _ rfl
      have he : ((List.range n.toNat).map fun k : Nat => D.int (0 + (k : Int) * 1)) = ((List.range n.toNat).map fun k : Nat => D.int k) := List.map_congr_left fun k _ => by simp
      exact iter_range (g.aok.handled h0n) st2.inn st2.ext hr (small_of range_up (by first | assumption | exact Nat.le_trans (by assumption) (by decide) | omega) (by first | assumption | exact Nat.le_trans (by assumption) (by decide) | omega) (by first | assumption | exact Nat.le_trans (by assumption) (by decide) | omega) (by first | assumption | exact Nat.le_trans (by assumption) (by decide) | omega) (by first | assumption | exact Nat.le_trans (by assumption) (by decide) | omega) (by first | assumption | exact Nat.le_trans (by assumption) (by decide) | omega) (by first | assumption | exact Nat.le_trans (by assumption) (by decide) | omega)) range_up fun it s3 st3 hI => k it f1 s3 (st2.trans st3) (he ▸ hI)
theorem EvI.range3 {fe e1 e2 e3 : Expr} {pos : Pos} {n : Nat} (hf : EvG c ρ fe (.type "range")) (h1 : Ev c ρ e1 (.int ((n : Int) - 1))) (h2 : Ev c ρ e2 (.int (-1))) (h3 : Ev c ρ e3 (.int (-1))) (hn : n ≤ 1000000)
    (hp : (∀ env, (backTo pos (starEach [e1, e2, e3] env)).any (·.1) = false) := by intro _; rfl) (hst : ∀ env, starEach [e1, e2, e3] env = (false, eval e1 env) :: starEach [e2, e3] env := by intro _; rfl)
    (hst2 : ∀ env, starEach [e2, e3] env = (false, eval e2 env) :: starEach [e3] env := by intro _; rfl) (hst3 : ∀ env, starEach [e3] env = (false, eval e3 env) :: starEach [] env := by intro _; rfl)
    (hc : ∀ env, eval (.Call fe [e1, e2, e3] [] pos) env = (do callWith pos (← eval fe env) [] (backTo pos (starEach [e1, e2, e3] env)) (backToKw pos (keywordEach [] env))) := by intro _; rfl)
    (h0n : 0 < c.n := by first | exact ar_n (by assumption) | exact ar_n2 (by assumption) (by assumption) | omega) : EvI c ρ (.Call fe [e1, e2, e3] [] pos) ((List.range n).map fun k : Nat => D.int ((n : Int) - 1 - (k : Int))) := fun B f s K E g k => by
  rw [hc]
  refine wpAny_bind (hf f s _ E g ?_)
  refine PySem.callWith_type (hp _) (EvA.cons h1 (Evs.cons h2 (Evs.cons h3 Evs.nil hst3) hst2) hst _ pos f s _ E g fun us f1 s1 st1 r1 => ?_)
  obtain ⟨t, u, v, rfl⟩ : ∃ t u v, us = [.int ((n : Int) - 1) t, .int (-1) u, .int (-1) v] := by
    cases r1 with | cons _ _ _ _ r rs => cases rs with | cons _ _ _ _ r' rs => cases rs with | cons _ _ _ _ r'' rs => cases rs; cases r; cases r'; cases r''; exact ⟨_, _, _, rfl⟩
  refine PySem.call_range_3 (by decide) ?_
  have st2 := st1.trans (Step.push st1.inn ({ cls := .type "range", data := .fields #[.int ((n : Int) - 1) t, .int (-1) u, .int (-1) v] }))
  have hr : IsRange (s1.heap.push { cls := .type "range", data := .fields #[.int ((n : Int) - 1) t, .int (-1) u, .int (-1) v] }) s1.heap.objs.size ((n : Int) - 1) (-1) (-1) t u v := Heap.get?_push_size _ rfl
  have he : ((List.range n).map fun k : Nat => D.int ((n : Int) - 1 + (k : Int) * (-1))) = ((List.range n).map fun k : Nat => D.int ((n : Int) - 1 - (k : Int))) := List.map_congr_left fun k _ => by congr 1; omega
  exact iter_range (g.aok.handled h0n) st2.inn st2.ext hr (small_of range_down (by first | assumption | exact Nat.le_trans (by assumption) (by decide) | omega) (by first | assumption | exact Nat.le_trans (by assumption) (by decide) | omega) (by first | assumption | exact Nat.le_trans (by assumption) (by decide) | omega) (by first | assumption | exact Nat.le_trans (by assumption) (by decide) | omega) (by first | assumption | exact Nat.le_trans (by assumption) (by decide) | omega) (by first | assumption | exact Nat.le_trans (by assumption) (by decide) | omega) (by first | assumption | exact Nat.le_trans (by assumption) (by decide) | omega)) range_down fun it s3 st3 hI => k it f1 s3 (st2.trans st3) (he ▸ hI)
def srt (l : List (List Nat)) : List (List Nat) := l.mergeSort fun a b => decide (a ≤ b)
theorem srt_perm (l : List (List Nat)) : (srt l).Perm l := List.mergeSort_perm _ _
theorem srt_pair (l : List (List Nat)) : (srt l).Pairwise (fun a b => a ≤ b) := by
  have := List.pairwise_mergeSort (le := fun a b : List Nat => decide (a ≤ b)) (fun a b d h1 h2 => by simp only [decide_eq_true_eq] at *; exact List.le_trans h1 h2) (fun a b => by
    rcases List.le_total a b with h | h <;> simp [h]) l
  exact this.imp fun h => by simpa using h
theorem srt_unique {l k : List (List Nat)} (hp : k.Perm l) (hs : k.Pairwise (fun a b => a ≤ b)) : k = srt l :=
  List.Perm.eq_of_pairwise (fun a b _ _ h1 h2 => List.le_antisymm h1 h2) hs (srt_pair l) (hp.trans (srt_perm l).symm)
theorem rising_pair : ∀ (p : List Nat) (l : List (List Nat)), risingS (mk p) (l.map mk) = true → (p :: l).Pairwise (fun a b => a ≤ b)
  | p, [], _ => by simp
  | p, x :: r, h => by
    rw [List.map_cons, risingS, Bool.and_eq_true] at h
    have ih := rising_pair x r h.2
    have hpx : p ≤ x := by
      have := h.1
      rw [ltCps_eq] at this
      simpa using this
    refine List.pairwise_cons.mpr ⟨fun y hy => ?_, ih⟩
    rcases List.mem_cons.mp hy with rfl | hy
    · exact hpx
    · exact List.le_trans hpx ((List.pairwise_cons.mp ih).1 y hy)
theorem sorted_pair {l : List (List Nat)} (h : sortedS (l.map mk) = true) : l.Pairwise (fun a b => a ≤ b) := by
  cases l with
  | nil => exact .nil
  | cons x r => exact rising_pair x r h
theorem reps_of_strsAre (f : PH) : ∀ {us : List Value} {ls : List (List Nat)}, StrsAre us (ls.map mk) → Reps f us (ls.map S)
  | us, [], h => by cases h; exact .nil
  | us, x :: ls, h => by
    cases h with
    | cons _ t h => exact .cons _ _ _ _ (.str _ _) (reps_of_strsAre f h)
theorem CalD.sorted {ls : List (List Nat)} (h : ls.length < 64) : CalD prog w "sorted" [.list (ls.map S)] (.list ((srt ls).map S)) := fun A n f s us Q E ok i r k => by
  cases r with
  | cons _ _ _ _ r rs =>
    cases rs
    cases r with
    | list a us m _ e rs =>
      refine sorted_strs (lobj_isList (i _ _ e)) (strsAre_of rs) (by rw [rs.length, List.length_map]; exact h) fun out ss' a1 a2 a3 => ?_
      obtain ⟨e', he'⟩ := sortedAll_at s.heap us out
      have st := Step.keep (k := s.toks) i (h' := sortedAll s.heap us out) (fun _ _ => sortedAll_old) (Nat.le_refl _)
      obtain ⟨ls', rfl⟩ := map_mk_exists ss'
      have hp : ls'.Perm ls := by
        have := a2.map (fun x : Str => x.cps.toList)
        rw [List.map_map, List.map_map] at this
        have id1 : ∀ l : List (List Nat), l.map ((fun x : Str => x.cps.toList) ∘ mk) = l := fun l => by
          conv => rhs; rw [← List.map_id l]
          exact List.map_congr_left fun x _ => by simp
        rwa [id1, id1] at this
      have hl := srt_unique hp (sorted_pair a3)
      rw [hl] at a1
      refine k _ _ _ st (.list _ out.toList e' _ (grow_new (Heap.get?_none_of_le (Nat.le_succ _)) ?_) ((reps_of_strsAre _ a1)))
      rw [he']; simp [lobj, seqObj]
end
end Mine
end
section
set_option autoImplicit false
set_option Elab.async false
set_option linter.unusedVariables false
set_option linter.unusedSimpArgs false
open PySem PySem.W PyProof.Rows PySem.Calls
namespace Mine
section
variable {prog : Program} {w : World} {G : Heap} {vs : List Str} {nl : Nat} {oc : Bool} {gs : List Str} {c : Cx prog w G vs nl oc gs} {B : Bs c} {ρ : List AV}
theorem Good.addFree {f : PH} {s : Shared} {T : Addr} {o : Obj} (g : Good c B ρ f s) (hT : s.heap.get? T = some o) (hf : f T = none) (h0 : B.s0.heap.get? T = none) (fr : Free o) : Good c B ρ (fz f T o) s := by
  have sb : Sub f (fz f T o) := freeze_sub hf
  have nn : ∀ {b o'}, s.heap.get? b = some o' → ¬ Free o' → f b = none → fz f T o b = none := fun {b o'} e nf hb => by
    unfold fz
    rw [if_neg]; exact hb
    rintro rfl
    rw [hT] at e; cases e; exact nf fr
  refine ⟨⟨g.st.sub.trans sb, fun b o' e => ?_, g.st.ext, fun b o' e => ?_, g.st.toks, g.st.os, g.st.gens⟩, ⟨g.aok.handled, g.aok.depth, g.aok.units, ?_⟩, g.ns, ?_, fun y ca hc => ?_, fun j y b hy hb => ?_, g.apart⟩
  · unfold fz at e
    by_cases q : b = T
    · subst q; rw [if_pos rfl] at e; cases e; exact hT
    · rw [if_neg q] at e; exact g.inn b o' e
  · unfold fz at e
    by_cases q : b = T
    · subst q; exact .inr h0
    · rw [if_neg q] at e; exact g.st.new b o' e
  · obtain ⟨l, hl, hF⟩ := g.aok.frames
    refine ⟨l, hl, fun env he => ?_⟩
    obtain ⟨q, L, o', hfr, hn, ho, es, ep, hd⟩ := hF env he
    exact ⟨q, L, o', hfr, nn ho (fun z => z.1 _ _ hd) hn, ho, es, ep, hd⟩
  · obtain ⟨m, o', es, ep, e, hd, _⟩ := g.ns
    exact nn e (fun z => z.1 _ _ hd) g.fL
  · obtain ⟨q, v, o', e, hd⟩ := g.fc y ca hc
    exact ⟨nn e (fun z => z.2.1 _ hd) q, v, o', e, hd⟩
  · have := g.vals j y b hy hb
    cases b with
    | undef => trivial
    | dat d => obtain ⟨v, z, q⟩ := this; exact ⟨v, z, q.mono sb⟩
    | own d1 =>
      obtain ⟨a1, z, us1, n1, e1, hf1, q1, r1⟩ := this
      exact ⟨a1, z, us1, n1, e1, nn e1 (fun z => z.2.2 _ _ rfl) hf1, q1, r1.mono sb⟩
theorem tupFree {o : Obj} (h : o.cls = .type "tuple") {xs : Array Value} {n : Nat} (hd : o.data = .seq xs n) : Free o :=
  ⟨fun _ _ q => (by rw [hd] at q; cases q), fun _ q => (by rw [hd] at q; cases q), fun us n q => (by rw [q] at h; simp [lobj] at h)⟩
def ZSt (z TI TO i1 i2 l1 l2 : Addr) (xs ys : Array Value) (i : Nat) (h : Heap) : Prop :=
  IsZip h z TI TO .none ∧ IsPair h TI (.ref i1) (.ref i2) ∧ (∃ a b, IsPair h TO a b) ∧ h.IsListIter i1 l1 i ∧ h.IsListIter i2 l2 i
theorem Ex1.forZip {fe e1 e2 : Expr} {es : List Expr} {q : Nat} {p pos fpos : Pos} {body : List Stmt} {as bs : List D} (ρs mid : Nat → List AV) (hf : EvG c ρ fe (.type "zip")) (h1 : Ev c ρ e1 (.list as)) (h2 : Ev c ρ e2 (.list bs)) (hl : as.length = bs.length) (h0 : ρs 0 = ρ)
    (hA : ∀ k a b, as[k]? = some a → bs[k]? = some b → As c (ρs k) (.Tuple es q p) (.tup [a, b]) (mid k)) (hb : ∀ k, k < as.length → Turn c (mid k) body (ρs (k + 1)))
    (hp : (∀ env, (backTo fpos (starEach [e1, e2] env)).any (·.1) = false) := by intro _; rfl) (hst : ∀ env, starEach [e1, e2] env = (false, eval e1 env) :: starEach [e2] env := by intro _; rfl)
    (hst2 : ∀ env, starEach [e2] env = (false, eval e2 env) :: starEach [] env := by intro _; rfl)
    (hc : ∀ env, eval (.Call fe [e1, e2] [] fpos) env = (do callWith fpos (← eval fe env) [] (backTo fpos (starEach [e1, e2] env)) (backToKw fpos (keywordEach [] env))) := by intro _; rfl)
    (hs : ∀ env x, foldedSetIterable (.Call fe [e1, e2] [] fpos) env x = pure x := by intro _ _; rfl) (h0n : 0 < c.n := by first | exact ar_n (by assumption) | exact ar_n2 (by assumption) (by assumption) | omega) :
    Ex1 c ρ (.For (.Tuple es q p) (.Call fe [e1, e2] [] fpos) body [] pos) (.next (ρs as.length)) := fun B f s Q E g k =>
  wpAny_For (hs := hs _) (by
    rw [hc]
    refine wpAny_bind (hf f s _ E g ?_)
    refine PySem.callWith_type (hp _) (EvA.cons h1 (Evs.cons h2 Evs.nil hst2) hst _ fpos f s _ E g fun us f1 s1 st1 r1 => ?_)
    obtain ⟨l1, l2, xs, ys, n1, n2, rfl, e1', e2', rx, ry⟩ : ∃ l1 l2 xs ys n1 n2, us = [.ref l1, .ref l2] ∧ f1 l1 = some (lobj xs n1) ∧ f1 l2 = some (lobj ys n2) ∧ Reps f1 xs as ∧ Reps f1 ys bs := by
      cases r1 with | cons _ _ _ _ r rs => cases rs with | cons _ _ _ _ r' rs =>
                                            cases rs
                                            cases r with
                                            | list a us m _ e rs => cases r' with
                                              | list a' us' m' _ e' rs' => exact ⟨a, a', us, us', m, m', rfl, e, e', rs, rs'⟩
    have g1 := g.step st1
    have L1 := lobj_isList (g1.inn _ _ e1')
    have L2 := lobj_isList (g1.inn _ _ e2')
    have lt1 := Heap.lt_size (g1.inn _ _ e1')
    have lt2 := Heap.lt_size (g1.inn _ _ e2')
    refine PySem.call_zip_2 L1 L2 fun h' hz hTI hTO hI1 hI2 hsize hk => ?_
    generalize hN : s1.heap.objs.size = N at *
    refine PySem.wpAny_pyIter_zip hz ?_
    have st2 : Step f s f1 { s1 with heap := h' } := st1.trans (Step.same' (k := s1.toks) st1.inn hk (Nat.le_refl _))
    have gz := g.step st2
    have Dz : ZipApart (N + 4) (N + 2) (N + 3) N (N + 1) l1 l2 := by
      have q1 : @LT.lt Nat _ l1 N := lt1
      have q2 : @LT.lt Nat _ l2 N := lt2
      constructor <;> (refine neN ?_; first | exact ar_A | exact ar_B | exact ar_C (by decide) | omega)
    have newN : ∀ j, N ≤ j → s.heap.get? j = none ∧ f1 j = none := fun j hj => by
      have : s1.heap.get? j = none := Heap.get?_none_of_le (by rw [hN]; exact hj)
      exact ⟨st1.ext.gone this, st1.inn.none_of this⟩
    have hwr : ∀ b ∈ [N + 4, N + 3, N, N + 1], f1 b = none ∧ B.s0.heap.get? b = none := fun b hb => by
      have : N ≤ b := by simp only [List.mem_cons, List.mem_nil_iff, or_false] at hb; rcases hb with rfl | rfl | rfl | rfl <;> omega
      exact ⟨(newN b this).2, g.st.ext.gone (newN b this).1⟩
    let J : Nat → Shared → Prop := fun m s' => ∃ i f', i + m = as.length ∧ Sub f1 f' ∧ Good c B (ρs i) f' s' ∧ ZSt (N + 4) (N + 2) (N + 3) N (N + 1) l1 l2 xs.toArray ys.toArray i s'.heap ∧ ∀ b ∈ [N + 4, N + 3, N, N + 1], f' b = none
    refine codeAny_forLoop_any (R := fun r s' => match r with | .ok f => Q f s' | .error e => cameBackBy (model prog w) c.A c.env E e s') J (fun m s4 hJ => ?_) as.length
      ⟨0, f1, Nat.zero_add _, .refl _, h0 ▸ gz, ⟨hz, hTI, ⟨_, _, hTO⟩, hI1, hI2⟩, fun b hb => (hwr b hb).1⟩
    obtain ⟨i, f4, him, sb4, g4, ⟨z1, z2, ⟨a0, b0, z3⟩, z4, z5⟩, hn4⟩ := hJ
    have fO : ∀ {o : Obj} {fs : Array Value}, o.data = .fields fs → Free o := fun h => fieldsFree h
    have hw4 : ∀ b ∈ [N + 4, N + 3, N, N + 1], f4 b = none ∧ B.s0.heap.get? b = none ∧ ∃ o, s4.heap.get? b = some o ∧ Free o := fun b hb => by
      refine ⟨hn4 b hb, (hwr b hb).2, ?_⟩
      simp only [List.mem_cons, List.mem_nil_iff, or_false] at hb
      rcases hb with rfl | rfl | rfl | rfl
      · exact ⟨_, z1, fO rfl⟩
      · exact ⟨_, z3, tupFree rfl rfl⟩
      · obtain ⟨o, ho, _, hd⟩ := z4; exact ⟨o, ho, fO hd⟩
      · obtain ⟨o, ho, _, hd⟩ := z5; exact ⟨o, ho, fO hd⟩
    have M1 := lobj_isList (g4.inn _ _ (sb4 _ _ e1'))
    have M2 := lobj_isList (g4.inn _ _ (sb4 _ _ e2'))
    have inwr : ∀ {b : Addr}, b ∉ [N + 4, N + 3, N, N + 1] → b ≠ N + 4 ∧ b ≠ N + 3 ∧ b ≠ N ∧ b ≠ N + 1 := fun {b} hb => by simpa using hb
    by_cases hlt : i < as.length
    · obtain ⟨m', rfl⟩ := ar_pred him hlt
      obtain ⟨a, ha⟩ : ∃ a, as[i]? = some a := ⟨_, List.getElem?_eq_getElem hlt⟩
      obtain ⟨b, hb'⟩ : ∃ b, bs[i]? = some b := ⟨_, List.getElem?_eq_getElem (by first | assumption | exact Nat.le_trans (by assumption) (by decide) | omega)⟩
      obtain ⟨x, hx, rx'⟩ := rx.get ha
      obtain ⟨y, hy, ry'⟩ := ry.get hb'
      refine PySem.wpAny_pyNext_zip_item Dz z1 z2 z3 z4 z5 M1 M2 (by simpa using hx) (by simpa using hy) fun h5 y1 y3 y4 y5 yT ysz hk5 => ?_
      have g5 : Good c B (ρs i) f4 { s4 with heap := h5, toks := s4.toks } := g4.but (fun b o hb e => by obtain ⟨q1, q2, q3, q4⟩ := inwr hb; exact hk5 b o q1 q2 q3 q4 e) (Nat.le_refl _) hw4
      have y2 : IsPair h5 (N + 2) (.ref N) (.ref (N + 1)) := hk5 _ _ (neN (by first | exact ar_A | exact ar_B | exact ar_C (by decide) | omega)) (neN (by first | exact ar_A | exact ar_B | exact ar_C (by decide) | omega)) (neN (by first | exact ar_A | exact ar_B | exact ar_C (by decide) | omega)) (neN (by first | exact ar_A | exact ar_B | exact ar_C (by decide) | omega)) z2
      have newT : s4.heap.get? s4.heap.objs.size = none := get_size_none _
      generalize hTT : s4.heap.objs.size = T at *
      have hfT : f4 T = none := g4.inn.none_of newT
      have h0T : B.s0.heap.get? T = none := g4.st.ext.gone newT
      have g6 : Good c B (ρs i) (fz f4 T (tobj [x, y] 0)) { s4 with heap := h5, toks := s4.toks } := g5.addFree yT hfT h0T (tupFree rfl rfl)
      have sb6 : Sub f4 (fz f4 T (tobj [x, y] 0)) := freeze_sub hfT
      have rT : Rep (fz f4 T (tobj [x, y] 0)) (.ref T) (.tup [a, b]) := .tup T [x, y] 0 _ (if_pos rfl) (.cons _ _ _ _ (rx'.mono (sb4.trans sb6)) (.one (ry'.mono (sb4.trans sb6))))
      have ne6 : ∀ b ∈ [N + 4, N + 3, N, N + 1], fz f4 T (tobj [x, y] 0) b = none := fun b hb => by
        unfold fz
        rw [if_neg]; exact hn4 b hb
        rintro rfl
        obtain ⟨_, _, o, e, _⟩ := hw4 b hb
        rw [newT] at e; cases e
      dsimp only
      refine PySem.wpAny_letOwnedTupleGo_zip y1 fun h7 y1' hs7 => ?_
      have g7 : Good c B (ρs i) (fz f4 T (tobj [x, y] 0)) { s4 with heap := h7, toks := s4.toks } := g6.but (wr := [N + 4]) (fun b o hb e => (hs7.2 b (by simpa using hb)).trans e) (Nat.le_refl _) fun b hb => by
        rw [List.mem_singleton.mp hb]
        exact ⟨ne6 _ (.head _), (hwr _ (.head _)).2, _, y1, fO rfl⟩
      have k7 : ∀ b o, b ≠ N + 4 → h5.get? b = some o → h7.get? b = some o := fun b o hb e => (hs7.2 b hb).trans e
      have Z7 : ZSt (N + 4) (N + 2) (N + 3) N (N + 1) l1 l2 xs.toArray ys.toArray (i + 1) h7 := by
        refine ⟨y1', k7 _ _ (neN (by first | exact ar_A | exact ar_B | exact ar_C (by decide) | omega)) y2, ⟨x, y, k7 _ _ (neN (by first | exact ar_A | exact ar_B | exact ar_C (by decide) | omega)) y3⟩, ?_, ?_⟩
        · obtain ⟨o, ho, q⟩ := y4; exact ⟨o, k7 _ _ (neN (by first | exact ar_A | exact ar_B | exact ar_C (by decide) | omega)) ho, q⟩
        · obtain ⟨o, ho, q⟩ := y5; exact ⟨o, k7 _ _ (neN (by first | exact ar_A | exact ar_B | exact ar_C (by decide) | omega)) ho, q⟩
      obtain ⟨B', gB, FB⟩ := g7.frame
      refine hA i a b ha hb' _ _ _ _ _ gB rT fun s8 g8 => ?_
      refine (hb i hlt).run _ s8 _ _ g8 fun f9 s9 sb9 g9 => ?_
      obtain ⟨w1, w2, ⟨wa, wb, w3⟩, w4, w5⟩ := Z7
      have kp : ∀ b o, h7.get? b = some o → Free o → s9.heap.get? b = some o ∧ (fz f4 T (tobj [x, y] 0) b = none → f9 b = none) := fun b o e fr => FB.keep g9.st b o e (Mut.free g7 e fr) fr.1
      have fin : ∃ m2, m2 < m' + 1 ∧ J m2 s9 := by
        refine ⟨m', Nat.lt_succ_self _, i + 1, f9, ar_step him, (sb4.trans sb6).trans sb9, FB.good' g9, ⟨(kp _ _ w1 (fO rfl)).1, (kp _ _ w2 (tupFree rfl rfl)).1, ⟨wa, wb, (kp _ _ w3 (tupFree rfl rfl)).1⟩, ?_, ?_⟩, fun b hb => ?_⟩
        · obtain ⟨o, ho, q1, q2⟩ := w4; exact ⟨o, (kp _ _ ho (fO q2)).1, q1, q2⟩
        · obtain ⟨o, ho, q1, q2⟩ := w5; exact ⟨o, (kp _ _ ho (fO q2)).1, q1, q2⟩
        · have hne := ne6 b hb
          simp only [List.mem_cons, List.mem_nil_iff, or_false] at hb
          rcases hb with rfl | rfl | rfl | rfl
          · exact (kp _ _ w1 (fO rfl)).2 hne
          · exact (kp _ _ w3 (tupFree rfl rfl)).2 hne
          · obtain ⟨o, ho, q1, q2⟩ := w4; exact (kp _ _ ho (fO q2)).2 hne
          · obtain ⟨o, ho, q1, q2⟩ := w5; exact (kp _ _ ho (fO q2)).2 hne
      exact ⟨fin, fin⟩
    · have hi : i = as.length := ar_end him hlt
      subst hi
      refine PySem.wpAny_pyNext_zip_end (g4.aok.handled h0n) Dz z1 z2 z3 z4 z5 M1 M2 (.inl (by simp [rx.length])) fun h5 hk5 => ?_
      have g5 : Good c B (ρs as.length) f4 { s4 with heap := h5, toks := s4.toks } := g4.but (fun b o hb e => by obtain ⟨q1, q2, q3, q4⟩ := inwr hb; exact hk5 b o q1 q2 q3 q4 e) (Nat.le_refl _) hw4
      exact wpAny_execs_nil (k _ f4 _ ⟨rfl, st1.sub.trans sb4, g5⟩))
end
end Mine
end
section
set_option autoImplicit false
set_option Elab.async false
set_option linter.unusedVariables false
set_option linter.unusedSimpArgs false
open PySem PySem.W PyProof.Rows PySem.Calls
namespace Mine
section
variable {prog : Program} {w : World}
theorem countP_eqS (x : List Nat) : ∀ ls : List (List Nat), (ls.map S).countP (eqSD x) = ls.count x
  | [] => rfl
  | y :: r => by
    rw [List.map_cons, List.countP_cons, countP_eqS x r, List.count_cons]
    congr 1
    show (if (mk y == mk x) = true then 1 else 0) = _
    rw [beq_mk]
    by_cases h : y = x <;> simp [h]
theorem any_eqS (x : List Nat) : ∀ ls : List (List Nat), (ls.map S).any (eqSD x) = ls.contains x
  | [] => rfl
  | y :: r => by
    rw [List.map_cons, List.any_cons, any_eqS x r, List.contains_cons]
    congr 1
    show (mk y == mk x) = _
    rw [beq_mk]
    by_cases h : y = x
    · subst h; simp
    · have h' : ¬ x = y := fun e => h e.symm
      simp [h, h']
theorem all_plainS (ls : List (List Nat)) : (ls.map S).all isPlain = true := by
  rw [List.all_map]; simp [isPlain]
theorem CalD.count {ls : List (List Nat)} {x : List Nat} : CalD prog w "list.count" [.list (ls.map S), S x] (.int (ls.count x : Nat)) := fun A n f s us Q E ok i r k => by
  cases r with
  | cons _ _ _ _ r rs =>
    cases rs with
    | cons _ _ _ _ r' rs =>
      cases rs
      cases r' with
      | str _ t =>
      cases r with
      | list a us m _ e rs =>
        obtain ⟨g, hg, hm⟩ := eqSD_gives (x := x) (t := t) rs (all_plainS ls)
        refine call_meets F.slot_list_count ⟨_, i _ _ e, rfl⟩ F.entry_list_count (F.args_list_count_2 _ _) (MeetsSeq.list_count a us.toArray m (.str (mk x) t) g fun y hy => hg y (by simpa using hy)) ?_
        refine ⟨i _ _ e, ?_⟩
        have : us.toArray.toList.countP g = ls.count x := by rw [← countP_eqS, ← countP_of_map hm]
        rw [this]
        exact k _ _ _ (.tk i (Nat.le_succ _)) (.int _ _)
theorem subAt_mk (a y : List Nat) (i : Nat) : Builtin.Str.subAt (mk a) (mk y) i = ((a.drop i).take y.length == y) := by
  rw [StrLaws.subAt_eq]; simp [mk_len]
theorem CalD.starts {a : List Nat} {x : Nat} : CalD prog w "str.startswith" [S a, S [x]] (.bool (a.head? == some x)) := fun A n f s us Q E ok i r k => by
  obtain ⟨t, u, rfl⟩ : ∃ t u, us = [.str (mk a) t, .str (mk [x]) u] := by
    cases r with | cons _ _ _ _ r rs => cases rs with | cons _ _ _ _ r' rs => cases rs; cases r; cases r'; exact ⟨_, _, rfl⟩
  refine SC.startswith ?_
  have : Txt.startswith (mk a) (mk [x]) = (a.head? == some x) := by
    unfold Txt.startswith
    rw [subAt_mk, mk_len, mk_len]
    cases a with
    | nil => simp
    | cons y r => simp
  rw [this]
  exact k _ _ _ (.refl i) (.bool _)
theorem CalD.ends {a : List Nat} {x : Nat} : CalD prog w "str.endswith" [S a, S [x]] (.bool (a.getLast? == some x)) := fun A n f s us Q E ok i r k => by
  obtain ⟨t, u, rfl⟩ : ∃ t u, us = [.str (mk a) t, .str (mk [x]) u] := by
    cases r with | cons _ _ _ _ r rs => cases rs with | cons _ _ _ _ r' rs => cases rs; cases r; cases r'; exact ⟨_, _, rfl⟩
  refine SC.endswith ?_
  have : Txt.endswith (mk a) (mk [x]) = (a.getLast? == some x) := by
    unfold Txt.endswith
    rw [subAt_mk, mk_len, mk_len]
    rcases List.eq_nil_or_concat a with rfl | ⟨b, y, rfl⟩
    · simp
    · simp
  rw [this]
  exact k _ _ _ (.refl i) (.bool _)
theorem CalD.isBytes {a : List Nat} : CalD prog w "isinstance" [S a, .ty "bytes"] (.bool false) := fun A n f s us Q E ok i r k => by
  obtain ⟨t, rfl⟩ : ∃ t, us = [.str (mk a) t, .type "bytes"] := by
    cases r with | cons _ _ _ _ r rs => cases rs with | cons _ _ _ _ r' rs => cases rs; cases r; cases r'; exact ⟨_, rfl⟩
  exact IsiPair.str_bytes (k _ _ _ (.tk i (Nat.le_succ _)) (.bool _))
theorem issub_nested1 {A : Around} {Q : Fin → Shared → Prop} {E : Value → Shared → Prop} {s : Shared} {dep : Int} {tk : Tok} (h : Q (.done (.ret (.bool true))) s) :
    wpAny (model prog w) A (Builtin.«issubclass.nested» ⟨[.type "str", .type "str", .int dep tk], []⟩) Q E s := by
  obtain ⟨hh, g, d, t, os⟩ := s
  have f1 : typeOf (.type "str") = pure (.type "type") := F.isi_meta_str
  have f2 : isSubtype (.type "str") (.type "str") = pure true := by rw [isSubtype_type]; kernel_rfl
  repeat (any_goals (first | assumption | (rw [f2]) | wp_step))
theorem issub_nested {A : Around} {Q : Fin → Shared → Prop} {E : Value → Shared → Prop} {s : Shared} {a : Addr} {m : Nat} {tk : Tok} (ha : s.heap.get? a = some (tobj [.type "str", .type "bytes"] m)) (h : ∀ k, s.toks ≤ k → Q (.done (.ret (.bool true))) { s with toks := k }) :
    wpAny (model prog w) A (Builtin.«issubclass.nested» ⟨[.type "str", .ref a, .int 0 tk], []⟩) Q E s := by
  obtain ⟨hh, g, d, t, os⟩ := s
  have htp : (Heap.get? hh a) = some { cls := .type "tuple", data := .seq #[.type "str", .type "bytes"] m } := ha
  have hT2 : (⟨hh, g, d, t, os⟩ : Shared).TypeIs (.ref a) "tuple" := ⟨_, htp, rfl⟩
  have f1 := F.isi_sub_tuple
  repeat (any_goals (first | assumption | wp_step))
  refine codeAny_call_builtin (id := "issubclass.nested") (b := Builtin.«issubclass.nested») (by decide +kernel) F.entry_issubclass_nested ?_
  have hc : checkBuiltinCall "issubclass.nested" ⟨[.type "str", .type "str", rawInt (0 + 1)], []⟩ = pure () := by kernel_rfl
  refine wpAny_of_eq hc (issub_nested1 ?_)
  have f3 := h t (Nat.le_refl _)
  repeat (any_goals (first | assumption | exact f3 | wp_step))
theorem CalD.issubT : CalD prog w "issubclass" [.ty "str", .tup [.ty "str", .ty "bytes"]] (.bool true) := fun A n f s us Q E ok i r k => by
  obtain ⟨a, m, rfl, ha⟩ : ∃ a m, us = [.type "str", .ref a] ∧ f a = some (tobj [.type "str", .type "bytes"] m) := by
    cases r with | cons _ _ _ _ r rs => cases rs with | cons _ _ _ _ r' rs =>
                                          cases rs; cases r
                                          cases r' with
                                          | tup a us m _ e rs =>
                                            cases rs with
                                            | cons _ _ _ _ q1 rs => cases rs with
                                              | cons _ _ _ _ q2 rs => cases rs; cases q1; cases q2; exact ⟨a, m, rfl, e⟩
  refine call_issubclass (S := fun A R s => s.heap.get? a = some (tobj [.type "str", .type "bytes"] m) ∧ ∀ k, s.toks ≤ k → R (.ok (.ret (.bool true))) { s with toks := k }) (fun _ _ _ _ _ hs => issubclass_outer (issub_nested hs.1 hs.2)) ⟨i _ _ ha, fun q hq => k _ _ _ (.tk i hq) (.bool _)⟩
mutual
def toP : D → PyData
  | .none => .none
  | .bool b => .bool b
  | .int i => .int i
  | .str x => .str x
  | .list l => .list (toPs l)
  | .tup l => .tuple (toPs l)
  | .ty _ => .none
def toPs : List D → List PyData
  | [] => []
  | d :: ds => toP d :: toPs ds
end
mutual
def okD : D → Bool
  | .str x => PyData.strOk x
  | .list l => okDs l
  | .tup l => okDs l
  | .ty _ => false
  | _ => true
def okDs : List D → Bool
  | [] => true
  | d :: ds => okD d && okDs ds
end
mutual
theorem rep_reads {f : PH} {h : Heap} (i : Inn f h) : ∀ {v : Value} {d : D}, Rep f v d → okD d = true → ∃ as, Reads h v (toP d) as
  | _, _, .none, _ => ⟨_, Reads.none⟩
  | _, _, .bool b, _ => ⟨_, Reads.bool b⟩
  | _, _, .int i t, _ => ⟨_, Reads.int i t⟩
  | _, _, .str s t, _ => ⟨_, Reads.str s t⟩
  | _, _, .ty T, k => by simp [okD] at k
  | _, _, .list a vs n ds e r, k => by
    obtain ⟨as, q⟩ := reps_reads i r (by simpa [okD] using k)
    exact ⟨_, Reads.list (i _ _ e) rfl rfl (by simpa using q)⟩
  | _, _, .tup a vs n ds e r, k => by
    obtain ⟨as, q⟩ := reps_reads i r (by simpa [okD] using k)
    exact ⟨_, Reads.tuple (i _ _ e) rfl rfl (by simpa using q)⟩
theorem reps_reads {f : PH} {h : Heap} (i : Inn f h) : ∀ {vs : List Value} {ds : List D}, Reps f vs ds → okDs ds = true → ∃ as, ReadsAll h vs (toPs ds) as
  | _, _, .nil, _ => ⟨_, ReadsAll.nil⟩
  | _, _, .cons v d vs ds r rs, k => by
    simp only [okDs, Bool.and_eq_true] at k
    obtain ⟨as, q⟩ := rep_reads i r k.1
    obtain ⟨bs, q'⟩ := reps_reads i rs k.2
    exact ⟨_, ReadsAll.cons q q'⟩
end
mutual
theorem okD_lay : ∀ d : D, okD d = true → (toP d).canLay0 = true
  | .none, _ => rfl
  | .bool _, _ => rfl
  | .int _, _ => rfl
  | .str x, k => by simpa [toP, PyData.canLay0, okD] using k
  | .ty _, k => by simp [okD] at k
  | .list l, k => by simpa [toP, PyData.canLay0] using okDs_lay l (by simpa [okD] using k)
  | .tup l, k => by simpa [toP, PyData.canLay0] using okDs_lay l (by simpa [okD] using k)
theorem okDs_lay : ∀ l : List D, okDs l = true → PyData.canLayAll0 (toPs l) = true
  | [], _ => rfl
  | d :: ds, k => by
    simp only [okDs, Bool.and_eq_true] at k
    simp only [toPs, PyData.canLayAll0, Bool.and_eq_true]
    exact ⟨okD_lay d k.1, okDs_lay ds k.2⟩
end
theorem CmpD.neSelf {d : D} (h : okD d = true) (hd : (toP d).depth ≤ 100) : CmpD prog w .NotEq d d false := fun A n f s u v Q E ok i r1 r2 k => by
  obtain ⟨as, q1⟩ := rep_reads i r1 h
  obtain ⟨bs, q2⟩ := rep_reads i r2 h
  have hl := okD_lay d h
  refine SeqAt.compareNe_reads q1 q2 hl hl (by have := ok.units; show A.units + _ < 9900; omega) ?_
  rw [SeqAt.eqv_refl _ hl]
  exact k _ _ (.refl i)
theorem CmpD.eqSelf {d : D} (h : okD d = true) (hd : (toP d).depth ≤ 100) : CmpD prog w .Eq d d true := fun A n f s u v Q E ok i r1 r2 k => by
  obtain ⟨as, q1⟩ := rep_reads i r1 h
  obtain ⟨bs, q2⟩ := rep_reads i r2 h
  have hl := okD_lay d h
  refine SeqAt.compareEq_reads q1 q2 hl hl (by have := ok.units; show A.units + _ < 9900; omega) ?_
  rw [SeqAt.eqv_refl _ hl]
  exact k _ _ (.refl i)
theorem CmpD.eqNil {ds : List D} : CmpD prog w .Eq (.list ds) (.list []) ds.isEmpty := fun A n f s u v Q E ok i r1 r2 k => by
  cases r1 with
  | list a us m _ e rs =>
    cases r2 with
    | list b us' m' _ e' rs' =>
      cases rs'
      have hl := rs.length
      cases ds with
      | nil =>
        have hu : us = [] := by cases us; rfl; simp at hl
        subst hu
        exact SeqAt.eq_listAt (e := fun _ => true) (lobj_isList (i _ _ e)) (lobj_isList (i _ _ e')) rfl ok.line (fun j h1 _ => by simp at h1) (by simpa using k f s (.refl i))
      | cons d ds =>
        refine SeqAt.eq_list_lengthsAt (lobj_isList (i _ _ e)) (lobj_isList (i _ _ e')) ?_ ok.line (k f s (.refl i))
        rw [List.size_toArray, hl]; simp
end
section
variable {prog : Program} {w : World} {G : Heap} {vs : List Str} {nl : Nat} {oc : Bool} {gs : List Str} {c : Cx prog w G vs nl oc gs} {ρ : List AV}
def EvT (c : Cx prog w G vs nl oc gs) (ρ : List AV) (e : Expr) (d : D) : Prop :=
  ∀ ⦃B : Bs c⦄ (f : PH) (s : Shared) (Q E : Value → Shared → Prop), 1 ≤ s.toks → Good c B ρ f s → (∀ v f' s', Step f s f' s' → Rep f' v d → Q v s') → wpAny (model prog w) c.A (eval e c.env) Q E s
theorem EvT.binStr {x : Str} {l : List Nat} {k : Nat} {p : Pos} {r : Expr} {op : Operator} {pos : Pos} {b d : D} (hx : x = mk l) (h2 : EvT c ρ r b) (h : BinD prog w op (S l) b d) : Ev c ρ (.BinOp (.Constant (.str x) k p) op r pos) d := fun _ f s Q E g kk => by
  subst hx
  exact wpAny_BinOp (wpAny_Constant_str (h2 f _ _ E (by show 1 ≤ s.toks + 1; omega) (g.step (.same g.inn (Nat.le_succ _))) fun v2 f2 s2 st2 r2 => by
    have st1 : Step f s f { s with toks := s.toks + 1 } := .same g.inn (Nat.le_succ _)
    have g2 := (g.step st1).step st2
    exact h c.A c.n f2 s2 _ v2 Q E g2.aok g2.inn (Rep.str _ _) r2 fun v f3 s3 st3 r3 => kk _ _ _ ((st1.trans st2).trans st3) r3))
theorem Ev.replace {o : Expr} {apos pos p1 p2 : Pos} {k1 k2 : Nat} {a z : List Nat} {y : Nat} {ys zs : Str} (ho : Ev c ρ o (S a)) (hy : ys = mk [y]) (hz : zs = mk z) (hl : a.length ≤ 1000000) (hzl : z.length ≤ 14) (hyz : z ≠ [y])
    (hbase : ∀ env, attributeBase o "replace" env (eval o env) = eval o env := by intro _; rfl)
    (hfew : ∀ env, ((backTo pos (starEach [.Constant (.str ys) k1 p1, .Constant (.str zs) k2 p2] env)).all (fun x => !x.1) && (backToKw pos (keywordEach [] env)).all (fun x => x.1.isSome) && decide (([.Constant (.str ys) k1 p1, .Constant (.str zs) k2 p2] : List Expr).length + ([] : List Keyword).length + (if ([] : List Keyword).isEmpty then 0 else 1) < 30)) = true := by intro _; rfl)
    (hline : (apos.endLine == pos.line) = true := by rfl) : EvT c ρ (.Call (.Attribute o "replace" apos) [.Constant (.str ys) k1 p1, .Constant (.str zs) k2 p2] [] pos) (S (jn z (sp y a))) := fun _ f s Q E h0 g k => by
  subst hy hz
  refine wpAny_Call_method (hbase _) (hfew _) hline F.plainAttrs_str F.slot_str_replace F.type_str_replace (ho f s _ E g fun v f1 s1 st1 r1 => ?_)
  refine ⟨(r1.typeIs st1.inn rfl).1, (r1.typeIs st1.inn rfl).2, callWith_builtin rfl ?_⟩
  cases r1 with
  | str _ t =>
    have g1 := g.step st1
    refine Calls.evalArgs_plain (Calls.spliced_cons (wpAny_Constant_str (k := k1) (pos := p1) (Calls.spliced_cons (wpAny_Constant_str (k := k2) (pos := p2) (Calls.spliced_nil ?_)))))
    have h1 : 1 ≤ s1.toks := Nat.le_trans h0 st1.toks
    refine wpAny_with_toks (n := s1.toks) (by show s1.toks ≤ s1.toks + 1 + 1; omega) (SC.replaceW (t := t) (u := s1.toks) (v := s1.toks + 1) (x := mk a) (y := mk [y]) (z := mk z) (neN (by first | assumption | exact Nat.le_trans (by assumption) (by decide) | omega)) (neN (by first | assumption | exact Nat.le_trans (by assumption) (by decide) | omega)) (neN (by first | assumption | exact Nat.le_trans (by assumption) (by decide) | omega)) ?_ (by rw [mk_len]; omega) (by rw [mk_len]; exact hzl) fun t' q hq => ?_)
    · rw [beq_mk]; exact decide_eq_false (Ne.symm hyz)
    · have e : Txt.replace (mk a) (mk [y]) (mk z) = mk (jn z (sp y a)) := by
        rw [show mk [y] = ⟨#[y]⟩ from rfl, StrLaws.replace_one, split_mk, sjoin_mk]
      rw [e]
      exact k _ f1 _ (st1.trans (.tk st1.inn hq)) (.str _ _)
end
end Mine
end
section
set_option autoImplicit false
set_option Elab.async false
set_option linter.unusedVariables false
set_option linter.unusedSimpArgs false
open PySem PySem.W PyProof.Rows PySem.Calls
namespace Mine
theorem sl_to {α : Type} (l : List α) (k : Nat) : sl none (some (k : Int)) l = l.take k := by
  unfold sl; simp only [Option.elim]
  rw [clipAt_nat]; simp only [List.drop_zero, Nat.sub_zero]
  rw [← List.take_take, List.take_length]
theorem sl_from {α : Type} (l : List α) (k : Nat) : sl (some (k : Int)) none l = l.drop k := by
  unfold sl; simp only [Option.elim]
  rw [clipAt_nat]
  rcases Nat.le_total k l.length with h | h
  · rw [Nat.min_eq_left h, List.take_of_length_le (by rw [List.length_drop]; exact Nat.le_refl _)]
  · rw [Nat.min_eq_right h, List.drop_length, List.drop_of_length_le h, List.take_nil]
theorem sl_nat {α : Type} (l : List α) (i j : Nat) : sl (some (i : Int)) (some (j : Int)) l = (l.drop i).take (j - i) := by
  unfold sl; simp only [Option.elim]
  rw [clipAt_nat, clipAt_nat]
  rcases Nat.le_total i l.length with h | h
  · rw [Nat.min_eq_left h]
    rcases Nat.le_total j l.length with h' | h'
    · rw [Nat.min_eq_left h']
    · rw [Nat.min_eq_right h', List.take_of_length_le (by rw [List.length_drop]; exact Nat.le_refl _), List.take_of_length_le (by rw [List.length_drop]; omega)]
  · rw [Nat.min_eq_right h, List.drop_length, List.drop_of_length_le h, List.take_nil, List.take_nil]
theorem sl_neg1 {α : Type} (l : List α) : sl none (some (-1)) l = l.dropLast := by
  unfold sl; simp only [Option.elim]
  have : clipAt l.length (-1) = l.length - 1 := clipAt_neg l.length 1 (by decide)
  rw [this, List.drop_zero, Nat.sub_zero, List.dropLast_eq_take]
section
variable {prog : Program} {w : World} {G : Heap} {vs : List Str} {nl : Nat} {oc : Bool} {gs : List Str} {c : Cx prog w G vs nl oc gs} {B : Bs c} {ρ : List AV}
theorem TruD.bool {b : Bool} : TruD prog w (.bool b) b := fun A n f s u Q E ok i r k => by
  cases r
  exact wpAny_truthy_bool (k _ _ (.refl i))
theorem Ev.v (i : Nat) {x : Str} {pos : Pos} {d : D} (hx : vs[i]? = some x := by rfl) (hr : ρ[i]? = some (.dat d) := by rfl) : Ev c ρ (.Name x pos) d := Ev.var i hx hr
inductive Wh (c : Cx prog w G vs nl oc gs) (test : Expr) (body : List Stmt) : List AV → List AV → Prop
  | done (ρ : List AV) : Tr c ρ test false → Wh c test body ρ ρ
  | brk (ρ ρ' : List AV) : Tr c ρ test true → Ex c ρ body (.brk ρ') → Wh c test body ρ ρ'
  | step (ρ ρ1 ρ' : List AV) : Tr c ρ test true → Turn c ρ body ρ1 → Wh c test body ρ1 ρ' → Wh c test body ρ ρ'
def shift (x : List AV) (g : Nat → List AV) : Nat → List AV
  | 0 => x
  | k + 1 => g k
theorem Wh.ns {test : Expr} {body : List Stmt} {ρ ρ' : List AV} (h : Wh c test body ρ ρ') : ∃ (N : Nat) (ρs : Nat → List AV), ρs 0 = ρ ∧ (∀ k, k < N → Tr c (ρs k) test true) ∧ (∀ k, k < N → Turn c (ρs k) body (ρs (k + 1))) ∧ ((Tr c (ρs N) test false ∧ ρ' = ρs N) ∨ (Tr c (ρs N) test true ∧ Ex c (ρs N) body (.brk ρ'))) := by
  induction h with
  | done ρ h => exact ⟨0, fun _ => ρ, rfl, fun k hk => absurd hk (Nat.not_lt_zero _), fun k hk => absurd hk (Nat.not_lt_zero _), .inl ⟨h, rfl⟩⟩
  | brk ρ ρ' h h' => exact ⟨0, fun _ => ρ, rfl, fun k hk => absurd hk (Nat.not_lt_zero _), fun k hk => absurd hk (Nat.not_lt_zero _), .inr ⟨h, h'⟩⟩
  | step ρ ρ1 ρ' h h1 h2 ih =>
    obtain ⟨N, ρs, e0, hT, hB, he⟩ := ih
    refine ⟨N + 1, shift ρ ρs, rfl, fun k hk => ?_, fun k hk => ?_, he⟩
    · match k, hk with
      | 0, _ => exact @h
      | k + 1, hk => exact @hT k (by first | assumption | exact Nat.le_trans (by assumption) (by decide) | omega)
    · match k, hk with
      | 0, _ =>
        show Turn c ρ body (ρs 0)
        rw [e0]; exact h1
      | k + 1, hk => exact hB k (by first | assumption | exact Nat.le_trans (by assumption) (by decide) | omega)
theorem Ex1.whileR {test : Expr} {body : List Stmt} {pos : Pos} {ρ' : List AV} (h : Wh c test body ρ ρ') : Ex1 c ρ (.While test body [] pos) (.next ρ') := by
  obtain ⟨N, ρs, e0, hT, hB, he⟩ := h.ns
  exact Ex1.whileN N ρs e0 hT hB he
inductive Fo (c : Cx prog w G vs nl oc gs) (target : Expr) (body : List Stmt) : List D → List AV → List AV → Prop
  | nil (ρ : List AV) : Fo c target body [] ρ ρ
  | cons (d : D) (ds : List D) (ρ m ρ1 ρ' : List AV) : As c ρ target d m → Turn c m body ρ1 → Fo c target body ds ρ1 ρ' → Fo c target body (d :: ds) ρ ρ'
theorem Fo.ns {target : Expr} {body : List Stmt} {ds : List D} {ρ ρ' : List AV} (h : Fo c target body ds ρ ρ') : ∃ ρs mid : Nat → List AV, ρs 0 = ρ ∧ ρs ds.length = ρ' ∧ (∀ k d, ds[k]? = some d → As c (ρs k) target d (mid k)) ∧ ∀ k d, ds[k]? = some d → Turn c (mid k) body (ρs (k + 1)) := by
  induction h with
  | nil ρ => exact ⟨fun _ => ρ, fun _ => ρ, rfl, rfl, fun k d h => by simp at h, fun k d h => by simp at h⟩
  | cons d ds ρ m ρ1 ρ' h1 h2 h3 ih =>
    obtain ⟨ρs, mid, e0, e1, hA, hB⟩ := ih
    refine ⟨shift ρ ρs, shift m mid, rfl, e1, fun k d' hk => ?_, fun k d' hk => ?_⟩
    · match k, hk with
      | 0, hk => obtain rfl := Option.some.inj hk; exact @h1
      | k + 1, hk => exact @hA k d' hk
    · match k, hk with
      | 0, hk =>
        show Turn c m body (ρs 0)
        rw [e0]; exact h2
      | k + 1, hk => exact hB k d' hk
theorem Ex1.forR {target iter : Expr} {body : List Stmt} {pos : Pos} {ds : List D} {ρ' : List AV} (hi : EvI c ρ iter ds) (h : Fo c target body ds ρ ρ')
    (ht : (∃ x p, target = .Name x p) ∨ ∃ es k p, target = Expr.Tuple es k p := by first | exact .inl ⟨_, _, rfl⟩ | exact .inr ⟨_, _, _, rfl⟩)
    (hs : ∀ env x, foldedSetIterable iter env x = pure x := by intro _ _; rfl) :
    Ex1 c ρ (.For target iter body [] pos) (.next ρ') := by
  obtain ⟨ρs, mid, e0, e1, hA, hB⟩ := h.ns
  exact e1 ▸ Ex1.for_ ρs mid hi e0 hA hB ht hs
inductive FoZ (c : Cx prog w G vs nl oc gs) (target : Expr) (body : List Stmt) : List D → List D → List AV → List AV → Prop
  | nil (ρ : List AV) : FoZ c target body [] [] ρ ρ
  | cons (a b : D) (as bs : List D) (ρ m ρ1 ρ' : List AV) : As c ρ target (.tup [a, b]) m → Turn c m body ρ1 → FoZ c target body as bs ρ1 ρ' → FoZ c target body (a :: as) (b :: bs) ρ ρ'
theorem FoZ.ns {target : Expr} {body : List Stmt} {as bs : List D} {ρ ρ' : List AV} (h : FoZ c target body as bs ρ ρ') : as.length = bs.length ∧ ∃ ρs mid : Nat → List AV, ρs 0 = ρ ∧ ρs as.length = ρ' ∧ (∀ k a b, as[k]? = some a → bs[k]? = some b → As c (ρs k) target (.tup [a, b]) (mid k)) ∧ ∀ k, k < as.length → Turn c (mid k) body (ρs (k + 1)) := by
  induction h with
  | nil ρ => exact ⟨rfl, fun _ => ρ, fun _ => ρ, rfl, rfl, fun k a b h => by simp at h, fun k h => absurd h (Nat.not_lt_zero _)⟩
  | cons a b as bs ρ m ρ1 ρ' h1 h2 h3 ih =>
    obtain ⟨hl, ρs, mid, e0, e1, hA, hB⟩ := ih
    refine ⟨by simp [hl], shift ρ ρs, shift m mid, rfl, e1, fun k a' b' hk hk' => ?_, fun k hk => ?_⟩
    · match k, hk, hk' with
      | 0, hk, hk' => obtain rfl := Option.some.inj hk; obtain rfl := Option.some.inj hk'; exact @h1
      | k + 1, hk, hk' => exact @hA k a' b' hk hk'
    · match k, hk with
      | 0, hk =>
        show Turn c m body (ρs 0)
        rw [e0]; exact h2
      | k + 1, hk => exact hB k (by simpa using hk)
def InpD (prog : Program) (w : World) (op : Operator) (a b d : D) : Prop :=
  ∀ (A : Around) (n : Nat) (f : PH) (s : Shared) (u v : Value) (Q E : Value → Shared → Prop), AOK A n f s.heap → Inn f s.heap → Rep f u a → Rep f v b → (∀ r f' s', Step f s f' s' → Rep f' r d → Q r s') → wpAny (model prog w) A (inplaceOp op u v) Q E s
theorem InpD.addI {a b : Int} : InpD prog w .Add (.int a) (.int b) (.int (a + b)) := fun A n f s u v Q E ok i r1 r2 k => by
  cases r1; cases r2
  exact wpAny_iadd_int (k _ _ _ (.tk i (Nat.le_succ _)) (.int _ _))
theorem InpD.addS {a b : List Nat} (h : a.length + b.length ≤ 1000000) : InpD prog w .Add (S a) (S b) (S (a ++ b)) := fun A n f s u v Q E ok i r1 r2 k => by
  cases r1; cases r2
  have hh : ∀ t tk, s.toks ≤ tk → Q (.str (mk a ++ mk b) t) { s with toks := tk } := fun t tk ht => k _ _ _ (.tk i ht) (by rw [mk_app]; exact .str _ _)
  refine PySem.P.iadd_str ?_
  split
  · rename_i t u h0
    have h1 := hh u s.toks (Nat.le_refl _)
    rw [Str.append_left_empty h0] at h1
    exact h1
  · split
    · rename_i t u _ h0
      have h1 := hh t s.toks (Nat.le_refl _)
      rw [Str.append_right_empty h0] at h1
      exact h1
    · exact ⟨by rw [mk_app, mk_len, List.length_append]; exact Nat.le_trans h (by decide), hh _ _ (Nat.le_succ _)⟩
theorem Tr.or3 {x y z : Expr} {pos : Pos} {a b d : Bool} (h : Tr c ρ x a) (hr : a = false → Tr c ρ y b) (hq : a = false → b = false → Tr c ρ z d) : Tr c ρ (.BoolOp .Or [x, y, z] pos) (a || (b || d)) := by
  cases a with
  | true => exact Tr.or_t h
  | false => exact Tr.or_f h (by
    cases b with
    | true => exact Tr.or_t (hr rfl)
    | false => exact Tr.or_f (hr rfl) (by
      cases d with
      | true => exact Tr.or_t (hq rfl rfl)
      | false => exact Tr.or_f (hq rfl rfl) Tr.or_nil))
theorem Ev.or2 {x y : Expr} {pos : Pos} {a d : D} {q : Bool} (h : Ev c ρ x a) (ht : TruD prog w a q) (h1 : q = true → a = d) (h2 : q = false → Ev c ρ y d) : Ev c ρ (.BoolOp .Or [x, y] pos) d := fun B f s Q E g k =>
  wpAny_Or2 (h f s _ E g fun v f1 s1 st1 r1 => ht c.A c.n f1 s1 v _ E (g.step st1).aok st1.inn r1 fun f2 s2 st2 => by
    cases q with
    | true => cases h1 rfl; exact k _ _ _ (st1.trans st2) (r1.mono st2.sub)
    | false => exact h2 rfl f2 s2 Q E (g.step (st1.trans st2)) fun v' f3 s3 st3 r3 => k _ _ _ ((st1.trans st2).trans st3) r3)
theorem Ex1.tryN {body : List Stmt} {h₀ : ExceptHandler} {hs : List ExceptHandler} {pos : Pos} {o : O} (h : Ex c ρ body o) : Ex1 c ρ (.Try body (h₀ :: hs) [] [] pos) o := fun _ f s Q E g k => by
  rw [arm_exec_Try]
  refine wpAny_bind (wpAny_standAt ?_)
  refine wpAny_tryStmt_except ?_
  refine h f s _ _ g fun fl f' s' ho => ?_
  cases fl with
  | next => exact wpAny_execs_nil (k _ _ _ ho)
  | _ => exact k _ _ _ ho
end
end Mine
end
section
set_option autoImplicit false
set_option Elab.async false
set_option linter.unusedVariables false
set_option linter.unusedSimpArgs false
open PySem PySem.W PyProof.Rows PySem.Calls
namespace Mine
section
variable {prog : Program} {w : World} {G : Heap}
theorem callsTo_gen {n : Nat} {a : Addr} {name : Str} {params : Arguments} {body : List Stmt} {scope : Scope} {ps : List Str} {ds ds0 : List D} {d : D} {ρ0 : List AV} (vs : List Str) (nl : Nat) (gs : List Str) (hF : FnAt G a name params body scope) (hN : G.NoLimit)
    (hok : okScope scope ps vs nl gs = true) (hps : ps.length = ds.length)
    (hb : ∀ doc pm an cdv ct (A : Around) (f : PH) (s : Shared) (us : List Value) (Q : List (Str × Value) → Shared → Prop) (E : Value → Shared → Prop), Inn f s.heap → Reps f us ds0 →
      (∀ bs f' s', Step f s f' s' → Reps f' bs ds → Q (ps.zip bs) s') → wpAny (model prog w) A (bindArgs (fnOf name name params body scope .none .none doc pm an cdv ct) ⟨us, []⟩) Q E s)
    (hρ : ∀ (i : Nat) x av, vs[i]? = some x → ρ0[i]? = some av → av = .undef ∨ ∃ (j : Nat) (d : D), ps[j]? = some x ∧ ds[j]? = some d ∧ av = .dat d)
    (h : ∀ c : Cx prog w G vs nl true gs, c.n = n → Ex c ρ0 body (.ret d)) : CallsTo prog w G (n + 1) a ds0 d := fun A f s us Q E ok hG i ht r k => by
  simp only [okScope, Bool.and_eq_true, decide_eq_true_eq, Bool.not_eq_true', List.all_eq_true] at hok
  obtain ⟨⟨⟨⟨⟨⟨⟨⟨⟨⟨k1, k2⟩, k3⟩, k4⟩, k5⟩, k6⟩, k7⟩, k8⟩, k9⟩, k10⟩, k11⟩ := hok
  obtain ⟨oc', od, osl, doc, pm, an, cdv, ct, hg, hcd⟩ := hF
  have keepG : ∀ b o, G.get? b = some o → s.heap.get? b = some o := fun b o e => i b o (hG b o e)
  refine wpAny_call (codeAny_call_function ok.room (keepG _ _ hg) rfl k3 k2 rfl (hcd.keeps keepG) ?_)
  refine hb doc pm an cdv ct _ f s us _ _ i r fun bs f1 s1 st1 rb => ?_
  have k := fun v f' s' (x : Step f1 s1 f' s') (y : Rep f' v d) => k v f' s' (st1.trans x) y
  have ok := ok.step st1
  have hG := hG.trans st1.sub
  have i := st1.inn
  have ht : 0 ≤ s1.toks := Nat.le_trans ht st1.toks
  have r := rb
  clear hb
  replace keepG : ∀ b o, G.get? b = some o → s1.heap.get? b = some o := fun b o e => i b o (hG b o e)
  clear st1 rb
  revert k ok hG i ht r keepG
  generalize s1 = s
  generalize f1 = f
  generalize bs = us
  intro k ok hG i ht r keepG
  have hul : us.length = ps.length := r.length.trans hps.symm
  refine wpAny_with_toks (Nat.le_refl _) ?_
  have hz : (ps.zip us).map (·.1) = ps := by rw [List.map_fst_zip]; omega
  have hkind : ∀ y ∈ ps.zip us, scope.names.lookup y.1 = some .local ∨ (scope.names.lookup y.1 = some .cell ∧ ((cellsFrom (s.heap.objs.size + 1) scope.names []).lookup y.1).isSome = true) := fun y hy => by
    have hm : y.1 ∈ ps := by rw [← hz]; exact List.mem_map_of_mem hy
    have hv : y.1 ∈ vs := by simpa using k11 _ hm
    obtain ⟨j, hj⟩ := List.mem_iff_getElem?.mp hv
    by_cases hl : j < nl
    · exact .inl (k4 _ (take_get hl hj))
    · have := k5 _ (drop_get (Nat.le_of_not_lt hl) hj)
      exact .inr ⟨this, cellsFrom_some _ _ _ (.inl this)⟩
  refine wpAny_newFunctionEnv_cells k1 hkind fun env he s1 X tk => ?_
  subst he
  have hk1 := X.toInCall.keep
  refine ⟨(hN.keeps keepG).keeps hk1, codeAny_func ?_⟩
  generalize henv : newEnv _ _ _ _ _ _ _ _ _ = env at X ⊢
  have eL : env.locals = s.heap.objs.size := by rw [← henv]; rfl
  have eS : env.scope = scope := by rw [← henv]; rfl
  have eF : env.frame = some s.heap.objs.size := by rw [← henv]; rfl
  have eC : env.cells = cellsFrom (s.heap.objs.size + 1) scope.names [] := by rw [← henv]; rfl
  have eK : ∀ x, env.kindOf x = scope.names.lookup x := fun x => by unfold Env.kindOf; rw [eS]
  have nL : s.heap.get? env.locals = none := by rw [eL]; exact get_size_none _
  obtain ⟨h1, tk1, e1⟩ := X.toInCall.same
  subst e1
  have nC : ∀ x ca, env.cells.lookup x = some ca → s.heap.get? ca = none := fun x ca hca => by
    have := X.above x ca (PySem.mem_of_lookup hca)
    rw [eL] at this
    exact Heap.get?_none_of_le (Nat.le_of_lt this)
  let c : Cx prog w G vs nl true gs := {
    A := A.deeper env, env := env, n := n
    kind := by rw [eS]; exact k1
    glo := by rw [← henv]; rfl
    bui := by rw [← henv]; rfl
    loc := fun j x hj hx => by rw [eK]; exact k4 _ (take_get hj hx)
    cel := fun j x hj hx => by
      have := k5 _ (drop_get hj hx)
      refine ⟨.inl (by rw [eK]; exact this), ?_⟩
      rw [eC]
      exact Option.isSome_iff_exists.mp (cellsFrom_some _ _ _ (.inl this))
    own := fun _ j x hj hx => by rw [eK]; exact k5 _ (drop_get hj hx)
    glob := fun x hx => by rw [eK]; exact k6 x hx
    nodup := k7
    nodeb := fun x hx => by simpa using k8 x hx
    nocd := fun x hx => by simpa using k9 x hx
    inj := fun x y ca hx hy => PySem.name_of_addr X.apart (PySem.mem_of_lookup hx) (PySem.mem_of_lookup hy)
    }
  let B : Bs c := { f0 := f, s0 := s, gsub := hG, tok0 := ht, newL := nL, ownc := fun _ x ca hca => nC x ca hca }
  have st : Step f s f { s with heap := h1, toks := tk1 } := Step.same' i hk1 tk
  obtain ⟨l, hl, hFF⟩ := ok.frames
  have g : Good c B ρ0 f { s with heap := h1, toks := tk1 } := by
    refine ⟨st, ⟨fun _ => ok.handled (Nat.succ_pos n), ?_, ?_, ⟨env :: l, ?_, ?_⟩⟩, ⟨_, X.toInCall.ns⟩, ?_, fun x ca hca => ⟨?_, _, X.cell x ca hca⟩, fun j x av hx hav => ?_, fun j1 j2 x y es1 es2 a' hij hx hy h1' h2' _ _ => ?_⟩
    · have := ok.depth; show A.depth + 1 + n < 900; omega
    · have := ok.units; show A.units + 3 + 10 * n < 9000; omega
    · show A.frames.map _ = _; rw [hl]; rfl
    · intro env' he'
      rcases List.mem_cons.mp he' with rfl | he'
      · obtain ⟨o, es, ep, eo, hd, _⟩ := X.toInCall.ns
        refine ⟨by rw [eS, k1]; decide, _, o, eF, i.none_of (get_size_none _), eL ▸ eo, ⟨es, ep, hd⟩⟩
      · exact hFF.step st env' he'
    · exact i.none_of nL
    · exact i.none_of (nC x ca hca)
    · rcases hρ j x av hx hav with rfl | ⟨q, d', hq, hd', rfl⟩
      · trivial
      · obtain ⟨v, hv, rv⟩ := r.get hd'
        have hmem : (x, v) ∈ ps.zip us := List.mem_of_getElem? (i := q) (by rw [List.getElem?_zip_eq_some]; exact ⟨hq, hv⟩)
        refine ⟨v, ?_, rv⟩
        by_cases hj : j < nl
        · have hk := c.loc j x hj hx
          exact .inl ⟨hk, _, X.toInCall.ns, bindL_get hk (by rw [hz]; exact k10) hmem⟩
        · have hk := c.own rfl j x (Nat.le_of_not_lt hj) hx
          obtain ⟨_, ca, hca⟩ := c.cel j x (Nat.le_of_not_lt hj) hx
          refine .inr ⟨.inl hk, ca, hca, ?_⟩
          have := X.cell x ca hca
          rw [bindC_get hk (by rw [hz]; exact k10) hmem] at this
          exact this
    · rcases hρ j1 x _ hx h1' with q | ⟨_, _, _, _, q⟩ <;> cases q
  refine h c rfl f _ _ _ g fun fl f' s' ⟨v, e, _, rv, st'⟩ => ?_
  subst e
  exact k v f' s' st' rv
end
section
variable {prog : Program} {w : World} {G : Heap} {vs : List Str} {nl : Nat} {oc : Bool} {gs : List Str} {c : Cx prog w G vs nl oc gs} {B : Bs c} {ρ : List AV}
theorem Fo.fold {α β τ : Type} {target : Expr} {body : List Stmt} (enc : α → D) (step : β → α → β) (st : β → τ → List AV) (mid : β → τ → α → List AV) (J : List α → β → Prop)
    (hA : ∀ b t a, As c (st b t) target (enc a) (mid b t a)) (hJ : ∀ a xs b, J (a :: xs) b → J xs (step b a))
    (hb : ∀ a xs b t, J (a :: xs) b → ∃ t', Turn c (mid b t a) body (st (step b a) t')) : ∀ (xs : List α) (b : β) (t : τ), J xs b → ∃ t', Fo c target body (xs.map enc) (st b t) (st (xs.foldl step b) t')
  | [], b, t, _ => ⟨t, .nil _⟩
  | a :: xs, b, t, h => by
    obtain ⟨t1, h1⟩ := hb a xs b t h
    obtain ⟨t2, h2⟩ := Fo.fold enc step st mid J hA hJ hb xs (step b a) t1 (hJ a xs b h)
    exact ⟨t2, .cons _ _ _ _ _ _ (hA b t a) h1 h2⟩
theorem Ex.forFold {α β τ : Type} {target iter : Expr} {body rest : List Stmt} {pos : Pos} {o : O} (xs : List α) (b : β) (t : τ) (enc : α → D) (step : β → α → β) (st : β → τ → List AV) (mid : β → τ → α → List AV) (J : List α → β → Prop) (h0 : ρ = st b t)
    (hi : EvI c (st b t) iter (xs.map enc)) (hA : ∀ b t a, As c (st b t) target (enc a) (mid b t a)) (hj : J xs b) (hJ : ∀ a xs b, J (a :: xs) b → J xs (step b a))
    (hb : ∀ a xs b t, J (a :: xs) b → ∃ t', Turn c (mid b t a) body (st (step b a) t')) (hr : ∀ t', Ex c (st (xs.foldl step b) t') rest o)
    (ht : (∃ x p, target = .Name x p) ∨ ∃ es k p, target = Expr.Tuple es k p := by first | exact .inl ⟨_, _, rfl⟩ | exact .inr ⟨_, _, _, rfl⟩)
    (hs : ∀ env x, foldedSetIterable iter env x = pure x := by intro _ _; rfl) : Ex c ρ (.For target iter body [] pos :: rest) o := by
  subst h0
  obtain ⟨t', h⟩ := Fo.fold enc step st mid J hA hJ hb xs b t hj
  exact Ex.cons (Ex1.forR hi h ht hs) (hr t')
theorem FoZ.fold {α β τ : Type} {target : Expr} {body : List Stmt} (ea eb : α → D) (step : β → α → β) (st : β → τ → List AV) (mid : β → τ → α → List AV) (J : List α → β → Prop)
    (hA : ∀ b t a, As c (st b t) target (.tup [ea a, eb a]) (mid b t a)) (hJ : ∀ a xs b, J (a :: xs) b → J xs (step b a))
    (hb : ∀ a xs b t, J (a :: xs) b → ∃ t', Turn c (mid b t a) body (st (step b a) t')) : ∀ (xs : List α) (b : β) (t : τ), J xs b → ∃ t', FoZ c target body (xs.map ea) (xs.map eb) (st b t) (st (xs.foldl step b) t')
  | [], b, t, _ => ⟨t, .nil _⟩
  | a :: xs, b, t, h => by
    obtain ⟨t1, h1⟩ := hb a xs b t h
    obtain ⟨t2, h2⟩ := FoZ.fold ea eb step st mid J hA hJ hb xs (step b a) t1 (hJ a xs b h)
    exact ⟨t2, .cons _ _ _ _ _ _ _ _ (hA b t a) h1 h2⟩
theorem Ex.forZFold {α β τ : Type} {fe e1 e2 : Expr} {es : List Expr} {q : Nat} {p pos fpos : Pos} {body rest : List Stmt} {o : O} (xs : List α) (b : β) (t : τ) (ea eb : α → D) (step : β → α → β) (st : β → τ → List AV) (mid : β → τ → α → List AV) (J : List α → β → Prop) (h0 : ρ = st b t)
    (hf : EvG c (st b t) fe (.type "zip")) (h1 : Ev c (st b t) e1 (.list (xs.map ea))) (h2 : Ev c (st b t) e2 (.list (xs.map eb))) (hA : ∀ b t a, As c (st b t) (.Tuple es q p) (.tup [ea a, eb a]) (mid b t a)) (hj : J xs b) (hJ : ∀ a xs b, J (a :: xs) b → J xs (step b a))
    (hb : ∀ a xs b t, J (a :: xs) b → ∃ t', Turn c (mid b t a) body (st (step b a) t')) (hr : ∀ t', Ex c (st (xs.foldl step b) t') rest o)
    (hp : (∀ env, (backTo fpos (starEach [e1, e2] env)).any (·.1) = false) := by intro _; rfl) (hst : ∀ env, starEach [e1, e2] env = (false, eval e1 env) :: starEach [e2] env := by intro _; rfl)
    (hst2 : ∀ env, starEach [e2] env = (false, eval e2 env) :: starEach [] env := by intro _; rfl)
    (hc : ∀ env, eval (.Call fe [e1, e2] [] fpos) env = (do callWith fpos (← eval fe env) [] (backTo fpos (starEach [e1, e2] env)) (backToKw fpos (keywordEach [] env))) := by intro _; rfl)
    (hs : ∀ env x, foldedSetIterable (.Call fe [e1, e2] [] fpos) env x = pure x := by intro _ _; rfl) (h0n : 0 < c.n := by first | exact ar_n (by assumption) | exact ar_n2 (by assumption) (by assumption) | omega) : Ex c ρ (.For (.Tuple es q p) (.Call fe [e1, e2] [] fpos) body [] pos :: rest) o := by
  subst h0
  obtain ⟨t', h⟩ := FoZ.fold ea eb step st mid J hA hJ hb xs b t hj
  obtain ⟨hl, ρs, mid', e0, e1', hA', hB'⟩ := h.ns
  have := Ex1.forZip (pos := pos) ρs mid' hf h1 h2 hl e0 hA' hB' hp hst hst2 hc hs h0n
  rw [e1'] at this
  exact Ex.cons this (hr t')
theorem Wh.by' {σ : Type} {test : Expr} {body : List Stmt} (st : σ → List AV) (meas : σ → Nat) (J : σ → Prop) (P : List AV → Prop)
    (hstep : ∀ s, J s → (Tr c (st s) test false ∧ P (st s)) ∨ (Tr c (st s) test true ∧ ∃ ρ', P ρ' ∧ Ex c (st s) body (.brk ρ')) ∨ (Tr c (st s) test true ∧ ∃ s', J s' ∧ meas s' < meas s ∧ Turn c (st s) body (st s'))) :
    ∀ (m : Nat) (s : σ), meas s ≤ m → J s → ∃ ρ', P ρ' ∧ Wh c test body (st s) ρ' := by
  intro m
  induction m with
  | zero =>
    intro s hm hj
    rcases hstep s hj with ⟨h, hp⟩ | ⟨h, ρ', hp, hb⟩ | ⟨h, s', hj', hlt, hb⟩
    · exact ⟨_, hp, .done _ h⟩
    · exact ⟨_, hp, .brk _ _ h hb⟩
    · omega
  | succ m ih =>
    intro s hm hj
    rcases hstep s hj with ⟨h, hp⟩ | ⟨h, ρ', hp, hb⟩ | ⟨h, s', hj', hlt, hb⟩
    · exact ⟨_, hp, .done _ h⟩
    · exact ⟨_, hp, .brk _ _ h hb⟩
    · obtain ⟨ρ', hp, hw⟩ := ih s' (by first | assumption | exact Nat.le_trans (by assumption) (by decide) | omega) hj'
      exact ⟨ρ', hp, .step _ _ _ h hb hw⟩
theorem Ex.whileBy {σ : Type} {test : Expr} {body rest : List Stmt} {pos : Pos} {o : O} (s0 : σ) (st : σ → List AV) (meas : σ → Nat) (J : σ → Prop) (P : List AV → Prop) (h0 : ρ = st s0) (hj : J s0)
    (hstep : ∀ s, J s → (Tr c (st s) test false ∧ P (st s)) ∨ (Tr c (st s) test true ∧ ∃ ρ', P ρ' ∧ Ex c (st s) body (.brk ρ')) ∨ (Tr c (st s) test true ∧ ∃ s', J s' ∧ meas s' < meas s ∧ Turn c (st s) body (st s')))
    (hr : ∀ ρ', P ρ' → Ex c ρ' rest o) : Ex c ρ (.While test body [] pos :: rest) o := by
  subst h0
  obtain ⟨ρ', hp, hw⟩ := Wh.by' st meas J P hstep _ s0 (Nat.le_refl _) hj
  exact Ex.cons (Ex1.whileR hw) (hr ρ' hp)
theorem Tr.eq {e : Expr} {b b' : Bool} (h : Tr c ρ e b) (hb : b = b') : Tr c ρ e b' := hb ▸ h
theorem Ev.eq {e : Expr} {d d' : D} (h : Ev c ρ e d) (hb : d = d') : Ev c ρ e d' := hb ▸ h
theorem EvA.eq {e : List Expr} {d d' : List D} (h : EvA c ρ e d) (hb : d = d') : EvA c ρ e d' := hb ▸ h
theorem Ex.eqO {e : List Stmt} {o o' : O} (h : Ex c ρ e o) (hb : o = o') : Ex c ρ e o' := hb ▸ h
theorem Ex.eqR {e : List Stmt} {o : O} {ρ' : List AV} (h : Ex c ρ' e o) (hb : ρ = ρ') : Ex c ρ e o := hb ▸ h
theorem EvI.rangeN {fe e : Expr} {pos : Pos} {n : Nat} (hf : EvG c ρ fe (.type "range")) (he : Ev c ρ e (.int n)) (h1 : n ≤ 1000000)
    (hp : (∀ env, (backTo pos (starEach [e] env)).any (·.1) = false) := by intro _; rfl) (hst : ∀ env, starEach [e] env = (false, eval e env) :: starEach [] env := by intro _; rfl)
    (hc : ∀ env, eval (.Call fe [e] [] pos) env = (do callWith pos (← eval fe env) [] (backTo pos (starEach [e] env)) (backToKw pos (keywordEach [] env))) := by intro _; rfl)
    (h0n : 0 < c.n := by first | exact ar_n (by assumption) | exact ar_n2 (by assumption) (by assumption) | omega) : EvI c ρ (.Call fe [e] [] pos) ((List.range n).map fun k : Nat => D.int k) := EvI.range1 (n := (n : Int)) hf he (by first | assumption | exact Nat.le_trans (by assumption) (by decide) | omega) (by first | assumption | exact Nat.le_trans (by assumption) (by decide) | omega) hp hst hc h0n
theorem BinD.eq {op : Operator} {a b d d' : D} (h : BinD prog w op a b d) (e : d = d') : BinD prog w op a b d' := e ▸ h
end
end Mine
end
section
set_option autoImplicit false
set_option Elab.async false
set_option linter.unusedVariables false
set_option linter.unusedSimpArgs false
open PySem PySem.W PyProof.Rows PySem.Calls
namespace Mine
def okCompC (scope : Scope) (x : Str) (fr gs : List Str) : Bool :=
  decide (scope.kind = .function) && decide (scope.names.lookup x = some .cell) && fr.all (fun y => decide (scope.names.lookup y = some .free) && scope.names.contains (y, .free)) && gs.all (fun y => decide (scope.names.lookup y = some .globalImplicit)) &&
  decide (x :: fr).Nodup && (x :: fr ++ gs).all (fun x => !(x == ("__debug__" : Str))) && (x :: fr).all (fun x => !(x == ("__classdict__" : Str))) &&
  scope.names.all (fun y => (!decide (y.2 = .local) || decide (scope.names.lookup y.1 = some .local)) && (!decide (y.2 = .free) || fr.contains y.1)) && decide (scope.names.filter (fun y => y.2 == .cell) = [(x, .cell)])
theorem cellsFrom_none : ∀ (names : List (Str × NameKind)) (n : Nat) (acc : List (Str × Addr)) (h : Heap), names.filter (fun y => y.2 == .cell) = [] → cellsFrom n names acc = acc ∧ pushCells h names = h
  | [], _, _, _, _ => ⟨rfl, rfl⟩
  | (y, k) :: r, n, acc, h, e => by
    by_cases hk : (k == NameKind.cell) = true
    · rw [List.filter_cons_of_pos (by exact hk)] at e; cases e
    · rw [List.filter_cons_of_neg (by exact hk)] at e
      have := cellsFrom_none r n acc h e
      unfold cellsFrom pushCells
      rw [if_neg hk, if_neg hk]; exact this
theorem cellsFrom_one (x : Str) : ∀ (names : List (Str × NameKind)) (n : Nat) (acc : List (Str × Addr)) (h : Heap), names.filter (fun y => y.2 == .cell) = [(x, .cell)] → cellsFrom n names acc = (x, n) :: acc ∧ pushCells h names = h.push { cls := .type "cell", data := .cell none }
  | [], _, _, _, e => by cases e
  | (y, k) :: r, n, acc, h, e => by
    by_cases hk : (k == NameKind.cell) = true
    · rw [List.filter_cons_of_pos (by exact hk)] at e
      obtain ⟨e1, e2⟩ := List.cons.inj e
      cases e1
      have := cellsFrom_none r (n + 1) ((x, n) :: acc) (h.push { cls := .type "cell", data := .cell none }) e2
      unfold cellsFrom pushCells
      rw [if_pos hk, if_pos hk]; exact this
    · rw [List.filter_cons_of_neg (by exact hk)] at e
      have := cellsFrom_one x r n acc h e
      unfold cellsFrom pushCells
      rw [if_neg hk, if_neg hk]; exact this
theorem nfe_one {M : Model} {A : Around} {E : Value → Shared → Prop} {s : Shared} {scope : Scope} {globals : Addr} {cl : List (Str × Addr)} {qual : Str} {env : Env} {Q : Env → Shared → Prop} (x : Str) (h9 : scope.names.filter (fun y => y.2 == .cell) = [(x, .cell)])
    (hQ : Q (newEnv scope s.heap.objs.size globals ((x, s.heap.objs.size + 1) :: cl) qual none .none (some env) builtinsNs) { s with heap := (s.heap.push { cls := .type "dict", data := .dict #[] }).push { cls := .type "cell", data := .cell none } }) :
    wpAny M A (newFunctionEnv scope globals cl [] qual none .none (some env)) Q E s := by
  simp only [newFunctionEnv, Option.isSome_some, if_true]
  refine wpAny_bind (wpAny_alloc ?_)
  refine wpAny_bind (wpAny_layCells _ (fun name kind cells => by cases hkc : kind == NameKind.cell <;> simp [hkc]) _ _ _ _ ?_)
  have e := cellsFrom_one x scope.names (s.heap.objs.size + 1) cl (s.heap.push { cls := .type "dict", data := .dict #[] }) h9
  rw [show ({ s with heap := s.heap.push { cls := .type "dict", data := .dict #[] } } : Shared).heap.objs.size = s.heap.objs.size + 1 from Heap.size_push ..]
  rw [e.1, show pushCells ({ s with heap := s.heap.push { cls := .type "dict", data := .dict #[] } } : Shared).heap scope.names = _ from e.2]
  refine wpAny_bind ?_
  rw [List.forIn_nil]
  exact wpAny_pure (wpAny_pure hQ)
theorem hpush' {h : Heap} {o : Obj} {a : Addr} (e : h.objs.size = a) (ho : o.isFreed = false) : (h.push o).get? a = some o := e ▸ Heap.get?_push_size _ ho
section
variable {prog : Program} {w : World} {G : Heap} {vs : List Str} {nl : Nat} {oc : Bool} {gs : List Str} {c : Cx prog w G vs nl oc gs} {ρ : List AV}
theorem comp_coreC {B : Bs c} {use : Option (Value → Sem Unit)} {elt iter : Expr} {x : Str} {px : Pos} {ifs : List Expr} {scope : Scope} {pos pos' : Pos} {ds : List D} (fr gs' : List Str) (is : List Nat) (fv : List AV) (p : D → Bool) (t : D → D)
    (hok : okCompC scope x fr gs' = true) (hi : EvI c ρ iter ds) (hsz : ds.length ≤ 900000)
    (hfr : ∀ (j : Nat) y, fr[j]? = some y → ∃ i d, is[j]? = some i ∧ vs[i]? = some y ∧ nl ≤ i ∧ ρ[i]? = some (.dat d) ∧ fv[j]? = some (.dat d)) (hfv : fv.length = fr.length)
    (h : ∀ c' : Cx prog w G (x :: fr) 0 false gs', c'.n = c.n → ∀ d ∈ ds, ((ifs = [] ∧ p d = true) ∨ ∃ e, ifs = [e] ∧ Tr c' (.dat d :: fv) e (p d)) ∧ (p d = true → Ev c' (.dat d :: fv) elt (t d)))
    (hs : ∀ env x, foldedSetIterable iter env x = pure x) (f : PH) (s : Shared) (Q E : Value → Shared → Prop) (g : Good c B ρ f s)
    (k : ∀ a us n f' s' C m, Step f s f' s' → s.heap.get? a = none → s'.heap.get? a = some (lobj us n) → f' a = none → Reps f' us ((ds.filter p).map t) → C ≠ a → s.heap.get? C = none → s'.heap.Ns C m → f' C = none → compPost (model prog w) c.A E use Q (.ref a) C (.ok .next) s') :
    wpAny (model prog w) c.A (comprehension (.ListComp elt [⟨.Name x px, iter, ifs, 0⟩] scope pos) scope c.env pos' (newList []) false (eval iter c.env) use) Q E s := by
  simp only [okCompC, Bool.and_eq_true, decide_eq_true_eq, List.all_eq_true, Bool.not_eq_true', decide_eq_false_iff_not, Bool.or_eq_true] at hok
  obtain ⟨⟨⟨⟨⟨⟨⟨⟨k1, k2⟩, k3⟩, k4⟩, k5⟩, k6⟩, k7⟩, k8⟩, k9⟩ := hok
  have hfree : ∀ y ∈ scope.names, y.2 = .free → ∃ ca, c.env.cells.lookup y.1 = some ca := fun y hy e => by
    have : y.1 ∈ fr := by
      rcases (k8 y hy).2 with q | q
      · exact absurd e q
      · simpa using q
    obtain ⟨j, hj⟩ := List.mem_iff_getElem?.mp this
    obtain ⟨i, d, _, hv, hn, _⟩ := hfr j y.1 hj
    exact (c.cel i y.1 hn hv).2
  let addr : Str → Addr := fun y => (c.env.cells.lookup y).getD 0
  have haddr : ∀ {y ca}, c.env.cells.lookup y = some ca → addr y = ca := fun {y ca} e => by show (c.env.cells.lookup y).getD 0 = ca; rw [e]; rfl
  have hclos : closureFor scope c.env = pure (clGo addr scope.names []) := closureFor_eq addr fun y hy e => by
    obtain ⟨ca, hca⟩ := hfree y hy e
    rw [hca, haddr hca]
  have hcl : ∀ {y ca}, (clGo addr scope.names []).lookup y = some ca → c.env.cells.lookup y = some ca := fun {y ca} e => by
    rcases clGo_some e with e | ⟨e, hm⟩
    · cases e
    · obtain ⟨ca', hca⟩ := hfree _ hm rfl
      rw [e, haddr hca]; exact hca
  refine wpAny_comprehension_free (use := use) rfl (hs _) hclos k1 (fun y hy e => ?_) (hi f s _ _ g fun it f1 s1 st1 hI => ?_)
  · rcases (k8 y hy).1 with q | q
    · exact absurd e q
    · exact q
  refine wpAny_newList (nfe_one x k9 ?_) (by decide)
  have st2 : Step f s f1 { s1 with heap := s1.heap.push (lobj [] 0) } := st1.trans (.push st1.inn _)
  generalize hs2e : ({ s1 with heap := s1.heap.push { cls := .type "list", data := .seq ([] : List Value).toArray } } : Shared) = s2 at *
  have e2 : s2 = { s1 with heap := s1.heap.push (lobj [] 0) } := hs2e.symm
  rw [← e2] at st2
  have hD0 : s.heap.get? s1.heap.objs.size = none := st1.ext.gone (get_size_none _)
  have hD2 : s2.heap.get? s1.heap.objs.size = some (lobj [] 0) := by rw [e2]; exact Heap.get?_push_size _ rfl
  have hfD : f1 s1.heap.objs.size = none := st1.inn.none_of (get_size_none _)
  have hk12 : ∀ b o, s1.heap.get? b = some o → s2.heap.get? b = some o := fun b o e => by rw [e2]; exact Heap.get?_push_of_some _ e
  generalize hDe : s1.heap.objs.size = Dd at *
  obtain ⟨h2, hh2⟩ : ∃ h2, h2 = (s2.heap.push { cls := .type "dict", data := .dict #[] }).push { cls := .type "cell", data := .cell none } := ⟨_, rfl⟩
  rw [← hh2]
  have hk23 : ∀ b o, s2.heap.get? b = some o → h2.get? b = some o := fun b o e => by rw [hh2]; exact Heap.get?_push_of_some _ (Heap.get?_push_of_some _ e)
  have hn2 : h2.Ns s2.heap.objs.size (fun _ => none) := by rw [hh2]; exact (Heap.Ns.new s2.heap (.type "dict")).keeps fun b o e => Heap.get?_push_of_some _ e
  obtain ⟨cx, hcxe⟩ : ∃ cx, cx = s2.heap.objs.size + 1 := ⟨_, rfl⟩
  have hcx2 : s2.heap.get? cx = none := by rw [hcxe]; exact Heap.get?_none_of_le (Nat.le_succ _)
  have hcxn : cx ≠ s2.heap.objs.size := by rw [hcxe]; exact Nat.succ_ne_self _
  have hcxh : h2.IsCell cx none := by
    rw [hh2, hcxe]
    exact ⟨_, hpush' (by rw [Heap.size_push]) rfl, rfl⟩
  have hC2 : s2.heap.get? s2.heap.objs.size = none := get_size_none _
  have st3 : Step f s f1 { s2 with heap := h2 } := st2.trans (Step.same' (k := s2.toks) st2.inn hk23 (Nat.le_refl _))
  have hnD : s2.heap.objs.size ≠ Dd := fun q => by rw [q, hD2] at hC2; cases hC2
  have hC0 : s.heap.get? s2.heap.objs.size = none := st2.ext.gone hC2
  show codeAny (model prog w) c.A (.compStart _ 0 it (.ref Dd) (compEnvC scope ((x, s2.heap.objs.size + 1) :: clGo addr scope.names []) s2.heap.objs.size c.env)) (compPost (model prog w) c.A E use Q (.ref Dd) s2.heap.objs.size) _
  rw [← hcxe]
  clear hcxe
  generalize hC : s2.heap.objs.size = C at *
  have hcx0 : s.heap.get? cx = none := st2.ext.gone hcx2
  have hcx1 : f1 cx = none := st2.inn.none_of hcx2
  have hcxD : Dd ≠ cx := fun q => by rw [← q, hD2] at hcx2; cases hcx2
  obtain ⟨env', henv⟩ : ∃ e, e = compEnvC scope ((x, cx) :: clGo addr scope.names []) C c.env := ⟨_, rfl⟩
  rw [← henv]
  have eL : env'.locals = C := by rw [henv]; rfl
  have eS : env'.scope = relabel scope c.env := by rw [henv]; rfl
  have eC : env'.cells = (x, cx) :: clGo addr scope.names [] := by rw [henv]; rfl
  have eCx : env'.cells.lookup x = some cx := by rw [eC, List.lookup_cons, beq_self_eq_true]
  have hxfr : x ∉ fr := (List.nodup_cons.mp k5).1
  have eCy : ∀ {y}, y ≠ x → env'.cells.lookup y = (clGo addr scope.names []).lookup y := fun {y} hy => by rw [eC, List.lookup_cons, beq_false_of_ne hy]
  have hyx : ∀ {j : Nat} {y}, fr[j]? = some y → y ≠ x := fun {j y} hy e => hxfr (e ▸ List.mem_of_getElem? hy)
  have eK : ∀ {y k}, scope.names.lookup y = some k → env'.kindOf y = some k ∨ (k = .free ∧ env'.kindOf y = some .cell) := fun {y k} e => by
    show env'.scope.names.lookup y = _ ∨ _ ∧ env'.scope.names.lookup y = _
    rw [eS]; exact relabel_lookup e
  let c' : Cx prog w G (x :: fr) 0 false gs' := {
    A := c.A, env := env', n := c.n
    kind := by rw [eS]; exact k1
    glo := by rw [henv]; exact c.glo
    bui := by rw [henv]; exact c.bui
    loc := fun j y hj hy => absurd hj (Nat.not_lt_zero _)
    cel := fun j y hj hy => by
      by_cases hj0 : j = 0
      · subst hj0
        simp only [List.getElem?_cons_zero, Option.some.injEq] at hy
        subst hy
        rcases eK k2 with e | ⟨e, _⟩
        · exact ⟨.inl e, _, eCx⟩
        · cases e
      obtain ⟨j, rfl⟩ := ar_ne hj0
      simp only [List.getElem?_cons_succ] at hy
      have hq := k3 y (List.mem_of_getElem? hy)
      refine ⟨?_, ?_⟩
      · rcases eK hq.1 with e | ⟨_, e⟩
        · exact .inr e
        · exact .inl e
      · rw [eCy (hyx hy)]
        exact ⟨_, clGo_has (.inl (by simpa using hq.2))⟩
    own := fun e => by cases e
    glob := fun y hy => by
      rcases eK (k4 y hy) with e | ⟨e, _⟩
      · exact e
      · cases e
    nodup := k5
    nodeb := fun y hy => k6 y hy
    nocd := fun y hy => k7 y hy
    inj := fun y z ca hy hz => by
      have old : ∀ {y ca}, y ≠ x → env'.cells.lookup y = some ca → ca ≠ cx := fun {y ca} hyx' e e' => by
        rw [eCy hyx'] at e
        obtain ⟨_, v, o, eo, _⟩ := g.fc y ca (hcl e)
        rw [e', hcx0] at eo; cases eo
      by_cases h1 : y = x
      · by_cases h2 : z = x
        · rw [h1, h2]
        · subst h1
          rw [eCx] at hy; cases hy
          exact (old h2 hz rfl).elim
      · by_cases h2 : z = x
        · subst h2
          rw [eCx] at hz; cases hz
          exact (old h1 hy rfl).elim
        · rw [eCy h1] at hy; rw [eCy h2] at hz
          exact c.inj y z ca (hcl hy) (hcl hz) }
  have hkx : c'.env.kindOf x = some .cell := by
    rcases eK k2 with e | ⟨e, _⟩
    · exact e
    · cases e
  let B' : Bs c' := ⟨f, s, g.gsub, g.tok, by show s.heap.get? env'.locals = none; rw [eL]; exact hC0, fun e => by cases e⟩
  have hC1 : f1 C = none := st2.inn.none_of hC2
  have noOwn : ∀ {a : AV} {i : Nat} {q : List D}, (∀ l, a ≠ .own l) → (a :: fv)[i]? = some (.own q) → False := fun {a i q} ha e => by
    cases i with
    | zero => simp only [List.getElem?_cons_zero, Option.some.injEq] at e; exact ha _ e
    | succ j =>
      simp only [List.getElem?_cons_succ] at e
      have hj : j < fr.length := by rw [← hfv]; exact (List.getElem?_eq_some_iff.mp e).1
      obtain ⟨_, d, _, _, _, _, h2⟩ := hfr j _ (List.getElem?_eq_getElem hj)
      rw [e] at h2; cases h2
  have g3 : Good c' B' (.undef :: fv) f1 { s2 with heap := h2 } := by
    have gg := g.step st3
    refine ⟨st3, gg.aok, ⟨_, eL ▸ hn2⟩, eL ▸ hC1, fun y ca hy => ?_, fun j y a hy ha => ?_, fun i j y z q1 q2 a hij hy hz h1 _ _ _ => (noOwn (fun _ e => by cases e) h1).elim⟩
    · by_cases h1 : y = x
      · subst h1
        have : env'.cells.lookup y = some ca := hy
        rw [eCx] at this; cases this
        exact ⟨hcx1, _, hcxh⟩
      · have hy' : (clGo addr scope.names []).lookup y = some ca := by rw [← eCy h1]; exact hy
        exact gg.fc y ca (hcl hy')
    · cases j with
      | zero => simp only [List.getElem?_cons_zero, Option.some.injEq] at ha; subst ha; trivial
      | succ j =>
        simp only [List.getElem?_cons_succ] at hy ha
        obtain ⟨i, d, _, hv, hn, hr, hf⟩ := hfr j y hy
        rw [hf] at ha; cases ha
        obtain ⟨v, hh, rv⟩ := gg.vals i y _ hv hr
        refine ⟨v, ?_, rv⟩
        have hk := c.cel i y hn hv
        rcases hh with ⟨kd, _⟩ | ⟨_, ca, hca, hcell⟩
        · rcases hk.1 with e | e <;> (rw [kd] at e; cases e)
        · have hq := k3 y (List.mem_of_getElem? hy)
          refine .inr ⟨(c'.cel (j + 1) y (Nat.zero_le _) hy).1, ca, ?_, hcell⟩
          show env'.cells.lookup y = some ca
          rw [eCy (hyx hy), clGo_has (.inl (by simpa using hq.2)), haddr hca]
  obtain ⟨I, fp, wr, P, St, rfl, W, hSt, hfp, hwr, hfree', hP, hgo⟩ := hI.ex
  have hfpk : ∀ b ∈ fp, ∀ o, s1.heap.get? b = some o → h2.get? b = some o := fun b _ o e => hk23 b o (hk12 b o e)
  have hSt3 : St 0 h2 := W.frame 0 s1.heap h2 hSt hfpk
  have notMut : ∀ {a : AV} {h : Heap}, (∀ l, a ≠ .own l) → ¬ Mut c' (a :: fv) h Dd := fun {a h} ha hm => by
    rcases hm with e | ⟨e, _⟩ | ⟨i, y, q, _, hr, _⟩
    · exact hnD (by rw [← eL]; exact e.symm)
    · cases e
    · exact noOwn ha hr
  let J : Nat → Shared → Prop := fun m s' => ∃ i f' a us n, i + m = ds.length ∧ Sub f1 f' ∧ (∀ l, a ≠ AV.own l) ∧ Good c' B' (a :: fv) f' s' ∧ St i s'.heap ∧ (∀ b ∈ wr, f' b = none) ∧
    s'.heap.get? Dd = some (lobj us n) ∧ f' Dd = none ∧ Reps f' us (((ds.take i).filter p).map t)
  have hJ0 : J ds.length { s2 with heap := h2 } :=
    ⟨0, f1, .undef, [], 0, Nat.zero_add _, .refl _, (fun _ e => by cases e), g3, hSt3, fun b hb => (hwr b hb).1, hk23 _ _ hD2, hfD, .nil⟩
  have loop : codeAny (model prog w) c.A (.compLoop (.ListComp elt [⟨.Name x px, iter, ifs, 0⟩] scope pos) 0 (.ref I) (.ref Dd) env') (compPost (model prog w) c.A E use Q (.ref Dd) C) { s2 with heap := h2 } := by
    refine codeAny_compLoop_tests J (fun m s4 hJ => ?_) ds.length hJ0
    obtain ⟨i, f4, a4, us, n, him, sb4, ha4, g4, hSt4, hn4, hDD, hfDD, r4⟩ := hJ
    have hw4 : ∀ b ∈ wr, f4 b = none ∧ B'.s0.heap.get? b = none ∧ ∃ o, s4.heap.get? b = some o ∧ Free o := fun b hb => ⟨hn4 b hb, (hwr b hb).2, hfree' i _ hSt4 b hb⟩
    have hDw : Dd ∉ wr := fun hb => by
      obtain ⟨_, _, o, e, fr⟩ := hw4 Dd hb
      rw [hDD] at e; cases e; exact fr.2.2 _ _ rfl
    by_cases hlt : i < ds.length
    · obtain ⟨m', rfl⟩ := ar_pred him hlt
      refine wpAny_with_toks (Nat.le_refl _) (W.item i s4 _ _ hlt hSt4 fun v h5 tk5 hPv hSt5 hk5 htk5 => ?_)
      have g5 := g4.but hk5 htk5 hw4
      have hD5 : h5.get? Dd = some (lobj us n) := hk5 _ _ hDw hDD
      obtain ⟨d, hd, rv⟩ := hP i v hlt hPv f4 sb4
      have hmem := List.mem_of_getElem? hd
      obtain ⟨hT, hE⟩ := h c' rfl d hmem
      have hS5 : St (i + 1) h5 := hSt5
      have htake : ((ds.take (i + 1)).filter p).map t = ((ds.take i).filter p).map t ++ (if p d = true then [t d] else []) := by
        rw [List.take_add_one, hd, List.filter_append, List.map_append]
        congr 1
        cases hp : p d <;> simp [hp]
      dsimp only
      obtain ⟨_, w0, hw0⟩ := g5.fc x cx eCx
      refine wpAny_assign_Name (wpAny_storeName_cell c'.kind hkx eCx hw0 fun h6 hc6 hs6 => ?_)
      have g6 : Good c' B' (.dat d :: fv) f4 { s4 with heap := h6, toks := tk5 } := g5.setCell (i := 0) (k := tk5) (x := x) rfl hkx eCx hcx0 hc6 hs6 (Nat.le_refl _) rv
      have hcxw : cx ∉ wr := fun hb => by
        obtain ⟨o, e, fr⟩ := hfree' (i + 1) h5 hS5 cx hb
        obtain ⟨o', e', hd'⟩ := hw0
        rw [show h5.get? cx = some o from e] at e'; cases e'
        exact fr.2.1 _ hd'
      have hD6 : h6.get? Dd = some (lobj us n) := (hs6.2 Dd hcxD).trans hD5
      have hS6 : St (i + 1) h6 := W.frame (i + 1) h5 h6 hS5 fun b hb o e => by
        by_cases hbc : b = cx
        · subst hbc
          rcases hfp b hb with ⟨o', e'⟩ | hbw
          · rw [hcx1] at e'; cases e'
          · exact absurd hbw hcxw
        · exact (hs6.2 b hbc).trans e
      obtain ⟨B5, gB, FB⟩ := g6.frame
      have hw6 : ∀ b ∈ wr, ∃ o, h6.get? b = some o ∧ Free o := fun b hb => hfree' (i + 1) h6 hS6 b hb
      have keep5 : ∀ {f' : PH} {s' : Shared}, Sub f4 f' → Step B5.f0 B5.s0 f' s' → Inn f' s'.heap → St (i + 1) s'.heap ∧ (∀ b ∈ wr, f' b = none) ∧ s'.heap.get? Dd = some (lobj us n) ∧ f' Dd = none := fun {f' s'} sb st inn => by
        refine ⟨W.frame (i + 1) h6 s'.heap hS6 fun b hb' o e => ?_, fun b hb' => ?_, ?_⟩
        · rcases hfp b hb' with ⟨o', e'⟩ | hbw
          · have e1 := sb4 b o' e'
            have := g6.inn b o' e1
            rw [show (h6.get? b = some o) from e] at this; cases this
            exact inn b _ (sb b _ e1)
          · obtain ⟨o', e', fr⟩ := hw6 b hbw
            rw [e] at e'; cases e'
            exact (FB.keep st b o e (Mut.free g6 e fr) fr.1).1
        · obtain ⟨o', e', fr⟩ := hw6 b hb'
          exact (FB.keep st b o' e' (Mut.free g6 e' fr) fr.1).2 (hn4 b hb')
        · have := FB.keep st Dd _ hD6 (notMut (fun _ e => by cases e)) (fun es ep q => by cases q)
          exact ⟨this.1, this.2 hfDD⟩
      have g6' : Good c' B5 (.dat d :: fv) f4 { s4 with heap := h6, toks := tk5 } := gB
      have tests : ∀ (Q' : Bool → Shared → Prop) (E' : Value → Shared → Prop), (∀ f7 s7, Sub f4 f7 → Good c' B5 (.dat d :: fv) f7 s7 → Q' (p d) s7) →
          wpAny (model prog w) c.A (forIn ifs true fun c r => if r = true then do let ok ← isTrue c env' (eval c env'); pure (ForInStep.yield ok) else pure (ForInStep.yield r)) Q' E' { s4 with heap := h6, toks := tk5 } := fun Q' E' kk => by
        rcases hT with ⟨rfl, hp⟩ | ⟨e, rfl, hTr⟩
        · rw [hp] at kk
          exact wpAny_tests_nil (kk f4 _ (.refl _) g6')
        · exact wpAny_tests_one (hTr f4 _ _ _ g6' fun f7 s7 st7 => kk f7 s7 st7.sub (g6'.step st7))
      refine tests _ _ fun f7 s7 sb7 g7 => ?_
      cases hp : p d with
      | false =>
        rw [if_neg (by decide)]
        obtain ⟨q1, q2, q3, q4⟩ := keep5 sb7 g7.st g7.inn
        refine ⟨m', Nat.lt_succ_self _, i + 1, f7, .dat d, us, n, ar_step him, sb4.trans sb7, (fun _ e => by cases e), FB.good' g7, q1, q2, q3, q4, ?_⟩
        rw [htake, hp]; simpa using r4.mono sb7
      | true =>
        rw [if_pos rfl]
        refine hE hp f7 s7 _ _ g7 fun u f8 s8 st8 r8 => ?_
        have g8 := g7.step st8
        have sb8 := sb7.trans st8.sub
        obtain ⟨q1, q2, q3, q4⟩ := keep5 sb8 g8.st g8.inn
        have hlen : us.length ≤ ds.length := by
          rw [r4.length, List.length_map]
          exact Nat.le_trans (List.length_filter_le _ _) (by rw [List.length_take]; exact Nat.min_le_right _ _)
        refine call_meets slot_list_append ⟨_, q3, rfl⟩ entry_list_append (args_list_append _ _) (PySem.list_append Dd us.toArray n u (by rw [List.size_toArray]; exact Nat.le_trans hlen (Nat.le_trans hsz (by decide)))) ?_
        refine ⟨q3, ?_⟩
        obtain ⟨n', e9⟩ := lobj_update q3 (fun xs => xs.push u) (us ++ [u]) (by simp)
        have hother : ∀ b, b ≠ Dd → (s8.heap.update Dd (Obj.mapSeq fun xs => xs.push u)).get? b = s8.heap.get? b := fun b hb => Heap.get?_update_other _ _ (Ne.symm hb)
        have g8' := FB.good' g8
        have g9 : Good c' B' (.dat d :: fv) f8 { s8 with heap := s8.heap.update Dd (Obj.mapSeq fun xs => xs.push u), toks := s8.toks } := by
          refine g8'.butX (wr := [Dd]) (fun b o hb e => (hother b (by simpa using hb)).trans e) (Nat.le_refl _) (fun b hb => ?_) (fun hb => ?_) (fun y ca hy hb => ?_) (fun j y q a' _ hr _ _ => (noOwn (fun _ e => by cases e) hr).elim) fun b hb => ?_
          · rw [List.mem_singleton.mp hb]; exact ⟨q4, hD0⟩
          · have := List.mem_singleton.mp hb
            exact hnD (by rw [← eL]; exact this)
          · obtain ⟨_, v', o', e', hd'⟩ := g8'.fc y ca hy
            rw [List.mem_singleton.mp hb, q3] at e'; cases e'; cases hd'
          · rw [List.mem_singleton.mp hb]
            exact frames_ne g8' fun o es ep e hd => by rw [q3] at e; cases e; cases hd
        refine ⟨m', Nat.lt_succ_self _, i + 1, f8, .dat d, us ++ [u], n', ar_step him, sb4.trans sb8, (fun _ e => by cases e), g9, ?_, q2, e9, q4, ?_⟩
        · refine W.frame (i + 1) s8.heap _ q1 fun b hb o e => ?_
          by_cases hbD : b = Dd
          · subst hbD
            rcases hfp b hb with ⟨o', e'⟩ | hbw
            · have := sb8 b o' (sb4 b o' e')
              rw [q4] at this; cases this
            · exact absurd hbw hDw
          · exact (hother b hbD).trans e
        · rw [htake, if_pos hp]
          exact (r4.mono sb8).append (.one r8)
    · have hi' : i = ds.length := ar_end him hlt
      subst hi'
      refine wpAny_with_toks (Nat.le_refl _) (W.done s4 _ _ hSt4 fun h5 tk5 hk5 htk5 => ?_)
      have g5 := g4.but hk5 htk5 hw4
      have hD5 : h5.get? Dd = some (lobj us n) := hk5 _ _ hDw hDD
      obtain ⟨m5, hm5⟩ := g5.ns
      have hfC : f4 C = none := by rw [← eL]; exact g4.fL
      rw [List.take_length] at r4
      exact k Dd us n f4 _ C m5 g5.st hD0 hD5 hfDD r4 hnD hC0 (by rw [← eL]; exact hm5) hfC
  exact codeAny_compStart_list loop (W.self 0 _ _ _ hSt3 loop)
theorem EvF.compC {elt iter : Expr} {x : Str} {px : Pos} {ifs : List Expr} {scope : Scope} {pos : Pos} {ds : List D} (fr gs' : List Str) (is : List Nat) (fv : List AV) (p : D → Bool) (t : D → D)
    (hok : okCompC scope x fr gs' = true) (hi : EvI c ρ iter ds) (hsz : ds.length ≤ 900000)
    (hfr : ∀ (j : Nat) y, fr[j]? = some y → ∃ i d, is[j]? = some i ∧ vs[i]? = some y ∧ nl ≤ i ∧ ρ[i]? = some (.dat d) ∧ fv[j]? = some (.dat d)) (hfv : fv.length = fr.length)
    (h : ∀ c' : Cx prog w G (x :: fr) 0 false gs', c'.n = c.n → ∀ d ∈ ds, ((ifs = [] ∧ p d = true) ∨ ∃ e, ifs = [e] ∧ Tr c' (.dat d :: fv) e (p d)) ∧ (p d = true → Ev c' (.dat d :: fv) elt (t d)))
    (hs : ∀ env x, foldedSetIterable iter env x = pure x := by intro _ _; rfl) : EvF c ρ (.ListComp elt [⟨.Name x px, iter, ifs, 0⟩] scope pos) ((ds.filter p).map t) := fun B f s Q E g k => by
  rw [eval_ListComp]
  refine comp_coreC fr gs' is fv p t hok hi hsz hfr hfv h hs f s Q E g fun a us n f' s' C m st hn ha hf r hne hC hm hfC => ?_
  refine ⟨m, hm, fun h6 hs6 => ?_⟩
  exact k a us n f' _ (st.sameBut' hs6 hC hfC) hn ((hs6.2 a (Ne.symm hne)).trans ha) hf r
end
end Mine
end
section
set_option autoImplicit false
set_option Elab.async false
set_option linter.unusedVariables false
set_option linter.unusedSimpArgs false
open PySem PySem.W PyProof.Rows PySem.Calls
namespace Mine
structure NX (P : Prop) (h h' : Heap) (e : Addr) (X : Value) : Prop where
  keeps : ∀ b o, h.get? b = some o → h'.get? b = some o
  new : h.get? e = none
  there : ∃ ob vs k, h'.get? e = some ob ∧ ob.cls = X ∧ ob.data = .fields vs ∧ vs.size = 6 ∧ vs[1]? = some .none ∧ vs[2]? = some k ∧ (P → k = .none)
def RaiseOk (A : Around) (h : Heap) : Prop :=
  A.handled = none ∨ ∃ x ox vsx, A.handled = some (.ref x) ∧ h.get? x = some ox ∧ ox.data = .fields vsx ∧ vsx[2]? = some .none
section
variable {prog : Program} {w : World} {A : Around} {E : Value → Shared → Prop} {s : Shared}
theorem entry_unchain : entryFor table "proto.unchain" = some Builtin.«proto.unchain» := entryFor_of_tree (by kernel_rfl)
theorem unchain_none {e x : Addr} {ox : Obj} {vsx : Array Value} {Q : Value → Shared → Prop} (hx : s.heap.get? x = some ox) (hd : ox.data = .fields vsx) (h2 : vsx[2]? = some .none) (h : Q .none s) :
    wpAny (model prog w) A (runValue (.builtin "proto.unchain" ⟨[.ref e, .ref x, .ref x, .bool false], []⟩)) Q E s := by
  refine runValue_entry entry_unchain ?_
  unfold Builtin.«proto.unchain»
  refine wpAny_bind (wpAny_field hx hd h2 ?_)
  rw [if_pos (by rfl)]
  exact wpAny_pure ⟨_, rfl, h⟩
theorem raise_any {α : Type} {cls msg : String} {Q : α → Shared → Prop} (hp : PlainExc cls) (hh : RaiseOk A s.heap) (h : ∀ h' tk e, s.toks ≤ tk → NX (A.handled = none) s.heap h' e (.type cls) → E (.ref e) { s with heap := h', toks := tk }) :
    wpAny (model prog w) A (raiseErrorWords cls msg : Sem α) Q E s := by
  unfold raiseErrorWords
  refine wpAny_bind (wpAny_mkText (wpAny_bind ?_))
  refine wpAny_newExc_plain hp (fun h' e hm => ?_) (by simp [sizeLine])
  have hk := hm.keeps
  obtain ⟨t, he, _, ht⟩ := hm.there
  unfold raiseNew
  refine wpAny_bind (wpAny_handled ?_)
  rcases hh with hh | ⟨x, ox, vsx, hh, hx, hd, h2⟩
  · rw [hh]
    first
      | refine wpAny_throw ?_
      | refine wpAny_bind (wpAny_pure (wpAny_throw ?_))
    exact h _ _ _ (by first | exact Nat.le_succ _ | exact Nat.le_refl _ | (simp; done)) ⟨hk, hm.new, _, _, _, he, rfl, rfl, rfl, rfl, rfl, fun _ => rfl⟩
  · rw [hh]
    have hne : x ≠ e := fun q => by have := hm.new; rw [← q] at this; rw [show s.heap.get? x = some ox from hx] at this; cases this
    dsimp only
    rw [if_pos (by simpa using hne)]
    refine wpAny_bind (wpAny_holding (unchain_none (s := { s with heap := h', toks := s.toks + 1 }) (hk _ _ hx) hd h2 ?_))
    refine wpAny_bind ?_
    unfold updateField
    refine wpAny_bind (wpAny_load he ?_)
    dsimp only
    have hz : 2 < (#[Value.ref t, .none, .none, .none, .bool false, .none] : Array Value).size := by simp
    rw [if_pos hz]
    refine wpAny_update he (wpAny_throw ?_)
    have hf : Obj.isFreed (Obj.mapFields (·.setIfInBounds 2 (Value.ref x)) { cls := .type cls, data := .fields #[.ref t, .none, .none, .none, .bool false, .none] }) = false := rfl
    have he2 := Heap.get?_update_self (Obj.mapFields (·.setIfInBounds 2 (Value.ref x))) he hf
    refine h _ _ _ (Nat.le_succ _) ⟨fun b o e0 => ?_, hm.new, _, _, _, he2, rfl, rfl, rfl, rfl, rfl, fun q => by rw [hh] at q; cases q⟩
    have hbe : b ≠ e := fun q => by have := hm.new; rw [← q] at this; rw [show s.heap.get? b = some o from e0] at this; cases this
    rw [Heap.get?_update_other _ _ (Ne.symm hbe)]
    exact hk _ _ e0
theorem getItem_out {l : Addr} {items : Array Value} {k : Int} {t : Tok} {Q : Value → Shared → Prop} (hA : RaiseOk A s.heap) (hl : s.heap.IsList l items) (hout : (items.size : Int) ≤ k) (hlo : -(2 ^ 63) ≤ k) (hhi : k < 2 ^ 63)
    (hE : ∀ h' tk e, s.toks ≤ tk → NX (A.handled = none) s.heap h' e (.type "IndexError") → E (.ref e) { s with heap := h', toks := tk }) : wpAny (model prog w) A (getItem (.ref l) (.int k t)) Q E s := by
  obtain ⟨o, ho, hc, ne, hd⟩ := id hl
  unfold getItem
  try with_reducible refine wpAny_holding ?_
  first | refine wpAny_bind (wpAny_pure ?_) | skip
  refine wpAny_bind (wpAny_sequenceKey hl.typeIs (by decide) ?_)
  refine wpAny_bind (wpAny_callSpecial?_slot (name := Str.ofString "__getitem__") hl.typeIs slot_list_getitem
    (wpAny_call_entry slot_list_getitem hl.typeIs entry_list_getitem ?_ (args_list_getitem _ _)))
  show wpAny _ _ (Builtin.List.listSubscript? (.int k t) >>= _) _ _ s
  refine wpAny_bind (wpAny_listSubscript_int (fitsIndex_both hlo hhi) ?_)
  clear hlo hhi
  cases k with
  | negSucc j => exact absurd hout (by simp only [Int.not_le]; omega)
  | ofNat j =>
    have hx : items[j]? = none := Array.getElem?_eq_none (by have : (items.size : Int) ≤ (j : Int) := hout; omega)
    show wpAny _ _ ((seqItemAt l j >>= fun r => pure (r.map (j, ·))) >>= _) _ _ s
    refine wpAny_bind (wpAny_bind (wpAny_seqItemAt ho hd (wpAny_pure ?_)))
    rw [hx]
    first
      | exact wpAny_bind (wpAny_rule (raise_any plainExc_IndexError hA hE))
      | exact wpAny_bind (wpAny_rule (wpAny_bind (raise_any plainExc_IndexError hA hE)))
      | exact wpAny_bind (wpAny_bind (wpAny_rule (raise_any plainExc_IndexError hA hE)))
      | exact wpAny_rule (raise_any plainExc_IndexError hA hE)
end
section
variable {prog : Program} {w : World} {G : Heap} {vs : List Str} {nl : Nat} {oc : Bool} {gs : List Str} {c : Cx prog w G vs nl oc gs} {B : Bs c} {ρ : List AV}
theorem Good.butE {f : PH} {s : Shared} {h' : Heap} {wr : List Addr} {k : Nat} (g : Good c B ρ f s) (hk : ∀ b o, b ∉ wr → s.heap.get? b = some o → h'.get? b = some o ∨ (f b = none ∧ (∃ es ep, o.data = .dict es ep) ∧ ∃ sl, h'.get? b = some { o with slots := sl })) (ht : s.toks ≤ k)
    (hw : ∀ b ∈ wr, f b = none ∧ B.s0.heap.get? b = none ∧ ∃ o, s.heap.get? b = some o ∧ Free o) : Good c B ρ f { s with heap := h', toks := k } := by
  have hL : c.env.locals ∉ wr := fun hb => by
    obtain ⟨_, _, o, e, fr⟩ := hw _ hb
    obtain ⟨m, o', es, ep, e', hd, _⟩ := g.ns
    rw [e] at e'; cases e'; exact fr.1 _ _ hd
  have hC : ∀ x ca, c.env.cells.lookup x = some ca → ca ∉ wr := fun x ca hc hb => by
    obtain ⟨_, _, o, e, fr⟩ := hw _ hb
    obtain ⟨_, v, o', e', hd⟩ := g.fc x ca hc
    rw [e] at e'; cases e'; exact fr.2.1 _ hd
  have kNs : ∀ {m}, s.heap.Ns c.env.locals m → h'.Ns c.env.locals m := fun {m} ⟨o, es, ep, e, hd, r⟩ => by
    rcases hk _ _ hL e with e1 | ⟨_, _, sl, e1⟩
    · exact ⟨o, es, ep, e1, hd, r⟩
    · exact ⟨_, es, ep, e1, hd, r⟩
  have kC : ∀ {x ca v}, c.env.cells.lookup x = some ca → s.heap.IsCell ca v → h'.IsCell ca v := fun {x ca v} hc ⟨o, e, hd⟩ => by
    rcases hk _ _ (hC x ca hc) e with e1 | ⟨_, ⟨es, ep, hd'⟩, _⟩
    · exact ⟨o, e1, hd⟩
    · rw [hd] at hd'; cases hd'
  have kH : ∀ {x v}, Holds c s.heap x v → Holds c h' x v := fun {x v} y => y.imp (fun ⟨q, m, hn, hm⟩ => ⟨q, m, kNs hn, hm⟩) fun ⟨q, ca, hc, hv⟩ => ⟨q, ca, hc, kC hc hv⟩
  obtain ⟨m0, hm0⟩ := g.ns
  have bH : ∀ {x v}, Holds c h' x v → Holds c s.heap x v := fun {x v} y => by
    rcases y with ⟨q, m, hn, hm⟩ | ⟨q, ca, hc, hv⟩
    · have := Ns.unique hn (kNs hm0)
      exact .inl ⟨q, m0, hm0, this ▸ hm⟩
    · obtain ⟨_, v', hv'⟩ := g.fc x ca hc
      have := IsCell.unique hv (kC hc hv')
      exact .inr ⟨q, ca, hc, this ▸ hv'⟩
  refine ⟨⟨g.st.sub, fun a o e => ?_, fun a o e => ?_, g.st.new, Nat.le_trans g.st.toks ht, g.st.os, g.st.gens⟩,
    ⟨g.aok.handled, g.aok.depth, g.aok.units, ?_⟩, ⟨_, kNs hm0⟩, g.fL, fun x ca hc => ?_, fun i x a hx ha => ?_, fun i j x y ds es a hij hx hy hi hj h1 h2 => g.apart i j x y ds es a hij hx hy hi hj (bH h1) (bH h2)⟩
  · rcases hk a o (fun hb => by rw [(hw a hb).1] at e; cases e) (g.inn a o e) with e1 | ⟨e0, _⟩
    · exact e1
    · rw [e0] at e; cases e
  · obtain ⟨sl, e1, k1⟩ := g.st.ext a o e
    rcases hk a _ (fun hb => by rw [(hw a hb).2.1] at e; cases e) e1 with e2 | ⟨_, ⟨es, ep, hd⟩, sl2, e2⟩
    · exact ⟨sl, e2, k1⟩
    · exact ⟨sl2, e2, fun q => absurd hd (q es ep)⟩
  · obtain ⟨l, hl, hF⟩ := g.aok.frames
    refine ⟨l, hl, fun env he => ?_⟩
    obtain ⟨q, L, o, hf, hn, ho, es, ep, hd⟩ := hF env he
    have hLw : L ∉ wr := fun hb => by
      obtain ⟨_, _, o', e', fr⟩ := hw _ hb
      rw [ho] at e'; cases e'; exact fr.1 _ _ hd
    rcases hk L o hLw ho with e1 | ⟨_, _, sl, e1⟩
    · exact ⟨q, L, o, hf, hn, e1, es, ep, hd⟩
    · exact ⟨q, L, _, hf, hn, e1, es, ep, hd⟩
  · obtain ⟨q, v, hv⟩ := g.fc x ca hc
    exact ⟨q, v, kC hc hv⟩
  · have := g.vals i x a hx ha
    cases a with
    | undef => trivial
    | dat d => obtain ⟨v, hh, r⟩ := this; exact ⟨v, kH hh, r⟩
    | own ds =>
      obtain ⟨a, hh, us, n, e, q⟩ := this
      refine ⟨a, kH hh, us, n, ?_, q⟩
      rcases hk a _ (fun hb => by
        obtain ⟨_, _, o, e', fr⟩ := hw _ hb
        rw [e] at e'; cases e'; exact fr.2.2 _ _ rfl) e with e1 | ⟨_, ⟨es, ep, hd⟩, _⟩
      · exact e1
      · cases hd
def Frm (c : Cx prog w G vs nl oc gs) : Prop := c.env.frame = some c.env.locals ∧ ∃ l, c.A.frames = some (c.env :: l)
def TB (B : Bs c) (f : PH) (h : Heap) (x : Addr) (X k : Value) (t : Option Value) : Prop :=
  f x = none ∧ B.s0.heap.get? x = none ∧ ∃ oe vs, h.get? x = some oe ∧ oe.cls = X ∧ oe.data = .fields vs ∧ vs.size = 6 ∧ vs[2]? = some k ∧
    ((t = none ∧ vs[1]? = some .none) ∨ ∃ fl T oT ts, t = some fl ∧ vs[1]? = some (.ref T) ∧ T ≠ x ∧ h.get? T = some oT ∧ oT.data = .fields ts ∧ ts[3]? = some fl ∧ f T = none ∧ B.s0.heap.get? T = none)
def X0 (h : Heap) (x : Addr) (a0 : Value) : Prop := ∃ oe vs, h.get? x = some oe ∧ oe.data = .fields vs ∧ vs[0]? = some a0
theorem TB.x0 {f : PH} {h : Heap} {x : Addr} {X k : Value} {t : Option Value} (T0 : TB B f h x X k t) : ∃ a0, X0 h x a0 := by
  obtain ⟨fx, bx, oe, vs', he, hc, hd, hs, h2, ht⟩ := T0
  exact ⟨vs'[0]'(by first | assumption | exact Nat.le_trans (by assumption) (by decide) | omega), oe, vs', he, hd, Array.getElem?_eq_getElem _⟩
theorem TB.fly0 {a0 : Value} {f : PH} {s : Shared} {x : Addr} {X k fl : Value} {fr : Option Addr} {Q : Unit → Shared → Prop} {E : Value → Shared → Prop} {A : Around} (g : Good c B ρ f s) (T0 : TB B f s.heap x X k (some fl)) (x0 : X0 s.heap x a0)
    (h : ∀ s', Good c B ρ f s' → TB B f s'.heap x X k (some (fr.elim .none fun a => rawInt a)) → X0 s'.heap x a0 → Q () s') : wpAny (model prog w) A (setFlight (.ref x) fr) Q E s := by
  obtain ⟨fx, bx, oe, vs', he, hc, hd, hs, h2, ht⟩ := T0
  rcases ht with ⟨q, _⟩ | ⟨fl', T, oT, ts, q, h1, hTx, hT, hdT, h3, fT, bT⟩
  · cases q
  unfold setFlight
  refine wpAny_bind (wpAny_field he hd h1 ?_)
  rw [if_pos (show (Value.ref T != Value.none) = true from by simp)]
  have hsz : 3 < ts.size := (Array.getElem?_eq_some_iff.mp h3).1
  refine wpAny_setField hT hdT hsz ?_
  have other : ∀ b, b ≠ T → (s.heap.update T (Obj.mapFields (·.setIfInBounds 3 (fr.elim Value.none fun f => rawInt f)))).get? b = s.heap.get? b := fun b hb => Heap.get?_update_other _ _ (Ne.symm hb)
  refine h _ (g.butE (wr := [T]) (k := s.toks) (fun b o hb e => .inl ((other b (by simpa using hb)).trans e)) (Nat.le_refl _) fun b hb => ?_) ⟨fx, bx, oe, vs', (other x (Ne.symm hTx)).trans he, hc, hd, hs, h2, .inr ⟨_, T, _, _, rfl, h1, hTx, Heap.get?_update_self _ hT (Obj.isFreed_of_fields (Obj.data_mapFields hdT _)), Obj.data_mapFields hdT _, by simp [hsz], fT, bT⟩⟩ ?_
  · rw [List.mem_singleton.mp hb]
    exact ⟨fT, bT, oT, hT, fieldsFree hdT⟩
  · obtain ⟨oe', vs2, e1, e2, e3⟩ := x0
    exact ⟨oe', vs2, (other x (Ne.symm hTx)).trans e1, e2, e3⟩
theorem TB.fly {f : PH} {s : Shared} {x : Addr} {X k fl : Value} {fr : Option Addr} {Q : Unit → Shared → Prop} {E : Value → Shared → Prop} {A : Around} (g : Good c B ρ f s) (T0 : TB B f s.heap x X k (some fl))
    (h : ∀ s', Good c B ρ f s' → TB B f s'.heap x X k (some (fr.elim .none fun a => rawInt a)) → Q () s') : wpAny (model prog w) A (setFlight (.ref x) fr) Q E s :=
  let ⟨_, x0⟩ := T0.x0
  TB.fly0 g T0 x0 fun s' g' t' _ => h s' g' t'
theorem TB.again {f : PH} {s : Shared} {x : Addr} {X k : Value} {Q : Unit → Shared → Prop} {E : Value → Shared → Prop} {A : Around} (hF : Frm c) (T0 : TB B f s.heap x X k (some (rawInt c.env.locals))) (h : Q () s) : wpAny (model prog w) A (noteFrame (.ref x) c.env) Q E s := by
  obtain ⟨fx, bx, oe, vs', he, hc, hd, hs, h2, ht⟩ := T0
  rcases ht with ⟨q, _⟩ | ⟨fl', T, oT, ts, q, h1, hTx, hT, hdT, h3, fT, bT⟩
  · cases q
  cases q
  unfold noteFrame
  simp only [hF.1]
  refine wpAny_bind (wpAny_field he hd h1 ?_)
  rw [if_pos (show (Value.ref T != Value.none) = true from by simp)]
  refine wpAny_bind (wpAny_field hT hdT h3 ?_)
  rw [if_pos (show (rawInt c.env.locals == rawInt c.env.locals) = true from by simp)]
  exact wpAny_pure h
theorem funFr {h : Heap} {f : PH} : ∀ {l : List Env}, FF f h l → h.FunFrames ({} : Heap) l
  | [], _ => trivial
  | env :: l, hF => by
    obtain ⟨q, L, o, hf, hn, ho, es, ep, hd⟩ := hF env (.head _)
    exact ⟨q, ⟨L, o, hf, rfl, ho, fun vs e => by rw [hd] at e; cases e⟩, funFr fun e he => hF e (.tail _ he)⟩
end
end Mine
end
section
set_option autoImplicit false
set_option Elab.async false
set_option linter.unusedVariables false
set_option linter.unusedSimpArgs false
open PySem PySem.W PyProof.Rows PySem.Calls
namespace Mine
section
variable {prog : Program} {w : World} {G : Heap} {vs : List Str} {nl : Nat} {oc : Bool} {gs : List Str} {c : Cx prog w G vs nl oc gs} {B : Bs c} {ρ : List AV} {K : Value → Prop}
theorem TB.note0 {a0 : Value} {f : PH} {s : Shared} {x : Addr} {X k : Value} {Q : Unit → Shared → Prop} {E : Value → Shared → Prop} (g : Good c B ρ f s) (hF : Frm c) (T0 : TB B f s.heap x X k none) (x0 : X0 s.heap x a0)
    (h : ∀ s', Good c B ρ f s' → TB B f s'.heap x X k (some (rawInt c.env.locals)) → X0 s'.heap x a0 → Q () s') : wpAny (model prog w) c.A (noteFrame (.ref x) c.env) Q E s := by
  obtain ⟨fx, bx, oe, vs', he, hc, hd, hs, h2, ht⟩ := T0
  rcases ht with ⟨_, h1⟩ | ⟨fl', T, oT, ts, q, h1, hTx, hT, hdT, h3, fT, bT⟩
  case inr => cases q
  obtain ⟨hfr0, l, hfr⟩ := hF
  obtain ⟨l', hl', hFF⟩ := g.aok.frames
  rw [hfr] at hl'; cases hl'
  unfold noteFrame
  simp only [hfr0]
  refine wpAny_bind (wpAny_field he hd h1 ?_)
  rw [if_neg (by decide)]
  refine wpAny_bind (wpAny_frameOf_fun (base := {}) hfr (funFr hFF) hfr0 fun h₁ hs₁ => ?_)
  refine wpAny_bind (wpAny_entryPlaceOf fun pl hpl => ?_)
  unfold EntryCells.newEntry newFields
  refine wpAny_bind (wpAny_newObj_type ?_ (hpl.sizeOk5 _ _ _ _ _))
  have hmem : ∀ b, b ∈ (c.env :: l).filterMap (·.frame) → f b = none ∧ ∃ o, s.heap.get? b = some o ∧ ∃ es ep, o.data = .dict es ep := fun b hb => by
    obtain ⟨env, hem, hfb⟩ := List.mem_filterMap.mp hb
    obtain ⟨_, L, o, hL, fL, ho, hdo⟩ := hFF env hem
    rw [hfb] at hL; cases hL
    exact ⟨fL, o, ho, hdo⟩
  have hxn : x ∉ (c.env :: l).filterMap (·.frame) := fun hm => by
    obtain ⟨_, o, ho, es, ep, hdo⟩ := hmem x hm
    rw [he] at ho; cases ho; rw [hd] at hdo; cases hdo
  have he₁ : h₁.get? x = some oe := (hs₁.2.1 x hxn).trans he
  have hsize : h₁.objs.size = s.heap.objs.size := hs₁.1
  have he₂ := Heap.get?_push_of_some (h := h₁) { cls := .type "traceback", dict := none, data := .fields ([Value.none, .ref c.env.locals, .none, rawInt c.env.locals, .none] ++ (if pl.isEmpty then List.replicate 6 Value.none else pl)).toArray } he₁
  refine wpAny_setField he₂ hd (by first | assumption | exact Nat.le_trans (by assumption) (by decide) | omega) ?_
  have hTe : h₁.objs.size ≠ x := Nat.ne_of_gt (Heap.lt_size he₁)
  have hd₃ := Obj.data_mapFields hd (·.setIfInBounds 1 (Value.ref h₁.objs.size))
  have he₃ := Heap.get?_update_self (Obj.mapFields (·.setIfInBounds 1 (Value.ref h₁.objs.size))) he₂ (Obj.isFreed_of_fields hd₃)
  have hT₃ := (Heap.get?_update_other (h₁.push { cls := .type "traceback", dict := none, data := .fields ([Value.none, .ref c.env.locals, .none, rawInt c.env.locals, .none] ++ (if pl.isEmpty then List.replicate 6 Value.none else pl)).toArray })
    (Obj.mapFields (·.setIfInBounds 1 (Value.ref h₁.objs.size))) (Ne.symm hTe)).trans (Heap.get?_push_size h₁ rfl)
  have hTn : s.heap.get? h₁.objs.size = none := by rw [hsize]; exact get_size_none _
  refine h _ (g.butE (wr := [x]) (k := s.toks) (fun b o hb e => ?_) (Nat.le_refl _) fun b hb => ?_) ⟨fx, bx, _, _, he₃, by rw [Obj.cls_mapFields]; exact hc, hd₃, by simp [hs], by rw [Array.getElem?_setIfInBounds_ne (by decide)]; exact h2,
    .inr ⟨_, h₁.objs.size, _, _, rfl, by simp [hs], hTe, hT₃, rfl, by simp, g.inn.none_of hTn, g.st.ext.gone hTn⟩⟩ ?_
  · have hbx : b ≠ x := by simpa using hb
    have fin : ∀ o', h₁.get? b = some o' → ((h₁.push { cls := .type "traceback", dict := none, data := .fields ([Value.none, .ref c.env.locals, .none, rawInt c.env.locals, .none] ++ (if pl.isEmpty then List.replicate 6 Value.none else pl)).toArray }).update x (Obj.mapFields (·.setIfInBounds 1 (Value.ref h₁.objs.size)))).get? b = some o' := fun o' e' =>
      (Heap.get?_update_other _ _ (Ne.symm hbx)).trans (Heap.get?_push_of_some _ e')
    by_cases hm : b ∈ (c.env :: l).filterMap (·.frame)
    · obtain ⟨fb, o', ho', hdo⟩ := hmem b hm
      rw [e] at ho'; cases ho'
      obtain ⟨sl, e1⟩ := hs₁.2.2 b o e
      exact .inr ⟨fb, hdo, sl, fin _ e1⟩
    · exact .inl (fin _ ((hs₁.2.1 b hm).trans e))
  · rw [List.mem_singleton.mp hb]
    exact ⟨fx, bx, oe, he, fieldsFree hd⟩
  · obtain ⟨oe', vs2, e1, e2, e3⟩ := x0
    rw [he] at e1; cases e1
    rw [hd] at e2; cases e2
    exact ⟨_, _, he₃, hd₃, by rw [Array.getElem?_setIfInBounds_ne (by decide)]; exact e3⟩
theorem TB.note {f : PH} {s : Shared} {x : Addr} {X k : Value} {Q : Unit → Shared → Prop} {E : Value → Shared → Prop} (g : Good c B ρ f s) (hF : Frm c) (T0 : TB B f s.heap x X k none)
    (h : ∀ s', Good c B ρ f s' → TB B f s'.heap x X k (some (rawInt c.env.locals)) → Q () s') : wpAny (model prog w) c.A (noteFrame (.ref x) c.env) Q E s :=
  let ⟨_, x0⟩ := T0.x0
  TB.note0 g hF T0 x0 fun s' g' t' _ => h s' g' t'
def HOK (B : Bs c) : Prop := c.A.handled = none ∨ ∃ x ox vsx, c.A.handled = some (.ref x) ∧ B.s0.heap.get? x = some ox ∧ ox.data = .fields vsx ∧ vsx[2]? = some .none
theorem HOK.ok {f : PH} {s : Shared} (h : HOK B) (g : Good c B ρ f s) : RaiseOk c.A s.heap := by
  rcases h with h | ⟨x, ox, vsx, h, hx, hd, h2⟩
  · exact .inl h
  · obtain ⟨sl, e, _⟩ := g.st.ext x ox hx
    exact .inr ⟨x, _, vsx, h, e, hd, h2⟩
def Rs (K : Value → Prop) (B : Bs c) (ρ : List AV) (X : Value) (f : PH) (x : Addr) (s : Shared) : Prop :=
  Good c B ρ f s ∧ ∃ k, K k ∧ (TB B f s.heap x X k none ∨ TB B f s.heap x X k (some (rawInt c.env.locals)))
def EvX (K : Value → Prop) (c : Cx prog w G vs nl oc gs) (ρ : List AV) (e : Expr) (X : Value) : Prop :=
  ∀ ⦃B : Bs c⦄ (f : PH) (s : Shared) (Q E : Value → Shared → Prop), HOK B → Good c B ρ f s → (∀ x f' s', Sub f f' → Rs K B ρ X f' x s' → E (.ref x) s') → wpAny (model prog w) c.A (eval e c.env) Q E s
def TrX (K : Value → Prop) (c : Cx prog w G vs nl oc gs) (ρ : List AV) (e : Expr) (X : Value) : Prop :=
  ∀ ⦃B : Bs c⦄ (f : PH) (s : Shared) (Q : Bool → Shared → Prop) (E : Value → Shared → Prop), HOK B → Good c B ρ f s → (∀ x f' s', Sub f f' → Rs K B ρ X f' x s' → E (.ref x) s') → wpAny (model prog w) c.A (isTrue e c.env (eval e c.env)) Q E s
def Ex1X (K : Value → Prop) (c : Cx prog w G vs nl oc gs) (ρ : List AV) (st : Stmt) (ρ' : List AV) (X : Value) : Prop :=
  ∀ ⦃B : Bs c⦄ (f : PH) (s : Shared) (Q : Flow → Shared → Prop) (E : Value → Shared → Prop), HOK B → Good c B ρ f s → (∀ x f' s', Sub f f' → Rs K B ρ' X f' x s' → E (.ref x) s') → wpAny (model prog w) c.A (exec st c.env) Q E s
def ExX (K : Value → Prop) (c : Cx prog w G vs nl oc gs) (ρ : List AV) (ss : List Stmt) (ρ' : List AV) (X : Value) : Prop :=
  ∀ ⦃B : Bs c⦄ (f : PH) (s : Shared) (Q : Flow → Shared → Prop) (E : Value → Shared → Prop), HOK B → Good c B ρ f s → (∀ x f' s', Sub f f' → Rs K B ρ' X f' x s' → E (.ref x) s') → wpAny (model prog w) c.A (execs ss c.env) Q E s
theorem NX.rs {K : Value → Prop} (hK : ∀ k, (c.A.handled = none → k = .none) → K k) {f : PH} {s : Shared} {h' : Heap} {x : Addr} {X : Value} {tk : Nat} (g : Good c B ρ f s) (ht : s.toks ≤ tk) (n : NX (c.A.handled = none) s.heap h' x X) : Rs K B ρ X f x { s with heap := h', toks := tk } := by
  obtain ⟨ob, vs', k, he, hc, hd, hs, h1, h2, hk⟩ := n.there
  exact ⟨g.step (Step.same' g.inn n.keeps ht), k, hK k hk, .inl ⟨g.inn.none_of n.new, g.st.ext.gone n.new, ob, vs', he, hc, hd, hs, h2, .inl ⟨rfl, h1⟩⟩⟩
theorem EvX.out (hK : ∀ k, (c.A.handled = none → k = .none) → K k) {value slice : Expr} {pos : Pos} {ds : List D} {j : Nat} (hv : Ev c ρ value (.list ds)) (hi : Ev c ρ slice (.int j)) (hj : ds.length ≤ j) (hjm : j ≤ 1000000)
    (hs : ∀ o i, ∃ ops, subscripted slice false o i = operate ops (getItem o i) := by exact fun _ _ => ⟨_, rfl⟩) : EvX K c ρ (.Subscript value slice pos) (.type "IndexError") := fun B f s Q E hB g k =>
  Subscript_ (hv f s _ E g fun v f1 s1 st1 r1 => hi f1 s1 _ E (g.step st1) fun u f2 s2 st2 r2 => by
    obtain ⟨ops, ho⟩ := hs v u
    have g2 := (g.step st1).step st2
    have r1' := r1.mono st2.sub
    cases r1' with
    | list b us m _ e rs =>
      cases r2
      exact tail_any (T := "list") ⟨_, st2.inn _ _ e, rfl⟩ slot_list_getitem.lookup (getItem_out (hB.ok g2) (lobj_isList (st2.inn _ _ e)) (by rw [List.size_toArray, rs.length]; omega) (by first | assumption | exact Nat.le_trans (by assumption) (by decide) | omega) (by first | assumption | exact Nat.le_trans (by assumption) (by decide) | omega) fun h' tk x ht n => k x f2 _ (st1.sub.trans st2.sub) (n.rs hK g2 ht)) ho)
theorem TrX.cmp {l : Expr} {op : CmpOp} {r : Expr} {pos : Pos} {X : Value} (h : EvX K c ρ l X) (hm : behindInMarks op r = false := by with_unfolding_all rfl) : TrX K c ρ (.Compare l [op] [r] pos) X := fun B f s Q E hB g k =>
  wpAny_isTrue_Compare1 (hm := hm) (h f s _ E hB g k)
theorem Ex1X.assign {e : Expr} {x : Str} {p pos : Pos} {X : Value} (h : EvX K c ρ e X) (hs : ∀ env, swapsWith e (some (.Name x p)) pos.line env = pure false := by intro _; rfl) : Ex1X K c ρ (.Assign [.Name x p] e pos) ρ X := fun B f s Q E hB g k =>
  wpAny_Assign_Name (hs := hs _) (h f s _ E hB g k)
theorem ExX.cons {st : Stmt} {rest : List Stmt} {ρ1 ρ' : List AV} {X : Value} (h : Ex1 c ρ st (.next ρ1)) (h' : ExX K c ρ1 rest ρ' X) : ExX K c ρ (st :: rest) ρ' X := fun B f s Q E hB g k =>
  wpAny_execs_cons (h f s _ E g fun fl f' s' ⟨e, sb, g'⟩ => by
    subst e
    exact h' f' s' Q E hB g' fun x f'' s'' sb' r => k x f'' s'' (sb.trans sb') r)
theorem ExX.stop {st : Stmt} {rest : List Stmt} {ρ' : List AV} {X : Value} (h : Ex1X K c ρ st ρ' X) : ExX K c ρ (st :: rest) ρ' X := fun B f s Q E hB g k =>
  wpAny_execs_cons (h f s _ E hB g k)
theorem Ex1X.ite {t : Expr} {a b : List Stmt} {pos : Pos} {q : Bool} {ρ' : List AV} {X : Value} (h : Tr c ρ t q) (h1 : q = true → ExX K c ρ a ρ' X) (h2 : q = false → ExX K c ρ b ρ' X) : Ex1X K c ρ (.If t a b pos) ρ' X := fun B f s Q E hB g k =>
  wpAny_If (h f s _ E g fun f1 s1 st => by
    cases q with
    | true => exact h1 rfl f1 s1 Q E hB (g.step st) fun x f' s' sb r => k x f' s' (st.sub.trans sb) r
    | false => exact h2 rfl f1 s1 Q E hB (g.step st) fun x f' s' sb r => k x f' s' (st.sub.trans sb) r)
theorem Rs.noted {X : Value} {f : PH} {x : Addr} {s : Shared} {Q : Unit → Shared → Prop} {E : Value → Shared → Prop} (hF : Frm c) (r : Rs K B ρ X f x s)
    (h : ∀ s', Good c B ρ f s' → (∃ k, K k ∧ TB B f s'.heap x X k (some (rawInt c.env.locals))) → Q () s') : wpAny (model prog w) c.A (noteFrame (.ref x) c.env) Q E s := by
  obtain ⟨g, k, hk, t | t⟩ := r
  · exact TB.note g hF t fun s' g' t' => h s' g' ⟨k, hk, t'⟩
  · exact TB.again hF t (h s g ⟨k, hk, t⟩)
theorem TB.camed {X k : Value} {f : PH} {x : Addr} {s : Shared} {E : Value → Shared → Prop} {A : Around} {fl : Value} (hF : Frm c) (g : Good c B ρ f s) (t : TB B f s.heap x X k (some fl))
    (h : ∀ s', Good c B ρ f s' → TB B f s'.heap x X k (some (rawInt c.env.locals)) → E (.ref x) s') : cameBackBy (model prog w) A c.env E (.ref x) s := by
  have t0 := t
  obtain ⟨fx, bx, oe, vs', he, hc, hd, hs, h2, ht⟩ := t
  rcases ht with ⟨q, _⟩ | ⟨fl', T, oT, ts, q, h1, _⟩
  · cases q
  unfold cameBackBy
  refine wpAny_bind (wpAny_field he hd h1 ?_)
  rw [if_neg (by simp)]
  first
    | exact TB.fly g t0 fun s' g' t' => h s' g' (by rw [hF.1] at t'; exact t')
    | exact wpAny_bind (wpAny_pure (TB.fly g t0 fun s' g' t' => h s' g' (by rw [hF.1] at t'; exact t')))
end
end Mine
end
section
set_option autoImplicit false
set_option Elab.async false
set_option linter.unusedVariables false
set_option linter.unusedSimpArgs false
open PySem PySem.W PyProof.Rows PySem.Calls
namespace Mine
section
variable {prog : Program} {w : World} {G : Heap} {vs : List Str} {nl : Nat} {oc : Bool} {gs : List Str} {c : Cx prog w G vs nl oc gs} {B : Bs c} {ρ : List AV} {K : Value → Prop}
def Cx.mark (c : Cx prog w G vs nl oc gs) (x : Addr) : Cx prog w G vs nl oc gs :=
  { A := c.A.mark (some (.ref x)), env := c.env, n := 0, kind := c.kind, glo := c.glo, bui := c.bui, loc := c.loc, cel := c.cel, own := c.own, glob := c.glob, nodup := c.nodup, nodeb := c.nodeb, nocd := c.nocd, inj := c.inj }
def Bs.mark (B : Bs c) (x : Addr) : Bs (Cx.mark c x) := ⟨B.f0, B.s0, B.gsub, B.tok0, B.newL, B.ownc⟩
theorem Frm.mark {x : Addr} (h : Frm c) : Frm (Cx.mark c x) := h
theorem Good.mark {f : PH} {s : Shared} {x : Addr} (g : Good c B ρ f s) : Good (Cx.mark c x) (Bs.mark B x) ρ f s :=
  ⟨g.st, ⟨fun h => absurd h (Nat.lt_irrefl 0), Nat.lt_of_le_of_lt (Nat.le_add_right _ _) g.aok.depth, Nat.lt_of_le_of_lt (Nat.le_add_right _ _) g.aok.units, g.aok.frames⟩, g.ns, g.fL, g.fc, g.vals, g.apart⟩
theorem Good.unmark {f f0 : PH} {s s0 : Shared} {x : Addr} {ρ0 : List AV} (g0 : Good c B ρ0 f0 s0) (g : Good (Cx.mark c x) (Bs.mark B x) ρ f s) : Good c B ρ f s :=
  ⟨g.st, ⟨g0.aok.handled, g0.aok.depth, g0.aok.units, g.aok.frames⟩, g.ns, g.fL, g.fc, g.vals, g.apart⟩
theorem Out.unmark {f f' f0 : PH} {s' s0 : Shared} {x : Addr} {ρ0 : List AV} {fl : Flow} (g0 : Good c B ρ0 f0 s0) : ∀ {o : O}, Out (Cx.mark c x) (Bs.mark B x) f o f' s' fl → Out c B f o f' s' fl
  | .next _, ⟨e, a, b⟩ => ⟨e, a, Good.unmark g0 b⟩
  | .ret _, ⟨v, e, a, b⟩ => ⟨v, e, a, b⟩
  | .brk _, ⟨e, a, b⟩ => ⟨e, a, Good.unmark g0 b⟩
  | .cont _, ⟨e, a, b⟩ => ⟨e, a, Good.unmark g0 b⟩
inductive WhX (K : Value → Prop) (c : Cx prog w G vs nl oc gs) (test : Expr) (body : List Stmt) (X : Value) : Nat → List AV → List AV → Prop
  | stop (ρ : List AV) : TrX K c ρ test X → WhX K c test body X 0 ρ ρ
  | step (n : Nat) (ρ ρ1 ρ' : List AV) : Tr c ρ test true → Turn c ρ body ρ1 → WhX K c test body X n ρ1 ρ' → WhX K c test body X (n + 1) ρ ρ'
theorem Ex1X.while_ {test : Expr} {body : List Stmt} {pos : Pos} {X : Value} {n : Nat} {ρ' : List AV} (hF : Frm c) (h : WhX K c test body X n ρ ρ') : Ex1X K c ρ (.While test body [] pos) ρ' X := fun B f s Q E hB g k =>
  wpAny_While (by
    let J : Nat → Shared → Prop := fun m s => ∃ ρ1 f', WhX K c test body X m ρ1 ρ' ∧ Sub f f' ∧ Good c B ρ1 f' s
    refine codeAny_whileLoop J (fun m s1 hJ => ?_) n ⟨ρ, f, h, .refl f, g⟩
    obtain ⟨ρ1, f1, hw, hs1, g1⟩ := hJ
    cases hw with
    | stop _ hT =>
      refine hT f1 s1 _ _ hB g1 fun x f2 s2 sb2 r => ?_
      unfold notedBy
      refine r.noted hF fun s3 g3 ⟨k3, hk3, t3⟩ => ?_
      exact TB.camed hF g3 t3 fun s4 g4 t4 => k x f2 s4 (hs1.trans sb2) ⟨g4, k3, hk3, .inr t4⟩
    | step m _ ρ2 _ hT hb hw =>
      refine hT f1 s1 _ _ g1 fun f2 s2 st2 => ?_
      rw [if_pos rfl]
      refine hb.run f2 s2 _ _ (g1.step st2) fun f3 s3 sb3 g3 => ?_
      have : ∃ m2, m2 < m + 1 ∧ J m2 s3 := ⟨m, Nat.lt_succ_self m, ρ2, f3, hw, (hs1.trans st2.sub).trans sb3, g3⟩
      exact ⟨this, this⟩)
theorem WhX.by' {σ : Type} {test : Expr} {body : List Stmt} {X : Value} (st : σ → List AV) (meas : σ → Nat) (J : σ → Prop) (P : List AV → Prop)
    (hstep : ∀ s, J s → (TrX K c (st s) test X ∧ P (st s)) ∨ (Tr c (st s) test true ∧ ∃ s', J s' ∧ meas s' < meas s ∧ Turn c (st s) body (st s'))) :
    ∀ (m : Nat) (s : σ), meas s ≤ m → J s → ∃ n ρ', P ρ' ∧ WhX K c test body X n (st s) ρ' := by
  intro m
  induction m with
  | zero =>
    intro s hm hj
    rcases hstep s hj with ⟨h, hp⟩ | ⟨h, s', hj', hlt, hb⟩
    · exact ⟨0, _, hp, .stop _ h⟩
    · omega
  | succ m ih =>
    intro s hm hj
    rcases hstep s hj with ⟨h, hp⟩ | ⟨h, s', hj', hlt, hb⟩
    · exact ⟨0, _, hp, .stop _ h⟩
    · obtain ⟨n, ρ', hp, hw⟩ := ih s' (by first | assumption | exact Nat.le_trans (by assumption) (by decide) | omega) hj'
      exact ⟨n + 1, ρ', hp, .step _ _ _ _ h hb hw⟩
theorem Ex1.tryX {body : List Stmt} {t : Expr} {b₀ : Stmt} {suite : List Stmt} {pos hpos : Pos} {X T : String} {ρ1 : List AV} {o : O} (hF : Frm c) (hh : c.A.handled = none) (hb : ExX K c ρ body ρ1 (.type X))
    (hexc : isSubtype (.type T) (.type "BaseException") = pure true) (hnt : isSubtype (.type ((Manifest.find? T).elim "type" fun x => x.metatype)) (.type "tuple") = pure false) (hsub : isSubtype (.type X) (.type T) = pure true)
    (ht : ∀ x, EvG (Cx.mark c x) ρ1 t (.type T)) (hs : ∀ x, Ex (Cx.mark c x) ρ1 (b₀ :: suite) o) : Ex1 c ρ (.Try body [.ExceptHandler (some t) none (b₀ :: suite) hpos] [] [] pos) o := fun B f s Q E g k => by
  refine wpAny_Try_except (hb f s _ _ (.inl hh) g fun x f1 s1 sb1 r => ?_)
  refine r.noted hF fun s2 g2 ⟨k2, hk2, t2⟩ => ?_
  refine TB.fly g2 t2 fun s3 g3 t3 => ?_
  refine wpAny_handleBy_builtin hexc hnt hsub ?_
  refine ht x (B := Bs.mark B x) f1 s3 _ _ g3.mark ⟨rfl, ?_, ?_⟩
  · obtain ⟨_, _, oe, _, he, hc, _⟩ := t3
    exact ⟨oe, he, hc⟩
  · rw [if_pos rfl]
    refine TB.fly g3 t3 fun s4 g4 t4 => ?_
    exact hs x (B := Bs.mark B x) f1 s4 _ _ g4.mark fun fl f' s' ho => k fl f' s' ((Out.unmark g4 ho).mono sb1)
theorem Ex1.finN {body : List Stmt} {f₀ : Stmt} {fs : List Stmt} {pos : Pos} {ρ1 ρ2 : List AV} (hb : Ex c ρ body (.next ρ1)) (hf : Ex c ρ1 (f₀ :: fs) (.next ρ2)) : Ex1 c ρ (.Try body [] [] (f₀ :: fs) pos) (.next ρ2) := fun B f s Q E g k => by
  refine wpAny_Try_finally (hb f s _ _ g fun fl f1 s1 ⟨e, sb1, g1⟩ => ?_)
  subst e
  refine wpAny_execs_nil ?_
  refine hf f1 s1 _ _ g1 fun fl f2 s2 ⟨e, sb2, g2⟩ => ?_
  subst e
  exact k _ f2 s2 ⟨rfl, sb1.trans sb2, g2⟩
theorem Ex1X.finNX {body : List Stmt} {f₀ : Stmt} {fs : List Stmt} {pos : Pos} {ρ1 ρ2 : List AV} {X : Value} (hF : Frm c) (hb : Ex c ρ body (.next ρ1)) (hf : ExX K c ρ1 (f₀ :: fs) ρ2 X) : Ex1X K c ρ (.Try body [] [] (f₀ :: fs) pos) ρ2 X := fun B f s Q E hB g k => by
  refine wpAny_Try_finally (hb f s _ _ g fun fl f1 s1 ⟨e, sb1, g1⟩ => ?_)
  subst e
  refine wpAny_execs_nil ?_
  refine hf f1 s1 _ _ hB g1 fun x f2 s2 sb2 r => ?_
  unfold notedBy
  refine r.noted hF fun s3 g3 ⟨k3, hk3, t3⟩ => ?_
  exact TB.camed hF g3 t3 fun s4 g4 t4 => k x f2 s4 (sb1.trans sb2) ⟨g4, k3, hk3, .inr t4⟩
theorem Ex1X.finXN {body : List Stmt} {f₀ : Stmt} {fs : List Stmt} {pos : Pos} {ρ1 ρ2 : List AV} {X : Value} (hF : Frm c) (hb : ExX K c ρ body ρ1 X) (hf : ∀ x, Ex (Cx.mark c x) ρ1 (f₀ :: fs) (.next ρ2)) : Ex1X K c ρ (.Try body [] [] (f₀ :: fs) pos) ρ2 X := fun B f s Q E hB g k => by
  refine wpAny_Try_finally (hb f s _ _ hB g fun x f1 s1 sb1 r => ?_)
  refine r.noted hF fun s2 g2 ⟨k2, hk2, t2⟩ => ?_
  refine ⟨ref_ne_byPass x, TB.again hF t2 (TB.fly g2 t2 fun s3 g3 t3 => ?_)⟩
  obtain ⟨B4, g4, FB⟩ := g3.frame
  refine hf x (B := Bs.mark B4 x) f1 s3 _ _ g4.mark fun fl f5 s5 ⟨e, sb5, g5⟩ => ?_
  subst e
  have g5' := Good.unmark g4 g5
  have t5 : TB B f5 s5.heap x X k2 (some .none) := by
    obtain ⟨fx, bx, oe, vs', he, hc, hd, hs, h2, ht⟩ := t3
    rcases ht with ⟨q, _⟩ | ⟨fl', T, oT, ts, q, h1, hTx, hT, hdT, h3, fT, bT⟩
    · cases q
    have kx := FB.keep g5'.st x oe he (Mut.free g3 he (fieldsFree hd)) (fieldsFree hd).1
    have kT := FB.keep g5'.st T oT hT (Mut.free g3 hT (fieldsFree hdT)) (fieldsFree hdT).1
    exact ⟨kx.2 fx, bx, oe, vs', kx.1, hc, hd, hs, h2, .inr ⟨fl', T, oT, ts, q, h1, hTx, kT.1, hdT, h3, kT.2 fT, bT⟩⟩
  have g5'' : Good c B ρ2 f5 s5 := FB.good' g5'
  have t0 := t5
  obtain ⟨fx, bx, oe, vs', he, hc, hd, hs, h2, ht⟩ := t5
  rcases ht with ⟨q, _⟩ | ⟨fl', T, oT, ts, q, h1, _⟩
  · cases q
  show wpAny (model prog w) c.A (PySem.passOn "try.finally" (.ref x) c.env) Q E s5
  unfold PySem.passOn
  refine wpAny_bind (wpAny_field he hd h1 ?_)
  rw [if_neg (by simp)]
  have fin : ∀ {α : Type} {Q' : α → Shared → Prop} , wpAny (model prog w) c.A ((do setFlight (.ref x) c.env.frame; throw (.ref x)) : Sem α) Q' E s5 := fun {α Q'} => by
    refine wpAny_bind (TB.fly g5'' t0 fun s6 g6 t6 => wpAny_throw ?_)
    exact k x f5 s6 (sb1.trans sb5) ⟨g6, k2, hk2, .inr (by rw [hF.1] at t6; exact t6)⟩
  first
    | exact fin
    | exact wpAny_bind (wpAny_pure fin)
theorem Ex1X.finXX {body : List Stmt} {f₀ : Stmt} {fs : List Stmt} {pos : Pos} {ρ1 ρ2 : List AV} {X Y : Value} (hF : Frm c) (hb : ExX (fun k => k = .none) c ρ body ρ1 X) (hf : ∀ x, ExX K (Cx.mark c x) ρ1 (f₀ :: fs) ρ2 Y) : Ex1X K c ρ (.Try body [] [] (f₀ :: fs) pos) ρ2 Y := fun B f s Q E hB g k => by
  refine wpAny_Try_finally (hb f s _ _ hB g fun x f1 s1 sb1 r => ?_)
  refine r.noted hF fun s2 g2 ⟨k2, hk2, t2⟩ => ?_
  refine ⟨ref_ne_byPass x, TB.again hF t2 (TB.fly g2 t2 fun s3 g3 t3 => ?_)⟩
  obtain ⟨B4, g4, FB⟩ := g3.frame
  have hB4 : HOK (Bs.mark B4 x) := by
    obtain ⟨fx, bx, oe, vs', he, hc, hd, hs, h2, ht⟩ := t3
    refine .inr ⟨x, oe, vs', rfl, FB.has x oe he (Mut.free g3 he (fieldsFree hd)), hd, ?_⟩
    rw [h2, hk2]
  refine hf x (B := Bs.mark B4 x) f1 s3 _ _ hB4 g4.mark fun y f5 s5 sb5 r5 => ?_
  unfold notedBy
  refine r5.noted (Frm.mark hF) fun s6 g6 ⟨k6, hk6, t6⟩ => ?_
  have g6' : Good c B ρ2 f5 s6 := FB.good' (Good.unmark g4 g6)
  have t6' : TB B f5 s6.heap y Y k6 (some (rawInt c.env.locals)) := by
    obtain ⟨fx, bx, oe, vs', he, hc, hd, hs, h2, ht⟩ := t6
    rcases ht with ⟨q, _⟩ | ⟨fl', T, oT, ts, q, h1, hTx, hT, hdT, h3, fT, bT⟩
    · cases q
    exact ⟨fx, FB.back _ bx, oe, vs', he, hc, hd, hs, h2, .inr ⟨fl', T, oT, ts, q, h1, hTx, hT, hdT, h3, fT, FB.back _ bT⟩⟩
  refine TB.camed hF g6' t6' fun s7 g7 t7 => k y f5 s7 (sb1.trans sb5) ⟨g7, k6, hk6, .inr t7⟩
end
end Mine
end
section
set_option autoImplicit false
set_option Elab.async false
set_option linter.unusedVariables false
set_option linter.unusedSimpArgs false
open PySem PySem.W PyProof.Rows PySem.Calls
namespace Mine
section
variable {prog : Program} {w : World} {G : Heap} {vs : List Str} {nl : Nat} {oc : Bool} {gs : List Str} {c : Cx prog w G vs nl oc gs} {B : Bs c} {ρ : List AV}
theorem Ex1.extend (i : Nat) {x : Str} {p apos pos spos : Pos} {e : Expr} {ds es : List D} (hx : vs[i]? = some x) (hr : ρ[i]? = some (.own ds)) (h : Ev c ρ e (.list es)) (hl : ds.length + es.length ≤ 1000000)
    (hbase : ∀ env, attributeBase (.Name x p) "extend" env (eval (.Name x p) env) = eval (.Name x p) env := by intro _; rfl)
    (hfew : ∀ env, ((backTo pos (starEach [e] env)).all (fun x => !x.1) && (backToKw pos (keywordEach [] env)).all (fun x => x.1.isSome) && decide ([e].length + ([] : List Keyword).length + (if ([] : List Keyword).isEmpty then 0 else 1) < 30)) = true := by intro _; rfl)
    (hline : (apos.endLine == pos.line) = true := by rfl) (htr : ∀ env, backTo pos (starEach [e] env) = [(false, eval e env)] := by intro _; rfl)
    (hsw : ∀ env, swapsWith (.Call (.Attribute (.Name x p) "extend" apos) [e] [] pos) none spos.line env = pure false := by intro _; rfl) :
    Ex1 c ρ (.Expr (.Call (.Attribute (.Name x p) "extend" apos) [e] [] pos) spos) (.next (ρ.set i (.own (ds ++ es)))) := fun B f s Q E g k =>
  wpAny_Expr (hi := interactive_false c) (hs := hsw _) (wpAny_Call_method (hbase _) (hfew _) hline F.plainAttrs_list F.slot_list_extend F.type_list_extend (Mine.ownName i g hx hr fun a hh ho => by
    obtain ⟨us, n, e0, _, _, r⟩ := id ho
    refine ⟨⟨_, e0, rfl⟩, fun b q => by cases q; exact ⟨_, e0, rfl⟩, ?_⟩
    rw [htr]
    refine P.extend_list (h f s _ E g fun v f1 s1 st1 r1 => ?_)
    have g1 := g.step st1
    have ho1 := ho.step st1
    obtain ⟨us, n, e1, hfa, _, r⟩ := id ho1
    cases r1 with
    | list b us2 m _ eb rs2 =>
      obtain ⟨n', e2⟩ := lobj_update e1 (fun xs => xs ++ us2.toArray) (us ++ us2) (by simp)
      have hlu : us.length = ds.length := r.length
      have hlv : us2.length = es.length := rs2.length
      have hsl : sizeLine = 16777216 := rfl
      refine ⟨b, us.toArray, us2.toArray, n, m, by rw [List.size_toArray]; omega, by rw [List.size_toArray, List.size_toArray]; omega, ?_, rfl, e1, st1.inn _ _ eb, ?_⟩
      · have : Builtin.List.listTooLong (us.toArray.size + us2.toArray.size) = false := by
          unfold Builtin.List.listTooLong
          rw [List.size_toArray, List.size_toArray]
          simp only [decide_eq_false_iff_not]
          omega
        rw [this]; simp
      · exact k _ f1 _ ⟨rfl, st1.sub, g1.setOwn (k := s1.toks) hx hr (hh.ext st1.ext) ho1 e2 (Heap.SameBut.update _ _ _) (Nat.le_refl _) (r.append rs2)⟩))
theorem count_erase_aux {α : Type} [BEq α] [LawfulBEq α] {β : Type} (e : β → Bool) (x : α) : ∀ (us : List β) (ls : List α), us.map e = ls.map (· == x) → x ∈ ls →
    ∃ j, ∃ hj : j < us.length, e us[j] = true ∧ (∀ m (hm : m < us.length), m < j → e us[m] = false) ∧ ls.erase x = ls.eraseIdx j
  | [], [], _, h => by cases h
  | u :: us, l :: ls, h, hx => by
    simp only [List.map_cons, List.cons.injEq] at h
    by_cases hl : l = x
    · subst hl
      refine ⟨0, by simp, by simpa using h.1, fun m _ hm => by omega, by simp⟩
    · have hx' : x ∈ ls := by
        rcases List.mem_cons.mp hx with e' | e'
        · exact absurd e'.symm hl
        · exact e'
      obtain ⟨j, hj, h1, h2, h3⟩ := count_erase_aux e x us ls h.2 hx'
      refine ⟨j + 1, by simp; omega, by simpa using h1, fun m hm hlt => ?_, ?_⟩
      · cases m with
        | zero => have h9 := h.1; rw [beq_false_of_ne hl] at h9; simpa using h9
        | succ m => simpa using h2 m (by simpa using hm) (by first | assumption | exact Nat.le_trans (by assumption) (by decide) | omega)
      · rw [List.erase_cons_tail (by simpa using hl), h3, List.eraseIdx_cons_succ]
  | [], _ :: _, h, _ => by simp at h
  | _ :: _, [], h, _ => by simp at h
theorem Reps.eraseIdx {f : PH} : ∀ {vs : List Value} {ds : List D}, Reps f vs ds → ∀ n, Reps f (vs.eraseIdx n) (ds.eraseIdx n)
  | _, _, .nil, n => by simp; exact .nil
  | _, _, .cons v d vs ds r rs, 0 => rs
  | _, _, .cons v d vs ds r rs, n + 1 => .cons v d _ _ r (rs.eraseIdx n)
theorem map_eqSD (x : List Nat) (ls : List (List Nat)) : (ls.map S).map (eqSD x) = ls.map (· == x) := by
  rw [List.map_map]
  refine List.map_congr_left fun y _ => ?_
  have h1 := any_eqS x [y]
  simp at h1
  show eqSD x (S y) = (y == x)
  rw [h1]
  by_cases h : x = y
  · subst h; simp
  · rw [show (y == x) = false from beq_false_of_ne fun q => h q.symm]; simp [h]
theorem map_eraseIdx' {α β : Type} (g : α → β) : ∀ (l : List α) (j : Nat), (l.map g).eraseIdx j = (l.eraseIdx j).map g
  | [], j => by simp
  | _ :: _, 0 => by simp
  | _ :: l, j + 1 => by simp [map_eraseIdx' g l j]
theorem Ex1.remove (i : Nat) {x : Str} {p apos pos spos : Pos} {e : Expr} {ls : List (List Nat)} {y : List Nat} (hx : vs[i]? = some x) (hr : ρ[i]? = some (.own (ls.map S))) (h : Ev c ρ e (S y)) (hl : ls.length ≤ 1000000) (hy : y ∈ ls)
    (hbase : ∀ env, attributeBase (.Name x p) "remove" env (eval (.Name x p) env) = eval (.Name x p) env := by intro _; rfl)
    (hfew : ∀ env, ((backTo pos (starEach [e] env)).all (fun x => !x.1) && (backToKw pos (keywordEach [] env)).all (fun x => x.1.isSome) && decide ([e].length + ([] : List Keyword).length + (if ([] : List Keyword).isEmpty then 0 else 1) < 30)) = true := by intro _; rfl)
    (hline : (apos.endLine == pos.line) = true := by rfl) (htr : ∀ env, backTo pos (starEach [e] env) = [(false, eval e env)] := by intro _; rfl)
    (hsw : ∀ env, swapsWith (.Call (.Attribute (.Name x p) "remove" apos) [e] [] pos) none spos.line env = pure false := by intro _; rfl) :
    Ex1 c ρ (.Expr (.Call (.Attribute (.Name x p) "remove" apos) [e] [] pos) spos) (.next (ρ.set i (.own ((ls.erase y).map S)))) := fun B f s Q E g k =>
  wpAny_Expr (hi := interactive_false c) (hs := hsw _) (wpAny_Call_method (hbase _) (hfew _) hline F.plainAttrs_list F.slot_list_remove F.type_list_remove (Mine.ownName i g hx hr fun a hh ho => by
    obtain ⟨us, n, e0, _, _, r⟩ := id ho
    refine ⟨⟨_, e0, rfl⟩, fun b q => by cases q; exact ⟨_, e0, rfl⟩, ?_⟩
    rw [htr]
    refine P.remove_list (h f s _ E g fun v f1 s1 st1 r1 => ?_)
    have g1 := g.step st1
    have ho1 := ho.step st1
    obtain ⟨us, n, e1, hfa, _, r⟩ := id ho1
    cases r1 with
    | str _ t =>
      obtain ⟨ge, hge, hm⟩ := eqSD_gives (x := y) (t := t) r (all_plainS ls)
      rw [map_eqSD] at hm
      obtain ⟨j, hj, h1, h2, h3⟩ := count_erase_aux ge y us ls hm hy
      have hlu : us.length = ls.length := by rw [r.length, List.length_map]
      have hsl : sizeLine = 16777216 := rfl
      obtain ⟨n', e2⟩ := lobj_update e1 (fun xs => xs.eraseIdxIfInBounds j) (us.eraseIdx j) (by simp [Array.eraseIdxIfInBounds, hj])
      refine ⟨us.toArray, n, ge, j, by simpa using hj, by rw [List.size_toArray]; omega, e1, fun z hz => hge z (by simpa using hz), by simpa using h1, fun m hm' hlt => by simpa using h2 m (by simpa using hm') hlt, ?_⟩
      have rr := r.eraseIdx j
      rw [h3] at k
      have e5 : (ls.map S).eraseIdx j = (ls.eraseIdx j).map S := map_eraseIdx' S ls j
      rw [e5] at rr
      exact k _ f1 _ ⟨rfl, st1.sub, g1.setOwn (k := s1.toks) hx hr (hh.ext st1.ext) ho1 e2 (Heap.SameBut.update _ _ _) (Nat.le_refl _) rr⟩))
theorem NewExc.rs {K : Value → Prop} {f f1 : PH} {s s1 : Shared} {h' : Heap} {x : Addr} {cls : String} {tk : Nat} (hK : K .none) (g : Good c B ρ f s) (st : Step f s f1 s1) (ht : s.toks ≤ tk) (n : Heap.NewExc s1.heap h' x cls) : Rs K B ρ (.type cls) f1 x { s1 with heap := h', toks := tk } := by
  obtain ⟨ob, t, he, hc, hd⟩ := n.there
  have st2 : Step f s f1 { s1 with heap := h', toks := s1.toks } := st.trans (Step.same' st.inn n.keeps (Nat.le_refl _))
  have st3 : Step f s f1 { s1 with heap := h', toks := tk } := ⟨st2.sub, st2.inn, st2.ext, st2.new, ht, st2.os, st2.gens⟩
  have g1 := g.step st
  exact ⟨g.step st3, .none, hK, .inl ⟨st.inn.none_of n.new, g1.st.ext.gone n.new, ob, _, he, hc, hd, rfl, rfl, .inl ⟨rfl, rfl⟩⟩⟩
theorem Ex1X.remove {K : Value → Prop} (hK : K .none) (hh : c.A.handled = none) (i : Nat) {x : Str} {p apos pos spos : Pos} {e : Expr} {ls : List (List Nat)} {y : List Nat} (hx : vs[i]? = some x) (hr : ρ[i]? = some (.own (ls.map S))) (h : Ev c ρ e (S y)) (hy : y ∉ ls)
    (hbase : ∀ env, attributeBase (.Name x p) "remove" env (eval (.Name x p) env) = eval (.Name x p) env := by intro _; rfl)
    (hfew : ∀ env, ((backTo pos (starEach [e] env)).all (fun x => !x.1) && (backToKw pos (keywordEach [] env)).all (fun x => x.1.isSome) && decide ([e].length + ([] : List Keyword).length + (if ([] : List Keyword).isEmpty then 0 else 1) < 30)) = true := by intro _; rfl)
    (hline : (apos.endLine == pos.line) = true := by rfl) (htr : ∀ env, backTo pos (starEach [e] env) = [(false, eval e env)] := by intro _; rfl)
    (hsw : ∀ env, swapsWith (.Call (.Attribute (.Name x p) "remove" apos) [e] [] pos) none spos.line env = pure false := by intro _; rfl) :
    Ex1X K c ρ (.Expr (.Call (.Attribute (.Name x p) "remove" apos) [e] [] pos) spos) ρ (.type "ValueError") := fun B f s Q E hB g k =>
  wpAny_with_toks (Nat.le_refl _) (wpAny_Expr (hi := interactive_false c) (hs := hsw _) (wpAny_Call_method (hbase _) (hfew _) hline F.plainAttrs_list F.slot_list_remove F.type_list_remove (Mine.ownName i g hx hr fun a hh' ho => by
    obtain ⟨us, n, e0, _, _, r⟩ := id ho
    refine ⟨⟨_, e0, rfl⟩, fun b q => by cases q; exact ⟨_, e0, rfl⟩, ?_⟩
    rw [htr]
    refine seqMethod1_meets F.slot_list_remove F.entry_list_remove (h f s _ _ g fun v f1 s1 st1 r1 => ?_)
    have g1 := g.step st1
    have ho1 := ho.step st1
    obtain ⟨us, n, e1, hfa, _, r⟩ := id ho1
    cases r1 with
    | str _ t =>
      obtain ⟨ge, hge, hm⟩ := eqSD_gives (x := y) (t := t) r (all_plainS ls)
      rw [map_eqSD] at hm
      refine ⟨⟨_, e1, rfl⟩, F.args_list_remove_2 _ _, _, MeetsSeq.list_remove_none a us.toArray n (.str (mk y) t) ge (fun z hz => hge z (by simpa using hz)) (fun m hm' => ?_), e1, hh, fun h' tk x n' => ?_⟩
      · have hm0 : m < us.length := by simpa using hm'
        have hlu : us.length = ls.length := by rw [r.length, List.length_map]
        have h1 : (us.map ge)[m]? = (ls.map (· == y))[m]? := by rw [hm]
        rw [List.getElem?_map, List.getElem?_map, List.getElem?_eq_getElem hm0, List.getElem?_eq_getElem (hlu ▸ hm0)] at h1
        have h2 : ge us[m] = (ls[m]'(hlu ▸ hm0) == y) := Option.some.inj h1
        simp only [List.getElem_toArray]
        rw [h2]
        exact beq_false_of_ne fun q => hy (q ▸ List.getElem_mem _)
      · exact fun ht => k x f1 _ st1.sub (NewExc.rs hK g st1 ht n'))))
end
end Mine
end
section
set_option autoImplicit false
set_option Elab.async false
set_option linter.unusedVariables false
set_option linter.unusedSimpArgs false
open PySem PySem.W PyProof.Rows PySem.Calls
namespace Mine
section
variable {prog : Program} {w : World} {G : Heap}
theorem call_own {n : Nat} {a : Addr} {name : Str} {params : Arguments} {body : List Stmt} {scope : Scope} {ps : List Str} {d : D} {ρ0 : List AV} (vs : List Str) (nl : Nat) (gs : List Str) (hF : FnAt G a name params body scope) (hN : G.NoLimit)
    (hok : okScope scope ps vs nl gs = true)
    (hb : ∀ (us : List Value) doc pm an cdv ct, us.length = ps.length → bindArgs (fnOf name name params body scope .none .none doc pm an cdv ct) ⟨us, []⟩ = pure (ps.zip us))
    (h : ∀ c : Cx prog w G vs nl true gs, c.n = n → Frm c → c.A.handled = none → Ex c ρ0 body (.ret d))
    {A : Around} {f : PH} {s : Shared} {us : List Value} {Q E : Value → Shared → Prop} (ok : AOK A (n + 1) f s.heap) (hG : Sub G.get? f) (i : Inn f s.heap) (ht : 0 ≤ s.toks) (hul : us.length = ps.length)
    (p : Addr → Prop) (hp : ∀ b, p b → f b = none ∧ ∃ vs n, s.heap.get? b = some (lobj vs n))
    (hρ : ∀ (i : Nat) x av, vs[i]? = some x → ρ0[i]? = some av → av = .undef ∨ (∃ (j : Nat) (d : D) (v : Value), ps[j]? = some x ∧ us[j]? = some v ∧ Rep f v d ∧ av = .dat d) ∨
      ∃ (j : Nat) (b : Addr) (ds : List D) (vs : List Value) (n : Nat), i < nl ∧ ps[j]? = some x ∧ us[j]? = some (.ref b) ∧ av = .own ds ∧ p b ∧ s.heap.get? b = some (lobj vs n) ∧ Reps f vs ds)
    (hdis : ∀ (j j' : Nat) (b : Addr), us[j]? = some (.ref b) → us[j']? = some (.ref b) → p b → j = j')
    (k : ∀ v f' s', Step f { s with heap := hideP s.heap p } f' s' → Rep f' v d → Q v s') : wpAny (model prog w) A (call (.ref a) us []) Q E s := by
  simp only [okScope, Bool.and_eq_true, decide_eq_true_eq, Bool.not_eq_true', List.all_eq_true] at hok
  obtain ⟨⟨⟨⟨⟨⟨⟨⟨⟨⟨k1, k2⟩, k3⟩, k4⟩, k5⟩, k6⟩, k7⟩, k8⟩, k9⟩, k10⟩, k11⟩ := hok
  obtain ⟨oc', od, osl, doc, pm, an, cdv, ct, hg, hcd⟩ := hF
  have keepG : ∀ b o, G.get? b = some o → s.heap.get? b = some o := fun b o e => i b o (hG b o e)
  refine wpAny_call (codeAny_call_function ok.room (keepG _ _ hg) rfl k3 k2 rfl (hcd.keeps keepG) ?_)
  rw [hb us doc pm an cdv ct hul]
  refine wpAny_pure ?_
  refine wpAny_with_toks (Nat.le_refl _) ?_
  have hz : (ps.zip us).map (·.1) = ps := by rw [List.map_fst_zip]; omega
  have hkind : ∀ y ∈ ps.zip us, scope.names.lookup y.1 = some .local ∨ (scope.names.lookup y.1 = some .cell ∧ ((cellsFrom (s.heap.objs.size + 1) scope.names []).lookup y.1).isSome = true) := fun y hy => by
    have hm : y.1 ∈ ps := by rw [← hz]; exact List.mem_map_of_mem hy
    have hv : y.1 ∈ vs := by simpa using k11 _ hm
    obtain ⟨j, hj⟩ := List.mem_iff_getElem?.mp hv
    by_cases hl : j < nl
    · exact .inl (k4 _ (take_get hl hj))
    · have := k5 _ (drop_get (Nat.le_of_not_lt hl) hj)
      exact .inr ⟨this, cellsFrom_some _ _ _ (.inl this)⟩
  refine wpAny_newFunctionEnv_cells k1 hkind fun env he s1 X tk => ?_
  subst he
  have hk1 := X.toInCall.keep
  refine ⟨(hN.keeps keepG).keeps hk1, codeAny_func ?_⟩
  generalize henv : newEnv _ _ _ _ _ _ _ _ _ = env at X ⊢
  have eL : env.locals = s.heap.objs.size := by rw [← henv]; rfl
  have eS : env.scope = scope := by rw [← henv]; rfl
  have eF : env.frame = some s.heap.objs.size := by rw [← henv]; rfl
  have eC : env.cells = cellsFrom (s.heap.objs.size + 1) scope.names [] := by rw [← henv]; rfl
  have eK : ∀ x, env.kindOf x = scope.names.lookup x := fun x => by unfold Env.kindOf; rw [eS]
  have nL : s.heap.get? env.locals = none := by rw [eL]; exact get_size_none _
  obtain ⟨h1, tk1, e1⟩ := X.toInCall.same
  subst e1
  have nC : ∀ x ca, env.cells.lookup x = some ca → s.heap.get? ca = none := fun x ca hca => by
    have := X.above x ca (PySem.mem_of_lookup hca)
    rw [eL] at this
    exact Heap.get?_none_of_le (Nat.le_of_lt this)
  let c : Cx prog w G vs nl true gs := {
    A := A.deeper env, env := env, n := n
    kind := by rw [eS]; exact k1
    glo := by rw [← henv]; rfl
    bui := by rw [← henv]; rfl
    loc := fun j x hj hx => by rw [eK]; exact k4 _ (take_get hj hx)
    cel := fun j x hj hx => by
      have := k5 _ (drop_get hj hx)
      refine ⟨.inl (by rw [eK]; exact this), ?_⟩
      rw [eC]
      exact Option.isSome_iff_exists.mp (cellsFrom_some _ _ _ (.inl this))
    own := fun _ j x hj hx => by rw [eK]; exact k5 _ (drop_get hj hx)
    glob := fun x hx => by rw [eK]; exact k6 x hx
    nodup := k7
    nodeb := fun x hx => by simpa using k8 x hx
    nocd := fun x hx => by simpa using k9 x hx
    inj := fun x y ca hx hy => PySem.name_of_addr X.apart (PySem.mem_of_lookup hx) (PySem.mem_of_lookup hy)
    }
  have hh := hideP_get s.heap p
  have hid0 : ∀ b, s.heap.get? b = none → (hideP s.heap p).get? b = none := fun b e => by
    by_cases q : p b
    · exact (hh b).1 q
    · rw [(hh b).2 q]; exact e
  let B : Bs c := { f0 := f, s0 := { s with heap := hideP s.heap p }, gsub := hG, tok0 := ht, newL := hid0 _ nL, ownc := fun _ x ca hca => hid0 _ (nC x ca hca) }
  have st1 : Step f s f { s with heap := h1, toks := tk1 } := Step.same' i hk1 tk
  have st0 : Step f { s with heap := hideP s.heap p } f s := ⟨.refl f, i, fun b o e => by
    by_cases q : p b
    · rw [show (hideP s.heap p).get? b = none from (hh b).1 q] at e; cases e
    · exact ⟨o.slots, ((hh b).2 q).symm.trans e, fun _ => rfl⟩, fun _ _ e => .inl e, Nat.le_refl _, rfl, rfl⟩
  have st : Step f { s with heap := hideP s.heap p } f { s with heap := h1, toks := tk1 } := st0.trans st1
  obtain ⟨l, hl, hFF⟩ := ok.frames
  have g : Good c B ρ0 f { s with heap := h1, toks := tk1 } := by
    refine ⟨st, ⟨fun _ => ok.handled (Nat.succ_pos n), ?_, ?_, ⟨env :: l, ?_, ?_⟩⟩, ⟨_, X.toInCall.ns⟩, ?_, fun x ca hca => ⟨?_, _, X.cell x ca hca⟩, fun j x av hx hav => ?_, fun j1 j2 x y es1 es2 a' hij hx hy h1' h2' _ _ => ?_⟩
    · have := ok.depth; show A.depth + 1 + n < 900; omega
    · have := ok.units; show A.units + 3 + 10 * n < 9000; omega
    · show A.frames.map _ = _; rw [hl]; rfl
    · intro env' he'
      rcases List.mem_cons.mp he' with rfl | he'
      · obtain ⟨o, es, ep, eo, hd, _⟩ := X.toInCall.ns
        refine ⟨by rw [eS, k1]; decide, _, o, eF, i.none_of (get_size_none _), eL ▸ eo, ⟨es, ep, hd⟩⟩
      · exact hFF.step st1 env' he'
    · exact i.none_of nL
    · exact i.none_of (nC x ca hca)
    · rcases hρ j x av hx hav with rfl | ⟨q, d', v, hq, hv, rv, rfl⟩ | ⟨q, b, ds, ws, m, hj, hq, hv, rfl, pb, hb', rb⟩
      · trivial
      · have hmem : (x, v) ∈ ps.zip us := List.mem_of_getElem? (i := q) (by rw [List.getElem?_zip_eq_some]; exact ⟨hq, hv⟩)
        refine ⟨v, ?_, rv⟩
        by_cases hj : j < nl
        · have hk := c.loc j x hj hx
          exact .inl ⟨hk, _, X.toInCall.ns, bindL_get hk (by rw [hz]; exact k10) hmem⟩
        · have hk := c.own rfl j x (Nat.le_of_not_lt hj) hx
          obtain ⟨_, ca, hca⟩ := c.cel j x (Nat.le_of_not_lt hj) hx
          refine .inr ⟨.inl hk, ca, hca, ?_⟩
          have := X.cell x ca hca
          rw [bindC_get hk (by rw [hz]; exact k10) hmem] at this
          exact this
      · have hmem : (x, Value.ref b) ∈ ps.zip us := List.mem_of_getElem? (i := q) (by rw [List.getElem?_zip_eq_some]; exact ⟨hq, hv⟩)
        have hk := c.loc j x hj hx
        exact ⟨b, .inl ⟨hk, _, X.toInCall.ns, bindL_get hk (by rw [hz]; exact k10) hmem⟩, ws, m, hk1 _ _ hb', (hp b pb).1, (hh b).1 pb, rb⟩
    · rename_i hA hB
      have own1 : ∀ {j : Nat} {x : Str} {es : List D}, vs[j]? = some x → ρ0[j]? = some (.own es) → Holds c h1 x (.ref a') → ∃ q : Nat, ps[q]? = some x ∧ us[q]? = some (Value.ref a') ∧ p a' := fun {j x es} hx hr hh' => by
        rcases hρ j x _ hx hr with e | ⟨_, _, _, _, _, _, e⟩ | ⟨q, b, ds, ws, m, hj, hq, hv, e, pb, _, _⟩
        · cases e
        · cases e
        · have hmem : (x, Value.ref b) ∈ ps.zip us := List.mem_of_getElem? (i := q) (by rw [List.getElem?_zip_eq_some]; exact ⟨hq, hv⟩)
          have hk := c.loc j x hj hx
          have := Holds.unique hh' (.inl ⟨hk, _, X.toInCall.ns, bindL_get hk (by rw [hz]; exact k10) hmem⟩)
          cases this
          exact ⟨q, hq, hv, pb⟩
      obtain ⟨q1, p1, u1, pp⟩ := own1 hx h1' hA
      obtain ⟨q2, p2, u2, _⟩ := own1 hy h2' hB
      have := hdis q1 q2 a' u1 u2 pp
      subst this
      rw [p1] at p2; cases p2
      exact nodup_ne k7 hx hy hij rfl
  refine h c rfl ⟨eF.trans (by rw [eL]), l, by show A.frames.map _ = _; rw [hl]; rfl⟩ (ok.handled (Nat.succ_pos n)) f _ _ _ g fun fl f' s' ⟨v, e, _, rv, st'⟩ => ?_
  subst e
  exact k v f' s' st' rv
theorem Step.unhide {f f' : PH} {s s' : Shared} (st : Step f { s with heap := hideP s.heap fun _ => False } f' s') : Step f s f' s' := by
  have hh := hideP_get s.heap fun _ => False
  exact ⟨st.sub, st.inn, fun b o e => st.ext b o (((hh b).2 id).trans e), fun b o e => (st.new b o e).imp id fun q => ((hh b).2 id).symm.trans q, st.toks, st.os, st.gens⟩
theorem spec_fr {n : Nat} {a : Addr} {name : Str} {params : Arguments} {body : List Stmt} {scope : Scope} {ps : List Str} {ds : List D} {d : D} {ρ0 : List AV} (rest : List Str) (nl : Nat) (gs : List Str) (hF : FnAt G a name params body scope) (hN : G.NoLimit)
    (hok : okScope scope ps (ps ++ rest) nl gs = true) (hps : ps.length = ds.length)
    (hb : ∀ (us : List Value) doc pm an cdv ct, us.length = ps.length → bindArgs (fnOf name name params body scope .none .none doc pm an cdv ct) ⟨us, []⟩ = pure (ps.zip us))
    (hρ : ρ0 = ds.map AV.dat ++ rest.map fun _ => AV.undef)
    (h : ∀ c : Cx prog w G (ps ++ rest) nl true gs, c.n = n → Frm c → c.A.handled = none → Ex c ρ0 body (.ret d)) : CallsTo prog w G (n + 1) a ds d := fun A f s us Q E ok hG i ht r k =>
  call_own (ps ++ rest) nl gs hF hN hok hb h ok hG i ht (r.length.trans hps.symm) (fun _ => False) (fun _ q => q.elim) (fun j x av hx hr => by
    subst hρ
    rcases Nat.lt_or_ge j ps.length with hj | hj
    · have hj' : j < ds.length := hps ▸ hj
      rw [List.getElem?_append_left hj] at hx
      rw [List.getElem?_append_left (by simpa using hj')] at hr
      rw [List.getElem?_map, List.getElem?_eq_getElem hj'] at hr
      obtain ⟨v, hv, rv⟩ := r.get (List.getElem?_eq_getElem hj')
      exact .inr (.inl ⟨j, ds[j], v, hx, hv, rv, (Option.some.inj hr).symm⟩)
    · rw [List.getElem?_append_right (by simpa [← hps] using hj)] at hr
      rw [List.getElem?_map] at hr
      cases hq : rest[j - (ds.map AV.dat).length]? with
      | none => rw [hq] at hr; cases hr
      | some z => rw [hq] at hr; exact .inl (Option.some.inj hr).symm) (fun _ _ _ _ _ q => q.elim) fun v f' s' st rv => k v f' s' st.unhide rv
end
end Mine
end
section
set_option autoImplicit false
set_option Elab.async false
set_option linter.unusedVariables false
set_option linter.unusedSimpArgs false
open PySem PySem.W PyProof.Rows PySem.Calls
namespace Mine
def RsC (f : PH) (h0 h : Heap) (x : Addr) (X a0 : Value) : Prop := f x = none ∧ h0.get? x = none ∧ ∃ oe vs T oT ts k, h.get? x = some oe ∧ oe.cls = X ∧ oe.data = .fields vs ∧ vs.size = 6 ∧ vs[0]? = some a0 ∧ vs[1]? = some (.ref T) ∧ vs[2]? = some k ∧
  T ≠ x ∧ h.get? T = some oT ∧ oT.data = .fields ts ∧ ts[3]? = some .none ∧ f T = none ∧ h0.get? T = none
section
variable {prog : Program} {w : World} {G : Heap}
theorem call_raise {X : Value} {P : PH → Value → Prop} {n : Nat} {a : Addr} {name : Str} {params : Arguments} {body : List Stmt} {scope : Scope} {ps : List Str} {ρ0 ρ' : List AV} (vs : List Str) (nl : Nat) (gs : List Str) (hF : FnAt G a name params body scope) (hN : G.NoLimit)
    (hok : okScope scope ps vs nl gs = true)
    (hb : ∀ (us : List Value) doc pm an cdv ct, us.length = ps.length → bindArgs (fnOf name name params body scope .none .none doc pm an cdv ct) ⟨us, []⟩ = pure (ps.zip us))
    (h : ∀ c : Cx prog w G vs nl true gs, c.n = n → Frm c → c.A.handled = none → ∀ (B : Bs c) (f : PH) (s : Shared) (Q : Flow → Shared → Prop) (E : Value → Shared → Prop), Good c B ρ0 f s →
      (∀ x f' s' a0, Sub f f' → Good c B ρ' f' s' → (∃ k, TB B f' s'.heap x X k none) → X0 s'.heap x a0 → P f' a0 → E (.ref x) s') → wpAny (model prog w) c.A (execs body c.env) Q E s)
    {A : Around} {f : PH} {s : Shared} {us : List Value} {Q E : Value → Shared → Prop} (ok : AOK A (n + 1) f s.heap) (hG : Sub G.get? f) (i : Inn f s.heap) (ht : 0 ≤ s.toks) (hul : us.length = ps.length)
    (p : Addr → Prop) (hp : ∀ b, p b → f b = none ∧ ∃ vs n, s.heap.get? b = some (lobj vs n))
    (hρ : ∀ (i : Nat) x av, vs[i]? = some x → ρ0[i]? = some av → av = .undef ∨ (∃ (j : Nat) (d : D) (v : Value), ps[j]? = some x ∧ us[j]? = some v ∧ Rep f v d ∧ av = .dat d) ∨
      ∃ (j : Nat) (b : Addr) (ds : List D) (vs : List Value) (n : Nat), i < nl ∧ ps[j]? = some x ∧ us[j]? = some (.ref b) ∧ av = .own ds ∧ p b ∧ s.heap.get? b = some (lobj vs n) ∧ Reps f vs ds)
    (hdis : ∀ (j j' : Nat) (b : Addr), us[j]? = some (.ref b) → us[j']? = some (.ref b) → p b → j = j')
    (k : ∀ x f' s' a0, Step f { s with heap := hideP s.heap p } f' s' → RsC f' (hideP s.heap p) s'.heap x X a0 → P f' a0 → E (.ref x) s') : wpAny (model prog w) A (call (.ref a) us []) Q E s := by
  simp only [okScope, Bool.and_eq_true, decide_eq_true_eq, Bool.not_eq_true', List.all_eq_true] at hok
  obtain ⟨⟨⟨⟨⟨⟨⟨⟨⟨⟨k1, k2⟩, k3⟩, k4⟩, k5⟩, k6⟩, k7⟩, k8⟩, k9⟩, k10⟩, k11⟩ := hok
  obtain ⟨oc', od, osl, doc, pm, an, cdv, ct, hg, hcd⟩ := hF
  have keepG : ∀ b o, G.get? b = some o → s.heap.get? b = some o := fun b o e => i b o (hG b o e)
  refine wpAny_call (codeAny_call_function ok.room (keepG _ _ hg) rfl k3 k2 rfl (hcd.keeps keepG) ?_)
  rw [hb us doc pm an cdv ct hul]
  refine wpAny_pure ?_
  refine wpAny_with_toks (Nat.le_refl _) ?_
  have hz : (ps.zip us).map (·.1) = ps := by rw [List.map_fst_zip]; omega
  have hkind : ∀ y ∈ ps.zip us, scope.names.lookup y.1 = some .local ∨ (scope.names.lookup y.1 = some .cell ∧ ((cellsFrom (s.heap.objs.size + 1) scope.names []).lookup y.1).isSome = true) := fun y hy => by
    have hm : y.1 ∈ ps := by rw [← hz]; exact List.mem_map_of_mem hy
    have hv : y.1 ∈ vs := by simpa using k11 _ hm
    obtain ⟨j, hj⟩ := List.mem_iff_getElem?.mp hv
    by_cases hl : j < nl
    · exact .inl (k4 _ (take_get hl hj))
    · have := k5 _ (drop_get (Nat.le_of_not_lt hl) hj)
      exact .inr ⟨this, cellsFrom_some _ _ _ (.inl this)⟩
  refine wpAny_newFunctionEnv_cells k1 hkind fun env he s1 X tk => ?_
  subst he
  have hk1 := X.toInCall.keep
  refine ⟨(hN.keeps keepG).keeps hk1, codeAny_func ?_⟩
  generalize henv : newEnv _ _ _ _ _ _ _ _ _ = env at X ⊢
  have eL : env.locals = s.heap.objs.size := by rw [← henv]; rfl
  have eS : env.scope = scope := by rw [← henv]; rfl
  have eF : env.frame = some s.heap.objs.size := by rw [← henv]; rfl
  have eC : env.cells = cellsFrom (s.heap.objs.size + 1) scope.names [] := by rw [← henv]; rfl
  have eK : ∀ x, env.kindOf x = scope.names.lookup x := fun x => by unfold Env.kindOf; rw [eS]
  have nL : s.heap.get? env.locals = none := by rw [eL]; exact get_size_none _
  obtain ⟨h1, tk1, e1⟩ := X.toInCall.same
  subst e1
  have nC : ∀ x ca, env.cells.lookup x = some ca → s.heap.get? ca = none := fun x ca hca => by
    have := X.above x ca (PySem.mem_of_lookup hca)
    rw [eL] at this
    exact Heap.get?_none_of_le (Nat.le_of_lt this)
  let c : Cx prog w G vs nl true gs := {
    A := A.deeper env, env := env, n := n
    kind := by rw [eS]; exact k1
    glo := by rw [← henv]; rfl
    bui := by rw [← henv]; rfl
    loc := fun j x hj hx => by rw [eK]; exact k4 _ (take_get hj hx)
    cel := fun j x hj hx => by
      have := k5 _ (drop_get hj hx)
      refine ⟨.inl (by rw [eK]; exact this), ?_⟩
      rw [eC]
      exact Option.isSome_iff_exists.mp (cellsFrom_some _ _ _ (.inl this))
    own := fun _ j x hj hx => by rw [eK]; exact k5 _ (drop_get hj hx)
    glob := fun x hx => by rw [eK]; exact k6 x hx
    nodup := k7
    nodeb := fun x hx => by simpa using k8 x hx
    nocd := fun x hx => by simpa using k9 x hx
    inj := fun x y ca hx hy => PySem.name_of_addr X.apart (PySem.mem_of_lookup hx) (PySem.mem_of_lookup hy)
    }
  have hh := hideP_get s.heap p
  have hid0 : ∀ b, s.heap.get? b = none → (hideP s.heap p).get? b = none := fun b e => by
    by_cases q : p b
    · exact (hh b).1 q
    · rw [(hh b).2 q]; exact e
  let B : Bs c := { f0 := f, s0 := { s with heap := hideP s.heap p }, gsub := hG, tok0 := ht, newL := hid0 _ nL, ownc := fun _ x ca hca => hid0 _ (nC x ca hca) }
  have st1 : Step f s f { s with heap := h1, toks := tk1 } := Step.same' i hk1 tk
  have st0 : Step f { s with heap := hideP s.heap p } f s := ⟨.refl f, i, fun b o e => by
    by_cases q : p b
    · rw [show (hideP s.heap p).get? b = none from (hh b).1 q] at e; cases e
    · exact ⟨o.slots, ((hh b).2 q).symm.trans e, fun _ => rfl⟩, fun _ _ e => .inl e, Nat.le_refl _, rfl, rfl⟩
  have st : Step f { s with heap := hideP s.heap p } f { s with heap := h1, toks := tk1 } := st0.trans st1
  obtain ⟨l, hl, hFF⟩ := ok.frames
  have g : Good c B ρ0 f { s with heap := h1, toks := tk1 } := by
    refine ⟨st, ⟨fun _ => ok.handled (Nat.succ_pos n), ?_, ?_, ⟨env :: l, ?_, ?_⟩⟩, ⟨_, X.toInCall.ns⟩, ?_, fun x ca hca => ⟨?_, _, X.cell x ca hca⟩, fun j x av hx hav => ?_, fun j1 j2 x y es1 es2 a' hij hx hy h1' h2' _ _ => ?_⟩
    · have := ok.depth; show A.depth + 1 + n < 900; omega
    · have := ok.units; show A.units + 3 + 10 * n < 9000; omega
    · show A.frames.map _ = _; rw [hl]; rfl
    · intro env' he'
      rcases List.mem_cons.mp he' with rfl | he'
      · obtain ⟨o, es, ep, eo, hd, _⟩ := X.toInCall.ns
        refine ⟨by rw [eS, k1]; decide, _, o, eF, i.none_of (get_size_none _), eL ▸ eo, ⟨es, ep, hd⟩⟩
      · exact hFF.step st1 env' he'
    · exact i.none_of nL
    · exact i.none_of (nC x ca hca)
    · rcases hρ j x av hx hav with rfl | ⟨q, d', v, hq, hv, rv, rfl⟩ | ⟨q, b, ds, ws, m, hj, hq, hv, rfl, pb, hb', rb⟩
      · trivial
      · have hmem : (x, v) ∈ ps.zip us := List.mem_of_getElem? (i := q) (by rw [List.getElem?_zip_eq_some]; exact ⟨hq, hv⟩)
        refine ⟨v, ?_, rv⟩
        by_cases hj : j < nl
        · have hk := c.loc j x hj hx
          exact .inl ⟨hk, _, X.toInCall.ns, bindL_get hk (by rw [hz]; exact k10) hmem⟩
        · have hk := c.own rfl j x (Nat.le_of_not_lt hj) hx
          obtain ⟨_, ca, hca⟩ := c.cel j x (Nat.le_of_not_lt hj) hx
          refine .inr ⟨.inl hk, ca, hca, ?_⟩
          have := X.cell x ca hca
          rw [bindC_get hk (by rw [hz]; exact k10) hmem] at this
          exact this
      · have hmem : (x, Value.ref b) ∈ ps.zip us := List.mem_of_getElem? (i := q) (by rw [List.getElem?_zip_eq_some]; exact ⟨hq, hv⟩)
        have hk := c.loc j x hj hx
        exact ⟨b, .inl ⟨hk, _, X.toInCall.ns, bindL_get hk (by rw [hz]; exact k10) hmem⟩, ws, m, hk1 _ _ hb', (hp b pb).1, (hh b).1 pb, rb⟩
    · rename_i hA hB
      have own1 : ∀ {j : Nat} {x : Str} {es : List D}, vs[j]? = some x → ρ0[j]? = some (.own es) → Holds c h1 x (.ref a') → ∃ q : Nat, ps[q]? = some x ∧ us[q]? = some (Value.ref a') ∧ p a' := fun {j x es} hx hr hh' => by
        rcases hρ j x _ hx hr with e | ⟨_, _, _, _, _, _, e⟩ | ⟨q, b, ds, ws, m, hj, hq, hv, e, pb, _, _⟩
        · cases e
        · cases e
        · have hmem : (x, Value.ref b) ∈ ps.zip us := List.mem_of_getElem? (i := q) (by rw [List.getElem?_zip_eq_some]; exact ⟨hq, hv⟩)
          have hk := c.loc j x hj hx
          have := Holds.unique hh' (.inl ⟨hk, _, X.toInCall.ns, bindL_get hk (by rw [hz]; exact k10) hmem⟩)
          cases this
          exact ⟨q, hq, hv, pb⟩
      obtain ⟨q1, p1, u1, pp⟩ := own1 hx h1' hA
      obtain ⟨q2, p2, u2, _⟩ := own1 hy h2' hB
      have := hdis q1 q2 a' u1 u2 pp
      subst this
      rw [p1] at p2; cases p2
      exact nodup_ne k7 hx hy hij rfl
  have hFc : Frm c := ⟨eF.trans (by rw [eL]), l, by show A.frames.map _ = _; rw [hl]; rfl⟩
  refine h c rfl hFc (ok.handled (Nat.succ_pos n)) B f _ _ _ g fun x f' s' a0 sb g' ⟨k0, t0⟩ x0 hp' => ?_
  show wpAny (model prog w) c.A (leaving c.env (.ref x)) _ _ s'
  unfold leaving
  refine wpAny_bind (TB.note0 g' hFc t0 x0 fun s2 g2 t2 x2 => TB.fly0 g2 t2 x2 fun s3 g3 t3 x3 => ?_)
  refine k x f' s3 a0 g3.st ?_ hp'
  obtain ⟨fx, bx, oe, vs', he, hc', hd, hs, h2, ht'⟩ := t3
  obtain ⟨oe', vs2, e1, e2, e3⟩ := x3
  rw [he] at e1; cases e1
  rw [hd] at e2; cases e2
  rcases ht' with ⟨q, _⟩ | ⟨fl', T, oT, ts, q, h1, hTx, hT, hdT, h3, fT, bT⟩
  · cases q
  cases q
  exact ⟨fx, bx, oe, vs', T, oT, ts, k0, he, hc', hd, hs, e3, h1, h2, hTx, hT, hdT, h3, fT, bT⟩
end
end Mine
end
section
set_option autoImplicit false
set_option Elab.async false
set_option linter.unusedVariables false
set_option linter.unusedSimpArgs false
open PySem PySem.W PyProof.Rows PySem.Calls
namespace Mine
section
variable {prog : Program} {w : World} {G : Heap} {vs : List Str} {nl : Nat} {oc : Bool} {gs : List Str} {c : Cx prog w G vs nl oc gs} {B : Bs c} {ρ : List AV}
theorem entry0 {a0 head : Value} {hadNext : Bool} {f : PH} {s : Shared} {x : Addr} {X k : Value} {Q : Unit → Shared → Prop} {E : Value → Shared → Prop} (g : Good c B ρ f s) (hF : Frm c) (fx : f x = none) (bx : B.s0.heap.get? x = none) {oe : Obj} {vs' : Array Value} (he : s.heap.get? x = some oe) (hc : oe.cls = X) (hd : oe.data = .fields vs') (hs : vs'.size = 6) (h2 : vs'[2]? = some k) (x0 : vs'[0]? = some a0)
    (h : ∀ s', Good c B ρ f s' → TB B f s'.heap x X k (some (rawInt c.env.locals)) → X0 s'.heap x a0 → Q () s') : wpAny (model prog w) c.A (do let a ← frameOf c.env; let pl ← entryPlaceOf c.env.locals hadNext; let b ← EntryCells.newEntry head a .none (rawInt c.env.locals) .none pl; setField (.ref x) 1 b) Q E s := by
  obtain ⟨hfr0, l, hfr⟩ := hF
  obtain ⟨l', hl', hFF⟩ := g.aok.frames
  rw [hfr] at hl'; cases hl'
  refine wpAny_bind (wpAny_frameOf_fun (base := {}) hfr (funFr hFF) hfr0 fun h₁ hs₁ => ?_)
  refine wpAny_bind (wpAny_entryPlaceOf fun pl hpl => ?_)
  unfold EntryCells.newEntry newFields
  refine wpAny_bind (wpAny_newObj_type ?_ (hpl.sizeOk5 _ _ _ _ _))
  have hmem : ∀ b, b ∈ (c.env :: l).filterMap (·.frame) → f b = none ∧ ∃ o, s.heap.get? b = some o ∧ ∃ es ep, o.data = .dict es ep := fun b hb => by
    obtain ⟨env, hem, hfb⟩ := List.mem_filterMap.mp hb
    obtain ⟨_, L, o, hL, fL, ho, hdo⟩ := hFF env hem
    rw [hfb] at hL; cases hL
    exact ⟨fL, o, ho, hdo⟩
  have hxn : x ∉ (c.env :: l).filterMap (·.frame) := fun hm => by
    obtain ⟨_, o, ho, es, ep, hdo⟩ := hmem x hm
    rw [he] at ho; cases ho; rw [hd] at hdo; cases hdo
  have he₁ : h₁.get? x = some oe := (hs₁.2.1 x hxn).trans he
  have hsize : h₁.objs.size = s.heap.objs.size := hs₁.1
  have he₂ := Heap.get?_push_of_some (h := h₁) { cls := .type "traceback", dict := none, data := .fields ([head, .ref c.env.locals, .none, rawInt c.env.locals, .none] ++ (if pl.isEmpty then List.replicate 6 Value.none else pl)).toArray } he₁
  refine wpAny_setField he₂ hd (by first | assumption | exact Nat.le_trans (by assumption) (by decide) | omega) ?_
  have hTe : h₁.objs.size ≠ x := Nat.ne_of_gt (Heap.lt_size he₁)
  have hd₃ := Obj.data_mapFields hd (·.setIfInBounds 1 (Value.ref h₁.objs.size))
  have he₃ := Heap.get?_update_self (Obj.mapFields (·.setIfInBounds 1 (Value.ref h₁.objs.size))) he₂ (Obj.isFreed_of_fields hd₃)
  have hT₃ := (Heap.get?_update_other (h₁.push { cls := .type "traceback", dict := none, data := .fields ([head, .ref c.env.locals, .none, rawInt c.env.locals, .none] ++ (if pl.isEmpty then List.replicate 6 Value.none else pl)).toArray })
    (Obj.mapFields (·.setIfInBounds 1 (Value.ref h₁.objs.size))) (Ne.symm hTe)).trans (Heap.get?_push_size h₁ rfl)
  have hTn : s.heap.get? h₁.objs.size = none := by rw [hsize]; exact get_size_none _
  refine h _ (g.butE (wr := [x]) (k := s.toks) (fun b o hb e => ?_) (Nat.le_refl _) fun b hb => ?_) ⟨fx, bx, _, _, he₃, by rw [Obj.cls_mapFields]; exact hc, hd₃, by simp [hs], by rw [Array.getElem?_setIfInBounds_ne (by decide)]; exact h2,
    .inr ⟨_, h₁.objs.size, _, _, rfl, by simp [hs], hTe, hT₃, rfl, by simp, g.inn.none_of hTn, g.st.ext.gone hTn⟩⟩ ?_
  · have hbx : b ≠ x := by simpa using hb
    have fin : ∀ o', h₁.get? b = some o' → ((h₁.push { cls := .type "traceback", dict := none, data := .fields ([head, .ref c.env.locals, .none, rawInt c.env.locals, .none] ++ (if pl.isEmpty then List.replicate 6 Value.none else pl)).toArray }).update x (Obj.mapFields (·.setIfInBounds 1 (Value.ref h₁.objs.size)))).get? b = some o' := fun o' e' =>
      (Heap.get?_update_other _ _ (Ne.symm hbx)).trans (Heap.get?_push_of_some _ e')
    by_cases hm : b ∈ (c.env :: l).filterMap (·.frame)
    · obtain ⟨fb, o', ho', hdo⟩ := hmem b hm
      rw [e] at ho'; cases ho'
      obtain ⟨sl, e1⟩ := hs₁.2.2 b o e
      exact .inr ⟨fb, hdo, sl, fin _ e1⟩
    · exact .inl (fin _ ((hs₁.2.1 b hm).trans e))
  · rw [List.mem_singleton.mp hb]
    exact ⟨fx, bx, oe, he, fieldsFree hd⟩
  · exact ⟨_, _, he₃, hd₃, by rw [Array.getElem?_setIfInBounds_ne (by decide)]; exact x0⟩
theorem TB.noteOn {a0 : Value} {f : PH} {s : Shared} {x : Addr} {X k : Value} {Q : Unit → Shared → Prop} {E : Value → Shared → Prop} (g : Good c B ρ f s) (hF : Frm c) (T0 : TB B f s.heap x X k (some .none)) (x0 : X0 s.heap x a0)
    (h : ∀ s', Good c B ρ f s' → TB B f s'.heap x X k (some (rawInt c.env.locals)) → X0 s'.heap x a0 → Q () s') : wpAny (model prog w) c.A (noteFrame (.ref x) c.env) Q E s := by
  obtain ⟨fx, bx, oe, vs', he, hc, hd, hs, h2, ht⟩ := T0
  rcases ht with ⟨q, _⟩ | ⟨fl', T, oT, ts, q, h1, hTx, hT, hdT, h3, fT, bT⟩
  · cases q
  cases q
  obtain ⟨oe', vs2, e1, e2, e3⟩ := x0
  rw [he] at e1; cases e1
  rw [hd] at e2; cases e2
  unfold noteFrame
  simp only [hF.1]
  refine wpAny_bind (wpAny_field he hd h1 ?_)
  rw [if_pos (show (Value.ref T != Value.none) = true from by simp)]
  refine wpAny_bind (wpAny_field hT hdT h3 ?_)
  rw [if_neg (show ¬ ((Value.none == rawInt c.env.locals) = true) from by simp [rawInt])]
  refine wpAny_bind (wpAny_setField hT hdT (Array.getElem?_eq_some_iff.mp h3).1 ?_)
  have other : ∀ b, b ≠ T → (s.heap.update T (Obj.mapFields (·.setIfInBounds 3 Value.none))).get? b = s.heap.get? b := fun b hb => Heap.get?_update_other _ _ (Ne.symm hb)
  have g1 : Good c B ρ f { s with heap := s.heap.update T (Obj.mapFields (·.setIfInBounds 3 Value.none)), toks := s.toks } := g.butE (wr := [T]) (k := s.toks) (fun b o hb e => .inl ((other b (by simpa using hb)).trans e)) (Nat.le_refl _) fun b hb => by
    rw [List.mem_singleton.mp hb]
    exact ⟨fT, bT, oT, hT, fieldsFree hdT⟩
  exact entry0 g1 hF fx bx ((other x (Ne.symm hTx)).trans he) hc hd hs h2 e3 h
end
end Mine
end
section
set_option autoImplicit false
set_option Elab.async false
set_option linter.unusedVariables false
set_option linter.unusedSimpArgs false
set_option maxRecDepth 100000
open PySem PySem.W PyProof.Rows PySem.Calls
namespace Mine
section
variable {prog : Program} {w : World} {A : Around} {E : Value → Shared → Prop} {s : Shared} {K : Frag} {x C : Addr}
theorem entry_bstr (t : Addr) (v : Value) {l : Str} {tk : Tok} {oe ot : Obj} {vs : Array Value} {m : Nat} {Q : Fin → Shared → Prop} (he : s.heap.get? x = some oe) (hd : oe.data = .fields vs) (h0 : vs[0]? = some (.ref t)) (ht : s.heap.get? t = some ot) (htd : ot.data = .seq #[.str l tk] m)
    (hq : Q (.done (.ret (.str l tk))) s) : wpAny (model prog w) A (Builtin.«BaseException.__str__» ⟨[.ref x], []⟩) Q E s := by
  have hb : ∀ {Q' : Value × List Value → Shared → Prop} {A : Around} {E : Value → Shared → Prop}, Q' (.ref t, [.str l tk]) s → wpAny (model prog w) A (PySem.Builtin.BaseException.bexcArgs (.ref x)) Q' E s := fun {Q' A E} q => by
    unfold PySem.Builtin.BaseException.bexcArgs
    exact wpAny_bind (wpAny_field he hd h0 (wpAny_bind (wpAny_seqItems ht htd (wpAny_pure q))))
  unfold Builtin.«BaseException.__str__»
  repeat (first | with_reducible refine hb ?_ | wp_step)
  exact hq
theorem looks_ty {oe : Obj} (he : s.heap.get? x = some oe) (hc : oe.cls = .ref C) : Looks (model prog w) s.heap (typeOf (.ref x)) (.ref C) := hc ▸ (Looks.ld he).andThen .now
theorem special_b {name : Str} {id : String} {args : List Value} {Q : Option Value → Shared → Prop} (X : K.In s.heap) (I : Looks (model prog w) s.heap (typeOf (.ref x)) (.ref C)) (hs : findIn K (.ref C) name = some (some (.builtin id)))
    (hb : ∀ self, bindSpecial (.builtin id) self = pure (.builtin id, [self])) (h : wpAny (model prog w) A (call (.builtin id) (.ref x :: args)) (fun v => Q (some v)) E s) : wpAny (model prog w) A (callSpecial? (.ref x) name args) Q E s :=
  wpAny_bind (wpAny_bind (I.here ((looks_findIn X hs).here (wpAny_holding (wpAny_bind ((Looks.of_pure (hb _)).here (wpAny_bind (wpAny_mono h (fun _ _ z => wpAny_pure z) fun _ _ z => z))))))))
open Builtin in
theorem str_own {t : Addr} {l : Str} {tk : Tok} {oe ot : Obj} {vs : Array Value} {m : Nat} {Q : Value → Shared → Prop} (hu : A.in1.in1.units < cLine) (X : K.In s.heap) (hs : findIn K (.ref C) "__str__" = some (some (.builtin "BaseException.__str__")))
    (hm : mroIn K C (.type "BaseException") = some true) (hc : oe.cls = .ref C)
    (he : s.heap.get? x = some oe) (hd : oe.data = .fields vs) (h0 : vs[0]? = some (.ref t)) (ht : s.heap.get? t = some ot) (htd : ot.data = .seq #[.str l tk] m)
    (hq : Q (.str l tk) s) : wpAny (model prog w) A (call (.type "str") [.ref x]) Q E s := by
  have LT := looks_ty (prog := prog) (w := w) he hc
  refine callType_codes (T := "str") (Bi := Builtin.«object.__init__») (Q₁ := fun r s₁ => ∃ y u, r = .str y u ∧ Q r s₁) PySem.F.called_str (PySem.F.typeCall_str_1 _) PySem.F.entry_object_init ?_ ?_
  · refine codeAny_of_tree ?_
    show wpAny _ A.in1.in1 (do checkBuiltinCall "str.__new__" ⟨[.type "str", .ref x], []⟩; again (.builtin "str.__new__" ⟨[.type "str", .ref x], []⟩)) _ _ s
    refine wpAny_bind (wpAny_of_eq (PySem.F.newCall_str_1 _) (wpAny_pure ⟨plainId_quiet (by decide +kernel) _, codeAny_builtin PySem.F.entry_str_new ?_⟩))
    rw [Around.under_plainId (by decide +kernel) _]
    rw [str_new_tree]
    refine wpAny_bind (wpAny_pure ?_)
    refine wpAny_bind (wpAny_of_eq isSubtype_str_str ?_)
    refine wpAny_bind ?_
    unfold PySem.Builtin.Str.strOf
    rw [show PySem.Builtin.Str.isExactStr (.ref x) = false from rfl]
    refine wpAny_bind (m := cRoomFor _ _) (wpAny_cRoomFor hu ?_)
    refine wpAny_bind (m := callSpecial? (.ref x) (Str.ofString "__str__")) (special_b X LT hs (fun self => F.excStr_TypeError.str.bind self) ?_)
    refine wpAny_call (codeAny_call_builtin F.excStr_TypeError.str.plain F.entry_bexc_str (check_slot (i := "BaseException.__str__") (owner := "BaseException") (n := "__str__") (by decide +kernel) (by decide +kernel) (LT.andThen (looks_mroIn X hm)) (F.args_bexc_str _) ?_))
    refine entry_bstr t (.ref t) he hd h0 ht htd ?_
    exact wpAny_pure (wpAny_pure ⟨_, _, rfl, hq⟩)
  · rintro obj s₁ ⟨y, u, rfl, hq⟩
    exact ⟨typeIs_str _ _ _, PySem.F.args_object_init_2 _ _, object_init_meets PySem.F.called_str.init.lookup PySem.F.called_str.made (by decide) prog w A.in1 _ s₁ ⟨typeIs_str _ _ _, rfl, hq⟩⟩
end
end Mine
end
section
set_option autoImplicit false
set_option Elab.async false
set_option linter.unusedVariables false
set_option linter.unusedSimpArgs false
open PySem PySem.W PyProof.Rows PySem.Calls
namespace Mine
def stm (i : Nat) : Stmt := (PySem.Challenge.pw_ik0188_01.main.body[i]?).getD (.Pass default)
def fnBody : Stmt → List Stmt
  | .FunctionDef _ _ b _ _ _ _ _ _ _ => b
  | _ => []
def fnParams : Stmt → Arguments
  | .FunctionDef _ a _ _ _ _ _ _ _ _ => a
  | _ => default
def fnScope : Stmt → Scope
  | .FunctionDef _ _ _ _ _ _ s _ _ _ => s
  | _ => default
def FnM (G : Heap) (name : Str) (i : Nat) : Prop := ∃ a, IsM G name (.ref a) ∧ FnAt G a name (fnParams (stm i)) (fnBody (stm i)) (fnScope (stm i))
theorem IsM.unique {G : Heap} {x : Str} {v v' : Value} (h : IsM G x v) (h' : IsM G x v') : v = v' := by
  obtain ⟨m, e, q⟩ := h
  obtain ⟨m', e', q'⟩ := h'
  rw [Ns.unique e e', q'] at q
  exact (Option.some.inj q).symm
structure W0 (G : Heap) : Prop where
  noLimit : G.NoLimit
  len : IsB G "len" (.builtin "len")
  sorted : IsB G "sorted" (.builtin "sorted")
  isinstance : IsB G "isinstance" (.builtin "isinstance")
  issubclass : IsB G "issubclass" (.builtin "issubclass")
  range : IsB G "range" (.type "range")
  list : IsB G "list" (.type "list")
  zip : IsB G "zip" (.type "zip")
  type : IsB G "type" (.type "type")
  str : IsB G "str" (.type "str")
  bytes : IsB G "bytes" (.type "bytes")
  indexError : IsB G "IndexError" (.type "IndexError")
  valueError : IsB G "ValueError" (.type "ValueError")
  parse257 : FnM G "parse257" 4
  fspath : FnM G "fspath" 13
  getsep : FnM G "_get_sep" 17
  join : FnM G "join" 18
  splitroot : FnM G "splitroot" 19
  normpath : FnM G "normpath" 20
  sld : FnM G "sorted_list_difference" 22
  uld : FnM G "unorderable_list_difference" 23
  path : FnM G "_law_path" 25
  walk : FnM G "_law_walk" 26
  answer : FnM G "_law_answer" 27
  hear : FnM G "_law_hear" 28
  client : FnM G "_law_client" 29
  due : FnM G "_law_due" 30
  only : FnM G "_law_only" 31
  exc : ∃ (K : Frag) (C : Addr) (mg : Str → Option Value), K.In G ∧ G.Ns mainGlobals mg ∧ OwnClsQ "error_reply" C [.type "Exception", .type "BaseException", .type "object"] "Exception.__new__" mg G ∧ findIn K (.ref C) "__str__" = some (some (.builtin "BaseException.__str__")) ∧ mroIn K C (.type "BaseException") = some true
section
variable (prog : Program) (w : World) (G : Heap)
def Spec (name : Str) (n : Nat) (ds : List D) (d : D) : Prop := ∀ a, IsM G name (.ref a) → CallsTo prog w G n a ds d
end
section
variable {prog : Program} {w : World} {G : Heap} {vs : List Str} {nl : Nat} {oc : Bool} {gs : List Str} {c : Cx prog w G vs nl oc gs} {ρ : List AV}
theorem Ev.callN {name : Str} {i : Nat} {p : Pos} {es : List Expr} {pos : Pos} {ds : List D} {d : D} {m : Nat} (hF : FnM G name i) (hx : name ∈ gs)
    (ha : EvA c ρ es ds) (h : Spec prog w G name m ds d) (hm : m ≤ c.n)
    (hc : ∀ env, eval (.Call (.Name name p) es [] pos) env = (do callWith pos (← eval (.Name name p) env) [] (backTo pos (starEach es env)) (backToKw pos (keywordEach [] env))) := by intro _; rfl) :
    Ev c ρ (.Call (.Name name p) es [] pos) d := by
  obtain ⟨a, hM, hA⟩ := hF
  exact Ev.callF (EvG.m hM hx) hA ha (h a hM) hm hc
theorem spec_body {n i : Nat} {name : Str} {ps : List Str} {ds : List D} {d : D} (ρ0 : List AV) (vs : List Str) (nl : Nat) (gs : List Str) (hF : FnM G name i) (hN : G.NoLimit)
    (hok : okScope (fnScope (stm i)) ps vs nl gs = true) (hps : ps.length = ds.length)
    (hb : ∀ (us : List Value) doc pm an cdv ct, us.length = ps.length → bindArgs (fnOf name name (fnParams (stm i)) (fnBody (stm i)) (fnScope (stm i)) .none .none doc pm an cdv ct) ⟨us, []⟩ = pure (ps.zip us))
    (hρ : ∀ (i : Nat) x av, vs[i]? = some x → ρ0[i]? = some av → av = .undef ∨ ∃ (j : Nat) (d : D), ps[j]? = some x ∧ ds[j]? = some d ∧ av = .dat d)
    (h : ∀ c : Cx prog w G vs nl true gs, c.n = n → Ex c ρ0 (fnBody (stm i)) (.ret d)) : Spec prog w G name (n + 1) ds d := fun a ha => by
  obtain ⟨a', hM, hA⟩ := hF
  have := ha.unique hM
  cases this
  exact callsTo_body vs nl gs hA hN hok hps (fun us dV kV doc pm an cdv ct hl e1 e2 s => by subst e1 e2; exact BindsTo.of_eq (hb us doc pm an cdv ct hl)) hρ h
end
theorem spec_pre {prog : Program} {w : World} {G : Heap} {n i : Nat} {name : Str} {ps : List Str} {ds : List D} {d : D} (rest : List Str) (ρ0 : List AV) (nl : Nat) (gs : List Str) (hF : FnM G name i) (hN : G.NoLimit)
    (hok : okScope (fnScope (stm i)) ps (ps ++ rest) nl gs = true) (hps : ps.length = ds.length)
    (hb : ∀ (us : List Value) doc pm an cdv ct, us.length = ps.length → bindArgs (fnOf name name (fnParams (stm i)) (fnBody (stm i)) (fnScope (stm i)) .none .none doc pm an cdv ct) ⟨us, []⟩ = pure (ps.zip us))
    (hρ : ρ0 = ds.map AV.dat ++ rest.map fun _ => AV.undef)
    (h : ∀ c : Cx prog w G (ps ++ rest) nl true gs, c.n = n → Ex c ρ0 (fnBody (stm i)) (.ret d)) : Spec prog w G name (n + 1) ds d := by
  refine spec_body ρ0 (ps ++ rest) nl gs hF hN hok hps hb (fun j x av hx hr => ?_) h
  subst hρ
  rcases Nat.lt_or_ge j ps.length with hj | hj
  · have hj' : j < ds.length := hps ▸ hj
    rw [List.getElem?_append_left hj] at hx
    rw [List.getElem?_append_left (by simpa using hj')] at hr
    rw [List.getElem?_map, List.getElem?_eq_getElem hj'] at hr
    exact .inr ⟨j, ds[j], hx, List.getElem?_eq_getElem hj', (Option.some.inj hr).symm⟩
  · rw [List.getElem?_append_right (by simpa [← hps] using hj)] at hr
    rw [List.getElem?_map] at hr
    cases hq : rest[j - (ds.map AV.dat).length]? with
    | none => rw [hq] at hr; cases hr
    | some z => rw [hq] at hr; exact .inl (Option.some.inj hr).symm
section
variable {prog : Program} {w : World} {G : Heap} (Z : W0 G)
theorem str_slash : Str.ofString "/" = mk [47] := by decide +kernel
theorem Ev.lit {vs : List Str} {nl : Nat} {oc : Bool} {gs : List Str} {c : Cx prog w G vs nl oc gs} {ρ : List AV} {x : Str} {k : Nat} {pos : Pos} {l : List Nat} (h : x = mk l) : Ev c ρ (.Constant (.str x) k pos) (S l) := h ▸ Ev.str
end
end Mine
end
section
set_option autoImplicit false
set_option Elab.async false
set_option linter.unusedVariables false
set_option linter.unusedSimpArgs false
open PySem PySem.W PyProof.Rows PySem.Calls
namespace Mine
section
variable {prog : Program} {w : World} {G : Heap} (Z : W0 G)
theorem lit_dq : Str.ofString "257" = mk [50, 53, 55] := by decide +kernel
include Z in
theorem getsep_spec (l : List Nat) : Spec prog w G "_get_sep" 2 [S l] (S [47]) := by
  refine spec_pre (ps := ["path"]) [] [.dat (S l)] 1 ["isinstance", "bytes"] Z.getsep Z.noLimit (by decide +kernel) rfl ?_ rfl fun c hn => ?_
  · intro us doc pm an cdv ct hl
    obtain ⟨u, rfl⟩ := len1 hl
    rfl
  · conv => enter [3]; whnf
    exact Ex.one (Ex1.ite (q := false) (Tr.of_ev (Ev.callB (EvG.b Z.isinstance (by decide)) (EvA.cons (Ev.v 0) (Evs.cons (Ev.ty (EvG.b Z.bytes (by decide))) Evs.nil)) CalD.isBytes) TruD.bool)
      (fun h => by cases h) (fun _ => Ex.one (Ex1.ret (Ev.lit (by decide +kernel)))))
include Z in
theorem fspath_spec (l : List Nat) : Spec prog w G "fspath" 2 [S l] (S l) := by
  refine spec_pre (ps := ["path"]) ["kind"] [.dat (S l), .undef] 2 ["type", "issubclass", "str", "bytes"] Z.fspath Z.noLimit (by decide +kernel) rfl ?_ rfl fun c hn => ?_
  · intro us doc pm an cdv ct hl
    obtain ⟨u, rfl⟩ := len1 hl
    rfl
  · conv => enter [3]; whnf
    refine Ex.cons (Ex1.assign 1 (Ev.callT (EvG.b Z.type (by decide)) (EvA.cons (Ev.v 0) Evs.nil) (CalT.type (T := "str") rfl (by decide +kernel))) rfl) ?_
    refine Ex.stop (Ex1.ite (q := true) (Tr.of_ev (Ev.callB (EvG.b Z.issubclass (by decide)) (EvA.cons (Ev.v 1) (Evs.cons (Ev.tuple (Evs.cons (Ev.ty (EvG.b Z.str (by decide))) (Evs.cons (Ev.ty (EvG.b Z.bytes (by decide))) Evs.nil)) (by decide)) Evs.nil)) CalD.issubT) TruD.bool)
      (fun _ => Ex.one (Ex1.ret (Ev.v 0))) (fun h => by cases h)) rfl
def rootOf (l : List Nat) : List Nat × List Nat :=
  if l.take 1 = [47] then (if (l.drop 1).take 1 = [47] ∧ (l.drop 2).take 1 ≠ [47] then (l.take 2, l.drop 2) else ([47], l.drop 1)) else ([], l)
include Z in
theorem splitroot_spec (l : List Nat) (hl : l.length ≤ 1000000) : Spec prog w G "splitroot" 3 [S l] (.tup [S [], S (rootOf l).1, S (rootOf l).2]) := by
  refine spec_pre (ps := ["p"]) ["sep", "empty"] [.dat (S l), .undef, .undef] 3 ["fspath", "isinstance", "bytes"] Z.splitroot Z.noLimit (by decide +kernel) rfl ?_ rfl fun c hn => ?_
  · intro us doc pm an cdv ct hl
    obtain ⟨u, rfl⟩ := len1 hl
    rfl
  · conv => enter [3]; whnf
    refine Ex.cons (Ex1.assign 0 (Ev.callN Z.fspath (by decide) (EvA.cons (Ev.v 0) Evs.nil) (fspath_spec Z l) (by first | exact ar_n hn | exact ar_n2 hc' hn | assumption | exact Nat.le_trans (by assumption) (by decide) | omega)) rfl) ?_
    refine Ex.cons (ρ' := [.dat (S l), .dat (S [47]), .dat (S [])]) (Ex1.ite (q := false) (Tr.of_ev (Ev.callB (EvG.b Z.isinstance (by decide)) (EvA.cons (Ev.v 0) (Evs.cons (Ev.ty (EvG.b Z.bytes (by decide))) Evs.nil)) CalD.isBytes) TruD.bool)
      (fun h => by cases h) (fun _ => Ex.cons (Ex1.assign 1 (Ev.lit (l := [47]) (by decide +kernel)) rfl) (Ex.one (Ex1.assign 2 (Ev.lit (l := []) (by decide +kernel)) rfl)))) ?_
    have e1 : sl none (some 1) l = l.take 1 := sl_to l 1
    have e2 : sl (some 1) (some 2) l = (l.drop 1).take 1 := sl_nat l 1 2
    have e3 : sl (some 2) (some 3) l = (l.drop 2).take 1 := sl_nat l 2 3
    have e4 : sl (some 1) none l = l.drop 1 := sl_from l 1
    have e5 : sl none (some 2) l = l.take 2 := sl_to l 2
    have e6 : sl (some 2) none l = l.drop 2 := sl_from l 2
    refine Ex.one ?_
    refine Ex1.ite (Tr.cmp (Ev.sliceS (Ev.v 0) EvP.nil (EvP.one Ev.int) hl) (Ev.v 1) CmpD.neS) (fun h => ?_) (fun h => ?_)
    · rw [e1] at h
      have hr : rootOf l = ([], l) := by
        unfold rootOf; rw [if_neg (by simpa using h)]
      rw [hr]
      exact Ex.one (Ex1.ret (Ev.tuple (Evs.cons (Ev.v 2) (Evs.cons (Ev.v 2) (Evs.cons (Ev.v 0) Evs.nil))) (by simp)))
    · rw [e1] at h
      have h1 : l.take 1 = [47] := by simpa using h
      refine Ex.one ?_
      refine Ex1.ite (Tr.or2 (Tr.cmp (Ev.sliceS (Ev.v 0) (EvP.one Ev.int) (EvP.one Ev.int) hl) (Ev.v 1) CmpD.neS) fun _ => Tr.cmp (Ev.sliceS (Ev.v 0) (EvP.one Ev.int) (EvP.one Ev.int) hl) (Ev.v 1) CmpD.eqS) (fun h => ?_) (fun h => ?_)
      · rw [e2, e3] at h
        have hr : rootOf l = ([47], l.drop 1) := by
          unfold rootOf; simp only [Bool.or_eq_true, Bool.not_eq_true', decide_eq_false_iff_not, decide_eq_true_eq] at h
          rw [if_pos h1, if_neg fun hh => h.elim (fun q => q hh.1) hh.2]
        rw [hr, ← e4]
        exact Ex.one (Ex1.ret (Ev.tuple (Evs.cons (Ev.v 2) (Evs.cons (Ev.v 1) (Evs.cons (Ev.sliceS (Ev.v 0) (EvP.one Ev.int) EvP.nil hl) Evs.nil))) (by simp)))
      · rw [e2, e3] at h
        have hr : rootOf l = (l.take 2, l.drop 2) := by
          unfold rootOf; rw [if_pos h1, if_pos (by simpa using h)]
        rw [hr, ← e5, ← e6]
        exact Ex.one (Ex1.ret (Ev.tuple (Evs.cons (Ev.v 2) (Evs.cons (Ev.sliceS (Ev.v 0) EvP.nil (EvP.one Ev.int) hl) (Evs.cons (Ev.sliceS (Ev.v 0) (EvP.one Ev.int) EvP.nil hl) Evs.nil))) (by simp)))
end
end Mine
end
section
set_option autoImplicit false
set_option Elab.async false
set_option linter.unusedVariables false
set_option linter.unusedSimpArgs false
open PySem PySem.W PyProof.Rows PySem.Calls
namespace Mine
section
variable {prog : Program} {w : World} {G : Heap} (Z : W0 G)
def joinP (a b : List Nat) : List Nat :=
  if (b.head? == some 47 || a.isEmpty) = true then b else if (a.getLast? == some 47) = true then a ++ b else a ++ ([47] ++ b)
include Z in
theorem join_spec (a b : List Nat) (hl : a.length + b.length + 1 ≤ 1000000) : Spec prog w G "join" 3 [S a, S b] (S (joinP a b)) := fun ad ha => by
  obtain ⟨a', hM, hA⟩ := Z.join
  have := ha.unique hM
  cases this
  refine callsTo_gen (ps := ["a", "p"]) (ds := [S a, .tup [S b]]) (ρ0 := [.dat (S a), .dat (.tup [S b]), .undef, .undef, .undef]) ["a", "p", "sep", "path", "b"] 5 ["fspath", "_get_sep"] hA Z.noLimit (by decide +kernel) rfl ?_ ?_ fun c hn => ?_
  · intro doc pm an cdv ct A f s us Q E i r k
    cases r with
    | cons u _ _ _ ru rs => cases rs with
      | cons v _ _ _ rv rs =>
        cases rs
        have e : bindArgs (fnOf "join" "join" (fnParams (stm 18)) (fnBody (stm 18)) (fnScope (stm 18)) .none .none doc pm an cdv ct) ⟨[u, v], []⟩ = (do let t ← newTuple [v]; pure [("a", u), ("p", t)]) := rfl
        rw [e]
        refine wpAny_bind (wpAny_newTuple ?_)
        refine wpAny_pure ?_
        refine k [u, .ref s.heap.objs.size] (fz f s.heap.objs.size (tobj [v] 0)) _ ?_ ?_
        · exact (Step.push i _).freeze (a := s.heap.objs.size) (o := tobj [v] 0) (get_size_none _) (Heap.get?_push_size _ rfl) (i.none_of (get_size_none _))
        · exact .cons _ _ _ _ (ru.mono (freeze_sub (i.none_of (get_size_none _)))) (.one (.tup _ [v] 0 _ (if_pos rfl) (.one (rv.mono (freeze_sub (i.none_of (get_size_none _)))))))
  · intro j x av hx hr
    match j, hx, hr with
    | 0, hx, hr => exact .inr ⟨0, _, hx, rfl, (Option.some.inj hr).symm⟩
    | 1, hx, hr => exact .inr ⟨1, _, hx, rfl, (Option.some.inj hr).symm⟩
    | 2, hx, hr => exact .inl (Option.some.inj hr).symm
    | 3, hx, hr => exact .inl (Option.some.inj hr).symm
    | 4, hx, hr => exact .inl (Option.some.inj hr).symm
  · conv => enter [3]; whnf
    refine Ex.cons (Ex1.assign 0 (Ev.callN Z.fspath (by decide) (EvA.cons (Ev.v 0) Evs.nil) (fspath_spec Z a) (by first | exact ar_n hn | exact ar_n2 hc' hn | assumption | exact Nat.le_trans (by assumption) (by decide) | omega)) rfl) ?_
    refine Ex.cons (Ex1.assign 2 (Ev.callN Z.getsep (by decide) (EvA.cons (Ev.v 0) Evs.nil) (getsep_spec Z a) (by first | exact ar_n hn | exact ar_n2 hc' hn | assumption | exact Nat.le_trans (by assumption) (by decide) | omega)) rfl) ?_
    refine Ex.cons (Ex1.assign 3 (Ev.v 0) rfl) ?_
    refine Ex.cons (Ex1.tryN (Ex.one (Ex1.forR (ρ' := [.dat (S a), .dat (.tup [S b]), .dat (S [47]), .dat (S (joinP a b)), .dat (S b)]) (EvI.tup (Ev.v 1)) ?_))) (Ex.one (Ex1.ret (Ev.v 3)))
    refine .cons _ _ _ _ _ _ (As.name 4 rfl) (.inl ?_) (.nil _)
    refine Ex.cons (Ex1.assign 4 (Ev.callN Z.fspath (by decide) (EvA.cons (Ev.v 4) Evs.nil) (fspath_spec Z b) (by first | exact ar_n hn | exact ar_n2 hc' hn | assumption | exact Nat.le_trans (by assumption) (by decide) | omega)) rfl) (Ex.one ?_)
    refine Ex1.ite (Tr.or2 (Tr.of_ev (Ev.meth F.plainAttrs_str F.slot_str_startswith F.type_str_startswith (Ev.v 4) (EvA.cons (Ev.v 2) Evs.nil) rfl CalD.starts) TruD.bool) fun _ => Tr.not (Tr.of_ev (Ev.v 3) (TruD.str (by first | exact ar_n hn | exact ar_n2 hc' hn | assumption | exact Nat.le_trans (by assumption) (by decide) | omega)))) (fun h => ?_) (fun h => ?_)
    · have : joinP a b = b := by unfold joinP; rw [if_pos (by simpa using h)]
      rw [this]
      exact Ex.one (Ex1.assign 3 (Ev.v 4) rfl)
    · have h0 : ¬ (b.head? == some 47 || a.isEmpty) = true := by simpa using h
      refine Ex.one (Ex1.ite (Tr.of_ev (Ev.meth F.plainAttrs_str F.slot_str_endswith F.type_str_endswith (Ev.v 3) (EvA.cons (Ev.v 2) Evs.nil) rfl CalD.ends) TruD.bool) (fun h1 => ?_) (fun h1 => ?_))
      · have : joinP a b = a ++ b := by unfold joinP; rw [if_neg h0, if_pos h1]
        rw [this]
        exact Ex.one (Ex1.aug 3 rfl rfl (Ev.v 4) (InpD.addS (by first | exact ar_n hn | exact ar_n2 hc' hn | assumption | exact Nat.le_trans (by assumption) (by decide) | omega)))
      · have : joinP a b = a ++ ([47] ++ b) := by unfold joinP; rw [if_neg h0, if_neg (by simp [h1])]
        rw [this]
        exact Ex.one (Ex1.aug 3 rfl rfl (Ev.bin (Ev.v 2) (Ev.v 4) (BinD.addS (by first | exact ln_map (by assumption) | (simp; omega)))) (InpD.addS (by first | exact ln_map (by assumption) | (simp; omega))))
end
end Mine
end
section
set_option autoImplicit false
set_option Elab.async false
set_option linter.unusedVariables false
set_option linter.unusedSimpArgs false
open PySem PySem.W PyProof.Rows PySem.Calls
namespace Mine
section
variable {prog : Program} {w : World} {G : Heap} (Z : W0 G)
def nStep (ini : List Nat) (acc : List (List Nat)) (x : List Nat) : List (List Nat) :=
  if (!(!x.isEmpty) || decide (x = [46])) = true then acc
  else if ((!decide (x = [46, 46])) || ((!(!ini.isEmpty) && !(!acc.isEmpty)) || (!acc.isEmpty && decide (acc.getLast? = some [46, 46])))) = true then acc ++ [x]
  else acc.dropLast
def normP (l : List Nat) : List Nat :=
  if l.isEmpty then [46] else
    let p := (rootOf l).1 ++ jn [47] ((sp 47 (rootOf l).2).foldl (nStep (rootOf l).1) [])
    if p.isEmpty then [46] else p
theorem total_cons (x : List Nat) (ls : List (List Nat)) : total (x :: ls) = x.length + total ls := by simp [total]
theorem total_app (a b : List (List Nat)) : total (a ++ b) = total a + total b := by simp [total]
theorem jn_length (c : Nat) : ∀ (ls : List (List Nat)), ls ≠ [] → (jn [c] ls).length + 1 = total ls + ls.length
  | [], h => (h rfl).elim
  | [x], _ => by simp [jn, total]
  | x :: y :: r, _ => by
    have ih := jn_length c (y :: r) (by simp)
    have e : jn [c] (x :: y :: r) = x ++ [c] ++ jn [c] (y :: r) := by simp [jn]
    rw [e, total_cons]
    simp only [List.length_append, List.length_cons, List.length_nil] at ih ⊢
    omega
theorem total_le (c : Nat) (l : List Nat) : total (sp c l) + (sp c l).length ≤ l.length + 1 := by
  have := jn_length c (sp c l) (sp_ne c l)
  rw [jn_sp] at this
  omega
theorem total_dropLast (acc : List (List Nat)) : total acc.dropLast + acc.dropLast.length ≤ total acc + acc.length := by
  rcases List.eq_nil_or_concat acc with rfl | ⟨ys, z, rfl⟩
  · simp
  · rw [List.concat_eq_append, List.dropLast_concat, total_app]; simp; omega
theorem nStep_total (ini : List Nat) (acc : List (List Nat)) (x : List Nat) : total (nStep ini acc x) + (nStep ini acc x).length ≤ total acc + acc.length + (x.length + 1) := by
  unfold nStep
  split
  · omega
  · split
    · rw [total_app]; simp [total]; omega
    · have := total_dropLast acc; omega
theorem nFold_total (ini : List Nat) : ∀ (cs acc : List (List Nat)), total (cs.foldl (nStep ini) acc) + (cs.foldl (nStep ini) acc).length ≤ total acc + acc.length + (total cs + cs.length)
  | [], acc => by simp
  | x :: cs, acc => by
    have h1 := nFold_total ini cs (nStep ini acc x)
    have h2 := nStep_total ini acc x
    rw [total_cons]
    simp only [List.foldl_cons, List.length_cons]
    omega
theorem jn_len (acc : List (List Nat)) : (jn [47] acc).length ≤ total acc + acc.length := by
  cases acc with
  | nil => simp [jn]
  | cons x r => have := jn_length 47 (x :: r) (by simp); omega
include Z in
theorem normpath_spec (l : List Nat) (hl : l.length ≤ 100000) : Spec prog w G "normpath" 4 [S l] (S (normP l)) := by
  refine spec_pre (ps := ["path"]) ["sep", "dot", "dotdot", "_", "initial_slashes", "comps", "new_comps", "comp"] [.dat (S l), .undef, .undef, .undef, .undef, .undef, .undef, .undef, .undef] 9 ["fspath", "isinstance", "bytes", "splitroot"] Z.normpath Z.noLimit (by decide +kernel) rfl ?_ rfl fun c hn => ?_
  · intro us doc pm an cdv ct hl
    obtain ⟨u, rfl⟩ := len1 hl
    rfl
  · conv => enter [3]; whnf
    refine Ex.cons (Ex1.assign 0 (Ev.callN Z.fspath (by decide) (EvA.cons (Ev.v 0) Evs.nil) (fspath_spec Z l) (by first | exact ar_n hn | exact ar_n2 hc' hn | assumption | exact Nat.le_trans (by assumption) (by decide) | omega)) rfl) ?_
    refine Ex.cons (ρ' := [.dat (S l), .dat (S [47]), .dat (S [46]), .dat (S [46, 46]), .undef, .undef, .undef, .undef, .undef]) (Ex1.ite (q := false) (Tr.of_ev (Ev.callB (EvG.b Z.isinstance (by decide)) (EvA.cons (Ev.v 0) (Evs.cons (Ev.ty (EvG.b Z.bytes (by decide))) Evs.nil)) CalD.isBytes) TruD.bool)
      (fun h => by cases h) (fun _ => Ex.cons (Ex1.assign 1 (Ev.lit (l := [47]) (by decide +kernel)) rfl) (Ex.cons (Ex1.assign 2 (Ev.lit (l := [46]) (by decide +kernel)) rfl) (Ex.one (Ex1.assign 3 (Ev.lit (l := [46, 46]) (by decide +kernel)) rfl))))) ?_
    by_cases he : l.isEmpty = true
    · have : normP l = [46] := by unfold normP; rw [if_pos he]
      rw [this]
      exact Ex.stop (Ex1.ite (Tr.not (Tr.of_ev (Ev.v 0) (TruD.str (by first | exact ar_n hn | exact ar_n2 hc' hn | assumption | exact Nat.le_trans (by assumption) (by decide) | omega)))) (fun _ => Ex.one (Ex1.ret (Ev.v 2))) (fun h => absurd h (by simp [he])))
    · have he' : (!(!l.isEmpty)) = false := by simpa using he
      refine Ex.cons (Ex1.ite (Tr.not (Tr.of_ev (Ev.v 0) (TruD.str (by first | exact ar_n hn | exact ar_n2 hc' hn | assumption | exact Nat.le_trans (by assumption) (by decide) | omega)))) (fun h => absurd h (by simp [he'])) (fun _ => Ex.nil)) ?_
      have hrl : (rootOf l).1.length ≤ 2 ∧ (rootOf l).2.length ≤ l.length := by
        unfold rootOf; split
        · split
          · exact ⟨by simp; omega, by simp⟩
          · exact ⟨by simp, by simp⟩
        · exact ⟨by simp, by simp⟩
      refine Ex.cons (Ex1.assignT [4, 5, 0] (Ev.callN Z.splitroot (by decide) (EvA.cons (Ev.v 0) Evs.nil) (splitroot_spec Z l (by first | exact ar_n hn | exact ar_n2 hc' hn | assumption | exact Nat.le_trans (by assumption) (by decide) | omega)) (by first | exact ar_n hn | exact ar_n2 hc' hn | assumption | exact Nat.le_trans (by assumption) (by decide) | omega)) ⟨⟨_, _, rfl, rfl, .inl (by decide)⟩, ⟨_, _, rfl, rfl, .inl (by decide)⟩, ⟨_, _, rfl, rfl, .inl (by decide)⟩, trivial⟩ rfl (.inl rfl)) ?_
      refine Ex.cons (Ex1.assign 6 (Ev.meth F.plainAttrs_str F.slot_str_split F.type_str_split (Ev.v 0) (EvA.cons (Ev.v 1) Evs.nil) rfl (CalD.split (by first | exact ar_n hn | exact ar_n2 hc' hn | assumption | exact Nat.le_trans (by assumption) (by decide) | omega))) rfl) ?_
      refine Ex.cons (Ex1.assignOwn 7 (EvF.list Evs.nil (by simp)) rfl) ?_
      refine Ex.forFold (sp 47 (rootOf l).2) ([] : List (List Nat)) AV.undef S (nStep (rootOf l).1)
        (fun acc av => [.dat (S (rootOf l).2), .dat (S [47]), .dat (S [46]), .dat (S [46, 46]), .dat (S []), .dat (S (rootOf l).1), .dat (.list ((sp 47 (rootOf l).2).map S)), .own (acc.map S), av])
        (fun acc _ x => [.dat (S (rootOf l).2), .dat (S [47]), .dat (S [46]), .dat (S [46, 46]), .dat (S []), .dat (S (rootOf l).1), .dat (.list ((sp 47 (rootOf l).2).map S)), .own (acc.map S), .dat (S x)])
        (fun cs acc => total cs + cs.length + (total acc + acc.length) ≤ 200000) rfl (EvI.list (Ev.v 6)) (fun _ _ _ => As.name 8 rfl) ?_ ?_ ?_ ?_
      · have := total_le 47 (rootOf l).2
        simp [total] at this ⊢
        omega
      · intro x cs acc h
        have ht := nStep_total (rootOf l).1 acc x
        simp [total] at h ht ⊢
        omega
      · intro x cs acc av h
        refine ⟨.dat (S x), ?_⟩
        have hx : x.length ≤ 200000 := by simp [total] at h; omega
        have ha : acc.length ≤ 200000 := by omega
        by_cases h1 : (!(!x.isEmpty) || decide (x = [46])) = true
        · have e : nStep (rootOf l).1 acc x = acc := by unfold nStep; rw [if_pos h1]
          rw [e]
          refine .inr (Ex.stop (Ex1.ite (Tr.or2 (Tr.not (Tr.of_ev (Ev.v 8) (TruD.str (by first | exact ar_n hn | exact ar_n2 hc' hn | assumption | exact Nat.le_trans (by assumption) (by decide) | omega)))) fun _ => Tr.cmp (Ev.v 8) (Ev.v 2) CmpD.eqS) (fun _ => Ex.one Ex1.cont) (fun h => (Bool.false_ne_true (h.symm.trans h1)).elim)))
        · refine .inl (Ex.cons (Ex1.ite (Tr.or2 (Tr.not (Tr.of_ev (Ev.v 8) (TruD.str (by first | exact ar_n hn | exact ar_n2 hc' hn | assumption | exact Nat.le_trans (by assumption) (by decide) | omega)))) fun _ => Tr.cmp (Ev.v 8) (Ev.v 2) CmpD.eqS) (fun h => absurd h h1) (fun _ => Ex.nil)) (Ex.one ?_))
          have hlast : acc ≠ [] → ∃ z, acc.getLast? = some z ∧ ∃ ys, acc = ys ++ [z] := fun hne => ⟨acc.getLast hne, List.getLast?_eq_some_getLast hne, acc.dropLast, (List.dropLast_concat_getLast hne).symm⟩
          refine Ex1.ite (q := (!decide (x = [46, 46])) || ((!(!(rootOf l).1.isEmpty) && !(!acc.isEmpty)) || (!acc.isEmpty && decide (acc.getLast? = some [46, 46]))))
            (Tr.or3 (Tr.cmp (Ev.v 8) (Ev.v 3) CmpD.neS) (fun _ => Tr.and2 (Tr.not (Tr.of_ev (Ev.v 5) (TruD.str (by first | exact ar_n hn | exact ar_n2 hc' hn | assumption | exact Nat.le_trans (by assumption) (by decide) | omega)))) fun _ => Tr.not (by simpa using Tr.ownName (c := c) 7 (ds := acc.map S) rfl rfl (by first | exact ln_map (by assumption) | (simp; omega)))) fun _ _ => Tr.and2 (by simpa using Tr.ownName (c := c) 7 (ds := acc.map S) rfl rfl (by first | exact ln_map (by assumption) | (simp; omega))) fun hne => ?_) (fun h2 => ?_) (fun h2 => ?_)
          · obtain ⟨z, hz, ys, rfl⟩ := hlast (by intro h0; rw [h0] at hne; cases hne)
            have : decide ((ys ++ [z]).getLast? = some [46, 46]) = decide (z = [46, 46]) := by rw [hz]; simp
            rw [this]
            refine Tr.cmp (Ev.subOwn 7 rfl rfl (Ev.neg Ev.int) (by simp at ha ⊢; omega) (.inr ⟨by decide, by simp; omega, ?_⟩)) (Ev.v 3) CmpD.eqS
            · have : (-1 + (((ys ++ [z]).map S).length : Int)).toNat = ys.length := by simp; omega
              rw [this]; simp
          · have e : nStep (rootOf l).1 acc x = acc ++ [x] := by unfold nStep; rw [if_neg h1, if_pos h2]
            rw [e, List.map_append]
            exact Ex.one (Ex1.append 7 rfl rfl (Ev.v 8) (by first | exact ln_map (by assumption) | (simp; omega)))
          · have e : nStep (rootOf l).1 acc x = acc.dropLast := by unfold nStep; rw [if_neg h1, if_neg (by rw [h2]; decide)]
            rw [e]
            refine Ex.one (Ex1.ite (Tr.ownName 7 rfl rfl (by first | exact ln_map (by assumption) | (simp; omega))) (fun h3 => ?_) (fun h3 => ?_))
            · obtain ⟨z, hz, ys, rfl⟩ := hlast (by intro h0; rw [h0] at h3; cases h3)
              rw [List.dropLast_concat]
              exact Ex.one (Ex1.pop 7 rfl (by simp [S]; rfl) (by simp at ha ⊢; omega))
            · have : acc = [] := by simpa using h3
              subst this
              exact Ex.nil
      · intro t'
        refine Ex.freeze 7 rfl rfl ?_
        refine Ex.cons (Ex1.assign 6 (Ev.v 7) rfl) ?_
        have hf := nFold_total (rootOf l).1 (sp 47 (rootOf l).2) []
        have hs := total_le 47 (rootOf l).2
        have hj := jn_len ((sp 47 (rootOf l).2).foldl (nStep (rootOf l).1) [])
        have h0 : total ([] : List (List Nat)) = 0 := rfl
        have h00 : ([] : List (List Nat)).length = 0 := rfl
        refine Ex.cons (Ex1.assign 0 (Ev.bin (Ev.v 5) (Ev.meth F.plainAttrs_str F.slot_str_join F.type_str_join (Ev.v 1) (EvA.cons (Ev.v 6) Evs.nil) rfl (CalD.join (by simp only [List.length_cons, List.length_nil]; omega))) (BinD.addS (by first | exact ar_n hn | exact ar_n2 hc' hn | assumption | exact Nat.le_trans (by assumption) (by decide) | omega))) rfl) ?_
        have e : normP l = if ((rootOf l).1 ++ jn [47] ((sp 47 (rootOf l).2).foldl (nStep (rootOf l).1) [])).isEmpty = true then [46] else ((rootOf l).1 ++ jn [47] ((sp 47 (rootOf l).2).foldl (nStep (rootOf l).1) [])) := by
          unfold normP; rw [if_neg he]
        rw [e]
        refine Ex.one (Ex1.ret (Ev.or2 (Ev.v 0) (TruD.str (by simp only [List.length_append]; omega)) (fun h => ?_) (fun h => ?_)))
        · rw [if_neg (by intro hh; rw [hh] at h; cases h)]
        · rw [if_pos (by simpa using h)]
          exact Ev.v 2
end
end Mine
end
section
set_option autoImplicit false
set_option Elab.async false
set_option linter.unusedVariables false
set_option linter.unusedSimpArgs false
open PySem PySem.W PyProof.Rows PySem.Calls
namespace Mine
section
variable {prog : Program} {w : World} {G : Heap} (Z : W0 G)
def unq : List Nat → List Nat
  | [] => []
  | [x] => if x = 34 then [] else [x]
  | x :: y :: r => if x = 34 then (if y = 34 then 34 :: unq r else []) else x :: unq (y :: r)
def parP (l : List Nat) : List Nat := if (l.drop 3).take 2 = [32, 34] then unq (l.drop 5) else []
include Z in
theorem parse257_spec (l : List Nat) (hl : l.length ≤ 100000) (h3 : l.take 3 = [50, 53, 55]) : Spec prog w G "parse257" 2 [S l] (S (parP l)) := by
  refine spec_pre (ps := ["resp"]) ["dirname", "i", "n", "c"] [.dat (S l), .undef, .undef, .undef, .undef] 5 ["len", "error_reply"] Z.parse257 Z.noLimit (by decide +kernel) rfl ?_ rfl fun c hn => ?_
  · intro us doc pm an cdv ct hl
    obtain ⟨u, rfl⟩ := len1 hl
    rfl
  · conv => enter [3]; whnf
    have e1 : sl none (some 3) l = l.take 3 := sl_to l 3
    have e2 : sl (some 3) (some 5) l = (l.drop 3).take 2 := sl_nat l 3 5
    refine Ex.cons (Ex1.ite (Tr.cmp (Ev.sliceS (Ev.v 0) EvP.nil (EvP.one Ev.int) (by first | exact ar_n hn | exact ar_n2 hc' hn | assumption | exact Nat.le_trans (by assumption) (by decide) | omega)) (Ev.lit (l := [50, 53, 55]) (by decide +kernel)) CmpD.neS) (fun h => by rw [e1, h3] at h; simp at h) (fun _ => Ex.nil)) ?_
    by_cases h5 : (l.drop 3).take 2 = [32, 34]
    · have e : parP l = unq (l.drop 5) := by unfold parP; rw [if_pos h5]
      rw [e]
      refine Ex.cons (Ex1.ite (Tr.cmp (Ev.sliceS (Ev.v 0) (EvP.one Ev.int) (EvP.one Ev.int) (by first | exact ar_n hn | exact ar_n2 hc' hn | assumption | exact Nat.le_trans (by assumption) (by decide) | omega)) (Ev.lit (l := [32, 34]) (by decide +kernel)) CmpD.neS) (fun h => by rw [e2, h5] at h; simp at h) (fun _ => Ex.nil)) ?_
      refine Ex.cons (Ex1.assign 1 (Ev.lit (l := []) (by decide +kernel)) rfl) ?_
      refine Ex.cons (Ex1.assign 2 Ev.int rfl) ?_
      refine Ex.cons (Ex1.assign 3 (Ev.callB (EvG.b Z.len (by decide)) (EvA.cons (Ev.v 0) Evs.nil) (CalD.lenS (by first | exact ar_n hn | exact ar_n2 hc' hn | assumption | exact Nat.le_trans (by assumption) (by decide) | omega))) rfl) ?_
      have hlen : 5 ≤ l.length := by
        have := congrArg List.length h5
        simp at this
        omega
      refine Ex.whileBy (σ := List Nat × Nat × AV) ([], 5, .undef) (fun s => [.dat (S l), .dat (S s.1), .dat (.int s.2.1), .dat (.int l.length), s.2.2]) (fun s => l.length - s.2.1)
        (fun s => s.2.1 ≤ l.length ∧ s.1.length ≤ s.2.1 ∧ s.1 ++ unq (l.drop s.2.1) = unq (l.drop 5)) (fun ρ' => ∃ i av, ρ' = [.dat (S l), .dat (S (unq (l.drop 5))), .dat (.int i), .dat (.int l.length), av]) rfl ⟨hlen, by simp, by simp⟩ ?_ ?_
      · rintro ⟨dn, i, av⟩ ⟨hi, hd, hu⟩
        simp only at hi hd hu ⊢
        rcases hr : l.drop i with _ | ⟨x, r⟩
        · have hi' : i = l.length := by have := congrArg List.length hr; simp at this; omega
          refine .inl ⟨?_, ?_⟩
          · exact Tr.eq (Tr.cmp (Ev.v 2) (Ev.v 3) CmpD.ltI) (by first | exact ln_map (by assumption) | (simp; omega))
          · rw [hr, unq, List.append_nil] at hu
            exact ⟨i, av, by rw [hu]⟩
        · have hi' : i < l.length := by have := congrArg List.length hr; simp at this; omega
          have hx : l[i]? = some x := by have := congrArg List.head? hr; simpa using this
          have hr1 : l.drop (i + 1) = r := by have := congrArg List.tail hr; simpa using this
          have hu' := hu
          rw [hr] at hu'
          have hget : GetD prog w (S l) (.int i) (S [x]) := GetD.str (by first | exact ar_n hn | exact ar_n2 hc' hn | assumption | exact Nat.le_trans (by assumption) (by decide) | omega) (by simpa using hx) (by first | exact ar_n hn | exact ar_n2 hc' hn | assumption | exact Nat.le_trans (by assumption) (by decide) | omega)
          by_cases h34 : x = 34
          · subst h34
            rcases r with _ | ⟨y, r'⟩
            · have hn1 : l.length = i + 1 := by have := congrArg List.length hr; simp at this; omega
              refine .inr (.inl ⟨Tr.eq (Tr.cmp (Ev.v 2) (Ev.v 3) CmpD.ltI) (by first | exact ln_map (by assumption) | (simp; omega)), [.dat (S l), .dat (S dn), .dat (.int ((i : Int) + 1)), .dat (.int l.length), .dat (S [34])], ⟨i + 1, .dat (S [34]), ?_⟩, ?_⟩)
              · simp [unq] at hu'
                rw [← hu']
              · refine Ex.cons (Ex1.assign 4 (Ev.sub (Ev.v 0) (Ev.v 2) hget rfl) rfl) ?_
                refine Ex.cons (Ex1.assign 2 (Ev.bin (Ev.v 2) Ev.int BinD.addI) rfl) ?_
                refine Ex.stop (Ex1.ite (Tr.cmp (Ev.v 4) (Ev.lit (l := [34]) (by decide +kernel)) CmpD.eqS) (fun _ => ?_) (fun h => by simp at h))
                exact Ex.stop (Ex1.ite (q := true) (Tr.or_t (Tr.eq (Tr.cmp (Ev.v 2) (Ev.v 3) CmpD.geI) (by first | exact ln_map (by assumption) | (simp; omega)))) (fun _ => Ex.one Ex1.brk) (fun h => by cases h))
            · have hn1 : i + 1 < l.length := by have := congrArg List.length hr; simp at this; omega
              have hy : l[i + 1]? = some y := by have := congrArg List.head? hr1; simpa using this
              have hget2 : GetD prog w (S l) (.int ((i : Int) + 1)) (S [y]) := GetD.str (by first | exact ar_n hn | exact ar_n2 hc' hn | assumption | exact Nat.le_trans (by assumption) (by decide) | omega) (by simpa using hy) (by first | exact ar_n hn | exact ar_n2 hc' hn | assumption | exact Nat.le_trans (by assumption) (by decide) | omega)
              by_cases hy34 : y = 34
              · subst hy34
                refine .inr (.inr ⟨Tr.eq (Tr.cmp (Ev.v 2) (Ev.v 3) CmpD.ltI) (by first | exact ln_map (by assumption) | (simp; omega)), (dn ++ [34], i + 2, .dat (S [34])), ⟨?_, ?_, ?_⟩, ?_, .inl ?_⟩)
                · simp only; omega
                · simp only [List.length_append, List.length_cons, List.length_nil]; omega
                · have : l.drop (i + 2) = r' := by have := congrArg List.tail hr1; simpa using this
                  simp only
                  rw [this, ← hu']
                  simp [unq]
                · simp only; omega
                · refine Ex.cons (Ex1.assign 4 (Ev.sub (Ev.v 0) (Ev.v 2) hget rfl) rfl) ?_
                  refine Ex.cons (Ex1.assign 2 (Ev.bin (Ev.v 2) Ev.int BinD.addI) rfl) ?_
                  refine Ex.cons (ρ' := [.dat (S l), .dat (S dn), .dat (.int ((i : Int) + 1 + 1)), .dat (.int l.length), .dat (S [34])]) (Ex1.ite (Tr.cmp (Ev.v 4) (Ev.lit (l := [34]) (by decide +kernel)) CmpD.eqS) (fun _ => ?_) (fun h => by simp at h)) ?_
                  · refine Ex.cons (Ex1.ite (Tr.or2 (Tr.cmp (Ev.v 2) (Ev.v 3) CmpD.geI) fun _ => Tr.cmp (Ev.sub (Ev.v 0) (Ev.v 2) hget2 rfl) (Ev.lit (l := [34]) (by decide +kernel)) CmpD.neS) (fun h => by simp at h; omega) (fun _ => Ex.nil)) ?_
                    exact Ex.one (Ex1.assign 2 (Ev.bin (Ev.v 2) Ev.int BinD.addI) rfl)
                  · exact Ex.one (Ex1.assign 1 (Ev.bin (Ev.v 1) (Ev.v 4) (BinD.addS (by first | exact ln_map (by assumption) | (simp; omega)))) rfl)
              · refine .inr (.inl ⟨Tr.eq (Tr.cmp (Ev.v 2) (Ev.v 3) CmpD.ltI) (by first | exact ln_map (by assumption) | (simp; omega)), [.dat (S l), .dat (S dn), .dat (.int ((i : Int) + 1)), .dat (.int l.length), .dat (S [34])], ⟨i + 1, .dat (S [34]), ?_⟩, ?_⟩)
                · simp [unq, hy34] at hu'
                  rw [← hu']
                · refine Ex.cons (Ex1.assign 4 (Ev.sub (Ev.v 0) (Ev.v 2) hget rfl) rfl) ?_
                  refine Ex.cons (Ex1.assign 2 (Ev.bin (Ev.v 2) Ev.int BinD.addI) rfl) ?_
                  refine Ex.stop (Ex1.ite (Tr.cmp (Ev.v 4) (Ev.lit (l := [34]) (by decide +kernel)) CmpD.eqS) (fun _ => ?_) (fun h => by simp at h))
                  exact Ex.stop (Ex1.ite (Tr.or2 (Tr.cmp (Ev.v 2) (Ev.v 3) CmpD.geI) fun _ => Tr.cmp (Ev.sub (Ev.v 0) (Ev.v 2) hget2 rfl) (Ev.lit (l := [34]) (by decide +kernel)) CmpD.neS) (fun _ => Ex.one Ex1.brk) (fun h => by simp [hy34] at h))
          · refine .inr (.inr ⟨Tr.eq (Tr.cmp (Ev.v 2) (Ev.v 3) CmpD.ltI) (by first | exact ln_map (by assumption) | (simp; omega)), (dn ++ [x], i + 1, .dat (S [x])), ⟨?_, ?_, ?_⟩, ?_, .inl ?_⟩)
            · simp only; omega
            · simp only [List.length_append, List.length_cons, List.length_nil]; omega
            · simp only
              rw [hr1, ← hu']
              cases r with
              | nil => simp [unq, h34]
              | cons y r' => simp [unq, h34]
            · simp only; omega
            · refine Ex.cons (Ex1.assign 4 (Ev.sub (Ev.v 0) (Ev.v 2) hget rfl) rfl) ?_
              refine Ex.cons (Ex1.assign 2 (Ev.bin (Ev.v 2) Ev.int BinD.addI) rfl) ?_
              refine Ex.cons (Ex1.ite (Tr.cmp (Ev.v 4) (Ev.lit (l := [34]) (by decide +kernel)) CmpD.eqS) (fun h => by simp [h34] at h) (fun _ => Ex.nil)) ?_
              exact Ex.one (Ex1.assign 1 (Ev.bin (Ev.v 1) (Ev.v 4) (BinD.addS (by first | exact ln_map (by assumption) | (simp; omega)))) rfl)
      · rintro ρ' ⟨i, av, rfl⟩
        exact Ex.one (Ex1.ret (Ev.v 1))
    · have e : parP l = [] := by unfold parP; rw [if_neg h5]
      rw [e]
      exact Ex.stop (Ex1.ite (Tr.cmp (Ev.sliceS (Ev.v 0) (EvP.one Ev.int) (EvP.one Ev.int) (by first | exact ar_n hn | exact ar_n2 hc' hn | assumption | exact Nat.le_trans (by assumption) (by decide) | omega)) (Ev.lit (l := [32, 34]) (by decide +kernel)) CmpD.neS) (fun _ => Ex.one (Ex1.ret (Ev.lit (l := []) (by decide +kernel)))) (fun h => by rw [e2] at h; simp [h5] at h))
end
end Mine
end
section
set_option autoImplicit false
set_option Elab.async false
set_option linter.unusedVariables false
set_option linter.unusedSimpArgs false
open PySem PySem.W PyProof.Rows PySem.Calls
namespace Mine
section
variable {prog : Program} {w : World} {G : Heap} (Z : W0 G)
def tblP : List (List Nat) := [[97, 34, 98], [99], [108], [46], [46, 46], []]
def pieceP (x k : Nat) : List Nat := tblP.getD (x / 6 / 6 ^ k % 6) []
def pathP (x : Nat) : List Nat := (if x / 3 % 2 = 1 then [47] else []) ++ jn [47] ((List.range (1 + x % 3)).map (pieceP x))
theorem piece_len (x k : Nat) : (pieceP x k).length ≤ 3 := by
  unfold pieceP
  have : x / 6 / 6 ^ k % 6 < 6 := Nat.mod_lt _ (by decide)
  generalize x / 6 / 6 ^ k % 6 = i at this
  revert i
  decide
theorem total_map_le {α : Type} (f : α → List Nat) (n : Nat) : ∀ (l : List α), (∀ a ∈ l, (f a).length ≤ n) → total (l.map f) ≤ n * l.length
  | [], _ => by simp [total]
  | a :: l, h => by
    have ih := total_map_le f n l fun b hb => h b (.tail _ hb)
    have := h a (.head _)
    rw [List.map_cons, total_cons, List.length_cons, Nat.mul_succ]
    omega
theorem path_len (x : Nat) : (pathP x).length ≤ 13 := by
  unfold pathP
  have h1 := total_map_le (pieceP x) 3 (List.range (1 + x % 3)) fun a _ => piece_len x a
  have h2 := jn_len ((List.range (1 + x % 3)).map (pieceP x))
  have h3 : x % 3 < 3 := Nat.mod_lt _ (by decide)
  simp only [List.length_map, List.length_range] at h1 h2
  rw [List.length_append]
  have : (if x / 3 % 2 = 1 then [47] else ([] : List Nat)).length ≤ 1 := by split <;> simp
  omega
theorem divN {a b : Nat} (h : 0 < b) (hs : b < 1000000) : BinD prog w .FloorDiv (.int a) (.int b) (.int (a / b : Nat)) :=
  BinD.eq (BinD.divI (by first | exact ar_n hn | exact ar_n2 hc' hn | assumption | exact Nat.le_trans (by assumption) (by decide) | omega) (by first | exact ar_n hn | exact ar_n2 hc' hn | assumption | exact Nat.le_trans (by assumption) (by decide) | omega)) (by simp)
theorem modN {a b : Nat} (h : 0 < b) (hs : b < 1000000) : BinD prog w .Mod (.int a) (.int b) (.int (a % b : Nat)) :=
  BinD.eq (BinD.modI (by first | exact ar_n hn | exact ar_n2 hc' hn | assumption | exact Nat.le_trans (by assumption) (by decide) | omega) (by first | exact ar_n hn | exact ar_n2 hc' hn | assumption | exact Nat.le_trans (by assumption) (by decide) | omega)) (by simp)
theorem pow6 {k : Nat} (h : k ≤ 3) : BinD prog w .Pow (.int 6) (.int k) (.int ((6 ^ k : Nat) : Int)) :=
  BinD.eq (BinD.powI (by first | exact ar_n hn | exact ar_n2 hc' hn | assumption | exact Nat.le_trans (by assumption) (by decide) | omega) (by
    have : (Builtin.Int.intBits 6 : Int) ≤ 8 := by decide +kernel
    have h2 : (k : Int) ≤ 3 := by omega
    calc (Builtin.Int.intBits 6 : Int) * k ≤ 8 * 3 := Int.mul_le_mul this h2 (by first | exact ar_n hn | exact ar_n2 hc' hn | assumption | exact Nat.le_trans (by assumption) (by decide) | omega) (by decide)
      _ ≤ 2 ^ 27 := by decide)) (by simp)
theorem dvm (r q a b : Int) (ha : a ≠ 0) : (r + a * (b * q)) / a % b = r / a % b := by
  rw [Int.add_mul_ediv_left _ _ ha, Int.add_mul_emod_self_left]
theorem resN {y : Int} {r : Nat} (h : (r : Int) = y % 1296) : y % 3 = ((r % 3 : Nat) : Int) ∧ y / 3 % 2 = ((r / 3 % 2 : Nat) : Int) ∧ ∀ k : Nat, k < 3 → y / 6 / ((6 ^ k : Nat) : Int) % 6 = ((r / 6 / 6 ^ k % 6 : Nat) : Int) := by
  have hy : y = (r : Int) + 1296 * (y / 1296) := by rw [h]; exact (Int.emod_add_mul_ediv y 1296).symm
  generalize y / 1296 = q at hy
  subst hy
  have d : ∀ a b c : Nat, a ≠ 0 → a * (b * c) = 1296 → ((r : Int) + 1296 * q) / (a : Int) % (b : Int) = ((r / a % b : Nat) : Int) := fun a b c ha hc => by
    have e : (1296 : Int) * q = (a : Int) * ((b : Int) * ((c : Int) * q)) := by
      rw [← Int.mul_assoc (b : Int), ← Int.mul_assoc (a : Int), ← Int.natCast_mul, ← Int.natCast_mul, hc]; rfl
    rw [e, dvm _ _ _ _ (Int.natCast_ne_zero.mpr ha)]
    rfl
  refine ⟨?_, d 3 2 216 (by decide) (by decide), fun k hk => ?_⟩
  · have := d 1 3 432 (by decide) (by decide)
    rw [show ((1 : Nat) : Int) = 1 from rfl, Int.ediv_one, Nat.div_one] at this
    exact this
  · rw [Int.ediv_ediv_of_nonneg (by decide), Nat.div_div_eq_div_mul]
    match k, hk with
    | 0, _ => exact d 6 6 36 (by decide) (by decide)
    | 1, _ => exact d 36 6 6 (by decide) (by decide)
    | 2, _ => exact d 216 6 1 (by decide) (by decide)
include Z in
theorem path_specI (y : Int) (x : Nat) (hy : (x : Int) = y % 1296) : Spec prog w G "_law_path" 2 [.int y] (S (pathP x)) := by
  obtain ⟨r3, r2, r6⟩ := resN hy
  refine spec_body (ps := ["x"]) [.undef, .dat (.int y)] ["pieces", "x"] 1 ["range"] Z.path Z.noLimit (by decide +kernel) rfl ?_ ?_ fun c hn => ?_
  · intro us doc pm an cdv ct hl
    obtain ⟨u, rfl⟩ := len1 hl
    rfl
  · intro j y av hx hr
    match j, hx, hr with
    | 0, hx, hr => exact .inl (Option.some.inj hr).symm
    | 1, hx, hr => exact .inr ⟨0, _, hx, rfl, (Option.some.inj hr).symm⟩
  · conv => enter [3]; whnf
    have hm : x % 3 < 3 := Nat.mod_lt _ (by decide)
    have e13 : (1 : Int) + ((x % 3 : Nat) : Int) = ((1 + x % 3 : Nat) : Int) := by omega
    refine Ex.cons (Ex1.assignComp 0 (ds := (List.range (1 + x % 3)).map fun k : Nat => D.int k) ["x"] [] [1] [.dat (.int y)] (fun _ => true) (fun d => match d with | .int i => S (pieceP x i.toNat) | _ => .none) (by decide +kernel) ?_ (by first | exact ln_map (by assumption) | (simp; omega)) ?_ rfl (fun c' hc' d hd => ⟨.inl ⟨rfl, rfl⟩, fun _ => ?_⟩) rfl) ?_
    · exact EvI.rangeN (EvG.b Z.range (by decide)) (Ev.bin Ev.int (Ev.bin (Ev.v 1) (Ev.int (i := 3)) (BinD.eq (BinD.modI (by first | exact ar_n hn | exact ar_n2 hc' hn | assumption | exact Nat.le_trans (by assumption) (by decide) | omega)) (congrArg D.int r3))) (BinD.eq BinD.addI (congrArg D.int e13))) (by first | exact ar_n hn | exact ar_n2 hc' hn | assumption | exact Nat.le_trans (by assumption) (by decide) | omega)
    · intro j y hy
      match j, hy with
      | 0, hy => exact ⟨1, _, rfl, hy, by decide, rfl, rfl⟩
    · obtain ⟨k, hk, rfl⟩ := List.mem_map.mp hd
      have hk' : k < 1 + x % 3 := List.mem_range.mp hk
      have h6 : 6 ^ k ≤ 216 := by
        have : 6 ^ k ≤ 6 ^ 3 := Nat.pow_le_pow_right (by decide) (by first | exact ar_n hn | exact ar_n2 hc' hn | assumption | exact Nat.le_trans (by assumption) (by decide) | omega)
        simpa using this
      have h60 : 0 < 6 ^ k := Nat.pow_pos (by decide)
      have hm6 : x / 6 / 6 ^ k % 6 < 6 := Nat.mod_lt _ (by decide)
      refine Ev.sub (EvF.ev (EvF.list (ds := tblP.map S) (Evs.cons (Ev.lit (by decide +kernel)) (Evs.cons (Ev.lit (by decide +kernel)) (Evs.cons (Ev.lit (by decide +kernel)) (Evs.cons (Ev.lit (by decide +kernel)) (Evs.cons (Ev.lit (by decide +kernel)) (Evs.cons (Ev.lit (by decide +kernel)) Evs.nil)))))) (by decide)))
        (Ev.bin (Ev.bin (Ev.bin (Ev.v 1) (Ev.int (i := 6)) (BinD.divI (by first | exact ar_n hn | exact ar_n2 hc' hn | assumption | exact Nat.le_trans (by assumption) (by decide) | omega))) (Ev.bin (Ev.int (i := 6)) (Ev.v 0) (pow6 (by first | exact ar_n hn | exact ar_n2 hc' hn | assumption | exact Nat.le_trans (by assumption) (by decide) | omega))) (BinD.divI (by first | exact ar_n hn | exact ar_n2 hc' hn | assumption | exact Nat.le_trans (by assumption) (by decide) | omega) (by first | exact ar_n hn | exact ar_n2 hc' hn | assumption | exact Nat.le_trans (by assumption) (by decide) | omega))) (Ev.int (i := 6)) (BinD.eq (BinD.modI (by first | exact ar_n hn | exact ar_n2 hc' hn | assumption | exact Nat.le_trans (by assumption) (by decide) | omega)) (congrArg D.int (r6 k (by first | exact ar_n hn | exact ar_n2 hc' hn | assumption | exact Nat.le_trans (by assumption) (by decide) | omega))))) (GetD.list (by first | exact ar_n hn | exact ar_n2 hc' hn | assumption | exact Nat.le_trans (by assumption) (by decide) | omega) ?_ (by decide)) rfl
      show (tblP.map S)[(((x / 6 / 6 ^ k % 6 : Nat) : Int)).toNat]? = some (S (pieceP x ((k : Int)).toNat))
      rw [Int.toNat_natCast, Int.toNat_natCast, pieceP]
      rw [List.getElem?_map, List.getElem?_eq_getElem (by simpa [tblP] using hm6), List.getD_eq_getElem?_getD, List.getElem?_eq_getElem (by simpa [tblP] using hm6)]
      rfl
    · have e : (((List.range (1 + x % 3)).map fun k : Nat => D.int k).filter fun _ => true).map (fun d => match d with | .int i => S (pieceP x i.toNat) | _ => .none) = ((List.range (1 + x % 3)).map (pieceP x)).map S := by
        rw [List.filter_eq_self.mpr (by simp)]
        simp [Function.comp_def]
      refine Ex.eqR (ρ' := [.dat (.list (((List.range (1 + x % 3)).map (pieceP x)).map S)), .dat (.int y)]) ?_ (by rw [← e]; rfl)
      have h1 := total_map_le (pieceP x) 3 (List.range (1 + x % 3)) fun a _ => piece_len x a
      have h2 := jn_len ((List.range (1 + x % 3)).map (pieceP x))
      simp only [List.length_map, List.length_range] at h1 h2
      refine Ex.one (Ex1.ret (Ev.bin (a := S (if x / 3 % 2 = 1 then [47] else [])) (Ev.ite (Tr.cmp (Ev.bin (Ev.bin (Ev.v 1) (Ev.int (i := 3)) (BinD.divI (by first | exact ar_n hn | exact ar_n2 hc' hn | assumption | exact Nat.le_trans (by assumption) (by decide) | omega))) (Ev.int (i := 2)) (BinD.eq (BinD.modI (by first | exact ar_n hn | exact ar_n2 hc' hn | assumption | exact Nat.le_trans (by assumption) (by decide) | omega)) (congrArg D.int r2))) Ev.int CmpD.eqI) (fun h => ?_) (fun h => ?_))
        (Ev.meth F.plainAttrs_str F.slot_str_join F.type_str_join (Ev.lit (l := [47]) (by decide +kernel)) (EvA.cons (Ev.v 0) Evs.nil) rfl (CalD.join (by first | exact ln_map (by assumption) | (simp; omega)))) (BinD.addS ?_)))
      · have h' : x / 3 % 2 = 1 := by simp at h; omega
        rw [if_pos h']
        exact Ev.lit (by decide +kernel)
      · have h' : ¬ x / 3 % 2 = 1 := by simp at h; omega
        rw [if_neg h']
        exact Ev.lit (by decide +kernel)
      · have : (if x / 3 % 2 = 1 then [47] else ([] : List Nat)).length ≤ 1 := by split <;> simp
        omega
end
end Mine
end
section
set_option autoImplicit false
set_option Elab.async false
set_option linter.unusedVariables false
set_option linter.unusedSimpArgs false
open PySem PySem.W PyProof.Rows PySem.Calls
namespace Mine
def unS : D → List Nat
  | .str s => s.cps.toList
  | _ => []
theorem unS_S (x : List Nat) : unS (S x) = x := by simp [unS, S, mk]
section
variable {prog : Program} {w : World} {G : Heap} {vs : List Str} {nl : Nat} {oc : Bool} {gs : List Str} {c : Cx prog w G vs nl oc gs} {ρ : List AV}
theorem Tr.and3 {x y z : Expr} {pos : Pos} {a b d : Bool} (h : Tr c ρ x a) (hr : a = true → Tr c ρ y b) (hq : a = true → b = true → Tr c ρ z d) : Tr c ρ (.BoolOp .And [x, y, z] pos) (a && (b && d)) := by
  cases a with
  | false => exact Tr.and_f h
  | true => exact Tr.and_t h (by
    cases b with
    | false => exact Tr.and_f (hr rfl)
    | true => exact Tr.and_t (hr rfl) (by
      cases d with
      | false => exact Tr.and_f (hq rfl rfl)
      | true => exact Tr.and_t (hq rfl rfl) Tr.and_nil))
end
section
variable {prog : Program} {w : World} {G : Heap} (Z : W0 G)
def wStep (link : Bool) (st : List (List Nat)) (p : List Nat) : List (List Nat) :=
  if p = [46, 46] then st.dropLast else if [[], [46]].contains p then st else if (decide (p = [108]) && link) = true then [[113]] else st ++ [p]
def walk0 (place path : List Nat) : List (List Nat) := if path.take 1 = [47] then [] else (sp 47 place).filter fun x => !decide (x = [])
def headP (place path : List Nat) : List Nat := if path.take 1 = [47] then path else place
def walkP (place path : List Nat) (link : Bool) : List Nat :=
  (if (decide ((headP place path).take 2 = [47, 47]) && (!decide (((headP place path).drop 2).take 1 = [47]) && !link)) = true then [47, 47] else [47]) ++ jn [47] ((sp 47 path).foldl (wStep link) (walk0 place path))
theorem wStep_total (link : Bool) (acc : List (List Nat)) (x : List Nat) : total (wStep link acc x) + (wStep link acc x).length ≤ total acc + acc.length + (x.length + 1) := by
  unfold wStep
  split
  · have := total_dropLast acc; omega
  · split
    · omega
    · split
      · rename_i h
        simp at h
        rw [h.1]
        simp [total]
      · rw [total_app]; simp [total]; omega
theorem wFold_total (link : Bool) : ∀ (cs acc : List (List Nat)), total (cs.foldl (wStep link) acc) + (cs.foldl (wStep link) acc).length ≤ total acc + acc.length + (total cs + cs.length)
  | [], acc => by simp [total]
  | x :: cs, acc => by
    have h1 := wFold_total link cs (wStep link acc x)
    have h2 := wStep_total link acc x
    rw [total_cons]
    simp only [List.foldl_cons, List.length_cons]
    omega
theorem total_filter (p : List Nat → Bool) : ∀ l : List (List Nat), total (l.filter p) + (l.filter p).length ≤ total l + l.length
  | [] => by simp [total]
  | x :: l => by
    have ih := total_filter p l
    rw [List.filter_cons]
    split
    · rw [total_cons, total_cons]; simp only [List.length_cons]; omega
    · rw [total_cons]; simp only [List.length_cons]; omega
theorem walk0_total (place path : List Nat) : total (walk0 place path) + (walk0 place path).length ≤ place.length + 1 := by
  unfold walk0
  split
  · simp [total]
  · have := total_filter (fun x => !decide (x = [])) (sp 47 place)
    have := total_le 47 place
    omega
theorem walk_len (place path : List Nat) (link : Bool) : (walkP place path link).length ≤ place.length + path.length + 4 := by
  unfold walkP
  have h1 := wFold_total link (sp 47 path) (walk0 place path)
  have h2 := walk0_total place path
  have h3 := total_le 47 path
  have h4 := jn_len ((sp 47 path).foldl (wStep link) (walk0 place path))
  rw [List.length_append]
  split
  · simp only [List.length_cons, List.length_nil]; omega
  · simp only [List.length_cons, List.length_nil]; omega
include Z in
theorem walk_spec (place path : List Nat) (link : Bool) (hl : place.length ≤ 50000) (hp : path.length ≤ 50000) : Spec prog w G "_law_walk" 2 [S place, S path, .bool link] (S (walkP place path link)) := by
  refine spec_pre (ps := ["place", "path", "link"]) ["steps", "piece", "head"] [.dat (S place), .dat (S path), .dat (.bool link), .undef, .undef, .undef] 6 [] Z.walk Z.noLimit (by decide +kernel) rfl ?_ rfl fun c hn => ?_
  · intro us doc pm an cdv ct hl
    obtain ⟨u, v, x, rfl⟩ := len3 hl
    rfl
  · conv => enter [3]; whnf
    have e1 : sl none (some 1) path = path.take 1 := sl_to path 1
    refine Ex.cons (Ex1.assign 3 (d := .list ((walk0 place path).map S)) (Ev.ite (Tr.cmp (Ev.sliceS (Ev.v 1) EvP.nil (EvP.one Ev.int) (by first | exact ar_n hn | exact ar_n2 hc' hn | assumption | exact Nat.le_trans (by assumption) (by decide) | omega)) (Ev.lit (l := [47]) (by decide +kernel)) CmpD.eqS) (fun h => ?_) (fun h => ?_)) rfl) ?_
    · have : walk0 place path = [] := by unfold walk0; rw [if_pos (by rw [e1] at h; simpa using h)]
      rw [this]
      exact EvF.ev (EvF.list Evs.nil (by simp))
    · have : walk0 place path = (sp 47 place).filter fun x => !decide (x = []) := by unfold walk0; rw [if_neg (by rw [e1] at h; simpa using h)]
      rw [this]
      have hs := total_le 47 place
      have e2 : ((((sp 47 place).map S).filter fun d => !decide (unS d = [])).map id) = ((sp 47 place).filter fun x => !decide (x = [])).map S := by
        rw [List.map_id, List.filter_map]
        congr 1
      rw [← e2]
      refine EvF.ev (EvF.comp [] [] [] [] (fun d => !decide (unS d = [])) id (by decide +kernel) (EvI.list (Ev.meth F.plainAttrs_str F.slot_str_split F.type_str_split (Ev.v 0) (EvA.cons (Ev.lit (l := [47]) (by decide +kernel)) Evs.nil) rfl (CalD.split (by first | exact ar_n hn | exact ar_n2 hc' hn | assumption | exact Nat.le_trans (by assumption) (by decide) | omega)))) (by first | exact ln_map (by assumption) | (simp; omega)) (fun j y hy => by simp at hy) rfl (fun c' hc' d hd => ?_))
      obtain ⟨x, _, rfl⟩ := List.mem_map.mp hd
      rw [unS_S]
      exact ⟨.inr ⟨_, rfl, Tr.cmp (Ev.v 0) (Ev.lit (l := []) (by decide +kernel)) CmpD.neS⟩, fun _ => Ev.v 0⟩
    · have hs := total_le 47 path
      have hw0 := walk0_total place path
      refine Ex.forFold (sp 47 path) (walk0 place path) AV.undef S (wStep link)
        (fun st av => [.dat (S place), .dat (S path), .dat (.bool link), .dat (.list (st.map S)), av, .undef])
        (fun st _ x => [.dat (S place), .dat (S path), .dat (.bool link), .dat (.list (st.map S)), .dat (S x), .undef])
        (fun cs st => total cs + cs.length + (total st + st.length) ≤ 200000) rfl (EvI.list (Ev.meth F.plainAttrs_str F.slot_str_split F.type_str_split (Ev.v 1) (EvA.cons (Ev.lit (l := [47]) (by decide +kernel)) Evs.nil) rfl (CalD.split (by first | exact ar_n hn | exact ar_n2 hc' hn | assumption | exact Nat.le_trans (by assumption) (by decide) | omega)))) (fun _ _ _ => As.name 4 rfl) (by first | exact ar_n hn | exact ar_n2 hc' hn | assumption | exact Nat.le_trans (by assumption) (by decide) | omega) ?_ ?_ ?_
      · intro x cs st h
        have := wStep_total link st x
        rw [total_cons] at h
        simp only [List.length_cons] at h
        omega
      · intro x cs st av h
        refine ⟨.dat (S x), .inl (Ex.one ?_)⟩
        refine Ex1.ite (Tr.cmp (Ev.v 4) (Ev.lit (l := [46, 46]) (by decide +kernel)) CmpD.eqS) (fun h1 => ?_) (fun h1 => Ex.one (Ex1.ite (Tr.cmp (Ev.v 4) (EvF.ev (EvF.list (ds := [[], [46]].map S) (Evs.cons (Ev.lit (by decide +kernel)) (Evs.cons (Ev.lit (by decide +kernel)) Evs.nil)) (by decide))) (CmpD.notInS (by decide))) (fun h2 => ?_) (fun h2 => ?_)))
        · have e : wStep link st x = st.dropLast := by unfold wStep; rw [if_pos (by simpa using h1)]
          rw [e]
          have e3 : (st.map S).dropLast = st.dropLast.map S := by rw [List.map_dropLast]
          exact Ex.one (Ex1.assign 3 (Ev.eq (EvF.ev (EvF.sliceL (Ev.v 3) EvP.nil (EvP.one (Ev.neg Ev.int)) (by first | exact ln_map (by assumption) | (simp; omega)))) (by rw [sl_neg1, e3])) rfl)
        · rw [any_eqS] at h2
          have e : wStep link st x = if (decide (x = [108]) && link) = true then [[113]] else st ++ [x] := by
            unfold wStep; rw [if_neg (by simpa using h1), if_neg (by intro hh; rw [hh] at h2; cases h2)]
          rw [e]
          refine Ex.one (Ex1.assign 3 (Ev.ite (Tr.and2 (Tr.cmp (Ev.v 4) (Ev.lit (l := [108]) (by decide +kernel)) CmpD.eqS) fun _ => Tr.of_ev (Ev.v 2) TruD.bool) (fun h3 => ?_) (fun h3 => ?_)) rfl)
          · rw [if_pos h3]
            exact EvF.ev (EvF.list (ds := [[113]].map S) (Evs.cons (Ev.lit (by decide +kernel)) Evs.nil) (by decide))
          · rw [if_neg (by rw [h3]; decide), List.map_append]
            exact Ev.bin (Ev.v 3) (EvF.ev (EvF.list (Evs.cons (Ev.v 4) Evs.nil) (by simp))) (BinD.addL (by first | exact ln_map (by assumption) | (simp; omega)))
        · rw [any_eqS] at h2
          have e : wStep link st x = st := by
            unfold wStep; rw [if_neg (by simpa using h1), if_pos (by cases hq : List.contains [[], [46]] x with | true => rfl | false => rw [hq] at h2; cases h2)]
          rw [e]
          exact Ex.nil
      · intro av
        have hf := wFold_total link (sp 47 path) (walk0 place path)
        have hj := jn_len ((sp 47 path).foldl (wStep link) (walk0 place path))
        have hh : (headP place path).length ≤ 50000 := by unfold headP; split <;> omega
        refine Ex.cons (Ex1.assign 5 (d := S (headP place path)) (Ev.ite (Tr.cmp (Ev.sliceS (Ev.v 1) EvP.nil (EvP.one Ev.int) (by first | exact ar_n hn | exact ar_n2 hc' hn | assumption | exact Nat.le_trans (by assumption) (by decide) | omega)) (Ev.lit (l := [47]) (by decide +kernel)) CmpD.eqS) (fun h => ?_) (fun h => ?_)) rfl) ?_
        · have : headP place path = path := by unfold headP; rw [if_pos (by rw [e1] at h; simpa using h)]
          rw [this]
          exact Ev.v 1
        · have : headP place path = place := by unfold headP; rw [if_neg (by rw [e1] at h; simpa using h)]
          rw [this]
          exact Ev.v 0
        · have e4 : sl none (some 2) (headP place path) = (headP place path).take 2 := sl_to _ 2
          have e5 : sl (some 2) (some 3) (headP place path) = ((headP place path).drop 2).take 1 := sl_nat _ 2 3
          refine Ex.one (Ex1.ret (Ev.bin (Ev.ite (Tr.eq (b' := (decide ((headP place path).take 2 = [47, 47]) && (!decide (((headP place path).drop 2).take 1 = [47]) && !link))) (Tr.and3 (Tr.cmp (Ev.sliceS (Ev.v 5) EvP.nil (EvP.one Ev.int) (by first | exact ar_n hn | exact ar_n2 hc' hn | assumption | exact Nat.le_trans (by assumption) (by decide) | omega)) (Ev.lit (l := [47, 47]) (by decide +kernel)) CmpD.eqS) (fun _ => Tr.cmp (Ev.sliceS (Ev.v 5) (EvP.one Ev.int) (EvP.one Ev.int) (by first | exact ar_n hn | exact ar_n2 hc' hn | assumption | exact Nat.le_trans (by assumption) (by decide) | omega)) (Ev.lit (l := [47]) (by decide +kernel)) CmpD.neS) fun _ _ => Tr.not (Tr.of_ev (Ev.v 2) TruD.bool)) (by rw [e4, e5])) (fun h => ?_) (fun h => ?_))
            (Ev.meth F.plainAttrs_str F.slot_str_join F.type_str_join (Ev.lit (l := [47]) (by decide +kernel)) (EvA.cons (Ev.v 3) Evs.nil) rfl (CalD.join (by first | exact ln_map (by assumption) | (simp; omega)))) (BinD.addS ?_)))
          · rw [if_pos h]; exact Ev.lit (by decide +kernel)
          · rw [if_neg (by rw [h]; decide)]; exact Ev.lit (by decide +kernel)
          · split <;> simp <;> omega
end
end Mine
end
section
set_option autoImplicit false
set_option Elab.async false
set_option linter.unusedVariables false
set_option linter.unusedSimpArgs false
open PySem PySem.W PyProof.Rows PySem.Calls
namespace Mine
section
variable {prog : Program} {w : World} {G : Heap} (Z : W0 G)
def s550 : List Nat := [53, 53, 48, 32, 110, 111, 32, 115, 117, 99, 104, 32, 112, 108, 97, 99, 101]
def s257 : List Nat := [50, 53, 55, 32, 115, 111, 32, 105, 116, 32, 105, 115]
def sTail : List Nat := [34, 32, 105, 115, 32, 119, 104, 101, 114, 101, 32, 121, 111, 117, 32, 97, 114, 101]
def toldP (place : List Nat) : List Nat := [50, 53, 55, 32, 34] ++ jn [34, 34] (sp 34 place)
def ansP (kind : Nat) (place : List Nat) : List Nat := if 3 < kind then [s550, s257, toldP place].getD (kind - 4) [] else toldP place ++ sTail
theorem jn2_len : ∀ (ls : List (List Nat)), (jn [34, 34] ls).length ≤ total ls + 2 * ls.length
  | [] => by simp [jn]
  | [x] => by simp [jn, total]
  | x :: y :: r => by
    have ih := jn2_len (y :: r)
    have e : jn [34, 34] (x :: y :: r) = x ++ [34, 34] ++ jn [34, 34] (y :: r) := by simp [jn]
    rw [e, total_cons]
    simp only [List.length_append, List.length_cons, List.length_nil] at ih ⊢
    omega
theorem told_len (place : List Nat) : (toldP place).length ≤ 2 * place.length + 8 := by
  unfold toldP
  have h1 := jn2_len (sp 34 place)
  have h2 := total_le 34 place
  rw [List.length_append]
  simp only [List.length_cons, List.length_nil]
  omega
theorem ans_len (kind : Nat) (place : List Nat) : (ansP kind place).length ≤ 2 * place.length + 40 := by
  have h := told_len place
  unfold ansP
  split
  · match kind - 4 with
    | 0 => simp [s550]
    | 1 => simp [s257]
    | 2 => simp; omega
    | n + 3 => simp
  · rw [List.length_append]; simp [sTail]; omega
include Z in
theorem answer_spec (kind : Nat) (place : List Nat) (hk : kind ≤ 6) (hl : place.length ≤ 50000) : Spec prog w G "_law_answer" 2 [.int kind, S place] (S (ansP kind place)) := by
  refine spec_pre (ps := ["kind", "place"]) ["told"] [.dat (.int kind), .dat (S place), .undef] 3 [] Z.answer Z.noLimit (by decide +kernel) rfl ?_ rfl fun c hn => ?_
  · intro us doc pm an cdv ct hl
    obtain ⟨u, v, rfl⟩ := len2 hl
    rfl
  · conv => enter [3]; whnf
    have ht := told_len place
    refine Ex.cons (Ex1.assign 2 (d := S (toldP place)) (EvT.binStr (l := [50, 53, 55, 32, 34]) (by decide +kernel) (Ev.replace (y := 34) (z := [34, 34]) (Ev.v 1) (by decide +kernel) (by decide +kernel) (by first | exact ar_n hn | exact ar_n2 hc' hn | assumption | exact Nat.le_trans (by assumption) (by decide) | omega) (by decide) (by decide)) (BinD.addS (by
      have h1 := jn2_len (sp 34 place)
      have h2 := total_le 34 place
      simp only [List.length_cons, List.length_nil]; omega))) rfl) ?_
    refine Ex.one (Ex1.ret (Ev.ite (Tr.cmp (Ev.v 0) Ev.int CmpD.gtI) (fun h => ?_) (fun h => ?_)))
    · have h3 : 3 < kind := by simp at h; omega
      have e : ansP kind place = [s550, s257, toldP place].getD (kind - 4) [] := by unfold ansP; rw [if_pos h3]
      rw [e]
      refine Ev.sub (EvF.ev (EvF.list (ds := [s550, s257, toldP place].map S) (Evs.cons (Ev.lit (by decide +kernel)) (Evs.cons (Ev.lit (by decide +kernel)) (Evs.cons (Ev.v 2) Evs.nil))) (by simp))) (Ev.bin (Ev.v 0) (Ev.int (i := 4)) BinD.subI) (GetD.list (by first | exact ar_n hn | exact ar_n2 hc' hn | assumption | exact Nat.le_trans (by assumption) (by decide) | omega) ?_ (by simp)) rfl
      have hi : ((kind : Int) - 4).toNat = kind - 4 := by omega
      rw [hi, List.getElem?_map, List.getD_eq_getElem?_getD, List.getElem?_eq_getElem (by first | exact ln_map (by assumption) | (simp; omega))]
      rfl
    · have h3 : ¬ 3 < kind := by simp at h; omega
      have e : ansP kind place = toldP place ++ sTail := by unfold ansP; rw [if_neg h3]
      rw [e]
      exact Ev.bin (Ev.v 2) (Ev.lit (by decide +kernel)) (BinD.addS (by simp [sTail]; omega))
end
end Mine
end
section
set_option autoImplicit false
set_option Elab.async false
set_option linter.unusedVariables false
set_option linter.unusedSimpArgs false
open PySem PySem.W PyProof.Rows PySem.Calls
namespace Mine
def isSt : Expr → Bool
  | .Starred .. => true
  | _ => false
theorem swapped2 {env : Env} {a b : Str} {pa pb p pos : Pos} {q n : Nat} {v1 v2 : Expr} (hb : env.blockKind = .function) (ha : env.kindOf a = some .local) (hb' : env.kindOf b = some .local) (hl : pb.line = pa.line) (hne : b ≠ a)
    (h1 : isSt v1 = false) (h2 : isSt v2 = false) (hf : [v1, v2].all (foldedForSure 8) = false) (hc : [v1, v2].all (constantsAlone 8) = false) :
    swappedStores [.Tuple [.Name a pa, .Name b pb] q p] (.Tuple [v1, v2] n pos) env = pure (some [a, b]) := by
  unfold swappedStores
  have hst : ([v1, v2].any fun | .Starred .. => true | _ => false) = false := by
    have e : (fun (x : Expr) => match x with | .Starred .. => true | _ => false) = isSt := by funext x; cases x <;> rfl
    rw [e]; simp [h1, h2]
  simp only [hst, hf, hc]
  simp [hb, ha, hb', hl, Expr.pos, List.eraseDups_cons, hne]
  intro h
  exfalso
  rcases h with h | h
  · cases v1 <;> first | (cases h; done) | (cases h1; done)
  · cases v2 <;> first | (cases h; done) | (cases h2; done)
theorem swapped3 {env : Env} {a b d : Str} {pa pb pd p pos : Pos} {q n : Nat} {v1 v2 v3 : Expr} (hb : env.blockKind = .function) (ha : env.kindOf a = some .local) (hb' : env.kindOf b = some .local) (hd : env.kindOf d = some .local) (hl : pb.line = pa.line) (hl' : pd.line = pa.line) (hne : b ≠ a) (hne1 : d ≠ a) (hne2 : d ≠ b)
    (h1 : isSt v1 = false) (h2 : isSt v2 = false) (h3 : isSt v3 = false) (hf : [v1, v2, v3].all (foldedForSure 8) = false) (hc : [v1, v2, v3].all (constantsAlone 8) = false) :
    swappedStores [.Tuple [.Name a pa, .Name b pb, .Name d pd] q p] (.Tuple [v1, v2, v3] n pos) env = pure (some [a, b, d]) := by
  unfold swappedStores
  have hst : ([v1, v2, v3].any fun | .Starred .. => true | _ => false) = false := by
    have e : (fun (x : Expr) => match x with | .Starred .. => true | _ => false) = isSt := by funext x; cases x <;> rfl
    rw [e]; simp [h1, h2, h3]
  simp only [hst, hf, hc]
  simp [hb, ha, hb', hd, hl, hl', Expr.pos, List.eraseDups_cons, hne, hne1, hne2]
  intro h
  exfalso
  rcases h with h | h | h
  · cases v1 <;> first | (cases h; done) | (cases h1; done)
  · cases v2 <;> first | (cases h; done) | (cases h2; done)
  · cases v3 <;> first | (cases h; done) | (cases h3; done)
section
variable {prog : Program} {w : World} {G : Heap} {vs : List Str} {nl : Nat} {oc : Bool} {gs : List Str} {c : Cx prog w G vs nl oc gs} {ρ : List AV}
theorem Cx.block (c : Cx prog w G vs nl oc gs) : c.env.blockKind = .function := by unfold Env.blockKind; rw [c.kind]; rfl
def tD : Option (List Nat) → D
  | none => .none
  | some l => S l
theorem CmpD.isNone {t : Option (List Nat)} : CmpD prog w .Is (tD t) .none t.isNone := fun A n f s u v Q E ok i r1 r2 k => by
  cases r2
  refine is_none ?_
  cases t with
  | none => cases r1; exact k _ _ (.refl i)
  | some l => cases r1; exact k _ _ (.refl i)
theorem Ex1.two {a b : Str} {pa pb p pos ep : Pos} {q m : Nat} {e1 e2 : Expr} (i j : Nat) {d1 d2 : D} (h1 : Ev c ρ e1 d1) (h2 : Ev c ρ e2 d2) (hi : i < nl) (hj : j < nl) (ha : vs[i]? = some a := by rfl) (hb : vs[j]? = some b := by rfl)
    (hij : i ≠ j := by decide) (hl : pb.line = pa.line := by rfl) (h3 : isSt e1 = false := by rfl) (h4 : isSt e2 = false := by rfl) (hf : [e1, e2].all (foldedForSure 8) = false := by decide +kernel) (hc : [e1, e2].all (constantsAlone 8) = false := by decide +kernel)
    (he1 : ∀ env, starEach (e1 :: [e2]) env = (false, eval e1 env) :: starEach [e2] env := by intro _; rfl) (he2 : ∀ env, starEach (e2 :: []) env = (false, eval e2 env) :: starEach [] env := by intro _; rfl)
    (hs : ∀ env, swapsWithSole [.Tuple [.Name a pa, .Name b pb] q p] (.Tuple [e1, e2] m ep) pos.line env = pure false := by intro _; rfl) (h0n : 0 < c.n := by first | exact ar_n (by assumption) | exact ar_n2 (by assumption) (by assumption) | omega) :
    Ex1 c ρ (.Assign [.Tuple [.Name a pa, .Name b pb] q p] (.Tuple [e1, e2] m ep) pos) (.next ((ρ.set j (.dat d2)).set i (.dat d1))) :=
  Ex1.assignS (xs := [a, b]) [i, j] (Ev.tuple (Evs.cons h1 (Evs.cons h2 Evs.nil he2) he1) (by simp)) (by simp [ha, hb]) (by simp [hi, hj]) rfl
    (swapped2 (Cx.block c) (c.loc i a hi ha) (c.loc j b hj hb) hl (fun e => by subst e; exact nodup_ne c.nodup ha hb hij rfl) h3 h4 hf hc) hs h0n
theorem Ex1.three {a b d : Str} {pa pb pd p pos ep : Pos} {q m : Nat} {e1 e2 e3 : Expr} (i j k : Nat) {d1 d2 d3 : D} (h1 : Ev c ρ e1 d1) (h2 : Ev c ρ e2 d2) (h3 : Ev c ρ e3 d3) (hi : i < nl) (hj : j < nl) (hk : k < nl) (ha : vs[i]? = some a := by rfl) (hb : vs[j]? = some b := by rfl) (hd : vs[k]? = some d := by rfl)
    (hij : i ≠ j := by decide) (hik : i ≠ k := by decide) (hjk : j ≠ k := by decide) (hl : pb.line = pa.line := by rfl) (hl' : pd.line = pa.line := by rfl) (h3' : isSt e1 = false := by rfl) (h4 : isSt e2 = false := by rfl) (h5 : isSt e3 = false := by rfl) (hf : [e1, e2, e3].all (foldedForSure 8) = false := by decide +kernel) (hc : [e1, e2, e3].all (constantsAlone 8) = false := by decide +kernel)
    (he1 : ∀ env, starEach (e1 :: [e2, e3]) env = (false, eval e1 env) :: starEach [e2, e3] env := by intro _; rfl) (he2 : ∀ env, starEach (e2 :: [e3]) env = (false, eval e2 env) :: starEach [e3] env := by intro _; rfl) (he3 : ∀ env, starEach (e3 :: []) env = (false, eval e3 env) :: starEach [] env := by intro _; rfl)
    (hs : ∀ env, swapsWithSole [.Tuple [.Name a pa, .Name b pb, .Name d pd] q p] (.Tuple [e1, e2, e3] m ep) pos.line env = pure false := by intro _; rfl) (h0n : 0 < c.n := by first | exact ar_n (by assumption) | exact ar_n2 (by assumption) (by assumption) | omega) :
    Ex1 c ρ (.Assign [.Tuple [.Name a pa, .Name b pb, .Name d pd] q p] (.Tuple [e1, e2, e3] m ep) pos) (.next (((ρ.set k (.dat d3)).set j (.dat d2)).set i (.dat d1))) :=
  Ex1.assignS (xs := [a, b, d]) [i, j, k] (Ev.tuple (Evs.cons h1 (Evs.cons h2 (Evs.cons h3 Evs.nil he3) he2) he1) (by simp)) (by simp [ha, hb, hd]) (by simp [hi, hj, hk]) rfl
    (swapped3 (Cx.block c) (c.loc i a hi ha) (c.loc j b hj hb) (c.loc k d hk hd) hl hl' (fun e => by subst e; exact nodup_ne c.nodup ha hb hij rfl) (fun e => by subst e; exact nodup_ne c.nodup ha hd hik rfl) (fun e => by subst e; exact nodup_ne c.nodup hb hd hjk rfl) h3' h4 h5 hf hc) hs h0n
end
section
variable {prog : Program} {w : World} {G : Heap} (Z : W0 G)
structure Du where
  place : List Nat
  server : List Nat
  gu : List (List Nat)
  he : List (Option (List Nat))
def dStep (s : Du) (m : Nat × List Nat) : Du :=
  let g := walkP s.place m.2 false
  let sv := if m.1 = 4 then s.server else walkP s.server m.2 true
  { place := if m.1 = 4 then s.place else if m.1 = 5 then g else sv, server := sv, gu := s.gu ++ [g], he := s.he ++ [if m.1 = 4 then none else if m.1 = 5 then some [] else some sv] }
def dueP (ms : List (Nat × List Nat)) : Du := ms.foldl dStep ⟨[47], [47], [], []⟩
def dueD (s : Du) : D := .list [.list (s.gu.map S), .list (s.he.map tD)]
include Z in
theorem due_spec (ms : List (Nat × List Nat)) (hm : ms.length ≤ 100) (hp : ∀ m ∈ ms, m.2.length ≤ 13) : Spec prog w G "_law_due" 3 [.list (ms.map fun m => .int m.1), .list (ms.map fun m => S m.2)] (dueD (dueP ms)) := by
  refine spec_pre (ps := ["kinds", "paths"]) ["place", "server", "guesses", "heard", "kind", "path", "guess", "told"] [.dat (.list (ms.map fun m => .int m.1)), .dat (.list (ms.map fun m => S m.2)), .undef, .undef, .undef, .undef, .undef, .undef, .undef, .undef] 10 ["zip", "_law_walk"] Z.due Z.noLimit (by decide +kernel) rfl ?_ rfl fun c hn => ?_
  · intro us doc pm an cdv ct hl
    obtain ⟨u, v, rfl⟩ := len2 hl
    rfl
  · conv => enter [3]; whnf
    refine Ex.cons (Ex1.assignT [2, 3, 4, 5] (Ev.tuple (ds := [S [47], S [47], .list [], .list []]) (Evs.cons (Ev.lit (by decide +kernel)) (Evs.cons (Ev.lit (by decide +kernel)) (Evs.cons (EvF.ev (EvF.list Evs.nil (by simp))) (Evs.cons (EvF.ev (EvF.list Evs.nil (by simp))) Evs.nil)))) (by simp)) ⟨⟨_, _, rfl, rfl, .inl (by decide)⟩, ⟨_, _, rfl, rfl, .inl (by decide)⟩, ⟨_, _, rfl, rfl, .inl (by decide)⟩, ⟨_, _, rfl, rfl, .inl (by decide)⟩, trivial⟩ rfl (.inl rfl)) ?_
    refine Ex.forZFold ms ⟨[47], [47], [], []⟩ ([.undef, .undef, .undef, .undef] : List AV) (fun m => .int m.1) (fun m => S m.2) dStep
      (fun s t => [.dat (.list (ms.map fun m => .int m.1)), .dat (.list (ms.map fun m => S m.2)), .dat (S s.place), .dat (S s.server), .dat (.list (s.gu.map S)), .dat (.list (s.he.map tD)), t.getD 0 .undef, t.getD 1 .undef, t.getD 2 .undef, t.getD 3 .undef])
      (fun s t m => [.dat (.list (ms.map fun m => .int m.1)), .dat (.list (ms.map fun m => S m.2)), .dat (S s.place), .dat (S s.server), .dat (.list (s.gu.map S)), .dat (.list (s.he.map tD)), .dat (.int m.1), .dat (S m.2), t.getD 2 .undef, t.getD 3 .undef])
      (fun xs s => (∀ m ∈ xs, m.2.length ≤ 13) ∧ s.place.length + 20 * xs.length ≤ 9000 ∧ s.server.length + 20 * xs.length ≤ 9000 ∧ s.gu.length + xs.length ≤ 1000 ∧ s.he.length + xs.length ≤ 1000) rfl
      (EvG.b Z.zip (by decide)) (Ev.v 0) (Ev.v 1) (fun s t m => As.tup [6, 7] (by exact ⟨⟨_, _, rfl, rfl, .inl (by decide)⟩, ⟨_, _, rfl, rfl, .inl (by decide)⟩, trivial⟩) rfl (.inl rfl)) ⟨hp, by simp; omega, by simp; omega, by simp; omega, by simp; omega⟩ ?_ ?_ ?_
    · intro m xs s ⟨h1, h2, h3, h4, h5⟩
      have hm := h1 m (.head _)
      have w1 := walk_len s.place m.2 false
      have w2 := walk_len s.server m.2 true
      simp only [List.length_cons] at h2 h3 h4 h5
      refine ⟨fun q hq => h1 q (.tail _ hq), ?_, ?_, ?_, ?_⟩
      · show (if m.1 = 4 then s.place else if m.1 = 5 then walkP s.place m.2 false else (if m.1 = 4 then s.server else walkP s.server m.2 true)).length + 20 * xs.length ≤ 9000
        split
        · omega
        · split
          · omega
          · omega
      · show (if m.1 = 4 then s.server else walkP s.server m.2 true).length + 20 * xs.length ≤ 9000
        split <;> omega
      · show (s.gu ++ [_]).length + xs.length ≤ 1000
        simp; omega
      · show (s.he ++ [_]).length + xs.length ≤ 1000
        simp; omega
    · intro m xs s t ⟨h1, h2, h3, h4, h5⟩
      have hm := h1 m (.head _)
      have w2 := walk_len s.server m.2 true
      simp only [List.length_cons] at h2 h3 h4 h5
      generalize hsv : (if m.1 = 4 then s.server else walkP s.server m.2 true) = sv
      generalize hg : walkP s.place m.2 false = g
      have h4i : ∀ b : Bool, ((m.1 : Int) == 4) = b → (b = true ↔ m.1 = 4) := fun b hb => by subst hb; simp; omega
      have h5i : ∀ b : Bool, ((m.1 : Int) == 5) = b → (b = true ↔ m.1 = 5) := fun b hb => by subst hb; simp; omega
      generalize hto : (if m.1 = 4 then none else if m.1 = 5 then some [] else some sv : Option (List Nat)) = to
      refine ⟨[.dat (.int m.1), .dat (S m.2), .dat (S g), .dat (tD to)], .inl ?_⟩
      refine Ex.cons (Ex1.two 8 3 (d1 := S g) (d2 := S sv) (hg ▸ Ev.callN Z.walk (by decide) (EvA.cons (Ev.v 2) (Evs.cons (Ev.v 7) (Evs.cons Ev.bool Evs.nil))) (walk_spec Z s.place m.2 false (by first | exact ar_n hn | exact ar_n2 hc' hn | assumption | exact Nat.le_trans (by assumption) (by decide) | omega) (by first | exact ar_n hn | exact ar_n2 hc' hn | assumption | exact Nat.le_trans (by assumption) (by decide) | omega)) (by first | exact ar_n hn | exact ar_n2 hc' hn | assumption | exact Nat.le_trans (by assumption) (by decide) | omega)) (Ev.ite (Tr.cmp (Ev.v 6) Ev.int CmpD.eqI) (fun h => ?_) (fun h => ?_)) (by decide) (by decide)) ?_
      · rw [if_pos ((h4i _ rfl).mp h)] at hsv
        exact hsv ▸ Ev.v 3
      · rw [if_neg fun q => by rw [(h4i _ rfl).mpr q] at h; cases h] at hsv
        exact hsv ▸ Ev.callN Z.walk (by decide) (EvA.cons (Ev.v 3) (Evs.cons (Ev.v 7) (Evs.cons Ev.bool Evs.nil))) (walk_spec Z s.server m.2 true (by first | exact ar_n hn | exact ar_n2 hc' hn | assumption | exact Nat.le_trans (by assumption) (by decide) | omega) (by first | exact ar_n hn | exact ar_n2 hc' hn | assumption | exact Nat.le_trans (by assumption) (by decide) | omega)) (by first | exact ar_n hn | exact ar_n2 hc' hn | assumption | exact Nat.le_trans (by assumption) (by decide) | omega)
      refine Ex.cons (Ex1.assign 9 (d := tD to) (Ev.ite (Tr.cmp (Ev.v 6) Ev.int CmpD.eqI) (fun h => ?_) (fun h => Ev.ite (Tr.cmp (Ev.v 6) Ev.int CmpD.eqI) (fun h' => ?_) (fun h' => ?_))) rfl) ?_
      · rw [if_pos ((h4i _ rfl).mp h)] at hto
        exact hto ▸ Ev.cnone
      · rw [if_neg (fun q => by rw [(h4i _ rfl).mpr q] at h; cases h), if_pos ((h5i _ rfl).mp h')] at hto
        exact hto ▸ Ev.lit (by decide +kernel)
      · rw [if_neg (fun q => by rw [(h4i _ rfl).mpr q] at h; cases h), if_neg (fun q => by rw [(h5i _ rfl).mpr q] at h'; cases h')] at hto
        exact hto ▸ Ev.v 3
      refine Ex.cons (Ex1.two 4 5 (d1 := .list ((s.gu ++ [g]).map S)) (d2 := .list ((s.he ++ [to]).map tD)) ?_ ?_ (by decide) (by decide)) ?_
      · rw [List.map_append]
        exact Ev.bin (Ev.v 4) (EvF.ev (EvF.list (Evs.cons (Ev.v 8) Evs.nil) (by simp))) (BinD.addL (by first | exact ln_map (by assumption) | (simp; omega)))
      · rw [List.map_append]
        exact Ev.bin (Ev.v 5) (EvF.ev (EvF.list (Evs.cons (Ev.v 9) Evs.nil) (by simp))) (BinD.addL (by first | exact ln_map (by assumption) | (simp; omega)))
      have e : dStep s m = { place := if m.1 = 4 then s.place else if m.1 = 5 then g else sv, server := sv, gu := s.gu ++ [g], he := s.he ++ [to] } := by
        rw [← hto, ← hsv, ← hg]; rfl
      rw [e]
      refine Ex.one (Ex1.assign 2 (d := S (if m.1 = 4 then s.place else if m.1 = 5 then g else sv)) (Ev.ite (Tr.cmp (Ev.v 6) Ev.int CmpD.eqI) (fun h => ?_) (fun h => Ev.ite (Tr.cmp (Ev.v 6) Ev.int CmpD.eqI) (fun h' => ?_) (fun h' => ?_))) rfl)
      · rw [if_pos ((h4i _ rfl).mp h)]
        exact Ev.v 2
      · rw [if_neg (fun q => by rw [(h4i _ rfl).mpr q] at h; cases h), if_pos ((h5i _ rfl).mp h')]
        exact Ev.v 8
      · rw [if_neg (fun q => by rw [(h4i _ rfl).mpr q] at h; cases h), if_neg (fun q => by rw [(h5i _ rfl).mpr q] at h'; cases h')]
        exact Ev.v 3
    · intro t
      exact Ex.one (Ex1.ret (EvF.ev (EvF.list (Evs.cons (Ev.v 4) (Evs.cons (Ev.v 5) Evs.nil)) (by simp))))
end
end Mine
end
section
set_option autoImplicit false
set_option Elab.async false
set_option linter.unusedVariables false
set_option linter.unusedSimpArgs false
open PySem PySem.W PyProof.Rows PySem.Calls
namespace Mine
section
variable {prog : Program} {w : World} {G : Heap} (Z : W0 G)
structure Mv where
  path : List Nat
  ans : List Nat
  told : Option (List Nat)
structure Cl where
  place : List Nat
  gu : List (List Nat)
  he : List (Option (List Nat))
def cStep (s : Cl) (m : Mv) : Cl :=
  let g := normP (joinP s.place m.path)
  { place := match m.told with | none => s.place | some t => if t = [] then g else t, gu := s.gu ++ [g], he := s.he ++ [m.told] }
def cliP (ms : List Mv) : Cl := ms.foldl cStep ⟨[47], [], []⟩
def cliD (s : Cl) : D := .list [.list (s.gu.map S), .list (s.he.map tD)]
theorem normP_len (l : List Nat) : (normP l).length ≤ l.length + 3 := by
  have hrl : (rootOf l).1.length ≤ 2 ∧ (rootOf l).2.length ≤ l.length := by
    unfold rootOf; split
    · split
      · exact ⟨by simp; omega, by simp⟩
      · exact ⟨by simp, by simp⟩
    · exact ⟨by simp, by simp⟩
  have hf := nFold_total (rootOf l).1 (sp 47 (rootOf l).2) []
  have hs := total_le 47 (rootOf l).2
  have hj := jn_len ((sp 47 (rootOf l).2).foldl (nStep (rootOf l).1) [])
  have h0 : total ([] : List (List Nat)) = 0 := rfl
  have h00 : ([] : List (List Nat)).length = 0 := rfl
  by_cases he : l.isEmpty = true
  · unfold normP; rw [if_pos he]; simp
  · have e : normP l = if ((rootOf l).1 ++ jn [47] ((sp 47 (rootOf l).2).foldl (nStep (rootOf l).1) [])).isEmpty = true then [46] else ((rootOf l).1 ++ jn [47] ((sp 47 (rootOf l).2).foldl (nStep (rootOf l).1) [])) := by
      unfold normP; rw [if_neg he]
    rw [e]
    split
    · simp
    · simp only [List.length_append]
      omega
theorem joinP_len (a b : List Nat) : (joinP a b).length ≤ a.length + b.length + 1 := by
  unfold joinP
  split
  · omega
  · split
    · simp
    · simp; omega
include Z in
theorem client_spec (ms : List Mv) (hm : ms.length ≤ 100) (hp : ∀ m ∈ ms, m.path.length ≤ 13 ∧ ∀ t, m.told = some t → t.length ≤ 5000) (hh : ∀ m ∈ ms, Spec prog w G "_law_hear" 6 [S m.ans] (tD m.told)) :
    Spec prog w G "_law_client" 8 [.list (ms.map fun m => .list [S m.path, S m.ans])] (cliD (cliP ms)) := by
  refine spec_pre (ps := ["moves"]) ["place", "guesses", "heard", "path", "answer", "guess", "told"] [.dat (.list (ms.map fun m => .list [S m.path, S m.ans])), .undef, .undef, .undef, .undef, .undef, .undef, .undef] 8 ["normpath", "join", "_law_hear"] Z.client Z.noLimit (by decide +kernel) rfl ?_ rfl fun c hn => ?_
  · intro us doc pm an cdv ct hl
    obtain ⟨u, rfl⟩ := len1 hl
    rfl
  · conv => enter [3]; whnf
    refine Ex.cons (Ex1.three 1 2 3 (d1 := S [47]) (d2 := .list []) (d3 := .list []) (Ev.lit (by decide +kernel)) (EvF.ev (EvF.list Evs.nil (by simp))) (EvF.ev (EvF.list Evs.nil (by simp))) (by decide) (by decide) (by decide)) ?_
    refine Ex.forFold ms ⟨[47], [], []⟩ ([.undef, .undef, .undef, .undef] : List AV) (fun m => .list [S m.path, S m.ans]) cStep
      (fun s t => [.dat (.list (ms.map fun m => .list [S m.path, S m.ans])), .dat (S s.place), .dat (.list (s.gu.map S)), .dat (.list (s.he.map tD)), t.getD 0 .undef, t.getD 1 .undef, t.getD 2 .undef, t.getD 3 .undef])
      (fun s t m => [.dat (.list (ms.map fun m => .list [S m.path, S m.ans])), .dat (S s.place), .dat (.list (s.gu.map S)), .dat (.list (s.he.map tD)), .dat (S m.path), .dat (S m.ans), t.getD 2 .undef, t.getD 3 .undef])
      (fun xs s => (∀ m ∈ xs, m.path.length ≤ 13 ∧ (∀ t, m.told = some t → t.length ≤ 5000) ∧ Spec prog w G "_law_hear" 6 [S m.ans] (tD m.told)) ∧ s.place.length + 20 * xs.length ≤ 9000 ∧ s.gu.length + xs.length ≤ 1000 ∧ s.he.length + xs.length ≤ 1000 ∧ xs.length ≤ 100) rfl
      (EvI.list (Ev.v 0)) (fun s t m => As.tup [4, 5] (by exact ⟨⟨_, _, rfl, rfl, .inl (by decide)⟩, ⟨_, _, rfl, rfl, .inl (by decide)⟩, trivial⟩) rfl (.inr rfl)) ⟨fun m hq => ⟨(hp m hq).1, (hp m hq).2, hh m hq⟩, by simp; omega, by simp; omega, by simp; omega, hm⟩ ?_ ?_ ?_
    · intro m xs s ⟨h1, h2, h3, h4, h5⟩
      obtain ⟨hm1, hm2, hm3⟩ := h1 m (.head _)
      have w1 := normP_len (joinP s.place m.path)
      have w2 := joinP_len s.place m.path
      simp only [List.length_cons] at h2 h3 h4 h5
      refine ⟨fun q hq => h1 q (.tail _ hq), ?_, ?_, ?_, by omega⟩
      · show (match m.told with | none => s.place | some t => if t = [] then normP (joinP s.place m.path) else t).length + 20 * xs.length ≤ 9000
        cases ht : m.told with
        | none => simp only; omega
        | some t =>
          simp only
          split
          · omega
          · have := hm2 t ht; omega
      · show (s.gu ++ [_]).length + xs.length ≤ 1000
        simp; omega
      · show (s.he ++ [_]).length + xs.length ≤ 1000
        simp; omega
    · intro m xs s t ⟨h1, h2, h3, h4, h5⟩
      obtain ⟨hm1, hm2, hm3⟩ := h1 m (.head _)
      have w1 := normP_len (joinP s.place m.path)
      have w2 := joinP_len s.place m.path
      simp only [List.length_cons] at h2 h3 h4 h5
      generalize hg : normP (joinP s.place m.path) = g
      refine ⟨[.dat (S m.path), .dat (S m.ans), .dat (S g), .dat (tD m.told)], .inl ?_⟩
      refine Ex.cons (Ex1.two 6 7 (d1 := S g) (d2 := tD m.told) (hg ▸ Ev.callN Z.normpath (by decide) (EvA.cons (Ev.callN Z.join (by decide) (EvA.cons (Ev.v 1) (Evs.cons (Ev.v 4) Evs.nil)) (join_spec Z s.place m.path (by first | exact ar_n hn | exact ar_n2 hc' hn | assumption | exact Nat.le_trans (by assumption) (by decide) | omega)) (by first | exact ar_n hn | exact ar_n2 hc' hn | assumption | exact Nat.le_trans (by assumption) (by decide) | omega)) Evs.nil) (normpath_spec Z _ (by first | exact ar_n hn | exact ar_n2 hc' hn | assumption | exact Nat.le_trans (by assumption) (by decide) | omega)) (by first | exact ar_n hn | exact ar_n2 hc' hn | assumption | exact Nat.le_trans (by assumption) (by decide) | omega)) (Ev.callN Z.hear (by decide) (EvA.cons (Ev.v 5) Evs.nil) hm3 (by first | exact ar_n hn | exact ar_n2 hc' hn | assumption | exact Nat.le_trans (by assumption) (by decide) | omega)) (by decide) (by decide)) ?_
      refine Ex.cons (Ex1.two 2 3 (d1 := .list ((s.gu ++ [g]).map S)) (d2 := .list ((s.he ++ [m.told]).map tD)) ?_ ?_ (by decide) (by decide)) ?_
      · rw [List.map_append]
        exact Ev.bin (Ev.v 2) (EvF.ev (EvF.list (Evs.cons (Ev.v 6) Evs.nil) (by simp))) (BinD.addL (by first | exact ln_map (by assumption) | (simp; omega)))
      · rw [List.map_append]
        exact Ev.bin (Ev.v 3) (EvF.ev (EvF.list (Evs.cons (Ev.v 7) Evs.nil) (by simp))) (BinD.addL (by first | exact ln_map (by assumption) | (simp; omega)))
      have e : cStep s m = { place := match m.told with | none => s.place | some t => if t = [] then g else t, gu := s.gu ++ [g], he := s.he ++ [m.told] } := by
        rw [← hg]; rfl
      rw [e]
      refine Ex.one (Ex1.assign 1 (d := S (match m.told with | none => s.place | some t => if t = [] then g else t)) (Ev.ite (Tr.cmp (Ev.v 7) Ev.cnone CmpD.isNone) (fun h => ?_) (fun h => ?_)) rfl)
      · cases ht : m.told with
        | none => exact Ev.v 1
        | some t => rw [ht] at h; cases h
      · cases ht : m.told with
        | none => rw [ht] at h; cases h
        | some t =>
          refine Ev.ite (Tr.cmp (a := S t) (Ev.v 7) (Ev.lit (l := []) (by decide +kernel)) CmpD.eqS) (fun h' => ?_) (fun h' => ?_)
          · have : t = [] := by simpa using h'
            subst this
            exact Ev.v 6
          · have : t ≠ [] := by simpa using h'
            simp only [this, if_false]
            exact Ev.v 7
    · intro t
      exact Ex.one (Ex1.ret (EvF.ev (EvF.list (Evs.cons (Ev.v 2) (Evs.cons (Ev.v 3) Evs.nil)) (by simp))))
end
end Mine
end
section
set_option autoImplicit false
set_option Elab.async false
set_option linter.unusedVariables false
set_option linter.unusedSimpArgs false
open PySem PySem.W PyProof.Rows PySem.Calls
namespace Mine
def ix : D → Nat
  | .int i => i.toNat
  | _ => 0
theorem ix_int (k : Nat) : ix (.int k) = k := by simp [ix]
section
variable {prog : Program} {w : World} {G : Heap} (Z : W0 G)
def keepP (rows two : List (List Nat)) (k : Nat) : Bool :=
  !two.contains (rows.getD k []) && (!(rows.take k).contains (rows.getD k []) || (two.filter fun o => decide (rows.getD k [] < o)).isEmpty)
def onlyP (one two : List (List Nat)) : List (List Nat) := ((List.range (srt one).length).filter (keepP (srt one) two)).map fun k => (srt one).getD k []
theorem range_filter_map {rows : List (List Nat)} {n : Nat} (p : Nat → Bool) : ((((List.range n).map fun k : Nat => D.int k).filter fun d => p (ix d)).map fun d => S (rows.getD (ix d) [])) = (((List.range n).filter p).map fun k => rows.getD k []).map S := by
  rw [List.filter_map, List.map_map, List.map_map]
  have e1 : ((fun d => p (ix d)) ∘ fun k : Nat => D.int k) = p := by funext k; simp [Function.comp, ix_int]
  have e2 : ((fun d => S (rows.getD (ix d) [])) ∘ fun k : Nat => D.int k) = S ∘ fun k => rows.getD k [] := by funext k; simp [Function.comp, ix_int]
  rw [e1, e2]
theorem srt_len (l : List (List Nat)) : (srt l).length = l.length := (srt_perm l).length_eq
include Z in
theorem only_spec (one two : List (List Nat)) (h1 : one.length < 64) (h2 : two.length ≤ 1000) : Spec prog w G "_law_only" 2 [.list (one.map S), .list (two.map S)] (.list ((onlyP one two).map S)) := by
  refine spec_body (ps := ["one", "two"]) [.dat (.list (one.map S)), .undef, .dat (.list (two.map S))] ["one", "rows", "two"] 1 ["sorted", "range", "len"] Z.only Z.noLimit (by decide +kernel) rfl ?_ ?_ fun c hn => ?_
  · intro us doc pm an cdv ct hl
    obtain ⟨u, v, rfl⟩ := len2 hl
    rfl
  · intro j y av hx hr
    match j, hx, hr with
    | 0, hx, hr => exact .inr ⟨0, _, hx, rfl, (Option.some.inj hr).symm⟩
    | 1, hx, hr => exact .inl (Option.some.inj hr).symm
    | 2, hx, hr => exact .inr ⟨1, _, hx, rfl, (Option.some.inj hr).symm⟩
  · conv => enter [3]; whnf
    refine Ex.cons (Ex1.assign 1 (Ev.callB (EvG.b Z.sorted (by decide)) (EvA.cons (Ev.v 0) Evs.nil) (CalD.sorted h1)) rfl) ?_
    have hlr := srt_len one
    have e := range_filter_map (rows := srt one) (n := (srt one).length) (keepP (srt one) two)
    refine Ex.eqO (o := .ret (.list _)) (Ex.one (Ex1.ret (EvF.ev (EvF.compC (ds := (List.range (srt one).length).map fun k : Nat => D.int k) ["rows", "two"] [] [1, 2] [.dat (.list ((srt one).map S)), .dat (.list (two.map S))] (fun d => keepP (srt one) two (ix d)) (fun d => S ((srt one).getD (ix d) [])) (by decide +kernel)
      (EvI.rangeN (EvG.b Z.range (by decide)) (Ev.eq (Ev.callB (EvG.b Z.len (by decide)) (EvA.cons (Ev.v 1) Evs.nil) (CalD.lenL (by first | exact ln_map (by assumption) | (simp; omega)))) (by simp)) (by first | exact ar_n hn | exact ar_n2 hc' hn | assumption | exact Nat.le_trans (by assumption) (by decide) | omega)) (by first | exact ln_map (by assumption) | (simp; omega)) ?_ rfl (fun c' hc' d hd => ?_))))) (by rw [e]; rfl)
    · intro j y hy
      match j, hy with
      | 0, hy => exact ⟨1, _, rfl, hy, by decide, rfl, rfl⟩
      | 1, hy => exact ⟨2, _, rfl, hy, by decide, rfl, rfl⟩
    · obtain ⟨k, hk, rfl⟩ := List.mem_map.mp hd
      have hk' : k < (srt one).length := List.mem_range.mp hk
      rw [ix_int]
      have hget : GetD prog w (.list ((srt one).map S)) (.int k) (S ((srt one).getD k [])) := GetD.list (by first | exact ar_n hn | exact ar_n2 hc' hn | assumption | exact Nat.le_trans (by assumption) (by decide) | omega) (by
        rw [Int.toNat_natCast, List.getElem?_map, List.getElem?_eq_getElem hk', List.getD_eq_getElem?_getD, List.getElem?_eq_getElem hk']; rfl) (by first | exact ln_map (by assumption) | (simp; omega))
      have hrow : ∀ {c : Cx prog w G ["k", "rows", "two"] 0 false []} {e : Expr} {p1 p2 p3 : Pos}, True := fun {_ _ _ _ _} => trivial
      refine ⟨.inr ⟨_, rfl, ?_⟩, fun _ => Ev.sub (Ev.v 1) (Ev.v 0) hget rfl⟩
      refine Tr.and2 (Tr.eq (Tr.cmp (Ev.sub (Ev.v 1) (Ev.v 0) hget rfl) (Ev.v 2) (CmpD.notInS (all_plainS _))) (by rw [any_eqS])) fun _ => Tr.or2 (Tr.eq (Tr.cmp (Ev.sub (Ev.v 1) (Ev.v 0) hget rfl) (EvF.ev (EvF.sliceL (Ev.v 1) EvP.nil (EvP.one (Ev.v 0)) (by first | exact ln_map (by assumption) | (simp; omega)))) (CmpD.notInS ?_)) ?_) fun _ => ?_
      · rw [sl_to, ← List.map_take]; exact all_plainS _
      · rw [sl_to, ← List.map_take, any_eqS]
      · have e2 : ((two.map S).filter fun d => decide ((srt one).getD k [] < unS d)).map id = (two.filter fun o => decide ((srt one).getD k [] < o)).map S := by
          rw [List.map_id, List.filter_map]
          congr 1
        refine Tr.eq (Tr.cmp (EvF.ev (EvF.comp ["k", "rows"] [] [0, 1] [.dat (.int k), .dat (.list ((srt one).map S))] (fun d => decide ((srt one).getD k [] < unS d)) id (by decide +kernel) (EvI.list (Ev.v 2)) (by first | exact ln_map (by assumption) | (simp; omega)) ?_ rfl (fun c2 hc2 d hd => ?_))) (EvF.ev (EvF.list Evs.nil (by simp))) CmpD.eqNil) ?_
        · intro j y hy
          match j, hy with
          | 0, hy => exact ⟨0, _, rfl, hy, by decide, rfl, rfl⟩
          | 1, hy => exact ⟨1, _, rfl, hy, by decide, rfl, rfl⟩
        · obtain ⟨x, _, rfl⟩ := List.mem_map.mp hd
          rw [unS_S]
          exact ⟨.inr ⟨_, rfl, Tr.cmp (Ev.v 0) (Ev.sub (Ev.v 2) (Ev.v 1) hget rfl) CmpD.gtS⟩, fun _ => Ev.v 0⟩
        · rw [e2, List.isEmpty_map]
end
end Mine
end
section
set_option autoImplicit false
set_option Elab.async false
set_option linter.unusedVariables false
set_option linter.unusedSimpArgs false
open PySem PySem.W PyProof.Rows PySem.Calls
namespace Mine
section
variable {prog : Program} {w : World} {G : Heap} (Z : W0 G)
theorem exc_ve1 : isSubtype (.type "ValueError") (.type "BaseException") = pure true := by rw [isSubtype_type]; kernel_rfl
theorem exc_ve2 : isSubtype (.type ((Manifest.find? "ValueError").elim "type" fun x => x.metatype)) (.type "tuple") = pure false := by rw [isSubtype_type]; kernel_rfl
theorem exc_ve3 : isSubtype (.type "ValueError") (.type "ValueError") = pure true := by rw [isSubtype_type]; kernel_rfl
theorem exc_ie1 : isSubtype (.type "IndexError") (.type "BaseException") = pure true := by rw [isSubtype_type]; kernel_rfl
theorem exc_ie2 : isSubtype (.type ((Manifest.find? "IndexError").elim "type" fun x => x.metatype)) (.type "tuple") = pure false := by rw [isSubtype_type]; kernel_rfl
theorem exc_ie3 : isSubtype (.type "IndexError") (.type "IndexError") = pure true := by rw [isSubtype_type]; kernel_rfl
def uStep (s : List (List Nat) × List (List Nat)) (x : List Nat) : List (List Nat) × List (List Nat) :=
  if x ∈ s.2 then (s.1, s.2.erase x) else (s.1 ++ [x], s.2)
def uldP (one two : List (List Nat)) : List (List Nat) × List (List Nat) := one.reverse.foldl uStep ([], two)
include Z in
theorem uld_body (one two : List (List Nat)) (h1 : one.length ≤ 100) (h2 : two.length ≤ 100) (c : Cx prog w G (["expected", "actual", "missing", "item"] : List Str) 4 true (["ValueError"] : List Str)) (hn : c.n = 1) (hF : Frm c) (hh : c.A.handled = none) :
    Ex c [.own (one.map S), .own (two.map S), .undef, .undef] (fnBody (stm 23)) (.ret (.tup [.list ((uldP one two).1.map S), .list ((uldP one two).2.map S)])) := by
  conv => enter [3]; whnf
  refine Ex.cons (Ex1.assignOwn 2 (EvF.list Evs.nil (by simp)) rfl) ?_
  refine Ex.whileBy (σ := List (List Nat) × List (List Nat) × List (List Nat) × AV) (one, [], two, .undef) (fun s => [.own (s.1.map S), .own (s.2.2.1.map S), .own (s.2.1.map S), s.2.2.2]) (fun s => s.1.length)
    (fun s => s.1.length + s.2.1.length ≤ 100 ∧ s.2.2.1.length ≤ 100 ∧ s.1.reverse.foldl uStep (s.2.1, s.2.2.1) = uldP one two) (fun ρ' => ∃ av, ρ' = [.own [], .own ((uldP one two).2.map S), .own ((uldP one two).1.map S), av]) rfl ⟨by simpa using h1, h2, rfl⟩ ?_ ?_
  · rintro ⟨l, mis, act, av⟩ ⟨b1, b2, hu⟩
    simp only at b1 b2 hu ⊢
    rcases List.eq_nil_or_concat l with rfl | ⟨ys, z, rfl⟩
    · refine .inl ⟨Tr.eq (Tr.ownName (ds := ([] : List (List Nat)).map S) 0 rfl rfl (by simp)) (by simp), av, ?_⟩
      simp at hu
      rw [← hu]; rfl
    · rw [List.concat_eq_append] at hu b1 ⊢
      simp only [List.length_append, List.length_cons, List.length_nil] at b1
      rw [List.reverse_append] at hu
      simp only [List.reverse_cons, List.reverse_nil, List.nil_append, List.singleton_append, List.foldl_cons] at hu
      refine .inr (.inr ⟨Tr.eq (Tr.ownName 0 rfl rfl (by first | exact ln_map (by assumption) | (simp; omega))) (by simp), ?_⟩)
      by_cases hz : z ∈ act
      · refine ⟨(ys, mis, act.erase z, .dat (S z)), ⟨by simp only; omega, ?_, ?_⟩, by simp, .inl ?_⟩
        · have := List.length_erase_le (a := z) (l := act); simp only; omega
        · rw [← hu]; simp [uStep, hz]
        · refine Ex.cons (Ex1.assignPop 0 3 (ds := ys.map S) (d := S z) rfl (by simp) rfl (by first | exact ln_map (by assumption) | (simp; omega))) ?_
          exact Ex.one (Ex1.tryN (Ex.one (Ex1.remove 1 rfl rfl (Ev.v 3) (by first | exact ar_n hn | exact ar_n2 hc' hn | assumption | exact Nat.le_trans (by assumption) (by decide) | omega) hz)))
      · refine ⟨(ys, mis ++ [z], act, .dat (S z)), ⟨by simp only [List.length_append, List.length_cons, List.length_nil]; omega, b2, ?_⟩, by simp, .inl ?_⟩
        · rw [← hu]; simp [uStep, hz]
        · refine Ex.cons (Ex1.assignPop 0 3 (ds := ys.map S) (d := S z) rfl (by simp) rfl (by first | exact ln_map (by assumption) | (simp; omega))) ?_
          refine Ex.one (Ex1.tryX hF hh (ExX.stop (Ex1X.remove (K := fun _ => True) trivial hh 1 rfl rfl (Ev.v 3) hz)) exc_ve1 exc_ve2 exc_ve3 (fun x => EvG.b Z.valueError (by decide)) fun x => ?_)
          exact Ex.eqO (Ex.one (Ex1.append 2 rfl rfl (Ev.v 3) (by first | exact ln_map (by assumption) | (simp; omega)))) (by simp)
  · rintro ρ' ⟨av, rfl⟩
    refine Ex.freeze 1 rfl rfl ?_
    refine Ex.freeze 2 rfl rfl ?_
    exact Ex.one (Ex1.ret (Ev.tuple (Evs.cons (Ev.v 2) (Evs.cons (Ev.v 1) Evs.nil)) (by simp)))
end
end Mine
end
section
set_option autoImplicit false
set_option Elab.async false
set_option linter.unusedVariables false
set_option linter.unusedSimpArgs false
open PySem PySem.W PyProof.Rows PySem.Calls
namespace Mine
theorem dropWhile_len (p : List Nat → Bool) : ∀ l : List (List Nat), (l.dropWhile p).length ≤ l.length
  | [] => by simp
  | x :: l => by
    rw [List.dropWhile_cons]
    split
    · have := dropWhile_len p l; simp only [List.length_cons]; omega
    · omega
def sldR (e a mis unx : List (List Nat)) : List (List Nat) × List (List Nat) :=
  match e, a with
  | [], a => (mis, unx ++ a)
  | e, [] => (mis ++ e, unx)
  | x :: e, y :: a =>
    if x < y then sldR (e.dropWhile (· == x)) (y :: a) (mis ++ [x]) unx
    else if y < x then sldR (x :: e) (a.dropWhile (· == y)) mis (unx ++ [y])
    else sldR (e.dropWhile (· == x)) (a.dropWhile (· == y)) mis unx
termination_by e.length + a.length
decreasing_by
  all_goals (first | (have h1 := dropWhile_len (· == x) e; simp only [List.length_cons]; omega) | (have h1 := dropWhile_len (· == y) a; simp only [List.length_cons]; omega) | (have h1 := dropWhile_len (· == x) e; have h2 := dropWhile_len (· == y) a; simp only [List.length_cons]; omega))
theorem sldR_nil (a mis unx : List (List Nat)) : sldR [] a mis unx = (mis, unx ++ a) := by rw [sldR]
theorem sldR_nil2 (e mis unx : List (List Nat)) : sldR e [] mis unx = (mis ++ e, unx) := by
  cases e with
  | nil => rw [sldR]; simp
  | cons x e => rw [sldR]; simp
theorem sldR_cons (x y : List Nat) (e a mis unx : List (List Nat)) : sldR (x :: e) (y :: a) mis unx =
    if x < y then sldR (e.dropWhile (· == x)) (y :: a) (mis ++ [x]) unx
    else if y < x then sldR (x :: e) (a.dropWhile (· == y)) mis (unx ++ [y])
    else sldR (e.dropWhile (· == x)) (a.dropWhile (· == y)) mis unx := by rw [sldR]
def vsS : List Str := ["expected", "actual", "i", "j", "missing", "unexpected", "e", "a"]
def gsS : List Str := ["IndexError"]
def stS (E A : List (List Nat)) (i j : Nat) (mis unx : List (List Nat)) (ev av : AV) : List AV :=
  [.dat (.list (E.map S)), .dat (.list (A.map S)), .dat (.int i), .dat (.int j), .own (mis.map S), .own (unx.map S), ev, av]
section
variable {prog : Program} {w : World} {G : Heap} (Z : W0 G) {K : Value → Prop}
theorem getS {E : List (List Nat)} {i : Nat} {x : List Nat} {r : List (List Nat)} (hE : E.length ≤ 1000) (h : E.drop i = x :: r) : GetD prog w (.list (E.map S)) (.int i) (S x) ∧ i < E.length ∧ E.drop (i + 1) = r := by
  have hi : i < E.length := by have := congrArg List.length h; simp at this; omega
  have hx : E[i]? = some x := by have := congrArg List.head? h; simpa using this
  refine ⟨GetD.list (by first | exact ar_n hn | exact ar_n2 hc' hn | assumption | exact Nat.le_trans (by assumption) (by decide) | omega) ?_ (by first | exact ln_map (by assumption) | (simp; omega)), hi, ?_⟩
  · rw [Int.toNat_natCast, List.getElem?_map, hx]; rfl
  · have := congrArg List.tail h; simpa using this
theorem iWh {c : Cx prog w G vsS 8 true gsS} {E A mis unx : List (List Nat)} {j : Nat} {x : List Nat} {av : AV} {p1 p2 p3 p4 p5 q1 q2 q3 : Pos} {k : Nat} (hE : E.length ≤ 1000) : ∀ (n i : Nat), E.length - i ≤ n → i ≤ E.length → ∀ {y : List Nat} {r : List (List Nat)}, (E.drop i).dropWhile (· == x) = y :: r →
    ∃ i', E.drop i' = y :: r ∧ Wh c (.Compare (.Subscript (.Name "expected" p1) (.Name "i" p2) p3) [.Eq] [.Name "e" p4] p5) [.AugAssign (.Name "i" q1) .Add (.Constant (.int 1) k q2) q3] (stS E A i j mis unx (.dat (S x)) av) (stS E A i' j mis unx (.dat (S x)) av) := by
  intro n
  induction n with
  | zero =>
    intro i hn hi y r h
    have : E.drop i = [] := List.drop_eq_nil_of_le (by first | exact ar_n hn | exact ar_n2 hc' hn | assumption | exact Nat.le_trans (by assumption) (by decide) | omega)
    rw [this] at h; cases h
  | succ n ih =>
    intro i hn hi y r h
    rcases hd : E.drop i with _ | ⟨z, t⟩
    · rw [hd] at h; cases h
    · obtain ⟨hg, hlt, hdr⟩ := getS (prog := prog) (w := w) hE hd
      rw [hd, List.dropWhile_cons] at h
      by_cases hz : z = x
      · subst hz
        rw [if_pos (by simp), ← hdr] at h
        obtain ⟨i', h1, h2⟩ := ih (i + 1) (by first | exact ar_n hn | exact ar_n2 hc' hn | assumption | exact Nat.le_trans (by assumption) (by decide) | omega) (by first | exact ar_n hn | exact ar_n2 hc' hn | assumption | exact Nat.le_trans (by assumption) (by decide) | omega) h
        exact ⟨i', h1, .step _ _ _ (Tr.eq (Tr.cmp (Ev.sub (Ev.v 0) (Ev.v 2) hg rfl) (Ev.v 6) CmpD.eqS) (by simp)) (.inl (Ex.one (Ex1.aug 2 rfl rfl Ev.int InpD.addI))) h2⟩
      · rw [if_neg (by simpa using hz)] at h
        exact ⟨i, h ▸ hd, .done _ (Tr.eq (Tr.cmp (Ev.sub (Ev.v 0) (Ev.v 2) hg rfl) (Ev.v 6) CmpD.eqS) (by simp [hz]))⟩
theorem iWhX {c : Cx prog w G vsS 8 true gsS} (hK : ∀ k, (c.A.handled = none → k = .none) → K k) {E A mis unx : List (List Nat)} {j : Nat} {x : List Nat} {av : AV} {p1 p2 p3 p4 p5 q1 q2 q3 : Pos} {k : Nat} (hE : E.length ≤ 1000) : ∀ (n i : Nat), E.length - i ≤ n → i ≤ E.length → (E.drop i).dropWhile (· == x) = [] →
    ∃ m, WhX K c (.Compare (.Subscript (.Name "expected" p1) (.Name "i" p2) p3) [.Eq] [.Name "e" p4] p5) [.AugAssign (.Name "i" q1) .Add (.Constant (.int 1) k q2) q3] (.type "IndexError") m (stS E A i j mis unx (.dat (S x)) av) (stS E A E.length j mis unx (.dat (S x)) av) := by
  have last : WhX K c (.Compare (.Subscript (.Name "expected" p1) (.Name "i" p2) p3) [.Eq] [.Name "e" p4] p5) [.AugAssign (.Name "i" q1) .Add (.Constant (.int 1) k q2) q3] (.type "IndexError") 0 (stS E A E.length j mis unx (.dat (S x)) av) (stS E A E.length j mis unx (.dat (S x)) av) :=
    .stop _ (TrX.cmp (EvX.out hK (Ev.v 0) (Ev.v 2) (by simp) (by first | exact ar_n hn | exact ar_n2 hc' hn | assumption | exact Nat.le_trans (by assumption) (by decide) | omega)))
  intro n
  induction n with
  | zero =>
    intro i hn hi h
    have : i = E.length := by omega
    subst this
    exact ⟨0, last⟩
  | succ n ih =>
    intro i hn hi h
    rcases hd : E.drop i with _ | ⟨z, t⟩
    · have : i = E.length := by have := congrArg List.length hd; simp at this; omega
      subst this
      exact ⟨0, last⟩
    · obtain ⟨hg, hlt, hdr⟩ := getS (prog := prog) (w := w) hE hd
      rw [hd, List.dropWhile_cons] at h
      by_cases hz : z = x
      · subst hz
        rw [if_pos (by simp), ← hdr] at h
        obtain ⟨m, h2⟩ := ih (i + 1) (by first | exact ar_n hn | exact ar_n2 hc' hn | assumption | exact Nat.le_trans (by assumption) (by decide) | omega) (by first | exact ar_n hn | exact ar_n2 hc' hn | assumption | exact Nat.le_trans (by assumption) (by decide) | omega) h
        exact ⟨m + 1, .step _ _ _ _ (Tr.eq (Tr.cmp (Ev.sub (Ev.v 0) (Ev.v 2) hg rfl) (Ev.v 6) CmpD.eqS) (by simp)) (.inl (Ex.one (Ex1.aug 2 rfl rfl Ev.int InpD.addI))) h2⟩
      · rw [if_neg (by simpa using hz)] at h
        cases h
theorem jWh {c : Cx prog w G vsS 8 true gsS} {E A mis unx : List (List Nat)} {i : Nat} {x : List Nat} {ev : AV} {p1 p2 p3 p4 p5 q1 q2 q3 : Pos} {k : Nat} (hE : A.length ≤ 1000) : ∀ (n j : Nat), A.length - j ≤ n → j ≤ A.length → ∀ {y : List Nat} {r : List (List Nat)}, (A.drop j).dropWhile (· == x) = y :: r →
    ∃ j', A.drop j' = y :: r ∧ Wh c (.Compare (.Subscript (.Name "actual" p1) (.Name "j" p2) p3) [.Eq] [.Name "a" p4] p5) [.AugAssign (.Name "j" q1) .Add (.Constant (.int 1) k q2) q3] (stS E A i j mis unx ev (.dat (S x))) (stS E A i j' mis unx ev (.dat (S x))) := by
  intro n
  induction n with
  | zero =>
    intro j hn hi y r h
    have : A.drop j = [] := List.drop_eq_nil_of_le (by first | exact ar_n hn | exact ar_n2 hc' hn | assumption | exact Nat.le_trans (by assumption) (by decide) | omega)
    rw [this] at h; cases h
  | succ n ih =>
    intro j hn hi y r h
    rcases hd : A.drop j with _ | ⟨z, t⟩
    · rw [hd] at h; cases h
    · obtain ⟨hg, hlt, hdr⟩ := getS (prog := prog) (w := w) hE hd
      rw [hd, List.dropWhile_cons] at h
      by_cases hz : z = x
      · subst hz
        rw [if_pos (by simp), ← hdr] at h
        obtain ⟨j', h1, h2⟩ := ih (j + 1) (by first | exact ar_n hn | exact ar_n2 hc' hn | assumption | exact Nat.le_trans (by assumption) (by decide) | omega) (by first | exact ar_n hn | exact ar_n2 hc' hn | assumption | exact Nat.le_trans (by assumption) (by decide) | omega) h
        exact ⟨j', h1, .step _ _ _ (Tr.eq (Tr.cmp (Ev.sub (Ev.v 1) (Ev.v 3) hg rfl) (Ev.v 7) CmpD.eqS) (by simp)) (.inl (Ex.one (Ex1.aug 3 rfl rfl Ev.int InpD.addI))) h2⟩
      · rw [if_neg (by simpa using hz)] at h
        exact ⟨j, h ▸ hd, .done _ (Tr.eq (Tr.cmp (Ev.sub (Ev.v 1) (Ev.v 3) hg rfl) (Ev.v 7) CmpD.eqS) (by simp [hz]))⟩
theorem jWhX {c : Cx prog w G vsS 8 true gsS} (hK : ∀ k, (c.A.handled = none → k = .none) → K k) {E A mis unx : List (List Nat)} {i : Nat} {x : List Nat} {ev : AV} {p1 p2 p3 p4 p5 q1 q2 q3 : Pos} {k : Nat} (hE : A.length ≤ 1000) : ∀ (n j : Nat), A.length - j ≤ n → j ≤ A.length → (A.drop j).dropWhile (· == x) = [] →
    ∃ m, WhX K c (.Compare (.Subscript (.Name "actual" p1) (.Name "j" p2) p3) [.Eq] [.Name "a" p4] p5) [.AugAssign (.Name "j" q1) .Add (.Constant (.int 1) k q2) q3] (.type "IndexError") m (stS E A i j mis unx ev (.dat (S x))) (stS E A i A.length mis unx ev (.dat (S x))) := by
  have last : WhX K c (.Compare (.Subscript (.Name "actual" p1) (.Name "j" p2) p3) [.Eq] [.Name "a" p4] p5) [.AugAssign (.Name "j" q1) .Add (.Constant (.int 1) k q2) q3] (.type "IndexError") 0 (stS E A i A.length mis unx ev (.dat (S x))) (stS E A i A.length mis unx ev (.dat (S x))) :=
    .stop _ (TrX.cmp (EvX.out hK (Ev.v 1) (Ev.v 3) (by simp) (by first | exact ar_n hn | exact ar_n2 hc' hn | assumption | exact Nat.le_trans (by assumption) (by decide) | omega)))
  intro n
  induction n with
  | zero =>
    intro j hn hi h
    have : j = A.length := by omega
    subst this
    exact ⟨0, last⟩
  | succ n ih =>
    intro j hn hi h
    rcases hd : A.drop j with _ | ⟨z, t⟩
    · have : j = A.length := by have := congrArg List.length hd; simp at this; omega
      subst this
      exact ⟨0, last⟩
    · obtain ⟨hg, hlt, hdr⟩ := getS (prog := prog) (w := w) hE hd
      rw [hd, List.dropWhile_cons] at h
      by_cases hz : z = x
      · subst hz
        rw [if_pos (by simp), ← hdr] at h
        obtain ⟨m, h2⟩ := ih (j + 1) (by first | exact ar_n hn | exact ar_n2 hc' hn | assumption | exact Nat.le_trans (by assumption) (by decide) | omega) (by first | exact ar_n hn | exact ar_n2 hc' hn | assumption | exact Nat.le_trans (by assumption) (by decide) | omega) h
        exact ⟨m + 1, .step _ _ _ _ (Tr.eq (Tr.cmp (Ev.sub (Ev.v 1) (Ev.v 3) hg rfl) (Ev.v 7) CmpD.eqS) (by simp)) (.inl (Ex.one (Ex1.aug 3 rfl rfl Ev.int InpD.addI))) h2⟩
      · rw [if_neg (by simpa using hz)] at h
        cases h
theorem dwi {E : List (List Nat)} {i : Nat} {p : List Nat → Bool} {y : List Nat} {r : List (List Nat)} (h : (E.drop i).dropWhile p = y :: r) : i ≤ E.length - (r.length + 1) ∧ r.length + 1 ≤ E.length ∧ E.drop (E.length - (r.length + 1)) = y :: r := by
  have hl := dropWhile_len p (E.drop i)
  rw [h] at hl
  simp only [List.length_cons, List.length_drop] at hl
  refine ⟨by omega, by omega, ?_⟩
  have hs : (E.drop i).dropWhile p <:+ E := (List.dropWhile_suffix p).trans (List.drop_suffix i E)
  rw [h] at hs
  have := List.suffix_iff_eq_drop.mp hs
  simp only [List.length_cons] at this
  exact this.symm
theorem iW {c : Cx prog w G vsS 8 true gsS} {E A mis unx : List (List Nat)} {i j : Nat} {x : List Nat} {av : AV} {p1 p2 p3 p4 p5 q1 q2 q3 pos : Pos} {k : Nat} (hE : E.length ≤ 1000) (hi : i ≤ E.length) {y : List Nat} {r : List (List Nat)} (h : (E.drop i).dropWhile (· == x) = y :: r) :
    Ex1 c (stS E A i j mis unx (.dat (S x)) av) (.While (.Compare (.Subscript (.Name "expected" p1) (.Name "i" p2) p3) [.Eq] [.Name "e" p4] p5) [.AugAssign (.Name "i" q1) .Add (.Constant (.int 1) k q2) q3] [] pos) (.next (stS E A (E.length - (r.length + 1)) j mis unx (.dat (S x)) av)) := by
  obtain ⟨i', h1, h2⟩ := iWh (c := c) (A := A) (mis := mis) (unx := unx) (j := j) (av := av) (p1 := p1) (p2 := p2) (p3 := p3) (p4 := p4) (p5 := p5) (q1 := q1) (q2 := q2) (q3 := q3) (k := k) hE _ i (Nat.le_refl _) hi h
  have : i' = E.length - (r.length + 1) := by have := congrArg List.length h1; simp only [List.length_drop, List.length_cons] at this; omega
  subst this
  exact Ex1.whileR h2
theorem iX {c : Cx prog w G vsS 8 true gsS} (hF : Frm c) (hK : ∀ k, (c.A.handled = none → k = .none) → K k) {E A mis unx : List (List Nat)} {i j : Nat} {x : List Nat} {av : AV} {p1 p2 p3 p4 p5 q1 q2 q3 pos : Pos} {k : Nat} (hE : E.length ≤ 1000) (hi : i ≤ E.length) (h : (E.drop i).dropWhile (· == x) = []) :
    Ex1X K c (stS E A i j mis unx (.dat (S x)) av) (.While (.Compare (.Subscript (.Name "expected" p1) (.Name "i" p2) p3) [.Eq] [.Name "e" p4] p5) [.AugAssign (.Name "i" q1) .Add (.Constant (.int 1) k q2) q3] [] pos) (stS E A E.length j mis unx (.dat (S x)) av) (.type "IndexError") := by
  obtain ⟨m, h2⟩ := iWhX (c := c) hK (A := A) (mis := mis) (unx := unx) (j := j) (av := av) (p1 := p1) (p2 := p2) (p3 := p3) (p4 := p4) (p5 := p5) (q1 := q1) (q2 := q2) (q3 := q3) (k := k) hE _ i (Nat.le_refl _) hi h
  exact Ex1X.while_ hF h2
theorem jW {c : Cx prog w G vsS 8 true gsS} {E A mis unx : List (List Nat)} {i j : Nat} {x : List Nat} {ev : AV} {p1 p2 p3 p4 p5 q1 q2 q3 pos : Pos} {k : Nat} (hA : A.length ≤ 1000) (hj : j ≤ A.length) {y : List Nat} {r : List (List Nat)} (h : (A.drop j).dropWhile (· == x) = y :: r) :
    Ex1 c (stS E A i j mis unx ev (.dat (S x))) (.While (.Compare (.Subscript (.Name "actual" p1) (.Name "j" p2) p3) [.Eq] [.Name "a" p4] p5) [.AugAssign (.Name "j" q1) .Add (.Constant (.int 1) k q2) q3] [] pos) (.next (stS E A i (A.length - (r.length + 1)) mis unx ev (.dat (S x)))) := by
  obtain ⟨i', h1, h2⟩ := jWh (c := c) (E := E) (mis := mis) (unx := unx) (i := i) (ev := ev) (p1 := p1) (p2 := p2) (p3 := p3) (p4 := p4) (p5 := p5) (q1 := q1) (q2 := q2) (q3 := q3) (k := k) hA _ j (Nat.le_refl _) hj h
  have : i' = A.length - (r.length + 1) := by have := congrArg List.length h1; simp only [List.length_drop, List.length_cons] at this; omega
  subst this
  exact Ex1.whileR h2
theorem jX {c : Cx prog w G vsS 8 true gsS} (hF : Frm c) (hK : ∀ k, (c.A.handled = none → k = .none) → K k) {E A mis unx : List (List Nat)} {i j : Nat} {x : List Nat} {ev : AV} {p1 p2 p3 p4 p5 q1 q2 q3 pos : Pos} {k : Nat} (hA : A.length ≤ 1000) (hj : j ≤ A.length) (h : (A.drop j).dropWhile (· == x) = []) :
    Ex1X K c (stS E A i j mis unx ev (.dat (S x))) (.While (.Compare (.Subscript (.Name "actual" p1) (.Name "j" p2) p3) [.Eq] [.Name "a" p4] p5) [.AugAssign (.Name "j" q1) .Add (.Constant (.int 1) k q2) q3] [] pos) (stS E A i A.length mis unx ev (.dat (S x))) (.type "IndexError") := by
  obtain ⟨m, h2⟩ := jWhX (c := c) hK (E := E) (mis := mis) (unx := unx) (i := i) (ev := ev) (p1 := p1) (p2 := p2) (p3 := p3) (p4 := p4) (p5 := p5) (q1 := q1) (q2 := q2) (q3 := q3) (k := k) hA _ j (Nat.le_refl _) hj h
  exact Ex1X.while_ hF h2
theorem ExX.eqR {c : Cx prog w G vsS 8 true gsS} {ρ ρ1 ρ2 : List AV} {ss : List Stmt} {X : Value} (h : ExX K c ρ1 ss ρ2 X) (e : ρ = ρ1) : ExX K c ρ ss ρ2 X := e ▸ h
theorem Ex1X.eqR {c : Cx prog w G vsS 8 true gsS} {ρ ρ1 ρ2 : List AV} {st : Stmt} {X : Value} (h : Ex1X K c ρ1 st ρ2 X) (e : ρ = ρ1) : Ex1X K c ρ st ρ2 X := e ▸ h
theorem Ex1.eqR {c : Cx prog w G vsS 8 true gsS} {ρ ρ1 : List AV} {st : Stmt} {o : O} (h : Ex1 c ρ1 st o) (e : ρ = ρ1) : Ex1 c ρ st o := e ▸ h
theorem sldR_end {e a mis unx : List (List Nat)} (h : e = [] ∨ a = []) : sldR e a mis unx = (mis ++ e, unx ++ a) := by
  rcases h with rfl | rfl
  · rw [sldR_nil]; simp
  · rw [sldR_nil2]; simp
include Z in
theorem sld_catch {c : Cx prog w G vsS 8 true gsS} (hF : Frm c) (hh : c.A.handled = none) {E A mis unx : List (List Nat)} {i j : Nat} {ev av : AV} {ρ : List AV} {body : List Stmt} {p1 p2 p3 p4 p5 p6 p7 p8 p9 q2 q3 q4 q5 q6 q7 q8 q9 hp bp pos : Pos} (hE : E.length ≤ 100) (hA : A.length ≤ 100) (hm : mis.length ≤ 200) (hu : unx.length ≤ 200)
    (h : ExX (fun _ => True) c ρ body (stS E A i j mis unx ev av) (.type "IndexError")) (hl1 : (p3.endLine == p8.line) = true := by rfl) (hl2 : (q3.endLine == q8.line) = true := by rfl) :
    Ex1 c ρ (.Try body [.ExceptHandler (some (.Name "IndexError" p1)) none [.Expr (.Call (.Attribute (.Name "missing" p2) "extend" p3) [.Subscript (.Name "expected" p4) (.Slice (some (.Name "i" p5)) none none p6) p7] [] p8) p9,
      .Expr (.Call (.Attribute (.Name "unexpected" q2) "extend" q3) [.Subscript (.Name "actual" q4) (.Slice (some (.Name "j" q5)) none none q6) q7] [] q8) q9, .Break bp] hp] [] [] pos) (.brk (stS E A i j (mis ++ E.drop i) (unx ++ A.drop j) ev av)) := by
  refine Ex1.tryX hF hh h exc_ie1 exc_ie2 exc_ie3 (fun x => EvG.b Z.indexError (by decide)) fun x => ?_
  refine Ex.cons (Ex1.extend 4 rfl rfl (Ev.eq (EvF.ev (EvF.sliceL (Ev.v 0) (EvP.one (Ev.v 2)) EvP.nil (by first | exact ln_map (by assumption) | (simp; omega)))) (by rw [sl_from, ← List.map_drop])) (by first | exact ln_map (by assumption) | (simp; omega)) (hline := hl1)) ?_
  refine Ex.cons (Ex1.extend 5 rfl rfl (Ev.eq (EvF.ev (EvF.sliceL (Ev.v 1) (EvP.one (Ev.v 3)) EvP.nil (by first | exact ln_map (by assumption) | (simp; omega)))) (by rw [sl_from, ← List.map_drop])) (by first | exact ln_map (by assumption) | (simp; omega)) (hline := hl2)) ?_
  exact Ex.eqO (Ex.one Ex1.brk) (by simp [stS, List.map_append])
include Z in
theorem sld_body (E A : List (List Nat)) (hE : E.length ≤ 100) (hA : A.length ≤ 100) (c : Cx prog w G vsS 8 true gsS) (hn : c.n = 1) (hF : Frm c) (hh : c.A.handled = none) :
    Ex c [.dat (.list (E.map S)), .dat (.list (A.map S)), .undef, .undef, .undef, .undef, .undef, .undef] (fnBody (stm 22)) (.ret (.tup [.list ((sldR E A [] []).1.map S), .list ((sldR E A [] []).2.map S)])) := by
  conv => enter [3]; whnf
  refine Ex.cons (Ex1.assign2 2 3 Ev.int rfl rfl) ?_
  refine Ex.cons (Ex1.assignOwn 4 (EvF.list Evs.nil (by simp)) rfl) ?_
  refine Ex.cons (Ex1.assignOwn 5 (EvF.list Evs.nil (by simp)) rfl) ?_
  refine Ex.whileBy (σ := Nat × Nat × List (List Nat) × List (List Nat) × AV × AV) (0, 0, [], [], .undef, .undef) (fun s => stS E A s.1 s.2.1 s.2.2.1 s.2.2.2.1 s.2.2.2.2.1 s.2.2.2.2.2) (fun s => (E.length - s.1) + (A.length - s.2.1))
    (fun s => s.1 ≤ E.length ∧ s.2.1 ≤ A.length ∧ s.2.2.1.length ≤ s.1 ∧ s.2.2.2.1.length ≤ s.2.1 ∧ sldR (E.drop s.1) (A.drop s.2.1) s.2.2.1 s.2.2.2.1 = sldR E A [] [])
    (fun ρ' => ∃ i j ev av, ρ' = stS E A i j (sldR E A [] []).1 (sldR E A [] []).2 ev av) rfl ⟨by simp, by simp, by simp, by simp, by simp⟩ ?_ ?_
  · rintro ⟨i, j, mis, unx, ev, av⟩ ⟨b1, b2, b3, b4, hr⟩
    simp only at b1 b2 b3 b4 hr ⊢
    have hT : ∀ {p : Pos} {k : Nat}, Tr c (stS E A i j mis unx ev av) (.Constant (.bool true) k p) true := fun {p k} => Tr.of_ev Ev.bool TruD.bool
    have fin : ∀ (i' j' : Nat) (mis' unx' : List (List Nat)) (ev' av' : AV), i' ≤ E.length → j' ≤ A.length → mis'.length ≤ 200 → unx'.length ≤ 200 → (E.drop i' = [] ∨ A.drop j' = []) → sldR (E.drop i') (A.drop j') mis' unx' = sldR E A [] [] →
        ∃ ρ', (∃ i j ev av, ρ' = stS E A i j (sldR E A [] []).1 (sldR E A [] []).2 ev av) ∧ ρ' = stS E A i' j' (mis' ++ E.drop i') (unx' ++ A.drop j') ev' av' := fun i' j' mis' unx' ev' av' h1 h2 h3 h4 h5 h6 => by
      rw [sldR_end h5] at h6
      refine ⟨_, ⟨i', j', ev', av', ?_⟩, rfl⟩
      rw [← h6]
    rcases hdE : E.drop i with _ | ⟨x, e⟩
    · obtain ⟨ρ', hP, hρ⟩ := fin i j mis unx ev av b1 b2 (by first | exact ar_n hn | exact ar_n2 hc' hn | assumption | exact Nat.le_trans (by assumption) (by decide) | omega) (by first | exact ar_n hn | exact ar_n2 hc' hn | assumption | exact Nat.le_trans (by assumption) (by decide) | omega) (.inl hdE) hr
      refine .inr (.inl ⟨hT, ρ', hP, ?_⟩)
      rw [hρ]
      have hlen : E.length ≤ i := by have := congrArg List.length hdE; simp at this; omega
      exact Ex.one (sld_catch Z hF hh hE hA (by first | exact ar_n hn | exact ar_n2 hc' hn | assumption | exact Nat.le_trans (by assumption) (by decide) | omega) (by first | exact ar_n hn | exact ar_n2 hc' hn | assumption | exact Nat.le_trans (by assumption) (by decide) | omega) (ExX.stop (Ex1X.assign (EvX.out (fun _ _ => trivial) (Ev.v 0) (Ev.v 2) (by simpa using hlen) (by first | exact ar_n hn | exact ar_n2 hc' hn | assumption | exact Nat.le_trans (by assumption) (by decide) | omega)))))
    · obtain ⟨hgE, hltE, hdE1⟩ := getS (prog := prog) (w := w) (by first | exact ar_n hn | exact ar_n2 hc' hn | assumption | exact Nat.le_trans (by assumption) (by decide) | omega) hdE
      rcases hdA : A.drop j with _ | ⟨y, a⟩
      · obtain ⟨ρ', hP, hρ⟩ := fin i j mis unx (.dat (S x)) av b1 b2 (by first | exact ar_n hn | exact ar_n2 hc' hn | assumption | exact Nat.le_trans (by assumption) (by decide) | omega) (by first | exact ar_n hn | exact ar_n2 hc' hn | assumption | exact Nat.le_trans (by assumption) (by decide) | omega) (.inr hdA) hr
        refine .inr (.inl ⟨hT, ρ', hP, ?_⟩)
        rw [hρ]
        have hlen : A.length ≤ j := by have := congrArg List.length hdA; simp at this; omega
        exact Ex.one (sld_catch Z hF hh hE hA (by first | exact ar_n hn | exact ar_n2 hc' hn | assumption | exact Nat.le_trans (by assumption) (by decide) | omega) (by first | exact ar_n hn | exact ar_n2 hc' hn | assumption | exact Nat.le_trans (by assumption) (by decide) | omega) (ExX.cons (Ex1.assign 6 (Ev.sub (Ev.v 0) (Ev.v 2) hgE rfl) rfl) (ExX.stop (Ex1X.assign (EvX.out (fun _ _ => trivial) (Ev.v 1) (Ev.v 3) (by simpa using hlen) (by first | exact ar_n hn | exact ar_n2 hc' hn | assumption | exact Nat.le_trans (by assumption) (by decide) | omega))))))
      · obtain ⟨hgA, hltA, hdA1⟩ := getS (prog := prog) (w := w) (by first | exact ar_n hn | exact ar_n2 hc' hn | assumption | exact Nat.le_trans (by assumption) (by decide) | omega) hdA
        rw [hdE, hdA, sldR_cons] at hr
        by_cases hxy : x < y
        · rw [if_pos hxy, ← hdE1] at hr
          rcases hdw : (E.drop (i + 1)).dropWhile (· == x) with _ | ⟨z, r⟩
          · rw [hdw] at hr
            obtain ⟨ρ', hP, hρ⟩ := fin E.length j (mis ++ [x]) unx (.dat (S x)) (.dat (S y)) (Nat.le_refl _) b2 (by first | exact ln_map (by assumption) | (simp; omega)) (by first | exact ar_n hn | exact ar_n2 hc' hn | assumption | exact Nat.le_trans (by assumption) (by decide) | omega) (.inl (by simp)) (by rw [List.drop_length, hdA]; exact hr)
            refine .inr (.inl ⟨hT, ρ', hP, ?_⟩)
            rw [hρ]
            refine Ex.one (sld_catch Z hF hh hE hA (by first | exact ln_map (by assumption) | (simp; omega)) (by first | exact ar_n hn | exact ar_n2 hc' hn | assumption | exact Nat.le_trans (by assumption) (by decide) | omega) (ExX.cons (Ex1.assign 6 (Ev.sub (Ev.v 0) (Ev.v 2) hgE rfl) rfl) (ExX.cons (Ex1.assign 7 (Ev.sub (Ev.v 1) (Ev.v 3) hgA rfl) rfl) (ExX.stop (Ex1X.ite (Tr.cmp (Ev.v 6) (Ev.v 7) CmpD.ltS) (fun _ => ?_) (fun h => by simp [hxy] at h))))))
            refine ExX.cons (Ex1.append 4 rfl rfl (Ev.v 6) (by first | exact ln_map (by assumption) | (simp; omega))) (ExX.cons (Ex1.aug 2 rfl rfl Ev.int InpD.addI) (ExX.stop ?_))
            exact Ex1X.eqR (iX (i := i + 1) (mis := mis ++ [x]) hF (fun _ _ => trivial) (by first | exact ar_n hn | exact ar_n2 hc' hn | assumption | exact Nat.le_trans (by assumption) (by decide) | omega) (by first | exact ar_n hn | exact ar_n2 hc' hn | assumption | exact Nat.le_trans (by assumption) (by decide) | omega) hdw) (by simp [stS])
          · obtain ⟨w1, w2, w3⟩ := dwi hdw
            refine .inr (.inr ⟨hT, (E.length - (r.length + 1), j, mis ++ [x], unx, .dat (S x), .dat (S y)), ⟨by simp only; omega, b2, by simp only [List.length_append, List.length_cons, List.length_nil]; omega, b4, ?_⟩, by simp only; omega, .inl ?_⟩)
            · simp only
              rw [w3, hdA, ← hdw]; exact hr
            · refine Ex.one (Ex1.tryN (Ex.cons (Ex1.assign 6 (Ev.sub (Ev.v 0) (Ev.v 2) hgE rfl) rfl) (Ex.cons (Ex1.assign 7 (Ev.sub (Ev.v 1) (Ev.v 3) hgA rfl) rfl) (Ex.one (Ex1.ite (Tr.cmp (Ev.v 6) (Ev.v 7) CmpD.ltS) (fun _ => ?_) (fun h => by simp [hxy] at h))))))
              refine Ex.cons (Ex1.append 4 rfl rfl (Ev.v 6) (by first | exact ln_map (by assumption) | (simp; omega))) (Ex.cons (Ex1.aug 2 rfl rfl Ev.int InpD.addI) (Ex.one ?_))
              exact Ex1.eqR (iW (i := i + 1) (mis := mis ++ [x]) (by first | exact ar_n hn | exact ar_n2 hc' hn | assumption | exact Nat.le_trans (by assumption) (by decide) | omega) (by first | exact ar_n hn | exact ar_n2 hc' hn | assumption | exact Nat.le_trans (by assumption) (by decide) | omega) hdw) (by simp [stS])
        · rw [if_neg hxy] at hr
          by_cases hyx : y < x
          · rw [if_pos hyx, ← hdA1] at hr
            rcases hdw : (A.drop (j + 1)).dropWhile (· == y) with _ | ⟨z, r⟩
            · rw [hdw] at hr
              obtain ⟨ρ', hP, hρ⟩ := fin i A.length mis (unx ++ [y]) (.dat (S x)) (.dat (S y)) b1 (Nat.le_refl _) (by first | exact ar_n hn | exact ar_n2 hc' hn | assumption | exact Nat.le_trans (by assumption) (by decide) | omega) (by first | exact ln_map (by assumption) | (simp; omega)) (.inr (by simp)) (by rw [List.drop_length, hdE]; exact hr)
              refine .inr (.inl ⟨hT, ρ', hP, ?_⟩)
              rw [hρ]
              refine Ex.one (sld_catch Z hF hh hE hA (by first | exact ar_n hn | exact ar_n2 hc' hn | assumption | exact Nat.le_trans (by assumption) (by decide) | omega) (by first | exact ln_map (by assumption) | (simp; omega)) (ExX.cons (Ex1.assign 6 (Ev.sub (Ev.v 0) (Ev.v 2) hgE rfl) rfl) (ExX.cons (Ex1.assign 7 (Ev.sub (Ev.v 1) (Ev.v 3) hgA rfl) rfl) (ExX.stop (Ex1X.ite (Tr.cmp (Ev.v 6) (Ev.v 7) CmpD.ltS) (fun h => by simp [hxy] at h) (fun _ => ExX.stop (Ex1X.ite (Tr.cmp (Ev.v 6) (Ev.v 7) CmpD.gtS) (fun _ => ?_) (fun h => by simp [hyx] at h))))))))
              refine ExX.cons (Ex1.append 5 rfl rfl (Ev.v 7) (by first | exact ln_map (by assumption) | (simp; omega))) (ExX.cons (Ex1.aug 3 rfl rfl Ev.int InpD.addI) (ExX.stop ?_))
              exact Ex1X.eqR (jX (j := j + 1) (unx := unx ++ [y]) hF (fun _ _ => trivial) (by first | exact ar_n hn | exact ar_n2 hc' hn | assumption | exact Nat.le_trans (by assumption) (by decide) | omega) (by first | exact ar_n hn | exact ar_n2 hc' hn | assumption | exact Nat.le_trans (by assumption) (by decide) | omega) hdw) (by simp [stS])
            · obtain ⟨w1, w2, w3⟩ := dwi hdw
              refine .inr (.inr ⟨hT, (i, A.length - (r.length + 1), mis, unx ++ [y], .dat (S x), .dat (S y)), ⟨b1, by simp only; omega, b3, by simp only [List.length_append, List.length_cons, List.length_nil]; omega, ?_⟩, by simp only; omega, .inl ?_⟩)
              · simp only
                rw [w3, hdE, ← hdw]; exact hr
              · refine Ex.one (Ex1.tryN (Ex.cons (Ex1.assign 6 (Ev.sub (Ev.v 0) (Ev.v 2) hgE rfl) rfl) (Ex.cons (Ex1.assign 7 (Ev.sub (Ev.v 1) (Ev.v 3) hgA rfl) rfl) (Ex.one (Ex1.ite (Tr.cmp (Ev.v 6) (Ev.v 7) CmpD.ltS) (fun h => by simp [hxy] at h) (fun _ => Ex.one (Ex1.ite (Tr.cmp (Ev.v 6) (Ev.v 7) CmpD.gtS) (fun _ => ?_) (fun h => by simp [hyx] at h))))))))
                refine Ex.cons (Ex1.append 5 rfl rfl (Ev.v 7) (by first | exact ln_map (by assumption) | (simp; omega))) (Ex.cons (Ex1.aug 3 rfl rfl Ev.int InpD.addI) (Ex.one ?_))
                exact Ex1.eqR (jW (j := j + 1) (unx := unx ++ [y]) (by first | exact ar_n hn | exact ar_n2 hc' hn | assumption | exact Nat.le_trans (by assumption) (by decide) | omega) (by first | exact ar_n hn | exact ar_n2 hc' hn | assumption | exact Nat.le_trans (by assumption) (by decide) | omega) hdw) (by simp [stS])
          · rw [if_neg hyx, ← hdE1, ← hdA1] at hr
            have hxe : x = y := List.le_antisymm (by simpa using hyx) (by simpa using hxy)
            rcases hdw : (E.drop (i + 1)).dropWhile (· == x) with _ | ⟨z, r⟩
            · rw [hdw] at hr
              rcases hdv : (A.drop (j + 1)).dropWhile (· == y) with _ | ⟨z', r'⟩
              · rw [hdv] at hr
                obtain ⟨ρ', hP, hρ⟩ := fin E.length A.length mis unx (.dat (S x)) (.dat (S y)) (Nat.le_refl _) (Nat.le_refl _) (by first | exact ar_n hn | exact ar_n2 hc' hn | assumption | exact Nat.le_trans (by assumption) (by decide) | omega) (by first | exact ar_n hn | exact ar_n2 hc' hn | assumption | exact Nat.le_trans (by assumption) (by decide) | omega) (.inr (by simp)) (by rw [List.drop_length, List.drop_length]; exact hr)
                refine .inr (.inl ⟨hT, ρ', hP, ?_⟩)
                rw [hρ]
                refine Ex.one (sld_catch Z hF hh hE hA (by first | exact ar_n hn | exact ar_n2 hc' hn | assumption | exact Nat.le_trans (by assumption) (by decide) | omega) (by first | exact ar_n hn | exact ar_n2 hc' hn | assumption | exact Nat.le_trans (by assumption) (by decide) | omega) (ExX.cons (Ex1.assign 6 (Ev.sub (Ev.v 0) (Ev.v 2) hgE rfl) rfl) (ExX.cons (Ex1.assign 7 (Ev.sub (Ev.v 1) (Ev.v 3) hgA rfl) rfl) (ExX.stop (Ex1X.ite (Tr.cmp (Ev.v 6) (Ev.v 7) CmpD.ltS) (fun h => by simp [hxy] at h) (fun _ => ExX.stop (Ex1X.ite (Tr.cmp (Ev.v 6) (Ev.v 7) CmpD.gtS) (fun h => by simp [hyx] at h) (fun _ => ?_))))))))
                refine ExX.cons (Ex1.aug 2 rfl rfl Ev.int InpD.addI) (ExX.stop ?_)
                refine Ex1X.finXX (ρ1 := stS E A E.length j mis unx (.dat (S x)) (.dat (S y))) hF (ExX.stop (Ex1X.eqR (iX (i := i + 1) hF (fun k hk => hk hh) (by first | exact ar_n hn | exact ar_n2 hc' hn | assumption | exact Nat.le_trans (by assumption) (by decide) | omega) (by first | exact ar_n hn | exact ar_n2 hc' hn | assumption | exact Nat.le_trans (by assumption) (by decide) | omega) hdw) (by simp [stS]))) fun q => ?_
                refine ExX.cons (Ex1.aug 3 rfl rfl Ev.int InpD.addI) (ExX.stop ?_)
                exact Ex1X.eqR (jX (c := Cx.mark c q) (j := j + 1) (Frm.mark hF) (fun _ _ => trivial) (by first | exact ar_n hn | exact ar_n2 hc' hn | assumption | exact Nat.le_trans (by assumption) (by decide) | omega) (by first | exact ar_n hn | exact ar_n2 hc' hn | assumption | exact Nat.le_trans (by assumption) (by decide) | omega) hdv) (by simp [stS])
              · obtain ⟨v1, v2, v3⟩ := dwi hdv
                obtain ⟨ρ', hP, hρ⟩ := fin E.length (A.length - (r'.length + 1)) mis unx (.dat (S x)) (.dat (S y)) (Nat.le_refl _) (by first | exact ar_n hn | exact ar_n2 hc' hn | assumption | exact Nat.le_trans (by assumption) (by decide) | omega) (by first | exact ar_n hn | exact ar_n2 hc' hn | assumption | exact Nat.le_trans (by assumption) (by decide) | omega) (by first | exact ar_n hn | exact ar_n2 hc' hn | assumption | exact Nat.le_trans (by assumption) (by decide) | omega) (.inl (by simp)) (by rw [List.drop_length, v3, ← hdv]; exact hr)
                refine .inr (.inl ⟨hT, ρ', hP, ?_⟩)
                rw [hρ]
                refine Ex.one (sld_catch Z hF hh hE hA (by first | exact ar_n hn | exact ar_n2 hc' hn | assumption | exact Nat.le_trans (by assumption) (by decide) | omega) (by first | exact ar_n hn | exact ar_n2 hc' hn | assumption | exact Nat.le_trans (by assumption) (by decide) | omega) (ExX.cons (Ex1.assign 6 (Ev.sub (Ev.v 0) (Ev.v 2) hgE rfl) rfl) (ExX.cons (Ex1.assign 7 (Ev.sub (Ev.v 1) (Ev.v 3) hgA rfl) rfl) (ExX.stop (Ex1X.ite (Tr.cmp (Ev.v 6) (Ev.v 7) CmpD.ltS) (fun h => by simp [hxy] at h) (fun _ => ExX.stop (Ex1X.ite (Tr.cmp (Ev.v 6) (Ev.v 7) CmpD.gtS) (fun h => by simp [hyx] at h) (fun _ => ?_))))))))
                refine ExX.cons (Ex1.aug 2 rfl rfl Ev.int InpD.addI) (ExX.stop ?_)
                refine Ex1X.finXN (ρ1 := stS E A E.length j mis unx (.dat (S x)) (.dat (S y))) hF (ExX.stop (Ex1X.eqR (iX (i := i + 1) hF (fun _ _ => trivial) (by first | exact ar_n hn | exact ar_n2 hc' hn | assumption | exact Nat.le_trans (by assumption) (by decide) | omega) (by first | exact ar_n hn | exact ar_n2 hc' hn | assumption | exact Nat.le_trans (by assumption) (by decide) | omega) hdw) (by simp [stS]))) fun q => ?_
                refine Ex.cons (Ex1.aug 3 rfl rfl Ev.int InpD.addI) (Ex.one ?_)
                exact Ex1.eqR (jW (c := Cx.mark c q) (j := j + 1) (by first | exact ar_n hn | exact ar_n2 hc' hn | assumption | exact Nat.le_trans (by assumption) (by decide) | omega) (by first | exact ar_n hn | exact ar_n2 hc' hn | assumption | exact Nat.le_trans (by assumption) (by decide) | omega) hdv) (by simp [stS])
            · obtain ⟨w1, w2, w3⟩ := dwi hdw
              rcases hdv : (A.drop (j + 1)).dropWhile (· == y) with _ | ⟨z', r'⟩
              · rw [hdv] at hr
                obtain ⟨ρ', hP, hρ⟩ := fin (E.length - (r.length + 1)) A.length mis unx (.dat (S x)) (.dat (S y)) (by first | exact ar_n hn | exact ar_n2 hc' hn | assumption | exact Nat.le_trans (by assumption) (by decide) | omega) (Nat.le_refl _) (by first | exact ar_n hn | exact ar_n2 hc' hn | assumption | exact Nat.le_trans (by assumption) (by decide) | omega) (by first | exact ar_n hn | exact ar_n2 hc' hn | assumption | exact Nat.le_trans (by assumption) (by decide) | omega) (.inr (by simp)) (by rw [List.drop_length, w3, ← hdw]; exact hr)
                refine .inr (.inl ⟨hT, ρ', hP, ?_⟩)
                rw [hρ]
                refine Ex.one (sld_catch Z hF hh hE hA (by first | exact ar_n hn | exact ar_n2 hc' hn | assumption | exact Nat.le_trans (by assumption) (by decide) | omega) (by first | exact ar_n hn | exact ar_n2 hc' hn | assumption | exact Nat.le_trans (by assumption) (by decide) | omega) (ExX.cons (Ex1.assign 6 (Ev.sub (Ev.v 0) (Ev.v 2) hgE rfl) rfl) (ExX.cons (Ex1.assign 7 (Ev.sub (Ev.v 1) (Ev.v 3) hgA rfl) rfl) (ExX.stop (Ex1X.ite (Tr.cmp (Ev.v 6) (Ev.v 7) CmpD.ltS) (fun h => by simp [hxy] at h) (fun _ => ExX.stop (Ex1X.ite (Tr.cmp (Ev.v 6) (Ev.v 7) CmpD.gtS) (fun h => by simp [hyx] at h) (fun _ => ?_))))))))
                refine ExX.cons (Ex1.aug 2 rfl rfl Ev.int InpD.addI) (ExX.stop ?_)
                refine Ex1X.finNX (ρ1 := stS E A (E.length - (r.length + 1)) j mis unx (.dat (S x)) (.dat (S y))) hF (Ex.one (Ex1.eqR (iW (i := i + 1) (by first | exact ar_n hn | exact ar_n2 hc' hn | assumption | exact Nat.le_trans (by assumption) (by decide) | omega) (by first | exact ar_n hn | exact ar_n2 hc' hn | assumption | exact Nat.le_trans (by assumption) (by decide) | omega) hdw) (by simp [stS]))) ?_
                refine ExX.cons (Ex1.aug 3 rfl rfl Ev.int InpD.addI) (ExX.stop ?_)
                exact Ex1X.eqR (jX (j := j + 1) hF (fun _ _ => trivial) (by first | exact ar_n hn | exact ar_n2 hc' hn | assumption | exact Nat.le_trans (by assumption) (by decide) | omega) (by first | exact ar_n hn | exact ar_n2 hc' hn | assumption | exact Nat.le_trans (by assumption) (by decide) | omega) hdv) (by simp [stS])
              · obtain ⟨v1, v2, v3⟩ := dwi hdv
                refine .inr (.inr ⟨hT, (E.length - (r.length + 1), A.length - (r'.length + 1), mis, unx, .dat (S x), .dat (S y)), ⟨by simp only; omega, by simp only; omega, by simp only; omega, by simp only; omega, ?_⟩, by simp only; omega, .inl ?_⟩)
                · simp only
                  rw [w3, v3, ← hdw, ← hdv]; exact hr
                · refine Ex.one (Ex1.tryN (Ex.cons (Ex1.assign 6 (Ev.sub (Ev.v 0) (Ev.v 2) hgE rfl) rfl) (Ex.cons (Ex1.assign 7 (Ev.sub (Ev.v 1) (Ev.v 3) hgA rfl) rfl) (Ex.one (Ex1.ite (Tr.cmp (Ev.v 6) (Ev.v 7) CmpD.ltS) (fun h => by simp [hxy] at h) (fun _ => Ex.one (Ex1.ite (Tr.cmp (Ev.v 6) (Ev.v 7) CmpD.gtS) (fun h => by simp [hyx] at h) (fun _ => ?_))))))))
                  refine Ex.cons (Ex1.aug 2 rfl rfl Ev.int InpD.addI) (Ex.one ?_)
                  refine Ex1.finN (ρ1 := stS E A (E.length - (r.length + 1)) j mis unx (.dat (S x)) (.dat (S y))) (Ex.one (Ex1.eqR (iW (i := i + 1) (by first | exact ar_n hn | exact ar_n2 hc' hn | assumption | exact Nat.le_trans (by assumption) (by decide) | omega) (by first | exact ar_n hn | exact ar_n2 hc' hn | assumption | exact Nat.le_trans (by assumption) (by decide) | omega) hdw) (by simp [stS]))) ?_
                  refine Ex.cons (Ex1.aug 3 rfl rfl Ev.int InpD.addI) (Ex.one ?_)
                  exact Ex1.eqR (jW (j := j + 1) (by first | exact ar_n hn | exact ar_n2 hc' hn | assumption | exact Nat.le_trans (by assumption) (by decide) | omega) (by first | exact ar_n hn | exact ar_n2 hc' hn | assumption | exact Nat.le_trans (by assumption) (by decide) | omega) hdv) (by simp [stS])
  · rintro ρ' ⟨i, j, ev, av, rfl⟩
    refine Ex.freeze 4 rfl rfl ?_
    refine Ex.freeze 5 rfl rfl ?_
    exact Ex.one (Ex1.ret (Ev.tuple (Evs.cons (Ev.v 4) (Evs.cons (Ev.v 5) Evs.nil)) (by simp)))
include Z in
theorem sld_spec (E A : List (List Nat)) (hE : E.length ≤ 100) (hA : A.length ≤ 100) : Spec prog w G "sorted_list_difference" 2 [.list (E.map S), .list (A.map S)] (.tup [.list ((sldR E A [] []).1.map S), .list ((sldR E A [] []).2.map S)]) := fun a ha => by
  obtain ⟨a', hM, hA'⟩ := Z.sld
  have := ha.unique hM
  cases this
  refine spec_fr (ps := ["expected", "actual"]) ["i", "j", "missing", "unexpected", "e", "a"] 8 ["IndexError"] hA' Z.noLimit (by decide +kernel) rfl ?_ rfl fun c hn hF hh => sld_body Z E A hE hA c hn hF hh
  intro us doc pm an cdv ct hl
  obtain ⟨u, v, rfl⟩ := len2 hl
  rfl
end
end Mine
end
section
set_option autoImplicit false
set_option Elab.async false
set_option linter.unusedVariables false
set_option linter.unusedSimpArgs false
open PySem PySem.W PyProof.Rows PySem.Calls
namespace Mine
theorem Spec.more {prog : Program} {w : World} {G : Heap} {name : Str} {n m : Nat} {ds : List D} {d : D} (h : Spec prog w G name n ds d) (hm : n ≤ m) : Spec prog w G name m ds d := fun a ha A f s us Q E ok hG i ht r k => h a ha A f s us Q E (ok.le hm) hG i ht r k
section
variable {prog : Program} {w : World} {G : Heap} (Z : W0 G)
include Z in
theorem hear_spec (l : List Nat) (hl : l.length ≤ 100000) (h3 : l.take 3 = [50, 53, 55]) : Spec prog w G "_law_hear" 6 [S l] (S (parP l)) := by
  refine Spec.more (n := 4) ?_ (by first | exact ar_n hn | exact ar_n2 hc' hn | assumption | exact Nat.le_trans (by assumption) (by decide) | omega)
  refine spec_pre (ps := ["answer"]) ["error"] [.dat (S l), .undef] 2 ["parse257", "error_reply", "str"] Z.hear Z.noLimit (by decide +kernel) rfl ?_ rfl fun c hn => ?_
  · intro us doc pm an cdv ct hl
    obtain ⟨u, rfl⟩ := len1 hl
    rfl
  · conv => enter [3]; whnf
    exact Ex.one (Ex1.tryN (Ex.one (Ex1.ret (Ev.callN Z.parse257 (by decide) (EvA.cons (Ev.v 0) Evs.nil) (parse257_spec Z l hl h3) (by first | exact ar_n hn | exact ar_n2 hc' hn | assumption | exact Nat.le_trans (by assumption) (by decide) | omega)))))
end
end Mine
end
section
set_option autoImplicit false
set_option Elab.async false
set_option linter.unusedVariables false
set_option linter.unusedSimpArgs false
open PySem PySem.W PyProof.Rows PySem.Calls
namespace Mine
section
variable {prog : Program} {w : World} {G : Heap} (Z : W0 G)
include Z in
theorem parse257_raises (l : List Nat) (hl : l.length ≤ 100000) (h3 : l.take 3 ≠ [50, 53, 55]) {K : Frag} {C : Addr} {mg : Str → Option Value} (hg : G.Ns mainGlobals mg) (O : OwnClsQ "error_reply" C [.type "Exception", .type "BaseException", .type "object"] "Exception.__new__" mg G)
    (c : Cx prog w G (["resp", "dirname", "i", "n", "c"] : List Str) 5 true (["len", "error_reply"] : List Str)) (hn : c.n = 1) (hh : c.A.handled = none) (B : Bs c) (f : PH) (s : Shared) (Q : Flow → Shared → Prop) (E : Value → Shared → Prop) (g : Good c B [.dat (S l), .undef, .undef, .undef, .undef] f s)
    (k : ∀ x f' s' a0, Sub f f' → Good c B [.dat (S l), .undef, .undef, .undef, .undef] f' s' → (∃ k, TB B f' s'.heap x (.ref C) k none) → X0 s'.heap x a0 → Rep f' a0 (.tup [S l]) → E (.ref x) s') : wpAny (model prog w) c.A (execs (fnBody (stm 4)) c.env) Q E s := by
  have e1 : sl none (some 3) l = l.take 3 := sl_to l 3
  have hM : IsM G "error_reply" (.ref C) := ⟨mg, hg, O.own.bound⟩
  have raise : ∀ {np cpos pos p : Pos} {rest : List Stmt} {f : PH} {s : Shared} {Q : Flow → Shared → Prop}, Good c B [.dat (S l), .undef, .undef, .undef, .undef] f s → (∀ x f' s' a0, Sub f f' → Good c B [.dat (S l), .undef, .undef, .undef, .undef] f' s' → (∃ k, TB B f' s'.heap x (.ref C) k none) → X0 s'.heap x a0 → Rep f' a0 (.tup [S l]) → E (.ref x) s') →
      wpAny (model prog w) c.A (exec (.Raise (some (.Call (.Name "error_reply" np) [.Name "resp" p] [] cpos)) none pos) c.env) Q E s := fun {np cpos pos p rest f s Q} g k => by
    obtain ⟨bm, N, nm, q, bs, hdct, sn, sub, ab, col, dd, k0, k1, k2, k3, k5, mN, hC, hN, hni, T⟩ := O.own.obj
    refine wpAny_Raise_call_subT (C := C) (nm := nm) (q := q) (N := N) (bs := bs) (bm := bm) (hdct := hdct) (sn := sn) (sub := sub) (ab := ab) (col := col) (dd := dd) (k0 := k0) (k1 := k1) (k2 := k2) (k3 := k3) (k5 := k5) F.excBase_Exception (mN := mN) (T.hasType F.excBase_Exception.hasBase) hh rfl hni ?_
    refine EvG.m (c := c) hM (by decide) f s _ _ g ⟨rfl, ?_⟩
    have hA : EvA c [.dat (S l), .undef, .undef, .undef, .undef] [.Name "resp" p] [S l] := EvA.cons (Ev.v 0) Evs.nil
    refine hA _ _ f s _ _ g fun us f1 s1 st1 r1 => ?_
    have g1 := g.step st1
    have kG := g1.keepG
    cases r1 with
    | cons v _ _ _ rv rs =>
      cases rs
      refine ⟨rfl, by simp [sizeLine], kG _ _ hC, hN.keeps kG, T.keeps kG, fun h' e hm => ?_⟩
      obtain ⟨t, he, htn, ht⟩ := hm.there
      have g2 : Good c B [.dat (S l), .undef, .undef, .undef, .undef] f1 { s1 with heap := h', toks := s1.toks } := g1.step (Step.same' g1.inn hm.keeps (Nat.le_refl _))
      have ft : f1 t = none := g1.inn.none_of htn
      have bt : B.s0.heap.get? t = none := g1.st.ext.gone htn
      have g3 := g2.addFree (T := t) (o := tobj [v] 0) ht ft bt (tupFree (o := tobj [v] 0) rfl rfl)
      have het : e ≠ t := fun q => by rw [q] at he; rw [show h'.get? t = some _ from ht] at he; cases he
      refine k e (fz f1 t (tobj [v] 0)) _ (.ref t) (st1.sub.trans (freeze_sub ft)) g3 ⟨.none, ?_, g1.st.ext.gone hm.new, _, _, he, rfl, rfl, rfl, rfl, .inl ⟨rfl, rfl⟩⟩ ⟨_, _, he, rfl, rfl⟩ (.tup t [v] 0 _ (if_pos rfl) (.one (rv.mono (freeze_sub ft))))
      show (if e = t then _ else f1 e) = none
      rw [if_neg het]
      exact g1.inn.none_of hm.new
  conv => enter [3, 1]; whnf
  refine wpAny_execs_cons (wpAny_If ?_)
  refine (Tr.eq (b' := true) (Tr.cmp (Ev.sliceS (Ev.v 0) EvP.nil (EvP.one Ev.int) (by first | exact ar_n hn | exact ar_n2 hc' hn | assumption | exact Nat.le_trans (by assumption) (by decide) | omega)) (Ev.lit (l := [50, 53, 55]) (by decide +kernel)) CmpD.neS) (by rw [e1]; simpa using h3)) f s _ _ g fun f1 s1 st1 => ?_
  rw [if_pos rfl]
  refine wpAny_execs_cons ?_
  exact raise (rest := []) (g.step st1) fun x f' s' a0 sb g' t' x' r' => k x f' s' a0 (st1.sub.trans sb) g' t' x' r'
end
end Mine
end
section
set_option autoImplicit false
set_option Elab.async false
set_option linter.unusedVariables false
set_option linter.unusedSimpArgs false
set_option linter.unusedSectionVars false
open PySem PySem.W PyProof.Rows PySem.Calls
namespace Mine
section
variable {prog : Program} {w : World} {G : Heap} {vs : List Str} {nl : Nat} {oc : Bool} {gs : List Str} {c : Cx prog w G vs nl oc gs} {ρ : List AV}
theorem callReach {fe : Expr} {a : Addr} {es : List Expr} {pos : Pos} {ds : List D} {name : Str} {params : Arguments} {body : List Stmt} {scope : Scope} (hf : EvG c ρ fe (.ref a)) (hF : FnAt G a name params body scope)
    (ha : EvA c ρ es ds) {B : Bs c} {f : PH} {s : Shared} {Q E : Value → Shared → Prop} (g : Good c B ρ f s) (k : ∀ us f1 s1, Step f s f1 s1 → Reps f1 us ds → wpAny (model prog w) c.A (call (.ref a) us []) Q E s1)
    (hc : ∀ env, eval (.Call fe es [] pos) env = (do callWith pos (← eval fe env) [] (backTo pos (starEach es env)) (backToKw pos (keywordEach [] env))) := by intro _; rfl) :
    wpAny (model prog w) c.A (eval (.Call fe es [] pos) c.env) Q E s := by
  obtain ⟨oc', od, osl, doc, pm, an, cdv, ct, hG, _⟩ := hF
  rw [hc]
  refine wpAny_bind (hf f s _ E g ?_)
  exact Calls.callWith_function (o := ⟨oc', od, .func (fnOf name name params body scope .none .none doc pm an cdv ct), osl⟩) (fd := fnOf name name params body scope .none .none doc pm an cdv ct) (ha _ pos f s _ E g fun us f1 s1 st1 r1 => ⟨⟨(g.step st1).keepG _ _ hG, rfl⟩, k us f1 s1 st1 r1⟩)
end
section
variable {prog : Program} {w : World} {G : Heap} (Z : W0 G)
include Z in
theorem hear_none (l : List Nat) (hl : l.length ≤ 100000) (h3 : l.take 3 ≠ [50, 53, 55]) : Spec prog w G "_law_hear" 6 [S l] .none := by
  refine Spec.more (n := 4) ?_ (by first | exact ar_n hn | exact ar_n2 hc' hn | assumption | exact Nat.le_trans (by assumption) (by decide) | omega)
  intro a ha
  obtain ⟨a', hM', hA'⟩ := Z.hear
  have := ha.unique hM'
  cases this
  refine spec_fr (ps := ["answer"]) (ρ0 := [.dat (S l), .undef]) ["error"] 2 ["parse257", "error_reply", "str"] hA' Z.noLimit (by decide +kernel) rfl ?_ rfl fun c hn hF hh => ?_
  · intro us doc pm an cdv ct hl
    obtain ⟨u, rfl⟩ := len1 hl
    rfl
  obtain ⟨K, C, mg, X, hg, O, hs, hm⟩ := Z.exc
  obtain ⟨ap, hMp, hAp⟩ := Z.parse257
  have hM : IsM G "error_reply" (.ref C) := ⟨mg, hg, O.own.bound⟩
  conv => enter [3]; whnf
  refine Ex.one fun B f s Q E g k => ?_
  refine wpAny_Try_except (wpAny_execs_cons (wpAny_Return_some ?_))
  refine callReach (c := c) (EvG.m hMp (by decide)) hAp (EvA.cons (Ev.v 0) Evs.nil) g fun us f1 s1 st1 r1 => ?_
  have g1 := g.step st1
  refine call_raise (X := .ref C) (P := fun f a0 => Rep f a0 (.tup [S l])) (ps := ["resp"]) (ρ0 := [.dat (S l), .undef, .undef, .undef, .undef]) (ρ' := [.dat (S l), .undef, .undef, .undef, .undef]) ["resp", "dirname", "i", "n", "c"] 5 ["len", "error_reply"] hAp Z.noLimit (by decide +kernel) ?_
    (fun c2 hn2 hF2 hh2 B2 f2 s2 Q2 E2 g2 k2 => parse257_raises Z l hl h3 (K := K) hg O c2 hn2 hh2 B2 f2 s2 Q2 E2 g2 k2) (n := 1) (g1.aok.le (by first | exact ar_n hn | exact ar_n2 hc' hn | assumption | exact Nat.le_trans (by assumption) (by decide) | omega)) g1.gsub st1.inn g1.tok r1.length (fun _ => False) (fun _ q => q.elim) ?_ (fun _ _ _ _ _ q => q.elim) fun x f2 s2 a0 st2 hr ra => ?_
  · intro us doc pm an cdv ct hl
    obtain ⟨u, rfl⟩ := len1 hl
    rfl
  · intro j y av hx hr
    match j, hx, hr with
    | 0, hx, hr =>
      cases r1 with
      | cons v _ _ _ rv rs => exact .inr (.inl ⟨0, _, v, hx, rfl, rv, (Option.some.inj hr).symm⟩)
    | 1, hx, hr => exact .inl (Option.some.inj hr).symm
    | 2, hx, hr => exact .inl (Option.some.inj hr).symm
    | 3, hx, hr => exact .inl (Option.some.inj hr).symm
    | 4, hx, hr => exact .inl (Option.some.inj hr).symm
  have g2 := g1.step st2.unhide
  have sb2 : Sub f f2 := st1.sub.trans st2.sub
  have n0 : ∀ b, (hideP s1.heap fun _ => False).get? b = none → B.s0.heap.get? b = none := fun b e => g1.st.ext.gone (((hideP_get s1.heap (fun _ => False) b).2 id).symm.trans e)
  obtain ⟨fx, bx, oe, vs', T, oT, ts, k0, he, hcls, hd, hsz, h0, h1, h2, hTx, hT, hdT, h3', fT, bT⟩ := hr
  have t2 : TB B f2 s2.heap x (.ref C) k0 (some .none) := ⟨fx, n0 _ bx, oe, vs', he, hcls, hd, hsz, h2, .inr ⟨_, T, oT, ts, rfl, h1, hTx, hT, hdT, h3', fT, n0 _ bT⟩⟩
  have x2 : X0 s2.heap x a0 := ⟨oe, vs', he, hd, h0⟩
  refine TB.noteOn g2 hF t2 x2 fun s3 g3 t3 x3 => ?_
  refine TB.fly0 g3 t3 x3 fun s4 g4 t4 x4 => ?_
  refine handleBy_own_as (x := "error_reply") (C := C) (mg := mg) (bmB := [.type "Exception", .type "BaseException", .type "object"]) (newId := "Exception.__new__") (by decide) ?_
  refine EvG.m (c := Cx.mark c x) hM (by decide) (B := Bs.mark B x) f2 s4 _ _ g4.mark ⟨rfl, O.keeps g4.keepG, ?_, ?_⟩
  · obtain ⟨_, _, oe4, _, he4, hc4, _⟩ := t4
    exact ⟨oe4, he4, hc4⟩
  refine TB.fly0 g4 t4 x4 fun s5 g5 t5 x5 => ?_
  have hloc : c.env.kindOf "error" = some .local := c.loc 1 "error" (by decide) rfl
  obtain ⟨m, hmn⟩ := g5.ns
  refine wpAny_storeName_local hloc hmn (fun h6 hn6 hs6 => ?_) (by rw [c.kind]; rfl)
  have g6 : Good c B [.dat (S l), .undef] f2 { s5 with heap := h6, toks := s5.toks + 1 } := g5.setLocal (i := 1) (x := "error") (a := .undef) (v := .ref x) rfl hloc hmn hn6 hs6 (Nat.le_succ _) trivial
  cases ra with
  | tup t us6 m6 _ ef rs6 =>
  cases rs6 with
  | cons u6 _ _ _ ru rs7 =>
  cases rs7
  cases ru with
  | str _ tk =>
  obtain ⟨oe6, vs6, e6, d6, z6⟩ := x5
  have hxL : x ≠ c.env.locals := fun q => by
    obtain ⟨o', es, ep, eo, hdd, _⟩ := hmn
    rw [← q] at eo
    rw [show s5.heap.get? x = some o' from eo] at e6; cases e6
    rw [hdd] at d6; cases d6
  have e7 : h6.get? x = some oe6 := (hs6.2 x hxL).trans e6
  have c6 : oe6.cls = .ref C := by
    obtain ⟨_, _, oe5, _, he5, hc5, _⟩ := t5
    rw [e6] at he5; cases he5; exact hc5
  refine wpAny_execs_cons (wpAny_Return_some (wpAny_IfExp (wpAny_isTrue_Compare1 (hm := by with_unfolding_all rfl) ?_)))
  show wpAny _ _ (do callWith _ (← eval (.Name "str" _) c.env) [] (backTo _ (starEach [.Name "error" _] c.env)) (backToKw _ (keywordEach [] c.env))) _ _ _
  refine wpAny_bind (EvG.b Z.str (by decide) (c := Cx.mark c x) (B := Bs.mark B x) f2 _ _ _ g6.mark ?_)
  refine PySem.callWith_type (by rfl) (Calls.evalArgs_plain ?_)
  show wpAny _ _ (spliced [(false, eval (.Name "error" _) c.env)]) _ _ _
  refine Calls.spliced_cons (wpAny_Name (wpAny_loadName_local c.kind hloc hn6 (if_pos rfl) ?_) (by decide))
  refine Calls.spliced_nil ?_
  have hcl : c.A.units + 2 < cLine := by have := g6.aok.line; have h9 := g6.aok.units; show c.A.units + 2 < 9900; omega
  refine str_own (K := K) (C := C) (x := x) (t := t) (l := mk l) (tk := tk) (m := m6) hcl (X.keeps g6.keepG) hs hm c6 e7 d6 z6 (g6.inn _ _ ef) rfl ?_
  refine (Ev.v (c := Cx.mark c x) (ρ := [.dat (S l), .undef]) (d := S l) 0) (B := Bs.mark B x) f2 _ _ _ g6.mark fun v8 f8 s8 st8 r8 => ?_
  have g8 : Good (Cx.mark c x) (Bs.mark B x) [.dat (S l), .undef] f8 s8 := (Good.mark (x := x) g6).step st8
  refine CmpD.neS (a := l) (b := l) _ _ f8 s8 _ _ _ _ g8.aok st8.inn (.str _ _) r8 fun f9 s9 st9 => ?_
  rw [show (!decide (l = l)) = false from by simp]
  refine wpAny_truthy_bool ?_
  rw [if_neg (by decide)]
  have g9 := Good.unmark g6 (g8.step st9)
  refine Ev.cnone (c := Cx.mark c x) (B := Bs.mark B x) f9 s9 _ _ (g8.step st9) fun v10 f10 s10 st10 r10 => ?_
  cases r10
  have g10 := g9.step st10
  show wpAny (model prog w) c.A (do bindName c.env "error" .none; unbindBehindTheSuite c.env "error" _) _ E s10
  refine wpAny_bind (wpAny_bindName (g10.store (i := 1) (x := "error") (d := .none) rfl (.inl (by decide)) .none fun s11 g11 => ?_))
  unfold unbindBehindTheSuite
  refine wpAny_onRaise ?_
  obtain ⟨m11, hm11⟩ := g11.ns
  obtain ⟨v11, hv11, _⟩ := g11.vals 1 "error" (.dat .none) rfl rfl
  rcases hv11 with ⟨_, mm, hmm, hvv⟩ | ⟨q, _⟩
  · refine wpAny_unbindName_local hloc hmm hvv (by rw [c.kind]; rfl) fun h12 u hn12 hs12 => ?_
    refine k _ f10 _ ⟨.none, rfl, ((sb2.trans st8.sub).trans st9.sub).trans st10.sub, .none, ?_⟩
    exact g11.st.sameBut (k := s11.toks) hs12 B.newL g11.fL (Nat.le_refl _)
  · rcases q with q | q <;> (rw [hloc] at q; cases q)
end
end Mine
end
section
set_option autoImplicit false
set_option Elab.async false
set_option linter.unusedVariables false
set_option linter.unusedSimpArgs false
open PySem PySem.W PyProof.Rows PySem.Calls
namespace Mine
theorem swapped3_cell {env : Env} {a b d : Str} {pa pb pd p pos : Pos} {q n : Nat} {v1 v2 v3 : Expr} (hb : env.blockKind = .function) (ha : env.kindOf a = some .cell) (h1 : isSt v1 = false) (h2 : isSt v2 = false) (h3 : isSt v3 = false) :
    swappedStores [.Tuple [.Name a pa, .Name b pb, .Name d pd] q p] (.Tuple [v1, v2, v3] n pos) env = pure none := by
  unfold swappedStores
  have hst : ([v1, v2, v3].any fun | .Starred .. => true | _ => false) = false := by
    have e : (fun (x : Expr) => match x with | .Starred .. => true | _ => false) = isSt := by funext x; cases x <;> rfl
    rw [e]; simp [h1, h2, h3]
  simp only [hst]
  by_cases q1 : env.kindOf b = some .local ∧ pb.line = pa.line <;> by_cases q2 : env.kindOf d = some .local ∧ pd.line = pa.line <;> simp [hb, ha, Expr.pos, q1, q2]
  all_goals (try (split <;> simp_all))
section
variable {prog : Program} {w : World} {G : Heap} {vs : List Str} {nl : Nat} {oc : Bool} {gs : List Str} {c : Cx prog w G vs nl oc gs} {ρ : List AV}
theorem Ex1.assignLast {x1 x2 x3 : Str} {p1 p2 p3 p pos ep : Pos} {q m : Nat} {e1 e2 e3 : Expr} (i1 i2 i3 : Nat) {d1 d2 : D} {ds : List D} (h1 : Ev c ρ e1 d1) (h2 : Ev c ρ e2 d2) (h3 : EvF c ρ e3 ds) (a1 : vs[i1]? = some x1) (a2 : vs[i2]? = some x2) (a3 : vs[i3]? = some x3)
    (b1 : i1 < nl ∨ oc = true) (b2 : i2 < nl ∨ oc = true) (b3 : i3 < nl) (n1 : i1 ≠ i3) (n2 : i2 ≠ i3) (hno : ∀ (j : Nat) es, ρ[j]? = some (.own es) → False)
    (hw : swappedStores [.Tuple [.Name x1 p1, .Name x2 p2, .Name x3 p3] q p] (.Tuple [e1, e2, e3] m ep) c.env = pure none)
    (he1 : ∀ env, starEach (e1 :: [e2, e3]) env = (false, eval e1 env) :: starEach [e2, e3] env := by intro _; rfl) (he2 : ∀ env, starEach (e2 :: [e3]) env = (false, eval e2 env) :: starEach [e3] env := by intro _; rfl) (he3 : ∀ env, starEach (e3 :: []) env = (false, eval e3 env) :: starEach [] env := by intro _; rfl)
    (hs : ∀ env, swapsWithSole [.Tuple [.Name x1 p1, .Name x2 p2, .Name x3 p3] q p] (.Tuple [e1, e2, e3] m ep) pos.line env = pure false := by intro _; rfl) (h0n : 0 < c.n := by first | exact ar_n (by assumption) | exact ar_n2 (by assumption) (by assumption) | omega) :
    Ex1 c ρ (.Assign [.Tuple [.Name x1 p1, .Name x2 p2, .Name x3 p3] q p] (.Tuple [e1, e2, e3] m ep) pos) (.next (((ρ.set i1 (.dat d1)).set i2 (.dat d2)).set i3 (.own ds))) := fun B f s Q E g k => by
  refine Assign_Tuple (hs := hs _) (hw := hw) (wpAny_Tuple ?_)
  refine wpAny_items_cons (h1 f s _ E g fun v1 f1 s1 st1 r1 => wpAny_items_cons (h2 f1 s1 _ E (g.step st1) fun v2 f2 s2 st2 r2 => wpAny_items_cons (h3 f2 s2 _ E ((g.step st1).step st2) fun a us n f3 s3 st3 hn3 ha hf r3 => wpAny_items_nil ⟨by simp [sizeLine], ?_⟩) (he3 _)) (he2 _)) (he1 _)
  have g3 := ((g.step st1).step st2).step st3
  have g4 := g3.push { cls := .type "tuple", data := .seq [v1, v2, .ref a].toArray }
  have ha4 := Heap.get?_push_of_some { cls := .type "tuple", data := .seq [v1, v2, .ref a].toArray } ha
  have a0 : B.s0.heap.get? a = none := ((g.step st1).step st2).st.ext.gone hn3
  refine wpAny_assign_Tuple (g4.aok.handled h0n) (items := [v1, v2, .ref a].toArray) ⟨_, Heap.get?_push_size _ rfl, rfl, 0, rfl⟩ rfl rfl fun h' he => ?_
  have g5 := g4.extBut (k := s3.toks) he (Nat.le_refl _)
  have ha5 : h'.get? a = some (lobj us n) := he a _ (Nat.ne_of_lt (Heap.lt_size ha4)) ha4
  obtain ⟨B', g6, FB⟩ := g5.frame
  have hmut : ¬ Mut c ρ h' a := by
    rintro (e | ⟨_, y, hy⟩ | ⟨j, y, es, _, hr, _⟩)
    · obtain ⟨m0, o, es, ep, eo, hd, _⟩ := g5.ns
      rw [← e, show h'.get? a = some _ from ha5] at eo; cases eo; cases hd
    · obtain ⟨_, v, o, eo, hd⟩ := g5.fc y a hy
      rw [show h'.get? a = some _ from ha5] at eo; cases eo; cases hd
    · exact hno j es hr
  have rv1 : Rep f3 v1 d1 := r1.mono (st2.sub.trans st3.sub)
  have rv2 : Rep f3 v2 d2 := r2.mono st3.sub
  show wpAny (model prog w) c.A (assignInOrder ((assignEach [.Name x1 p1, .Name x2 p2, .Name x3 p3] c.env).map (·.2)) [v1, v2, .ref a]) _ E _
  refine wpAny_assignInOrder_more (wpAny_assign_Name (g6.store a1 b1 rv1 fun s7 g7 => wpAny_assignInOrder_more (wpAny_assign_Name (g7.store a2 b2 rv2 fun s8 g8 => wpAny_assignInOrder_more (wpAny_assign_Name ?_)))))
  have ha8 := (FB.keep g8.st a _ ha5 hmut (fun es ep q => by cases q)).1
  have g8' := FB.good' g8
  refine g8'.storeOwn a3 b3 ⟨a, rfl, ⟨us, n, ha8, hf, a0, r3⟩, fun j y es hj hy hr => ?_⟩ fun s9 g9 => wpAny_assignInOrder_none (k _ f3 s9 ⟨rfl, (st1.sub.trans st2.sub).trans st3.sub, g9⟩)
  exfalso
  by_cases e2 : i2 = j
  · subst e2
    rw [List.getElem?_set_self'] at hr
    cases hq : (ρ.set i1 (.dat d1))[i2]? <;> rw [hq] at hr <;> cases hr
  · have hr' := getElem?_set_ne' e2 hr
    by_cases e1 : i1 = j
    · subst e1
      rw [List.getElem?_set_self'] at hr'
      cases hq : ρ[i1]? <;> rw [hq] at hr' <;> cases hr'
    · exact hno j es (getElem?_set_ne' e1 hr')
end
end Mine
end
section
set_option autoImplicit false
set_option Elab.async false
set_option linter.unusedVariables false
set_option linter.unusedSimpArgs false
open PySem PySem.W PyProof.Rows PySem.Calls
namespace Mine
theorem Step.unhide2 {f f2 f3 : PH} {s s2 s3 : Shared} {p : Addr → Prop} (st : Step f s f2 s2) (st3 : Step f2 { s2 with heap := hideP s2.heap p } f3 s3) (hp : ∀ b, p b → s.heap.get? b = none) : Step f s f3 s3 := by
  have hh := hideP_get s2.heap p
  refine ⟨st.sub.trans st3.sub, st3.inn, fun b o e => ?_, fun b o e => ?_, Nat.le_trans st.toks st3.toks, st3.os.trans st.os, st3.gens.trans st.gens⟩
  · have np : ¬ p b := fun q => by rw [hp b q] at e; cases e
    obtain ⟨sl, e1, k1⟩ := st.ext b o e
    obtain ⟨sl2, e2, k2⟩ := st3.ext b _ (((hh b).2 np).trans e1)
    exact ⟨sl2, e2, fun q => (k2 q).trans (k1 q)⟩
  · rcases st3.new b o e with q | q
    · exact st.new b o q
    · by_cases pb : p b
      · exact .inr (hp b pb)
      · exact .inr (st.ext.gone (((hh b).2 pb).symm.trans q))
section
variable {prog : Program} {w : World}
theorem none_eq {A : Around} {s : Shared} : SeqAt.EqAt A s .none .none true := SeqAt.EqAt.same _
theorem CmpD.notInNone : CmpD prog w .NotIn .none (.list [.none, S []]) false := fun A n f s u v Q E ok i r1 r2 k => by
  cases r1
  cases r2 with
  | list a us m _ e rs =>
    cases rs with
    | cons v1 _ _ _ r1 rs =>
      cases rs with
      | cons v2 _ _ _ r2 rs =>
        cases rs
        cases r1
        cases r2
        refine SeqAt.notIn_listAt (fun v => match v with | .none => true | _ => false) (lobj_isList (i _ _ e)) (fun y hy => ?_) (by have := k _ _ (.refl i); simpa using this)
        simp only [List.mem_toArray, List.mem_cons, List.not_mem_nil, or_false] at hy
        rcases hy with rfl | rfl
        · exact SeqAt.EqAt.same _
        · exact SeqAt.EqAt.str_none _ _
def heardB (t : Option (List Nat)) : Bool := match t with
  | some l => !decide (l = [])
  | none => false
theorem CmpD.notInHeard {t : Option (List Nat)} : CmpD prog w .NotIn (tD t) (.list [.none, S []]) (heardB t) := by
  cases t with
  | none => exact CmpD.notInNone
  | some l =>
    have h : CmpD prog w .NotIn (S l) (.list [.none, S []]) (!([D.none, S []] : List D).any (eqSD l)) := CmpD.notInS (by simp [isPlain])
    have e : (!([D.none, S []] : List D).any (eqSD l)) = heardB (some l) := by
      simp only [List.any_cons, List.any_nil, eqSD, heardB, Bool.false_or, Bool.or_false]
      rw [beq_mk]
      by_cases q : l = []
      · subst q; rfl
      · have : ¬ [] = l := fun x => q x.symm
        simp [q, this]
    rw [← e]; exact h
end
section
variable {prog : Program} {w : World} {G : Heap} {vs : List Str} {nl : Nat} {oc : Bool} {gs : List Str} {c : Cx prog w G vs nl oc gs} {ρ : List AV}
theorem EvF.eq {e : Expr} {d d' : List D} (h : EvF c ρ e d) (hb : d = d') : EvF c ρ e d' := hb ▸ h
theorem EvI.eq {e : Expr} {d d' : List D} (h : EvI c ρ e d) (hb : d = d') : EvI c ρ e d' := hb ▸ h
theorem Ev.uld (Z : W0 G) {p pos : Pos} {e1 e2 : Expr} {one two : List (List Nat)} (hx : ("unorderable_list_difference" : Str) ∈ gs) (h1 : EvF c ρ e1 (one.map S)) (h2 : EvF c ρ e2 (two.map S)) (l1 : one.length ≤ 100) (l2 : two.length ≤ 100) (hm : 2 ≤ c.n)
    (he1 : ∀ env, starEach (e1 :: [e2]) env = (false, eval e1 env) :: starEach [e2] env := by intro _; rfl) (he2 : ∀ env, starEach (e2 :: []) env = (false, eval e2 env) :: starEach [] env := by intro _; rfl)
    (hc : ∀ env, eval (.Call (.Name "unorderable_list_difference" p) [e1, e2] [] pos) env = (do callWith pos (← eval (.Name "unorderable_list_difference" p) env) [] (backTo pos (starEach [e1, e2] env)) (backToKw pos (keywordEach [] env))) := by intro _; rfl) :
    Ev c ρ (.Call (.Name "unorderable_list_difference" p) [e1, e2] [] pos) (.tup [.list ((uldP one two).1.map S), .list ((uldP one two).2.map S)]) := fun B f s Q E g k => by
  obtain ⟨a, hM, hF⟩ := Z.uld
  obtain ⟨oc', od, osl, doc, pm, an, cdv, ct, hG, hcd⟩ := id hF
  rw [hc]
  refine wpAny_bind (EvG.m hM hx f s _ E g ?_)
  refine Calls.callWith_function (o := ⟨oc', od, .func (fnOf "unorderable_list_difference" "unorderable_list_difference" (fnParams (stm 23)) (fnBody (stm 23)) (fnScope (stm 23)) .none .none doc pm an cdv ct), osl⟩) (fd := fnOf "unorderable_list_difference" "unorderable_list_difference" (fnParams (stm 23)) (fnBody (stm 23)) (fnScope (stm 23)) .none .none doc pm an cdv ct) ?_
  have hh : wpAny (model prog w) c.A (spliced (backTo pos (starEach [e1, e2] c.env))) (fun us s' => ∃ a1 a2 us1 us2 n1 n2 f', us = [.ref a1, .ref a2] ∧ Step f s f' s' ∧ a1 ≠ a2 ∧ s.heap.get? a1 = none ∧ s.heap.get? a2 = none ∧ s'.heap.get? a1 = some (lobj us1 n1) ∧ s'.heap.get? a2 = some (lobj us2 n2) ∧ f' a1 = none ∧ f' a2 = none ∧ Reps f' us1 (one.map S) ∧ Reps f' us2 (two.map S)) E s := by
    refine wpAny_items_cons (h1 f s _ E g fun a1 us1 n1 f1 s1 st1 hn1 ha1 hf1 r1 => wpAny_items_cons (h2 f1 s1 _ E (g.step st1) fun a2 us2 n2 f2 s2 st2 hn2 ha2 hf2 r2 => wpAny_items_nil ?_) (he2 _)) (he1 _)
    refine ⟨a1, a2, us1, us2, n1, n2, f2, rfl, st1.trans st2, ?_, hn1, st1.ext.gone hn2, st2.ext.seq ha1 (fun es ep q => by cases q), ha2, none_step st2 hf1 ha1, hf2, r1.mono st2.sub, r2⟩
    rintro rfl
    rw [ha1] at hn2; cases hn2
  rw [he1] at hh ⊢
  refine Calls.evalArgs_plain (wpAny_mono hh ?_ fun _ _ x => x)
  rintro us s' ⟨a1, a2, us1, us2, n1, n2, f', rfl, st, hne, hn1, hn2, ha1, ha2, hf1, hf2, r1, r2⟩
  have g' := g.step st
  refine ⟨⟨g'.keepG _ _ hG, rfl⟩, ?_⟩
  refine call_own (n := 1) (ps := ["expected", "actual"]) (ρ0 := [.own (one.map S), .own (two.map S), .undef, .undef]) ["expected", "actual", "missing", "item"] 4 ["ValueError"] hF Z.noLimit (by decide +kernel) ?_ (fun c hn hF' hA => uld_body Z one two l1 l2 c hn hF' hA) (g'.aok.le hm) g'.gsub st.inn g'.tok rfl (fun b => b = a1 ∨ b = a2) ?_ ?_ ?_ fun v f3 s3 st3 rv => k v f3 s3 (st.unhide2 st3 ?_) rv
  · intro us doc pm an cdv ct hl
    obtain ⟨u, v, rfl⟩ := len2 hl
    rfl
  · rintro b (rfl | rfl)
    · exact ⟨hf1, _, _, ha1⟩
    · exact ⟨hf2, _, _, ha2⟩
  · intro j x av hx hr
    match j, hx, hr with
    | 0, hx, hr => exact .inr (.inr ⟨0, a1, _, us1, n1, by decide, hx, rfl, (Option.some.inj hr).symm, .inl rfl, ha1, r1⟩)
    | 1, hx, hr => exact .inr (.inr ⟨1, a2, _, us2, n2, by decide, hx, rfl, (Option.some.inj hr).symm, .inr rfl, ha2, r2⟩)
    | 2, hx, hr => exact .inl (Option.some.inj hr).symm
    | 3, hx, hr => exact .inl (Option.some.inj hr).symm
  · intro j j' b h1 h2 _
    match j, j', h1, h2 with
    | 0, 0, _, _ => rfl
    | 1, 1, _, _ => rfl
    | 0, 1, h1, h2 => cases h1; cases h2; exact absurd rfl hne
    | 1, 0, h1, h2 => cases h1; cases h2; exact absurd rfl hne
  · rintro b (rfl | rfl)
    · exact hn1
    · exact hn2
end
theorem idx_filter_map {rows : List (List Nat)} (l : List Nat) (p : Nat → Bool) : (((l.map fun k : Nat => D.int k).filter fun d => p (ix d)).map fun d => S (rows.getD (ix d) [])) = ((l.filter p).map fun k => rows.getD k []).map S := by
  rw [List.filter_map, List.map_map, List.map_map]
  have e1 : ((fun d => p (ix d)) ∘ fun k : Nat => D.int k) = p := by funext k; simp [Function.comp, ix_int]
  have e2 : ((fun d => S (rows.getD (ix d) [])) ∘ fun k : Nat => D.int k) = S ∘ fun k => rows.getD k [] := by funext k; simp [Function.comp, ix_int]
  rw [e1, e2]
theorem down_eq (n : Nat) : ((List.range n).map fun k : Nat => D.int ((n : Int) - 1 - (k : Int))) = ((List.range n).map fun k => n - 1 - k).map fun k : Nat => D.int k := by
  rw [List.map_map]
  refine List.map_congr_left fun k hk => ?_
  have := List.mem_range.mp hk
  show D.int ((n : Int) - 1 - (k : Int)) = D.int ((n - 1 - k : Nat) : Int)
  congr 1
  omega
def rd (x : Int) : Nat := (x % 9072).toNat
theorem rd7 (x : Int) : x % 7 = ((rd x % 7 : Nat) : Int) := by unfold rd; omega
theorem rd1296 (x : Int) : ((rd x / 7 : Nat) : Int) = x / 7 % 1296 := by unfold rd; omega
def rdD : D → Nat
  | .int i => rd i
  | _ => 0
def numsI (sc : List Int) : List Int := sc.take 5 ++ [259, 679, 1104, 42, 4, 496, 126]
def lackP (one two : List (List Nat)) : List (List Nat) := (((List.range one.length).map fun k => one.length - 1 - k).filter fun k => decide (two.count (one.getD k []) < (one.drop k).count (one.getD k []))).map fun k => one.getD k []
def leftP (one two : List (List Nat)) : List (List Nat) := ((List.range two.length).filter fun k => decide (one.count (two.getD k []) < (two.take (k + 1)).count (two.getD k []))).map fun k => two.getD k []
def pickP (n : Nat) (he : List (Option (List Nat))) (l : List (List Nat)) : List (List Nat) := ((List.range n).filter fun k => heardB (he.getD k none)).map fun k => l.getD k []
def unL : D → List D
  | .list l => l
  | _ => []
theorem getS' {rows : List (List Nat)} {k : Nat} (hk : k < rows.length) : (rows.map S)[k]? = some (S (rows.getD k [])) := by
  rw [List.getElem?_map, List.getElem?_eq_getElem hk, List.getD_eq_getElem?_getD, List.getElem?_eq_getElem hk]; rfl
end Mine
end
section
set_option autoImplicit false
set_option Elab.async false
set_option linter.unusedVariables false
set_option linter.unusedSimpArgs false
open PySem PySem.W PyProof.Rows PySem.Calls
namespace Mine
def toldOf (kind : Nat) (ans : List Nat) : Option (List Nat) := if kind = 4 then none else some (parP ans)
def mStep (s : List Nat × List Mv) (x : Nat) : List Nat × List Mv :=
  let sv := if x % 7 = 4 then s.1 else walkP s.1 (pathP (x / 7)) true
  (sv, s.2 ++ [⟨pathP (x / 7), ansP (x % 7) sv, toldOf (x % 7) (ansP (x % 7) sv)⟩])
def movesP (ns : List Nat) : List Nat × List Mv := ns.foldl mStep ([47], [])
theorem swapped2_cell {env : Env} {a b : Str} {pa pb p pos : Pos} {q n : Nat} {v1 v2 : Expr} (hb : env.blockKind = .function) (ha : env.kindOf b = some .cell) :
    swappedStores [.Tuple [.Name a pa, .Name b pb] q p] (.Tuple [v1, v2] n pos) env = pure none := by
  unfold swappedStores
  by_cases q1 : env.kindOf a = some .local <;> simp [hb, ha, Expr.pos, q1]
def mvD (m : Mv) : D := .list [S m.path, S m.ans]
def vsL : List Str := ["script", "server", "moves", "x", "told", "lacking", "left", "judged", "numbers", "due", "one", "two"]
def gsL : List Str := ["_law_walk", "_law_path", "_law_answer", "_law_client", "_law_due", "range", "len", "list", "unorderable_list_difference", "sorted_list_difference", "sorted", "_law_only"]
def goodMv (m : Mv) : Prop := ∃ k sv x, k ≤ 6 ∧ sv.length ≤ 2100 ∧ m = ⟨pathP x, ansP k sv, toldOf k (ansP k sv)⟩
theorem moves_good : ∀ (ns : List Nat) (s : List Nat × List Mv), s.1.length + 20 * ns.length ≤ 2000 → (∀ m ∈ s.2, goodMv m) → (∀ m ∈ (ns.foldl mStep s).2, goodMv m) ∧ (ns.foldl mStep s).2.length = s.2.length + ns.length
  | [], s, _, h => ⟨h, rfl⟩
  | x :: ns, s, hl, h => by
    have w1 := walk_len s.1 (pathP (x / 7)) true
    have w2 := path_len (x / 7)
    simp only [List.length_cons] at hl
    have hsv : (mStep s x).1.length ≤ s.1.length + 20 := by
      show (if x % 7 = 4 then s.1 else walkP s.1 (pathP (x / 7)) true).length ≤ _
      split <;> omega
    have := moves_good ns (mStep s x) (by first | assumption | exact Nat.le_trans (by assumption) (by decide) | omega) fun m hm => by
      rcases List.mem_append.mp hm with hm | hm
      · exact h m hm
      · rw [List.mem_singleton.mp hm]
        exact ⟨x % 7, (mStep s x).1, x / 7, by omega, by omega, rfl⟩
    refine ⟨this.1, ?_⟩
    show (ns.foldl mStep (mStep s x)).2.length = _
    rw [this.2]
    show (s.2 ++ [_]).length + ns.length = _
    simp; omega
theorem unq_len : ∀ l : List Nat, (unq l).length ≤ l.length
  | [] => by simp [unq]
  | [x] => by unfold unq; split <;> simp
  | x :: y :: r => by
    have h1 := unq_len r
    have h2 := unq_len (y :: r)
    unfold unq
    split
    · split
      · simp only [List.length_cons]; omega
      · simp
    · simp only [List.length_cons] at h2 ⊢; omega
theorem par_len (l : List Nat) : (parP l).length ≤ l.length := by
  unfold parP
  split
  · have := unq_len (l.drop 5); simp at this; omega
  · simp
theorem ans_take (k : Nat) (sv : List Nat) (hk : k ≤ 6) (h4 : k ≠ 4) : (ansP k sv).take 3 = [50, 53, 55] := by
  unfold ansP
  split
  · have : k = 5 ∨ k = 6 := by omega
    rcases this with rfl | rfl
    · rfl
    · simp [toldP]
  · simp [toldP]
theorem goodMv.facts {prog : Program} {w : World} {G : Heap} (Z : W0 G) {m : Mv} (h : goodMv m) : (m.path.length ≤ 13 ∧ ∀ t, m.told = some t → t.length ≤ 5000) ∧ Spec prog w G "_law_hear" 6 [S m.ans] (tD m.told) := by
  obtain ⟨k, sv, x, hk, hsv, rfl⟩ := h
  have ha := ans_len k sv
  have hp := par_len (ansP k sv)
  refine ⟨⟨path_len x, fun t ht => ?_⟩, ?_⟩
  · simp only [toldOf] at ht
    split at ht
    · cases ht
    · cases ht; omega
  · by_cases h4 : k = 4
    · subst h4
      exact hear_none Z (ansP 4 sv) (Nat.le_trans ha (by first | assumption | exact Nat.le_trans (by assumption) (by decide) | omega)) (by simp [ansP, s550])
    · have : tD (toldOf k (ansP k sv)) = S (parP (ansP k sv)) := by simp [toldOf, h4, tD]
      rw [this]
      exact hear_spec Z (ansP k sv) (Nat.le_trans ha (by first | assumption | exact Nat.le_trans (by assumption) (by decide) | omega)) (ans_take k sv hk h4)
end Mine
end
section
set_option autoImplicit false
set_option Elab.async false
set_option linter.unusedVariables false
set_option linter.unusedSimpArgs false
namespace Mine
def esc (l : List Nat) : List Nat := jn [34, 34] (sp 34 l)
theorem jn_cons2 (s x : List Nat) (r : List (List Nat)) (h : r ≠ []) : jn s (x :: r) = x ++ s ++ jn s r := by
  cases r with
  | nil => exact absurd rfl h
  | cons y r => simp [jn]
theorem esc_nil : esc [] = [] := by simp [esc, sp, jn]
theorem esc_q (r : List Nat) : esc (34 :: r) = 34 :: 34 :: esc r := by
  unfold esc
  have : sp 34 (34 :: r) = [] :: sp 34 r := by simp [sp]
  rw [this, jn_cons2 _ _ _ (sp_ne 34 r)]
  rfl
theorem esc_o (x : Nat) (r : List Nat) (h : x ≠ 34) : esc (x :: r) = x :: esc r := by
  unfold esc
  rw [sp_cons h]
  rcases hs : sp 34 r with _ | ⟨a, t⟩
  · exact absurd hs (sp_ne 34 r)
  · cases t with
    | nil => simp [jn]
    | cons b t => simp [jn]
theorem unq_o (x : Nat) (r : List Nat) (h : x ≠ 34) : unq (x :: r) = x :: unq r := by
  cases r with
  | nil => simp [unq, h]
  | cons y r => simp [unq, h]
theorem unq_esc (t : List Nat) (ht : unq t = []) : ∀ l : List Nat, unq (esc l ++ t) = l
  | [] => by rw [esc_nil]; exact ht
  | x :: r => by
    by_cases h : x = 34
    · subst h
      rw [esc_q]
      show unq (34 :: 34 :: (esc r ++ t)) = 34 :: r
      simp [unq, unq_esc t ht r]
    · rw [esc_o x r h]
      show unq (x :: (esc r ++ t)) = x :: r
      rw [unq_o _ _ h, unq_esc t ht r]
theorem par_ans (k : Nat) (sv : List Nat) (hk : k ≤ 6) (h4 : k ≠ 4) (h5 : k ≠ 5) : parP (ansP k sv) = sv := by
  have e1 : toldP sv = [50, 53, 55, 32, 34] ++ esc sv := rfl
  by_cases h : 3 < k
  · have : k = 6 := by omega
    subst this
    have : ansP 6 sv = [50, 53, 55, 32, 34] ++ esc sv := by simp [ansP, e1]
    rw [this]
    have h2 := unq_esc [] rfl sv
    simp at h2
    simp [parP, h2]
  · have : ansP k sv = [50, 53, 55, 32, 34] ++ (esc sv ++ sTail) := by simp [ansP, h, e1]
    rw [this]
    have h2 := unq_esc sTail (by simp [sTail, unq]) sv
    simp [parP, h2]
theorem par_five (sv : List Nat) : parP (ansP 5 sv) = [] := by
  have : ansP 5 sv = s257 := by simp [ansP]
  rw [this]
  decide
end Mine
end
section
set_option autoImplicit false
set_option Elab.async false
set_option linter.unusedVariables false
set_option linter.unusedSimpArgs false
namespace Mine
def fine (c : List Nat) : Prop := c ≠ [] ∧ c ≠ [46] ∧ c ≠ [46, 46] ∧ 47 ∉ c
def NF (l : List Nat) : Prop := ∃ pre cs, (pre = [47] ∨ pre = [47, 47]) ∧ (∀ c ∈ cs, fine c) ∧ l = pre ++ jn [47] cs
theorem dots_contains (x : List Nat) : ([[], [46]] : List (List Nat)).contains x = true ↔ x = [] ∨ x = [46] := by
  simp
theorem nStep_w {ini : List Nat} (hi : ini ≠ []) {acc : List (List Nat)} (ha : ∀ c ∈ acc, fine c) (x : List Nat) : nStep ini acc x = wStep false acc x := by
  have hini : ini.isEmpty = false := by cases ini <;> simp_all
  unfold nStep wStep
  by_cases h1 : x = []
  · subst h1; simp
  by_cases h2 : x = [46]
  · subst h2; simp
  have hx : x.isEmpty = false := by cases x <;> simp_all
  by_cases h3 : x = [46, 46]
  · subst h3
    have hl : ¬ acc.getLast? = some [46, 46] := fun q => (ha _ (List.mem_of_getLast? q)).2.2.1 rfl
    simp [hini, hl]
  · simp [hx, h1, h2, h3]
theorem wStep_fine {link : Bool} {acc : List (List Nat)} (ha : ∀ c ∈ acc, fine c) {x : List Nat} (hx : 47 ∉ x) : ∀ c ∈ wStep link acc x, fine c := by
  unfold wStep
  split
  · exact fun c hc => ha c (List.dropLast_subset _ hc)
  · rename_i h3
    split
    · exact ha
    · rename_i h2
      have h2' : ¬ (x = [] ∨ x = [46]) := fun q => h2 ((dots_contains x).mpr q)
      split
      · intro c hc
        rw [List.mem_singleton.mp hc]
        exact ⟨by decide, by decide, by decide, by decide⟩
      · intro c hc
        rcases List.mem_append.mp hc with hc | hc
        · exact ha c hc
        · rw [List.mem_singleton.mp hc]
          exact ⟨fun q => h2' (.inl q), fun q => h2' (.inr q), h3, hx⟩
theorem fold_fine {link : Bool} : ∀ (xs acc : List (List Nat)), (∀ c ∈ acc, fine c) → (∀ x ∈ xs, 47 ∉ x) → ∀ c ∈ xs.foldl (wStep link) acc, fine c
  | [], acc, ha, _ => ha
  | x :: xs, acc, ha, hx => fold_fine xs _ (wStep_fine ha (hx x (.head _))) fun y hy => hx y (.tail _ hy)
theorem fold_nw {ini : List Nat} (hi : ini ≠ []) : ∀ (xs acc : List (List Nat)), (∀ c ∈ acc, fine c) → (∀ x ∈ xs, 47 ∉ x) → xs.foldl (nStep ini) acc = xs.foldl (wStep false) acc
  | [], _, _, _ => rfl
  | x :: xs, acc, ha, hx => by
    rw [List.foldl_cons, List.foldl_cons, nStep_w hi ha x]
    exact fold_nw hi xs _ (wStep_fine ha (hx x (.head _))) fun y hy => hx y (.tail _ hy)
theorem wStep_one {c : List Nat} (h : fine c) (acc : List (List Nat)) : wStep false acc c = acc ++ [c] := by
  unfold wStep
  rw [if_neg h.2.2.1, if_neg fun q => (((dots_contains c).mp q).elim h.1 h.2.1), if_neg (by simp)]
theorem fold_fine_id : ∀ (cs acc : List (List Nat)), (∀ c ∈ cs, fine c) → cs.foldl (wStep false) acc = acc ++ cs
  | [], acc, _ => by simp
  | c :: cs, acc, h => by
    rw [List.foldl_cons, wStep_one (h c (.head _)), fold_fine_id cs _ fun d hd => h d (.tail _ hd)]
    simp
theorem wStep_nil (link : Bool) (acc : List (List Nat)) : wStep link acc [] = acc := by simp [wStep]
theorem sp_47 (r : List Nat) : sp 47 (47 :: r) = [] :: sp 47 r := by simp [sp]
theorem rootOf_pre {pre r : List Nat} (hp : pre = [47] ∨ pre = [47, 47]) (hr : r.take 1 ≠ [47]) : rootOf (pre ++ r) = (pre, r) := by
  rcases hp with rfl | rfl
  · simp [rootOf, hr]
  · simp [rootOf, hr]
theorem take1 {r : List Nat} (h : 47 ∉ r) : r.take 1 ≠ [47] := by
  cases r with
  | nil => simp
  | cons x r => intro q; simp at q; exact h (q ▸ .head _)
theorem sp_jn_app {cs : List (List Nat)} (h : ∀ c ∈ cs, fine c) (hne : cs ≠ []) (p : List Nat) : sp 47 (jn [47] cs ++ 47 :: p) = cs ++ sp 47 p := by
  induction cs with
  | nil => exact absurd rfl hne
  | cons c cs ih =>
    cases cs with
    | nil => simp only [jn]; rw [sp_app p (h c (.head _)).2.2.2]; rfl
    | cons d cs =>
      have e : jn [47] (c :: d :: cs) ++ 47 :: p = c ++ 47 :: (jn [47] (d :: cs) ++ 47 :: p) := by simp [jn]
      rw [e, sp_app _ (h c (.head _)).2.2.2, ih (fun x hx => h x (.tail _ hx)) (by simp)]
      rfl
end Mine
end
section
set_option autoImplicit false
set_option Elab.async false
set_option linter.unusedVariables false
set_option linter.unusedSimpArgs false
namespace Mine
theorem pre_ne {pre : List Nat} (hp : pre = [47] ∨ pre = [47, 47]) : pre ≠ [] := by rcases hp with rfl | rfl <;> simp
theorem normP_pre {pre r : List Nat} (hp : pre = [47] ∨ pre = [47, 47]) (hr : r.take 1 ≠ [47]) : normP (pre ++ r) = pre ++ jn [47] ((sp 47 r).foldl (wStep false) []) := by
  have h1 : (pre ++ r).isEmpty = false := by rcases hp with rfl | rfl <;> simp
  unfold normP
  rw [if_neg (by rw [h1]; decide), rootOf_pre hp hr]
  simp only
  rw [fold_nw (pre_ne hp) _ _ (by simp) (fun x hx => sp_free 47 r x hx)]
  rw [if_neg]
  rcases hp with rfl | rfl <;> simp
theorem slash_split (p : List Nat) (h : p.take 1 = [47]) : ∃ pre r, (pre = [47] ∨ pre = [47, 47]) ∧ r.take 1 ≠ [47] ∧ p = pre ++ r ∨ ∃ r, p = 47 :: 47 :: 47 :: r := by
  match p, h with
  | [x], h => simp at h; subst h; exact ⟨[47], [], .inl ⟨.inl rfl, by simp, rfl⟩⟩
  | [x, y], h =>
    simp at h; subst h
    by_cases hy : y = 47
    · subst hy; exact ⟨[47, 47], [], .inl ⟨.inr rfl, by simp, rfl⟩⟩
    · exact ⟨[47], [y], .inl ⟨.inl rfl, by simp [hy], rfl⟩⟩
  | x :: y :: z :: r, h =>
    simp at h; subst h
    by_cases hy : y = 47
    · subst hy
      by_cases hz : z = 47
      · subst hz; exact ⟨[], [], .inr ⟨r, rfl⟩⟩
      · exact ⟨[47, 47], z :: r, .inl ⟨.inr rfl, by simp [hz], rfl⟩⟩
    · exact ⟨[47], y :: z :: r, .inl ⟨.inl rfl, by simp [hy], rfl⟩⟩
theorem guess_abs (place p : List Nat) (h : p.take 1 = [47]) : normP p = walkP place p false := by
  have hh : headP place p = p := by unfold headP; rw [if_pos h]
  have hw : walk0 place p = [] := by unfold walk0; rw [if_pos h]
  unfold walkP
  rw [hh, hw]
  obtain ⟨pre, r, ⟨hp, hr, rfl⟩ | ⟨r, rfl⟩⟩ := slash_split p h
  · rw [normP_pre hp hr]
    rcases hp with rfl | rfl
    · have h2 : ¬ ([47] ++ r).take 2 = [47, 47] := by
        intro q
        apply hr
        have := congrArg (List.drop 1) q
        simpa using this
      rw [if_neg (by simp; intro q; exact absurd (by simpa using q) h2)]
      show _ = [47] ++ jn [47] ((sp 47 (47 :: r)).foldl (wStep false) [])
      rw [sp_47, List.foldl_cons, wStep_nil]
    · rw [if_pos (by simp [hr])]
      show _ = [47, 47] ++ jn [47] ((sp 47 (47 :: 47 :: r)).foldl (wStep false) [])
      rw [sp_47, sp_47, List.foldl_cons, List.foldl_cons, wStep_nil, wStep_nil]
  · have hroot : rootOf (47 :: 47 :: 47 :: r) = ([47], 47 :: 47 :: r) := by simp [rootOf]
    unfold normP
    rw [if_neg (by simp), hroot]
    simp only
    rw [fold_nw (by simp) _ _ (by simp) (fun x hx => sp_free 47 _ x hx), if_neg (by simp), if_neg (by simp)]
    rw [sp_47 (47 :: 47 :: r), List.foldl_cons, wStep_nil]
end Mine
end
section
set_option autoImplicit false
set_option Elab.async false
set_option linter.unusedVariables false
set_option linter.unusedSimpArgs false
namespace Mine
theorem last_app {a b : List Nat} (h : b ≠ []) : (a ++ b).getLast? = b.getLast? := by
  rw [List.getLast?_append]
  cases hb : b.getLast? with
  | none => exact absurd (List.getLast?_eq_none_iff.mp hb) h
  | some x => rfl
theorem jn_head {cs : List (List Nat)} (h : ∀ c ∈ cs, fine c) : (jn [47] cs).take 1 ≠ [47] := by
  cases cs with
  | nil => simp [jn]
  | cons c cs =>
    obtain ⟨h1, _, _, h4⟩ := h c (.head _)
    cases c with
    | nil => exact absurd rfl h1
    | cons x c =>
      have hx : x ≠ 47 := fun q => h4 (q ▸ .head _)
      cases cs with
      | nil => simp [jn, hx]
      | cons d cs => simp [jn, hx]
theorem jn_last {cs : List (List Nat)} (h : ∀ c ∈ cs, fine c) (hne : cs ≠ []) : (jn [47] cs).getLast? ≠ some 47 ∧ jn [47] cs ≠ [] := by
  induction cs with
  | nil => exact absurd rfl hne
  | cons c cs ih =>
    obtain ⟨h1, _, _, h4⟩ := h c (.head _)
    cases cs with
    | nil =>
      simp only [jn]
      exact ⟨fun q => h4 (List.mem_of_getLast? q), h1⟩
    | cons d cs =>
      obtain ⟨i1, i2⟩ := ih (fun x hx => h x (.tail _ hx)) (by simp)
      have e : jn [47] (c :: d :: cs) = (c ++ [47]) ++ jn [47] (d :: cs) := by simp [jn]
      rw [e, last_app i2]
      exact ⟨i1, by simp⟩
theorem sp_place {pre : List Nat} (hp : pre = [47] ∨ pre = [47, 47]) {cs : List (List Nat)} (h : ∀ c ∈ cs, fine c) : (sp 47 (pre ++ jn [47] cs)).filter (fun x => !decide (x = [])) = cs := by
  have base : (sp 47 (jn [47] cs)).filter (fun x => !decide (x = [])) = cs := by
    cases cs with
    | nil => simp [jn, sp]
    | cons c r =>
      rw [sp_jn (by simp) (fun p hp => (h p hp).2.2.2)]
      exact List.filter_eq_self.mpr fun x hx => by simpa using (h x hx).1
  rcases hp with rfl | rfl
  · show (sp 47 (47 :: jn [47] cs)).filter _ = cs
    rw [sp_47, List.filter_cons_of_neg (by simp), base]
  · show (sp 47 (47 :: 47 :: jn [47] cs)).filter _ = cs
    rw [sp_47, sp_47, List.filter_cons_of_neg (by simp), List.filter_cons_of_neg (by simp), base]
theorem head_pre {pre r : List Nat} (hp : pre = [47] ∨ pre = [47, 47]) (hr : r.take 1 ≠ [47]) :
    (if (decide ((pre ++ r).take 2 = [47, 47]) && (!decide (((pre ++ r).drop 2).take 1 = [47]) && !false)) = true then [47, 47] else [47]) = pre := by
  rcases hp with rfl | rfl
  · have h2 : ¬ ([47] ++ r).take 2 = [47, 47] := by
      intro q
      apply hr
      have := congrArg (List.drop 1) q
      simpa using this
    rw [if_neg (by simp; intro q; exact absurd (by simpa using q) h2)]
  · rw [if_pos (by simp [hr])]
theorem guess (place p : List Nat) (hn : NF place) : normP (joinP place p) = walkP place p false := by
  by_cases hp1 : p.take 1 = [47]
  · have : joinP place p = p := by
      unfold joinP
      rw [if_pos]
      cases p with
      | nil => simp at hp1
      | cons x p => simp at hp1; simp [hp1]
    rw [this]
    exact guess_abs place p hp1
  obtain ⟨pre, cs, hp, hc, rfl⟩ := hn
  have hh : headP (pre ++ jn [47] cs) p = pre ++ jn [47] cs := by unfold headP; rw [if_neg hp1]
  have hw : walk0 (pre ++ jn [47] cs) p = cs := by unfold walk0; rw [if_neg hp1]; exact sp_place hp hc
  have hhead : (p.head? == some 47 || (pre ++ jn [47] cs).isEmpty) = false := by
    have : (pre ++ jn [47] cs).isEmpty = false := by rcases hp with rfl | rfl <;> simp
    rw [this]
    cases p with
    | nil => simp
    | cons x p => simp at hp1; simp [hp1]
  unfold walkP
  rw [hh, hw, head_pre hp (jn_head hc)]
  unfold joinP
  rw [if_neg (by rw [hhead]; decide)]
  by_cases hce : cs = []
  · subst hce
    have hl : ((pre ++ jn [47] []).getLast? == some 47) = true := by rcases hp with rfl | rfl <;> simp [jn]
    rw [if_pos hl]
    have : pre ++ jn [47] [] ++ p = pre ++ p := by simp [jn]
    rw [this, normP_pre hp hp1]
  · obtain ⟨l1, l2⟩ := jn_last hc hce
    rw [if_neg (by rw [last_app l2]; simpa using l1)]
    have e : pre ++ jn [47] cs ++ ([47] ++ p) = pre ++ (jn [47] cs ++ 47 :: p) := by simp
    have ht : (jn [47] cs ++ 47 :: p).take 1 ≠ [47] := by
      have := jn_head hc
      cases hj : jn [47] cs with
      | nil => exact absurd hj l2
      | cons x r => rw [hj] at this; simpa using this
    rw [e, normP_pre hp ht, sp_jn_app hc hce p, List.foldl_append, fold_fine_id cs [] hc, List.nil_append]
theorem walk_NF (place p : List Nat) (link : Bool) (hn : NF place) : NF (walkP place p link) := by
  refine ⟨_, (sp 47 p).foldl (wStep link) (walk0 place p), ?_, fold_fine _ _ ?_ (fun x hx => sp_free 47 p x hx), rfl⟩
  · split
    · exact .inr rfl
    · exact .inl rfl
  · unfold walk0
    split
    · simp
    · obtain ⟨pre, cs, hp, hc, rfl⟩ := hn
      rw [sp_place hp hc]; exact hc
theorem NF_root : NF [47] := ⟨[47], [], .inl rfl, by simp, by simp [jn]⟩
theorem NF_ne {l : List Nat} (h : NF l) : l ≠ [] := by
  obtain ⟨pre, cs, hp, _, rfl⟩ := h
  rcases hp with rfl | rfl <;> simp
end Mine
end
section
set_option autoImplicit false
set_option Elab.async false
set_option linter.unusedVariables false
set_option linter.unusedSimpArgs false
namespace Mine
theorem client_due : ∀ (ns : List Nat) (s : List Nat × List Mv) (cl : Cl) (du : Du), NF s.1 → NF cl.place → s.1 = du.server → cl.place = du.place → cl.gu = du.gu → cl.he = du.he → s.2.foldl cStep ⟨[47], [], []⟩ = cl →
    ((ns.foldl mStep s).2.foldl cStep ⟨[47], [], []⟩).gu = ((ns.map fun x => ((x % 7, pathP (x / 7)) : Nat × List Nat)).foldl dStep du).gu ∧
    ((ns.foldl mStep s).2.foldl cStep ⟨[47], [], []⟩).he = ((ns.map fun x => ((x % 7, pathP (x / 7)) : Nat × List Nat)).foldl dStep du).he
  | [], s, cl, du, _, _, _, _, hg, hh, hc => by
    simp only [List.foldl_nil, List.map_nil]
    rw [hc]; exact ⟨hg, hh⟩
  | x :: ns, s, cl, du, n1, n2, e1, e2, hg, hh, hc => by
    rw [List.foldl_cons, List.map_cons, List.foldl_cons]
    generalize hsv : (if x % 7 = 4 then s.1 else walkP s.1 (pathP (x / 7)) true) = sv
    have nsv : NF sv := by rw [← hsv]; split; exact n1; exact walk_NF _ _ _ n1
    have em : mStep s x = (sv, s.2 ++ [⟨pathP (x / 7), ansP (x % 7) sv, toldOf (x % 7) (ansP (x % 7) sv)⟩]) := by rw [← hsv]; rfl
    have hgu := guess cl.place (pathP (x / 7)) n2
    rw [e2] at hgu
    have hto : toldOf (x % 7) (ansP (x % 7) sv) = if x % 7 = 4 then none else if x % 7 = 5 then some [] else some sv := by
      unfold toldOf
      by_cases h4 : x % 7 = 4
      · rw [if_pos h4, if_pos h4]
      · rw [if_neg h4, if_neg h4]
        by_cases h5 : x % 7 = 5
        · rw [if_pos h5, h5, par_five]
        · rw [if_neg h5, par_ans _ _ (by omega) h4 h5]
    have hsv' : (if x % 7 = 4 then du.server else walkP du.server (pathP (x / 7)) true) = sv := by rw [← e1]; exact hsv
    have ed : dStep du (x % 7, pathP (x / 7)) = { place := if x % 7 = 4 then du.place else if x % 7 = 5 then walkP du.place (pathP (x / 7)) false else sv, server := sv, gu := du.gu ++ [walkP du.place (pathP (x / 7)) false], he := du.he ++ [if x % 7 = 4 then none else if x % 7 = 5 then some [] else some sv] } := by
      unfold dStep; simp only [hsv']
    have ec : cStep cl ⟨pathP (x / 7), ansP (x % 7) sv, toldOf (x % 7) (ansP (x % 7) sv)⟩ = { place := if x % 7 = 4 then du.place else if x % 7 = 5 then walkP du.place (pathP (x / 7)) false else sv, gu := du.gu ++ [walkP du.place (pathP (x / 7)) false], he := du.he ++ [if x % 7 = 4 then none else if x % 7 = 5 then some [] else some sv] } := by
      unfold cStep
      simp only [hgu, hto, hg, hh, e2]
      by_cases h4 : x % 7 = 4
      · simp [h4]
      · by_cases h5 : x % 7 = 5
        · simp [h5]
        · simp [h4, h5, NF_ne nsv]
    have nw : NF (walkP du.place (pathP (x / 7)) false) := walk_NF _ _ _ (e2 ▸ n2)
    have npl : NF (if x % 7 = 4 then du.place else if x % 7 = 5 then walkP du.place (pathP (x / 7)) false else sv) := by
      split
      · exact e2 ▸ n2
      · split
        · exact nw
        · exact nsv
    refine client_due ns (mStep s x) (cStep cl ⟨pathP (x / 7), ansP (x % 7) sv, toldOf (x % 7) (ansP (x % 7) sv)⟩) (dStep du (x % 7, pathP (x / 7))) ?_ ?_ ?_ ?_ ?_ ?_ ?_
    · rw [em]; exact nsv
    · rw [ec]; exact npl
    · rw [em, ed]
    · rw [ec, ed]
    · rw [ec, ed]
    · rw [ec, ed]
    · rw [em]
      simp only [List.foldl_append, List.foldl_cons, List.foldl_nil]
      rw [hc]
theorem cli_due (ns : List Nat) : cliD (cliP (movesP ns).2) = dueD (dueP (ns.map fun x => ((x % 7, pathP (x / 7)) : Nat × List Nat))) := by
  have := client_due ns ([47], []) ⟨[47], [], []⟩ ⟨[47], [47], [], []⟩ NF_root NF_root rfl rfl rfl rfl rfl
  unfold cliD dueD cliP dueP movesP
  rw [this.1, this.2]
end Mine
end
section
set_option autoImplicit false
set_option Elab.async false
set_option linter.unusedVariables false
set_option linter.unusedSimpArgs false
namespace Mine
def lowS (l : List Nat) : Prop := ∀ x ∈ l, x < 128
theorem jn_mem {s : List Nat} : ∀ {cs : List (List Nat)} {x : Nat}, x ∈ jn s cs → x ∈ s ∨ ∃ c ∈ cs, x ∈ c
  | [], x, h => by simp [jn] at h
  | [c], x, h => .inr ⟨c, .head _, by simpa [jn] using h⟩
  | c :: d :: cs, x, h => by
    have e : jn s (c :: d :: cs) = c ++ s ++ jn s (d :: cs) := by simp [jn]
    rw [e] at h
    rcases List.mem_append.mp h with h | h
    · rcases List.mem_append.mp h with h | h
      · exact .inr ⟨c, .head _, h⟩
      · exact .inl h
    · rcases jn_mem h with h | ⟨c', hc', hx⟩
      · exact .inl h
      · exact .inr ⟨c', .tail _ hc', hx⟩
theorem sp_mem {k : Nat} : ∀ {l : List Nat} {p : List Nat} {x : Nat}, p ∈ sp k l → x ∈ p → x ∈ l
  | [], p, x, hp, hx => by simp [sp] at hp; subst hp; cases hx
  | y :: r, p, x, hp, hx => by
    by_cases hy : y = k
    · rw [show sp k (y :: r) = [] :: sp k r from by simp [sp, hy]] at hp
      rcases List.mem_cons.mp hp with rfl | hp
      · cases hx
      · exact .tail _ (sp_mem hp hx)
    · rw [sp_cons hy] at hp
      rcases hs : sp k r with _ | ⟨a, t⟩
      · exact absurd hs (sp_ne k r)
      · rw [hs] at hp
        rcases List.mem_cons.mp hp with rfl | hp
        · rcases List.mem_cons.mp hx with rfl | hx
          · exact .head _
          · exact .tail _ (sp_mem (k := k) (by rw [hs]; exact .head _) hx)
        · exact .tail _ (sp_mem (k := k) (by rw [hs]; exact .tail _ hp) hx)
theorem lowS_jn {cs : List (List Nat)} (h : ∀ c ∈ cs, lowS c) : lowS (jn [47] cs) := fun x hx => by
  rcases jn_mem hx with h1 | ⟨c, hc, hx⟩
  · rw [List.mem_singleton.mp h1]; decide
  · exact h c hc x hx
theorem lowS_sp {l : List Nat} (h : lowS l) (k : Nat) : ∀ c ∈ sp k l, lowS c := fun c hc x hx => h x (sp_mem hc hx)
theorem lowS_piece (x k : Nat) : lowS (pieceP x k) := by
  unfold pieceP
  have : x / 6 / 6 ^ k % 6 < 6 := Nat.mod_lt _ (by decide)
  generalize x / 6 / 6 ^ k % 6 = i at this
  unfold lowS
  revert i
  decide
theorem lowS_path (x : Nat) : lowS (pathP x) := by
  intro y hy
  unfold pathP at hy
  rcases List.mem_append.mp hy with h | h
  · split at h
    · rw [List.mem_singleton.mp h]; decide
    · cases h
  · exact lowS_jn (fun c hc => by obtain ⟨k, _, rfl⟩ := List.mem_map.mp hc; exact lowS_piece x k) y h
theorem lowS_wStep {link : Bool} {acc : List (List Nat)} {p : List Nat} (ha : ∀ c ∈ acc, lowS c) (hp : lowS p) : ∀ c ∈ wStep link acc p, lowS c := by
  unfold wStep
  split
  · exact fun c hc => ha c (List.dropLast_subset _ hc)
  · split
    · exact ha
    · split
      · intro c hc
        rw [List.mem_singleton.mp hc]
        intro x hx
        rw [List.mem_singleton.mp hx]; decide
      · intro c hc
        rcases List.mem_append.mp hc with hc | hc
        · exact ha c hc
        · rw [List.mem_singleton.mp hc]; exact hp
theorem lowS_fold {link : Bool} : ∀ (xs acc : List (List Nat)), (∀ c ∈ acc, lowS c) → (∀ c ∈ xs, lowS c) → ∀ c ∈ xs.foldl (wStep link) acc, lowS c
  | [], acc, ha, _ => ha
  | x :: xs, acc, ha, hx => lowS_fold xs _ (lowS_wStep ha (hx x (.head _))) fun y hy => hx y (.tail _ hy)
theorem lowS_walk {place p : List Nat} (link : Bool) (h1 : lowS place) (h2 : lowS p) : lowS (walkP place p link) := by
  intro y hy
  unfold walkP at hy
  rcases List.mem_append.mp hy with h | h
  · split at h
    · have : y = 47 := by simpa using h
      omega
    · have : y = 47 := by simpa using h
      omega
  · refine lowS_jn (lowS_fold _ _ ?_ (lowS_sp h2 47)) y h
    unfold walk0
    split
    · simp
    · exact fun c hc => lowS_sp h1 47 c ((List.mem_filter.mp hc).1)
theorem due_low : ∀ (ms : List (Nat × List Nat)) (s : Du), (∀ m ∈ ms, lowS m.2) → lowS s.place → lowS s.server → (∀ c ∈ s.gu, lowS c) → (∀ c ∈ s.he, ∀ t, c = some t → lowS t) →
    (∀ c ∈ (ms.foldl dStep s).gu, lowS c) ∧ (∀ c ∈ (ms.foldl dStep s).he, ∀ t, c = some t → lowS t)
  | [], s, _, _, _, h3, h4 => ⟨h3, h4⟩
  | m :: ms, s, hm, h1, h2, h3, h4 => by
    have hp := hm m (.head _)
    have w1 := lowS_walk false h1 hp
    have w2 : lowS (if m.1 = 4 then s.server else walkP s.server m.2 true) := by split; exact h2; exact lowS_walk true h2 hp
    refine due_low ms (dStep s m) (fun q hq => hm q (.tail _ hq)) ?_ w2 ?_ ?_
    · show lowS (if m.1 = 4 then s.place else if m.1 = 5 then walkP s.place m.2 false else (if m.1 = 4 then s.server else walkP s.server m.2 true))
      split
      · exact h1
      · split
        · exact w1
        · rename_i a b; rw [if_neg a] at w2; exact w2
    · intro c hc
      rcases List.mem_append.mp hc with hc | hc
      · exact h3 c hc
      · rw [List.mem_singleton.mp hc]; exact w1
    · intro c hc t ht
      rcases List.mem_append.mp hc with hc | hc
      · exact h4 c hc t ht
      · rw [List.mem_singleton.mp hc] at ht
        split at ht
        · cases ht
        · split at ht
          · cases ht; intro x hx; cases hx
          · rename_i a b
            rw [if_neg a] at w2
            cases ht
            exact w2
end Mine
end
section
set_option autoImplicit false
set_option Elab.async false
set_option linter.unusedVariables false
set_option linter.unusedSimpArgs false
open PySem PySem.W PyProof.Rows PySem.Calls
namespace Mine
theorem strOk_low {l : List Nat} (h : lowS l) : PyData.strOk (mk l) = true := by
  show (mk l).cps.all _ = true
  rw [show (mk l).cps = l.toArray from rfl, List.all_toArray, List.all_eq_true]
  intro x hx
  have := h x hx
  simp only [decide_eq_true_eq]
  omega
theorem okD_S : ∀ {ls : List (List Nat)}, (∀ c ∈ ls, lowS c) → okDs (ls.map S) = true
  | [], _ => by simp [okDs]
  | c :: ls, h => by
    rw [List.map_cons, okDs, Bool.and_eq_true]
    exact ⟨by rw [okD]; exact strOk_low (h c (.head _)), okD_S fun d hd => h d (.tail _ hd)⟩
theorem okD_tD : ∀ {ls : List (Option (List Nat))}, (∀ c ∈ ls, ∀ t, c = some t → lowS t) → okDs (ls.map tD) = true
  | [], _ => by simp [okDs]
  | c :: ls, h => by
    rw [List.map_cons, okDs, Bool.and_eq_true]
    refine ⟨?_, okD_tD fun d hd => h d (.tail _ hd)⟩
    cases c with
    | none => simp [tD, okD]
    | some t => rw [tD, okD]; exact strOk_low (h _ (.head _) t rfl)
theorem dep_S : ∀ (ls : List (List Nat)), PyData.depthAll (toPs (ls.map S)) = 0
  | [] => by simp [toPs, PyData.depthAll]
  | c :: ls => by simp only [List.map_cons, toPs, toP, PyData.depthAll, PyData.depth, dep_S ls, Nat.max_self]
theorem dep_tD : ∀ (ls : List (Option (List Nat))), PyData.depthAll (toPs (ls.map tD)) = 0
  | [] => by simp [toPs, PyData.depthAll]
  | none :: ls => by simp only [List.map_cons, tD, toPs, toP, PyData.depthAll, PyData.depth, dep_tD ls, Nat.max_self]
  | some t :: ls => by simp only [List.map_cons, tD, toPs, toP, PyData.depthAll, PyData.depth, dep_tD ls, Nat.max_self]
theorem pick_eq {n : Nat} {q : Nat → Bool} {l : List D} {rows : List (List Nat)} (h : ∀ k, k < n → q k = true → l.getD k .none = S (rows.getD k [])) :
    ((((List.range n).map fun k : Nat => D.int k).filter fun d => q (ix d)).map fun d => l.getD (ix d) .none) = (((List.range n).filter q).map fun k => rows.getD k []).map S := by
  rw [List.filter_map, List.map_map, List.map_map]
  have e1 : ((fun d => q (ix d)) ∘ fun k : Nat => D.int k) = q := by funext k; simp [Function.comp, ix_int]
  rw [e1]
  refine List.map_congr_left fun k hk => ?_
  obtain ⟨h1, h2⟩ := List.mem_filter.mp hk
  show l.getD (ix (D.int k)) .none = S _
  rw [ix_int]
  exact h k (List.mem_range.mp h1) h2
theorem getD_map_S {gu : List (List Nat)} {k : Nat} (h : k < gu.length) : (gu.map S).getD k .none = S (gu.getD k []) := by
  rw [List.getD_eq_getElem?_getD, getS' h]; rfl
def unO (t : Option (List Nat)) : List Nat := t.getD []
theorem getD_map_tD {he : List (Option (List Nat))} {k : Nat} (h : k < he.length) : (he.map tD).getD k .none = tD (he.getD k none) ∧ (he.map unO).getD k [] = unO (he.getD k none) ∧ (he.map tD)[k]? = some (tD (he.getD k none)) := by
  simp [List.getD_eq_getElem?_getD, List.getElem?_map, List.getElem?_eq_getElem h]
theorem pick_low {n : Nat} {he : List (Option (List Nat))} {l : List (List Nat)} (h : ∀ c ∈ l, lowS c) : ∀ c ∈ pickP n he l, lowS c := by
  intro c hc
  obtain ⟨k, _, rfl⟩ := List.mem_map.mp hc
  rw [List.getD_eq_getElem?_getD]
  cases hq : l[k]? with
  | none => intro x hx; cases hx
  | some y => exact h y (List.mem_of_getElem? hq)
theorem pick_len {n : Nat} {he : List (Option (List Nat))} {l : List (List Nat)} : (pickP n he l).length ≤ n := by
  unfold pickP
  rw [List.length_map]
  exact Nat.le_trans (List.length_filter_le _ _) (by simp)
theorem sub_low {l : List (List Nat)} (h : ∀ c ∈ l, lowS c) (ks : List Nat) : ∀ c ∈ ks.map (fun k => l.getD k []), lowS c := by
  intro c hc
  obtain ⟨k, _, rfl⟩ := List.mem_map.mp hc
  rw [List.getD_eq_getElem?_getD]
  cases hq : l[k]? with
  | none => intro x hx; cases hx
  | some y => exact h y (List.mem_of_getElem? hq)
theorem due_len : ∀ (ms : List (Nat × List Nat)) (s : Du), (ms.foldl dStep s).gu.length = s.gu.length + ms.length ∧ (ms.foldl dStep s).he.length = s.he.length + ms.length
  | [], s => ⟨rfl, rfl⟩
  | m :: ms, s => by
    have := due_len ms (dStep s m)
    rw [List.foldl_cons, this.1, this.2]
    constructor
    · show (s.gu ++ [_]).length + _ = _; simp; omega
    · show (s.he ++ [_]).length + _ = _; simp; omega
theorem sl_all {α : Type} (l : List α) : sl none none l = l := by simp [sl]
def AgreeP : Prop := (∀ one two : List (List Nat), uldP one two = (lackP one two, leftP one two)) ∧ ∀ one two : List (List Nat), sldR (srt one) (srt two) [] [] = (onlyP one two, onlyP two one)
section
variable {prog : Program} {w : World} {G : Heap} {vs : List Str} {nl : Nat} {oc : Bool} {gs : List Str} {c : Cx prog w G vs nl oc gs} {ρ : List AV}
theorem mod7 {e : Expr} {p1 p2 : Pos} {k : Nat} {x : Int} (h : Ev c ρ e (.int x)) : Ev c ρ (.BinOp e .Mod (.Constant (.int 7) k p1) p2) (.int ((rd x % 7 : Nat) : Int)) :=
  Ev.bin h Ev.int (BinD.eq (BinD.modI (by first | exact ar_n hn | exact ar_n2 hc' hn | assumption | exact Nat.le_trans (by assumption) (by decide) | omega)) (congrArg D.int (rd7 x)))
theorem div7 {e : Expr} {p1 p2 : Pos} {k : Nat} {x : Int} (h : Ev c ρ e (.int x)) : Ev c ρ (.BinOp e .FloorDiv (.Constant (.int 7) k p1) p2) (.int (x / 7)) :=
  Ev.bin h Ev.int (BinD.divI (by first | exact ar_n hn | exact ar_n2 hc' hn | assumption | exact Nat.le_trans (by assumption) (by decide) | omega))
end
section
variable {prog : Program} {w : World} {G : Heap} (Z : W0 G)
include Z in
theorem law_body (hP : AgreeP) (sc : List Int) (hs : sc.length ≤ 100) (c : Cx prog w G vsL 8 true gsL) (hn : c.n = 9) :
    Ex c [.dat (.list (sc.map D.int)), .undef, .undef, .undef, .undef, .undef, .undef, .undef, .undef, .undef, .undef, .undef] (fnBody (stm 32)) (.ret (.bool true)) := by
  conv => enter [3]; whnf
  refine Ex.cons (Ex1.assignLast 8 1 2 (d1 := .list ((numsI sc).map D.int)) (d2 := S [47]) (ds := []) ?_ (Ev.lit (by decide +kernel)) (EvF.list Evs.nil (by simp)) rfl rfl rfl (.inr rfl) (.inl (by decide)) (by decide) (by decide) (by decide) ?_ (swapped3_cell (Cx.block c) (c.own rfl 8 "numbers" (by decide) rfl) rfl rfl rfl)) ?_
  · have e : sl none (some 5) (sc.map D.int) = (sc.take 5).map D.int := by rw [show (5 : Int) = ((5 : Nat) : Int) from rfl, sl_to, List.map_take]
    have hl : ((sc.take 5).map D.int).length ≤ 100 := by simp; omega
    refine Ev.eq (Ev.bin (EvF.ev (EvF.sliceL (Ev.v 0) EvP.nil (EvP.one Ev.int) (by first | exact ln_map (by assumption) | (simp; omega)))) (EvF.ev (EvF.list (ds := [259, 679, 1104, 42, 4, 496, 126].map D.int) (Evs.cons Ev.int (Evs.cons Ev.int (Evs.cons Ev.int (Evs.cons Ev.int (Evs.cons Ev.int (Evs.cons Ev.int (Evs.cons Ev.int Evs.nil))))))) (by simp))) (BinD.addL (by rw [e]; simp only [List.length_map, List.length_cons, List.length_nil] at hl ⊢; omega))) ?_
    rw [e, numsI, List.map_append]
  · intro j es h
    match j, h with
    | 0, h => cases h
    | 1, h => cases h
    | 2, h => cases h
    | 3, h => cases h
    | 4, h => cases h
    | 5, h => cases h
    | 6, h => cases h
    | 7, h => cases h
    | 8, h => cases h
    | 9, h => cases h
    | 10, h => cases h
    | 11, h => cases h
  have hnl : (numsI sc).length ≤ 12 := by simp [numsI]; omega
  refine Ex.forFold (numsI sc) (([47], []) : List Nat × List Mv) AV.undef D.int (fun s x => mStep s (rd x))
    (fun s av => [.dat (.list (sc.map D.int)), .dat (S s.1), .own (s.2.map mvD), av, .undef, .undef, .undef, .undef, .dat (.list ((numsI sc).map D.int)), .undef, .undef, .undef])
    (fun s _ x => [.dat (.list (sc.map D.int)), .dat (S s.1), .own (s.2.map mvD), .dat (.int x), .undef, .undef, .undef, .undef, .dat (.list ((numsI sc).map D.int)), .undef, .undef, .undef])
    (fun xs s => s.1.length + 20 * xs.length ≤ 2000 ∧ s.2.length + xs.length ≤ 100) rfl (EvI.list (Ev.v 8)) (fun _ _ _ => As.name 3 rfl) ⟨by simp; omega, by simp; omega⟩ ?_ ?_ ?_
  · intro x xs s ⟨h1, h2⟩
    have w1 := walk_len s.1 (pathP (rd x / 7)) true
    have w2 := path_len (rd x / 7)
    simp only [List.length_cons] at h1 h2
    refine ⟨?_, ?_⟩
    · show (if rd x % 7 = 4 then s.1 else walkP s.1 (pathP (rd x / 7)) true).length + 20 * xs.length ≤ 2000
      split <;> omega
    · show (s.2 ++ [_]).length + xs.length ≤ 100
      simp; omega
  · intro x xs s av ⟨h1, h2⟩
    have w1 := walk_len s.1 (pathP (rd x / 7)) true
    have w2 := path_len (rd x / 7)
    simp only [List.length_cons] at h1 h2
    refine ⟨.dat (.int x), .inl ?_⟩
    generalize hsv : (if rd x % 7 = 4 then s.1 else walkP s.1 (pathP (rd x / 7)) true) = sv
    have hsl : sv.length ≤ 2100 := by rw [← hsv]; split <;> omega
    have e : mStep s (rd x) = (sv, s.2 ++ [⟨pathP (rd x / 7), ansP (rd x % 7) sv, toldOf (rd x % 7) (ansP (rd x % 7) sv)⟩]) := by rw [← hsv]; rfl
    rw [e]
    refine Ex.cons (Ex1.assign 1 (d := S sv) (Ev.ite (Tr.cmp (mod7 (Ev.v 3)) (Ev.int (i := 4)) CmpD.eqI) (fun h => ?_) (fun h => ?_)) rfl) ?_
    · have h4 : rd x % 7 = 4 := by simp at h; omega
      rw [if_pos h4] at hsv
      rw [← hsv]
      exact Ev.v 1
    · have h4 : ¬ rd x % 7 = 4 := by simp at h; omega
      rw [if_neg h4] at hsv
      rw [← hsv]
      exact Ev.callN Z.walk (by decide) (EvA.cons (Ev.v 1) (Evs.cons (Ev.callN Z.path (by decide) (EvA.cons (div7 (Ev.v 3)) Evs.nil) (path_specI Z (x / 7) (rd x / 7) (rd1296 x)) (by first | exact ar_n hn | exact ar_n2 hc' hn | assumption | exact Nat.le_trans (by assumption) (by decide) | omega)) (Evs.cons Ev.bool Evs.nil))) (walk_spec Z s.1 (pathP (rd x / 7)) true (by first | exact ar_n hn | exact ar_n2 hc' hn | assumption | exact Nat.le_trans (by assumption) (by decide) | omega) (by first | exact ar_n hn | exact ar_n2 hc' hn | assumption | exact Nat.le_trans (by assumption) (by decide) | omega)) (by first | exact ar_n hn | exact ar_n2 hc' hn | assumption | exact Nat.le_trans (by assumption) (by decide) | omega)
    · refine Ex.one ?_
      rw [List.map_append]
      have hk : rd x % 7 ≤ 6 := by omega
      exact Ex1.append 2 rfl rfl (EvF.ev (EvF.list (ds := [S (pathP (rd x / 7)), S (ansP (rd x % 7) sv)]) (Evs.cons (Ev.callN Z.path (by decide) (EvA.cons (div7 (Ev.v 3)) Evs.nil) (path_specI Z (x / 7) (rd x / 7) (rd1296 x)) (by first | exact ar_n hn | exact ar_n2 hc' hn | assumption | exact Nat.le_trans (by assumption) (by decide) | omega)) (Evs.cons (Ev.callN Z.answer (by decide) (EvA.cons (mod7 (Ev.v 3)) (Evs.cons (Ev.v 1) Evs.nil)) (answer_spec Z (rd x % 7) sv hk (by first | exact ar_n hn | exact ar_n2 hc' hn | assumption | exact Nat.le_trans (by assumption) (by decide) | omega)) (by first | exact ar_n hn | exact ar_n2 hc' hn | assumption | exact Nat.le_trans (by assumption) (by decide) | omega)) Evs.nil)) (by simp))) (by first | exact ln_map (by assumption) | (simp; omega))
  · intro av
    refine Ex.freeze 2 rfl rfl ?_
    have hfold : (numsI sc).foldl (fun s x => mStep s (rd x)) (([47], []) : List Nat × List Mv) = movesP ((numsI sc).map rd) := by rw [movesP, List.foldl_map]
    rw [hfold]
    generalize hns : (numsI sc).map rd = ns
    have hnsl : ns.length = (numsI sc).length := by rw [← hns]; simp
    have hg := moves_good ns (([47], []) : List Nat × List Mv) (by first | exact ln_map (by assumption) | (simp; omega)) (fun m hm => by simp at hm)
    have hcd := cli_due ns
    generalize hms : movesP ns = mp at hcd
    obtain ⟨sv, ms⟩ := mp
    rw [show (ns.foldl mStep (([47], []) : List Nat × List Mv)) = (sv, ms) from hms] at hg
    simp only at hcd hg
    have hml : ms.length ≤ 12 := by rw [hg.2]; simp; omega
    have hlow := due_low (ns.map fun x => ((x % 7, pathP (x / 7)) : Nat × List Nat)) ⟨[47], [47], [], []⟩ (fun m hm => by obtain ⟨x, _, rfl⟩ := List.mem_map.mp hm; exact lowS_path _) (by intro x hx; simp at hx; omega) (by intro x hx; simp at hx; omega) (fun c hc => by simp at hc) (fun c hc => by simp at hc)
    have hdl := due_len (ns.map fun x => ((x % 7, pathP (x / 7)) : Nat × List Nat)) ⟨[47], [47], [], []⟩
    have hdp : (ns.map fun x => ((x % 7, pathP (x / 7)) : Nat × List Nat)).foldl dStep ⟨[47], [47], [], []⟩ = dueP (ns.map fun x => ((x % 7, pathP (x / 7)) : Nat × List Nat)) := rfl
    rw [hdp] at hlow hdl
    have hcs := client_spec (prog := prog) (w := w) Z ms (by first | exact ar_n hn | exact ar_n2 hc' hn | assumption | exact Nat.le_trans (by assumption) (by decide) | omega) (fun m hm => ((hg.1 m hm).facts (prog := prog) (w := w) Z).1) (fun m hm => ((hg.1 m hm).facts Z).2)
    have hds := due_spec (prog := prog) (w := w) Z (ns.map fun x => (x % 7, pathP (x / 7))) (by first | exact ln_map (by assumption) | (simp; omega)) (fun m hm => by
        obtain ⟨x, _, rfl⟩ := List.mem_map.mp hm
        exact path_len _)
    rw [hcd] at hcs
    generalize hdv : dueP (ns.map fun x => ((x % 7, pathP (x / 7)) : Nat × List Nat)) = dv at hcs hds hlow hdl
    have hk : ((((numsI sc).map D.int).filter fun _ => true).map fun d => D.int ((rdD d % 7 : Nat) : Int)) = (ns.map fun x => ((x % 7, pathP (x / 7)) : Nat × List Nat)).map fun m => D.int m.1 := by
      rw [List.filter_eq_self.mpr (by simp), List.map_map, ← hns, List.map_map, List.map_map]
      rfl
    have hp : ((((numsI sc).map D.int).filter fun _ => true).map fun d => S (pathP (rdD d / 7))) = (ns.map fun x => ((x % 7, pathP (x / 7)) : Nat × List Nat)).map fun m => S m.2 := by
      rw [List.filter_eq_self.mpr (by simp), List.map_map, ← hns, List.map_map, List.map_map]
      rfl
    refine Ex.cons (Ex1.assignT [4, 9] (Ev.tuple (ds := [dueD dv, dueD dv]) (Evs.cons (Ev.callN Z.client (by decide) (EvA.cons (Ev.v 2) Evs.nil) hcs (by first | exact ar_n hn | exact ar_n2 hc' hn | assumption | exact Nat.le_trans (by assumption) (by decide) | omega))
      (Evs.cons (Ev.callN Z.due (by decide) (EvA.cons ?_ (Evs.cons ?_ Evs.nil)) hds (by first | exact ar_n hn | exact ar_n2 hc' hn | assumption | exact Nat.le_trans (by assumption) (by decide) | omega)) Evs.nil)) (by simp)) ⟨⟨_, _, rfl, rfl, .inl (by decide)⟩, ⟨_, _, rfl, rfl, .inr rfl⟩, trivial⟩ rfl (.inl rfl) (hw := swapped2_cell (Cx.block c) (c.own rfl 9 "due" (by decide) rfl))) ?_
    · rw [← hk]
      refine EvF.ev (EvF.comp [] [] [] [] (fun _ => true) (fun d => D.int ((rdD d % 7 : Nat) : Int)) (by decide +kernel) (EvI.list (Ev.v 8)) (by first | exact ln_map (by assumption) | (simp; omega)) (fun j y hy => by simp at hy) rfl (fun c' hc' d hd => ⟨.inl ⟨rfl, rfl⟩, fun _ => ?_⟩))
      obtain ⟨x, _, rfl⟩ := List.mem_map.mp hd
      exact mod7 (Ev.v 0)
    · rw [← hp]
      refine EvF.ev (EvF.comp [] ["_law_path"] [] [] (fun _ => true) (fun d => S (pathP (rdD d / 7))) (by decide +kernel) (EvI.list (Ev.v 8)) (by first | exact ln_map (by assumption) | (simp; omega)) (fun j y hy => by simp at hy) rfl (fun c' hc' d hd => ⟨.inl ⟨rfl, rfl⟩, fun _ => ?_⟩))
      obtain ⟨x, _, rfl⟩ := List.mem_map.mp hd
      exact Ev.callN Z.path (by decide) (EvA.cons (div7 (Ev.v 0)) Evs.nil) (path_specI Z (x / 7) (rd x / 7) (rd1296 x)) (by first | exact ar_n hn | exact ar_n2 hc' hn | assumption | exact Nat.le_trans (by assumption) (by decide) | omega)
    · obtain ⟨pl, sr, gu, he⟩ := dv
      simp only at hlow hdl
      rw [show dueD ⟨pl, sr, gu, he⟩ = .list [.list (gu.map S), .list (he.map tD)] from rfl]
      have hgl : gu.length = (numsI sc).length := by rw [hdl.1]; simp; exact hnsl
      have hel : he.length = (numsI sc).length := by rw [hdl.2]; simp; exact hnsl
      generalize hN : (numsI sc).length = N at hgl hel hnl
      have hod : okD (.list [.list (gu.map S), .list (he.map tD)]) = true := by
        rw [okD, okDs, okDs, okDs, okD, okD, okD_S hlow.1, okD_tD hlow.2]; rfl
      have hdd : (toP (.list [.list (gu.map S), .list (he.map tD)])).depth ≤ 100 := by
        simp only [toP, toPs, PyData.depth, PyData.depthAll, dep_S, dep_tD]; decide
      generalize hnd : D.list ((numsI sc).map D.int) = nd
      refine Ex.eqR (ρ' := [.dat (.list (sc.map D.int)), .dat (S sv), .dat (.list (ms.map mvD)), av, .dat (.list [.list (gu.map S), .list (he.map tD)]), .undef, .undef, .undef, .dat nd, .dat (.list [.list (gu.map S), .list (he.map tD)]), .undef, .undef]) ?_ rfl
      refine Ex.cons (Ex1.ite (Tr.cmp (Ev.v 4) (Ev.v 9) (CmpD.neSelf hod hdd)) (fun h => by cases h) (fun _ => Ex.nil)) ?_
      have hlow2 : ∀ c ∈ he.map unO, lowS c := by
        intro c hc
        obtain ⟨t, ht, rfl⟩ := List.mem_map.mp hc
        cases t with
        | none => intro x hx; cases hx
        | some t => exact hlow.2 _ ht t rfl
      generalize hone : pickP N he gu = one
      generalize htwo : pickP N he (he.map unO) = two
      have lo1 : ∀ c ∈ one, lowS c := hone ▸ pick_low hlow.1
      have lo2 : ∀ c ∈ two, lowS c := htwo ▸ pick_low hlow2
      have l1 : one.length ≤ 12 := hone ▸ Nat.le_trans pick_len hnl
      have l2 : two.length ≤ 12 := htwo ▸ Nat.le_trans pick_len hnl
      have hrows : ((([.list (gu.map S), .list (he.map tD)] : List D).filter fun _ => true).map fun row => D.list ((((List.range N).map fun k : Nat => D.int k).filter fun d => heardB (he.getD (ix d) none)).map fun d => (unL row).getD (ix d) .none)) = [.list (one.map S), .list (two.map S)] := by
        have h1 := pick_eq (n := N) (q := fun k => heardB (he.getD k none)) (l := gu.map S) (rows := gu) (fun k hk _ => getD_map_S (by first | exact ar_n hn | exact ar_n2 hc' hn | assumption | exact Nat.le_trans (by assumption) (by decide) | omega))
        have h2 := pick_eq (n := N) (q := fun k => heardB (he.getD k none)) (l := he.map tD) (rows := he.map unO) (fun k hk hq => by
          obtain ⟨g1, g2, _⟩ := getD_map_tD (he := he) (k := k) (by first | exact ar_n hn | exact ar_n2 hc' hn | assumption | exact Nat.le_trans (by assumption) (by decide) | omega)
          rw [g1, g2]
          cases hq' : he.getD k none with
          | none => rw [hq'] at hq; cases hq
          | some t => rfl)
        rw [← hone, ← htwo]
        have h3 := congr (congrArg (fun a b => [D.list a, D.list b]) h1) h2
        exact h3
      refine Ex.cons (Ex1.assignT [10, 11] (ds := [.list (one.map S), .list (two.map S)]) (d := .list [.list (one.map S), .list (two.map S)]) (Ev.eq (EvF.ev (EvF.compC (ds := [.list (gu.map S), .list (he.map tD)]) ["due", "numbers"] ["range", "len"] [9, 8] [.dat (.list [.list (gu.map S), .list (he.map tD)]), .dat nd] (fun _ => true)
        (fun row => D.list ((((List.range N).map fun k : Nat => D.int k).filter fun d => heardB (he.getD (ix d) none)).map fun d => (unL row).getD (ix d) .none)) (by decide +kernel) (EvI.list (Ev.v 9)) (by simp) ?_ rfl (fun c' hc' d hd => ⟨.inl ⟨rfl, rfl⟩, fun _ => ?_⟩))) (by rw [hrows])) ⟨⟨_, _, rfl, rfl, .inr rfl⟩, ⟨_, _, rfl, rfl, .inr rfl⟩, trivial⟩ rfl (.inr rfl)) ?_
      · intro j y hy
        match j, hy with
        | 0, hy => exact ⟨9, _, rfl, hy, by decide, rfl, rfl⟩
        | 1, hy => exact ⟨8, _, rfl, hy, by decide, rfl, rfl⟩
      · obtain ⟨l, hl, rfl⟩ : ∃ l : List D, l.length = N ∧ d = .list l := by
          simp only [List.mem_cons, List.not_mem_nil, or_false] at hd
          rcases hd with rfl | rfl
          · exact ⟨_, by simpa using hgl, rfl⟩
          · exact ⟨_, by simpa using hel, rfl⟩
        subst hnd
        refine EvF.ev (EvF.comp ["due", "row"] [] [1, 0] [.dat (.list [.list (gu.map S), .list (he.map tD)]), .dat (.list l)] (fun d => heardB (he.getD (ix d) none)) (fun d => (unL (.list l)).getD (ix d) .none) (by decide +kernel)
          (EvI.rangeN (EvG.b Z.range (by decide)) (Ev.eq (Ev.callB (EvG.b Z.len (by decide)) (EvA.cons (Ev.v 2) Evs.nil) (CalD.lenL (by first | exact ln_map (by assumption) | (simp; omega)))) (by rw [List.length_map, hN])) (by first | exact ar_n hn | exact ar_n2 hc' hn | assumption | exact Nat.le_trans (by assumption) (by decide) | omega)) (by first | exact ln_map (by assumption) | (simp; omega)) ?_ rfl (fun c2 hc2 d hd => ?_))
        · intro j y hy
          match j, hy with
          | 0, hy => exact ⟨1, _, rfl, hy, by decide, rfl, rfl⟩
          | 1, hy => exact ⟨0, _, rfl, hy, by decide, rfl, rfl⟩
        · obtain ⟨k, hk, rfl⟩ := List.mem_map.mp hd
          have hk' : k < N := List.mem_range.mp hk
          rw [ix_int]
          have hget : GetD prog w (.list l) (.int k) ((unL (.list l)).getD k .none) := GetD.list (by first | exact ar_n hn | exact ar_n2 hc' hn | assumption | exact Nat.le_trans (by assumption) (by decide) | omega) (by
            rw [Int.toNat_natCast]
            show l[k]? = some (l.getD k .none)
            rw [List.getD_eq_getElem?_getD, List.getElem?_eq_getElem (by first | exact ar_n hn | exact ar_n2 hc' hn | assumption | exact Nat.le_trans (by assumption) (by decide) | omega)]; rfl) (by first | exact ar_n hn | exact ar_n2 hc' hn | assumption | exact Nat.le_trans (by assumption) (by decide) | omega)
          have hgt : GetD prog w (.list (he.map tD)) (.int k) (tD (he.getD k none)) := GetD.list (by first | exact ar_n hn | exact ar_n2 hc' hn | assumption | exact Nat.le_trans (by assumption) (by decide) | omega) (by
            rw [Int.toNat_natCast]; exact (getD_map_tD (by first | exact ar_n hn | exact ar_n2 hc' hn | assumption | exact Nat.le_trans (by assumption) (by decide) | omega)).2.2) (by first | exact ln_map (by assumption) | (simp; omega))
          refine ⟨.inr ⟨_, rfl, Tr.cmp (Ev.sub (Ev.sub (d := .list (he.map tD)) (Ev.v 1) (Ev.int (i := 1)) (GetD.list (by decide) rfl (by simp)) rfl) (Ev.v 0) hgt rfl) (EvF.ev (EvF.list (ds := [.none, S []]) (Evs.cons Ev.cnone (Evs.cons (Ev.lit (by decide +kernel)) Evs.nil)) (by simp))) CmpD.notInHeard⟩, fun _ => Ev.sub (Ev.v 2) (Ev.v 0) hget rfl⟩
      refine Ex.eqR (ρ' := [.dat (.list (sc.map D.int)), .dat (S sv), .dat (.list (ms.map mvD)), av, .dat (.list [.list (gu.map S), .list (he.map tD)]), .undef, .undef, .undef, .dat nd, .dat (.list [.list (gu.map S), .list (he.map tD)]), .dat (.list (one.map S)), .dat (.list (two.map S))]) ?_ rfl
      have cnt : ∀ {a b : Nat}, decide ((a : Int) < (b : Int)) = decide (a < b) := fun {a b} => by simp
      have hlk := idx_filter_map (rows := one) ((List.range one.length).map fun k => one.length - 1 - k) (fun k => decide (two.count (one.getD k []) < (one.drop k).count (one.getD k [])))
      have hlf := idx_filter_map (rows := two) (List.range two.length) (fun k => decide (one.count (two.getD k []) < (two.take (k + 1)).count (two.getD k [])))
      have ll1 : (lackP one two).length ≤ 12 := by
        unfold lackP; rw [List.length_map]; exact Nat.le_trans (List.length_filter_le _ _) (by first | exact ln_map (by assumption) | (simp; omega))
      have ll2 : (leftP one two).length ≤ 12 := by
        unfold leftP; rw [List.length_map]; exact Nat.le_trans (List.length_filter_le _ _) (by first | exact ln_map (by assumption) | (simp; omega))
      refine Ex.cons (Ex1.assignComp 5 (ds := ((List.range one.length).map fun k => one.length - 1 - k).map fun k : Nat => D.int k) ["one", "two"] [] [10, 11] [.dat (.list (one.map S)), .dat (.list (two.map S))] (fun d => decide (two.count (one.getD (ix d) []) < (one.drop (ix d)).count (one.getD (ix d) []))) (fun d => S (one.getD (ix d) [])) (by decide +kernel)
        (EvI.eq (EvI.range3 (n := one.length) (EvG.b Z.range (by decide)) (Ev.bin (Ev.callB (EvG.b Z.len (by decide)) (EvA.cons (Ev.v 10) Evs.nil) (CalD.lenL (by first | exact ln_map (by assumption) | (simp; omega)))) (Ev.int (i := 1)) (BinD.eq BinD.subI (by rw [List.length_map]))) (Ev.neg (Ev.int (i := 1))) (Ev.neg (Ev.int (i := 1))) (by first | exact ar_n hn | exact ar_n2 hc' hn | assumption | exact Nat.le_trans (by assumption) (by decide) | omega)) (down_eq _)) (by first | exact ln_map (by assumption) | (simp; omega)) ?_ rfl (fun c' hc' d hd => ?_) rfl) ?_
      · intro j y hy
        match j, hy with
        | 0, hy => exact ⟨10, _, rfl, hy, by decide, rfl, rfl⟩
        | 1, hy => exact ⟨11, _, rfl, hy, by decide, rfl, rfl⟩
      · obtain ⟨k, hk, rfl⟩ := List.mem_map.mp hd
        obtain ⟨k0, hk0, hk1⟩ := List.mem_map.mp hk
        have hk' : k < one.length := by have := List.mem_range.mp hk0; omega
        rw [ix_int]
        have hget : GetD prog w (.list (one.map S)) (.int k) (S (one.getD k [])) := GetD.list (by first | exact ar_n hn | exact ar_n2 hc' hn | assumption | exact Nat.le_trans (by assumption) (by decide) | omega) (by rw [Int.toNat_natCast]; exact getS' hk') (by first | exact ln_map (by assumption) | (simp; omega))
        refine ⟨.inr ⟨_, rfl, Tr.eq (Tr.cmp (Ev.meth F.plainAttrs_list F.slot_list_count F.type_list_count (Ev.eq (EvF.ev (EvF.sliceL (Ev.v 1) (EvP.one (Ev.v 0)) EvP.nil (by first | exact ln_map (by assumption) | (simp; omega)))) (d' := .list ((one.drop k).map S)) (by rw [sl_from, List.map_drop])) (EvA.cons (Ev.sub (Ev.v 1) (Ev.v 0) hget rfl) Evs.nil) rfl CalD.count)
          (Ev.meth F.plainAttrs_list F.slot_list_count F.type_list_count (Ev.v 2) (EvA.cons (Ev.sub (Ev.v 1) (Ev.v 0) hget rfl) Evs.nil) rfl CalD.count) CmpD.gtI) cnt⟩, fun _ => Ev.sub (Ev.v 1) (Ev.v 0) hget rfl⟩
      rw [hlk]
      refine Ex.eqR (ρ' := [.dat (.list (sc.map D.int)), .dat (S sv), .dat (.list (ms.map mvD)), av, .dat (.list [.list (gu.map S), .list (he.map tD)]), .dat (.list ((lackP one two).map S)), .undef, .undef, .dat nd, .dat (.list [.list (gu.map S), .list (he.map tD)]), .dat (.list (one.map S)), .dat (.list (two.map S))]) ?_ rfl
      refine Ex.cons (Ex1.assignComp 6 (ds := (List.range two.length).map fun k : Nat => D.int k) ["one", "two"] [] [10, 11] [.dat (.list (one.map S)), .dat (.list (two.map S))] (fun d => decide (one.count (two.getD (ix d) []) < (two.take (ix d + 1)).count (two.getD (ix d) []))) (fun d => S (two.getD (ix d) [])) (by decide +kernel)
        (EvI.rangeN (EvG.b Z.range (by decide)) (Ev.eq (Ev.callB (EvG.b Z.len (by decide)) (EvA.cons (Ev.v 11) Evs.nil) (CalD.lenL (by first | exact ln_map (by assumption) | (simp; omega)))) (by rw [List.length_map])) (by first | exact ar_n hn | exact ar_n2 hc' hn | assumption | exact Nat.le_trans (by assumption) (by decide) | omega)) (by first | exact ln_map (by assumption) | (simp; omega)) ?_ rfl (fun c' hc' d hd => ?_) rfl) ?_
      · intro j y hy
        match j, hy with
        | 0, hy => exact ⟨10, _, rfl, hy, by decide, rfl, rfl⟩
        | 1, hy => exact ⟨11, _, rfl, hy, by decide, rfl, rfl⟩
      · obtain ⟨k, hk, rfl⟩ := List.mem_map.mp hd
        have hk' : k < two.length := List.mem_range.mp hk
        rw [ix_int]
        have hget : GetD prog w (.list (two.map S)) (.int k) (S (two.getD k [])) := GetD.list (by first | exact ar_n hn | exact ar_n2 hc' hn | assumption | exact Nat.le_trans (by assumption) (by decide) | omega) (by rw [Int.toNat_natCast]; exact getS' hk') (by first | exact ln_map (by assumption) | (simp; omega))
        refine ⟨.inr ⟨_, rfl, Tr.eq (Tr.cmp (Ev.meth F.plainAttrs_list F.slot_list_count F.type_list_count (Ev.eq (EvF.ev (EvF.sliceL (Ev.v 2) EvP.nil (EvP.one (Ev.bin (Ev.v 0) (Ev.int (i := 1)) (BinD.eq BinD.addI (d' := .int ((k + 1 : Nat) : Int)) (by simp)))) (by first | exact ln_map (by assumption) | (simp; omega)))) (d' := .list ((two.take (k + 1)).map S)) (by rw [sl_to, List.map_take])) (EvA.cons (Ev.sub (Ev.v 2) (Ev.v 0) hget rfl) Evs.nil) rfl CalD.count)
          (Ev.meth F.plainAttrs_list F.slot_list_count F.type_list_count (Ev.v 1) (EvA.cons (Ev.sub (Ev.v 2) (Ev.v 0) hget rfl) Evs.nil) rfl CalD.count) CmpD.gtI) cnt⟩, fun _ => Ev.sub (Ev.v 2) (Ev.v 0) hget rfl⟩
      rw [hlf]
      refine Ex.eqR (ρ' := [.dat (.list (sc.map D.int)), .dat (S sv), .dat (.list (ms.map mvD)), av, .dat (.list [.list (gu.map S), .list (he.map tD)]), .dat (.list ((lackP one two).map S)), .dat (.list ((leftP one two).map S)), .undef, .dat nd, .dat (.list [.list (gu.map S), .list (he.map tD)]), .dat (.list (one.map S)), .dat (.list (two.map S))]) ?_ rfl
      have hu := hP.1 one two
      have hs2 := hP.2 one two
      have ls1 := srt_len one
      have ls2 := srt_len two
      have hsl := sld_spec (prog := prog) (w := w) Z (srt one) (srt two) (by first | exact ar_n hn | exact ar_n2 hc' hn | assumption | exact Nat.le_trans (by assumption) (by decide) | omega) (by first | exact ar_n hn | exact ar_n2 hc' hn | assumption | exact Nat.le_trans (by assumption) (by decide) | omega)
      rw [hs2] at hsl
      have ho1 := only_spec (prog := prog) (w := w) Z one two (by first | exact ar_n hn | exact ar_n2 hc' hn | assumption | exact Nat.le_trans (by assumption) (by decide) | omega) (by first | exact ar_n hn | exact ar_n2 hc' hn | assumption | exact Nat.le_trans (by assumption) (by decide) | omega)
      have ho2 := only_spec (prog := prog) (w := w) Z two one (by first | exact ar_n hn | exact ar_n2 hc' hn | assumption | exact Nat.le_trans (by assumption) (by decide) | omega) (by first | exact ar_n hn | exact ar_n2 hc' hn | assumption | exact Nat.le_trans (by assumption) (by decide) | omega)
      have only_low : ∀ (a b : List (List Nat)), (∀ c ∈ a, lowS c) → ∀ c ∈ onlyP a b, lowS c := fun a b h => sub_low (fun c hc => h c ((srt_perm a).mem_iff.mp hc)) _
      have hfin : okD (.list [.list [.list ((lackP one two).map S), .list ((leftP one two).map S)], .list [.list ((onlyP one two).map S), .list ((onlyP two one).map S)]]) = true := by
        simp only [okD, okDs, Bool.and_eq_true, and_true]
        exact ⟨⟨okD_S (sub_low lo1 _), okD_S (sub_low lo2 _)⟩, okD_S (only_low _ _ lo1), okD_S (only_low _ _ lo2)⟩
      have hfind : (toP (.list [.list [.list ((lackP one two).map S), .list ((leftP one two).map S)], .list [.list ((onlyP one two).map S), .list ((onlyP two one).map S)]])).depth ≤ 100 := by
        simp only [toP, toPs, PyData.depth, PyData.depthAll, dep_S]; decide
      refine Ex.cons (Ex1.assign 7 (EvF.ev (EvF.list (ds := [.list [.list ((lackP one two).map S), .list ((leftP one two).map S)], .list [.list ((onlyP one two).map S), .list ((onlyP two one).map S)]])
        (Evs.cons (Ev.callT (EvG.b Z.list (by decide)) (EvA.cons (Ev.eq (Ev.uld Z (one := one) (two := two) (by decide) (EvF.eq (EvF.sliceL (Ev.v 10) EvP.nil EvP.nil (by first | exact ln_map (by assumption) | (simp; omega))) (sl_all _)) (EvF.eq (EvF.sliceL (Ev.v 11) EvP.nil EvP.nil (by first | exact ln_map (by assumption) | (simp; omega))) (sl_all _)) (by first | exact ar_n hn | exact ar_n2 hc' hn | assumption | exact Nat.le_trans (by assumption) (by decide) | omega) (by first | exact ar_n hn | exact ar_n2 hc' hn | assumption | exact Nat.le_trans (by assumption) (by decide) | omega) (by first | exact ar_n hn | exact ar_n2 hc' hn | assumption | exact Nat.le_trans (by assumption) (by decide) | omega)) (d' := .tup [.list ((lackP one two).map S), .list ((leftP one two).map S)]) (by rw [hu])) Evs.nil) (CalT.listT (by simp)))
          (Evs.cons (Ev.callT (EvG.b Z.list (by decide)) (EvA.cons (Ev.callN Z.sld (by decide) (EvA.cons (Ev.callB (EvG.b Z.sorted (by decide)) (EvA.cons (Ev.v 10) Evs.nil) (CalD.sorted (by first | exact ar_n hn | exact ar_n2 hc' hn | assumption | exact Nat.le_trans (by assumption) (by decide) | omega))) (Evs.cons (Ev.callB (EvG.b Z.sorted (by decide)) (EvA.cons (Ev.v 11) Evs.nil) (CalD.sorted (by first | exact ar_n hn | exact ar_n2 hc' hn | assumption | exact Nat.le_trans (by assumption) (by decide) | omega))) Evs.nil)) hsl (by first | exact ar_n hn | exact ar_n2 hc' hn | assumption | exact Nat.le_trans (by assumption) (by decide) | omega)) Evs.nil) (CalT.listT (by simp))) Evs.nil)) (by simp))) rfl) ?_
      exact Ex.one (Ex1.ret (Ev.cmp (Ev.v 7) (EvF.ev (EvF.list (Evs.cons (EvF.ev (EvF.list (Evs.cons (Ev.v 5) (Evs.cons (Ev.v 6) Evs.nil)) (by simp))) (Evs.cons (EvF.ev (EvF.list (Evs.cons (Ev.callN Z.only (by decide) (EvA.cons (Ev.v 10) (Evs.cons (Ev.v 11) Evs.nil)) ho1 (by first | exact ar_n hn | exact ar_n2 hc' hn | assumption | exact Nat.le_trans (by assumption) (by decide) | omega)) (Evs.cons (Ev.callN Z.only (by decide) (EvA.cons (Ev.v 11) (Evs.cons (Ev.v 10) Evs.nil)) ho2 (by first | exact ar_n hn | exact ar_n2 hc' hn | assumption | exact Nat.le_trans (by assumption) (by decide) | omega)) Evs.nil)) (by simp))) Evs.nil)) (by simp))) (CmpD.eqSelf hfin hfind)))
end
end Mine
end
section
set_option autoImplicit false
set_option Elab.async false
set_option linter.unusedVariables false
set_option linter.unusedSimpArgs false
namespace Mine
def dn (f : List Nat → Nat) (x : List Nat) : List Nat → Nat := fun y => if y = x then f y - 1 else f y
def up (f : List Nat → Nat) (x : List Nat) : List Nat → Nat := fun y => if y = x then f y + 1 else f y
def exF : (List Nat → Nat) → List (List Nat) → List (List Nat)
  | _, [] => []
  | f, x :: l => if f x = 0 then x :: exF f l else exF (dn f x) l
theorem dn_up (f : List Nat → Nat) (x : List Nat) : dn (up f x) x = f := by
  funext y; unfold dn up; by_cases h : y = x <;> simp [h]
theorem dn_up_ne (f : List Nat → Nat) {x y : List Nat} (h : y ≠ x) : dn (up f x) y = up (dn f y) x := by
  funext z; unfold dn up
  by_cases h1 : z = y
  · subst h1; simp [h]
  · by_cases h2 : z = x
    · subst h2; simp [h1]
    · simp [h1, h2]
theorem ex_erase : ∀ (l : List (List Nat)) (f : List Nat → Nat) (x : List Nat), exF (up f x) l = exF f (l.erase x)
  | [], f, x => by simp [exF]
  | y :: l, f, x => by
    by_cases h : y = x
    · subst h
      rw [List.erase_cons_head]
      have h0 : ¬ up f y y = 0 := by simp [up]
      rw [exF, if_neg h0, dn_up]
    · rw [List.erase_cons_tail (by simpa using h)]
      have hu : up f x y = f y := by simp [up, h]
      by_cases h0 : f y = 0
      · rw [exF, if_pos (by rw [hu]; exact h0), exF, if_pos h0, ex_erase l f x]
      · rw [exF, if_neg (by rw [hu]; exact h0), exF, if_neg h0, dn_up_ne f h, ex_erase l (dn f y) x]
theorem cnt_up (x : List Nat) (l : List (List Nat)) : (fun y => (x :: l).count y) = up (fun y => l.count y) x := by
  funext y
  unfold up
  rw [List.count_cons]
  by_cases h : y = x
  · subst h; simp
  · have : ¬ x = y := fun q => h q.symm
    simp [h, this]
theorem cnt_dn (x : List Nat) (l : List (List Nat)) (hx : x ∈ l) : (fun y => (l.erase x).count y) = dn (fun y => l.count y) x := by
  funext y
  unfold dn
  by_cases h : y = x
  · subst h; rw [List.count_erase_self]; simp
  · rw [List.count_erase_of_ne h]; simp [h]
theorem uld_ex : ∀ (l mis act : List (List Nat)), l.foldl uStep (mis, act) = (mis ++ exF (fun y => act.count y) l, exF (fun y => l.count y) act)
  | [], mis, act => by
    have : ∀ a : List (List Nat), exF (fun y => ([] : List (List Nat)).count y) a = a := by
      intro a
      induction a with
      | nil => rfl
      | cons x a ih => rw [exF, if_pos (by simp), ih]
    rw [List.foldl_nil, this]; simp [exF]
  | x :: l, mis, act => by
    rw [List.foldl_cons, cnt_up, ex_erase]
    by_cases hx : x ∈ act
    · have : uStep (mis, act) x = (mis, act.erase x) := by simp [uStep, hx]
      rw [this, uld_ex l, cnt_dn x act hx]
      have h0 : ¬ act.count x = 0 := by rw [List.count_eq_zero]; exact fun q => q hx
      rw [exF, if_neg h0]
    · have : uStep (mis, act) x = (mis ++ [x], act) := by simp [uStep, hx]
      rw [this, uld_ex l, List.erase_of_not_mem hx]
      have h0 : act.count x = 0 := List.count_eq_zero.mpr hx
      rw [exF, if_pos h0]
      simp
def plF (f : List Nat → Nat) (l : List (List Nat)) : List (List Nat) := ((List.range l.length).filter fun k => decide (f (l.getD k []) < (l.take (k + 1)).count (l.getD k []))).map fun k => l.getD k []
theorem pl_ex : ∀ (l : List (List Nat)) (f : List Nat → Nat), plF f l = exF f l
  | [], f => by simp [plF, exF]
  | x :: l, f => by
    have e : plF f (x :: l) = (if f x = 0 then [x] else []) ++ (((List.range l.length).filter fun k => decide (f (l.getD k []) < ((l.take (k + 1)).count (l.getD k []) + if x = l.getD k [] then 1 else 0))).map fun k => l.getD k []) := by
      unfold plF
      rw [List.length_cons, List.range_succ_eq_map, List.filter_cons]
      have hmap : (((List.range l.length).map Nat.succ).filter fun k => decide (f ((x :: l).getD k []) < ((x :: l).take (k + 1)).count ((x :: l).getD k []))) = ((List.range l.length).filter fun k => decide (f (l.getD k []) < ((l.take (k + 1)).count (l.getD k []) + if x = l.getD k [] then 1 else 0))).map Nat.succ := by
        rw [List.filter_map]
        congr 1
        refine List.filter_congr fun k _ => ?_
        simp only [Function.comp, Nat.succ_eq_add_one, List.getD_cons_succ, List.take_succ_cons, List.count_cons, beq_iff_eq]
      rw [hmap]
      by_cases h0 : f x = 0
      · simp [h0, List.map_map, Function.comp_def]
      · have : ¬ f x < 1 := by omega
        simp [h0, this, List.map_map, Function.comp_def]
    rw [e, exF]
    have hc : ∀ k ∈ List.range l.length, 0 < (l.take (k + 1)).count (l.getD k []) := by
      intro k hk
      have hk' := List.mem_range.mp hk
      rw [List.count_pos_iff]
      rw [List.getD_eq_getElem?_getD, List.getElem?_eq_getElem hk']
      exact List.mem_of_getElem? (i := k) (by rw [List.getElem?_take]; simp [hk'])
    by_cases h0 : f x = 0
    · rw [if_pos h0, if_pos h0, ← pl_ex l f]
      unfold plF
      rw [List.singleton_append]
      congr 2
      refine List.filter_congr fun k hk => ?_
      have := hc k hk
      by_cases hq : x = l.getD k []
      · rw [if_pos hq]
        rw [← hq] at this ⊢
        rw [h0]
        simp; exact List.count_pos_iff.mp this
      · rw [if_neg hq, Nat.add_zero]
    · rw [if_neg h0, if_neg h0, ← pl_ex l (dn f x), List.nil_append]
      unfold plF
      congr 1
      refine List.filter_congr fun k hk => ?_
      by_cases hq : x = l.getD k []
      · rw [if_pos hq]
        rw [← hq]
        have e1 : dn f x x = f x - 1 := by simp [dn]
        rw [e1]
        rw [decide_eq_decide]
        omega
      · rw [if_neg hq, Nat.add_zero]
        have e1 : dn f x (l.getD k []) = f (l.getD k []) := by simp only [dn]; rw [if_neg (fun q => hq q.symm)]
        rw [e1]
theorem left_pl (one two : List (List Nat)) : leftP one two = plF (fun y => one.count y) two := rfl
theorem lack_pl (one two : List (List Nat)) : lackP one two = plF (fun y => two.count y) one.reverse := by
  unfold lackP plF
  rw [List.filter_map, List.map_map, List.length_reverse]
  have hg : ∀ k ∈ List.range one.length, one.getD (one.length - 1 - k) [] = one.reverse.getD k [] := by
    intro k hk
    have hk' := List.mem_range.mp hk
    simp only [List.getD_eq_getElem?_getD]
    rw [List.getElem?_reverse hk']
  have hf : (List.range one.length).filter ((fun k => decide (two.count (one.getD k []) < (one.drop k).count (one.getD k []))) ∘ fun k => one.length - 1 - k) = (List.range one.length).filter fun k => decide (two.count (one.reverse.getD k []) < (one.reverse.take (k + 1)).count (one.reverse.getD k [])) := by
    refine List.filter_congr fun k hk => ?_
    have hk' := List.mem_range.mp hk
    show decide (two.count (one.getD (one.length - 1 - k) []) < (one.drop (one.length - 1 - k)).count (one.getD (one.length - 1 - k) [])) = _
    rw [hg k hk, List.take_reverse, List.count_reverse, show one.length - (k + 1) = one.length - 1 - k by omega]
  rw [hf]
  refine List.map_congr_left fun k hk => ?_
  exact hg k (List.mem_filter.mp hk).1
theorem uld_agree (one two : List (List Nat)) : uldP one two = (lackP one two, leftP one two) := by
  unfold uldP
  rw [uld_ex, lack_pl, left_pl, pl_ex, pl_ex, List.nil_append]
  have : (fun y => one.reverse.count y) = fun y => one.count y := by funext y; rw [List.count_reverse]
  rw [this]
end Mine
end
section
set_option autoImplicit false
set_option Elab.async false
set_option linter.unusedVariables false
set_option linter.unusedSimpArgs false
namespace Mine
def tells (two pre : List (List Nat)) (x : List Nat) : Bool := !two.contains x && (!pre.contains x || (two.filter fun o => decide (x < o)).isEmpty)
def onF (two : List (List Nat)) : List (List Nat) → List (List Nat) → List (List Nat)
  | _, [] => []
  | pre, x :: r => (if tells two pre x = true then [x] else []) ++ onF two (pre ++ [x]) r
theorem only_idx (two : List (List Nat)) : ∀ (r pre : List (List Nat)), (((List.range r.length).filter fun k => tells two (pre ++ r.take k) (r.getD k [])).map fun k => r.getD k []) = onF two pre r
  | [], pre => by simp [onF]
  | x :: r, pre => by
    rw [onF, ← only_idx two r (pre ++ [x]), List.length_cons, List.range_succ_eq_map, List.filter_cons]
    have hmap : (((List.range r.length).map Nat.succ).filter fun k => tells two (pre ++ (x :: r).take k) ((x :: r).getD k [])) = ((List.range r.length).filter fun k => tells two (pre ++ [x] ++ r.take k) (r.getD k [])).map Nat.succ := by
      rw [List.filter_map]
      congr 1
      refine List.filter_congr fun k _ => ?_
      simp only [Function.comp, Nat.succ_eq_add_one, List.getD_cons_succ, List.take_succ_cons, List.append_assoc, List.singleton_append]
    rw [hmap]
    by_cases h0 : tells two pre x = true
    · simp [h0, List.map_map, Function.comp_def]
    · simp [h0, List.map_map, Function.comp_def]
theorem only_on (one two : List (List Nat)) : onlyP one two = onF two [] (srt one) := by
  rw [← only_idx two (srt one) []]
  rfl
theorem tells_iff {two pre : List (List Nat)} {x : List Nat} : tells two pre x = true ↔ x ∉ two ∧ (x ∉ pre ∨ ∀ w ∈ two, ¬ x < w) := by
  unfold tells
  simp [List.filter_eq_nil_iff]
theorem tells_congr {two two' pre pre' : List (List Nat)} {x : List Nat} (h1 : x ∈ two ↔ x ∈ two') (h2 : x ∈ pre ↔ x ∈ pre') (h3 : (∀ w ∈ two, ¬ x < w) ↔ ∀ w ∈ two', ¬ x < w) : tells two pre x = tells two' pre' x := by
  rw [Bool.eq_iff_iff, tells_iff, tells_iff, h1, h2, h3]
theorem on_congr {two two' : List (List Nat)} : ∀ (r pre pre' : List (List Nat)), (∀ x ∈ r, (x ∈ two ↔ x ∈ two') ∧ ((∀ w ∈ two, ¬ x < w) ↔ ∀ w ∈ two', ¬ x < w)) → (∀ x ∈ r, (x ∈ pre ↔ x ∈ pre')) → onF two pre r = onF two' pre' r
  | [], _, _, _, _ => rfl
  | x :: r, pre, pre', h, hp => by
    have hx := h x (.head _)
    rw [onF, onF, tells_congr hx.1 (hp x (.head _)) hx.2, on_congr r (pre ++ [x]) (pre' ++ [x]) (fun z hz => h z (.tail _ hz)) (fun z hz => by
      rw [List.mem_append, List.mem_append, hp z (.tail _ hz)])]
theorem on_all : ∀ (r pre : List (List Nat)), onF [] pre r = r
  | [], _ => rfl
  | x :: r, pre => by
    have : tells [] pre x = true := tells_iff.mpr ⟨by simp, .inr (by simp)⟩
    rw [onF, if_pos this, on_all r]; rfl
theorem on_skip {two : List (List Nat)} {x : List Nat} : ∀ (e pre : List (List Nat)), (x ∈ two ∨ (x ∈ pre ∧ ∃ w ∈ two, x < w)) → (∀ z ∈ pre, z = x) → (∀ z ∈ e.dropWhile (· == x), z ≠ x) → onF two pre e = onF two [] (e.dropWhile (· == x))
  | [], _, _, _, _ => rfl
  | h :: e, pre, hc, hp, hd => by
    by_cases q : h = x
    · subst q
      have e1 : (h :: e).dropWhile (· == h) = e.dropWhile (· == h) := by simp
      rw [e1] at hd ⊢
      have hn : ¬ tells two pre h = true := by
        rw [tells_iff]
        rintro ⟨a, b⟩
        rcases hc with hc | ⟨hc, w, hw, hlt⟩
        · exact a hc
        · rcases b with b | b
          · exact b hc
          · exact b w hw hlt
      rw [onF, if_neg hn, List.nil_append]
      refine on_skip e (pre ++ [h]) (hc.imp id fun ⟨a, b⟩ => ⟨List.mem_append_left _ a, b⟩) (fun z hz => ?_) hd
      rcases List.mem_append.mp hz with hz | hz
      · exact hp z hz
      · exact List.mem_singleton.mp hz
    · have e1 : (h :: e).dropWhile (· == x) = h :: e := by simp [q]
      rw [e1] at hd ⊢
      exact on_congr _ _ _ (fun _ _ => ⟨Iff.rfl, Iff.rfl⟩) fun z hz => ⟨fun hz' => absurd (hp z hz') (hd z hz), fun hz' => by cases hz'⟩
theorem le_lt_of_ne {a b : List Nat} (h : a ≤ b) (hn : b ≠ a) : a < b := by
  rcases Classical.em (a < b) with q | q
  · exact q
  · exact absurd (List.le_antisymm (List.not_lt.mp q) h) hn
theorem lt_le {a b c : List Nat} (h : a < b) (h' : b ≤ c) : a < c := by
  rcases Classical.em (a < c) with q | q
  · exact q
  · exact absurd (List.lt_of_le_of_lt (List.not_lt.mp q) h) (List.not_lt.mpr h')
theorem gt_drop {x : List Nat} : ∀ {e : List (List Nat)}, (x :: e).Pairwise (fun a b => a ≤ b) → ∀ z ∈ e.dropWhile (· == x), x < z
  | [], _, z, hz => by simp at hz
  | h :: e, hp, z, hz => by
    obtain ⟨h1, h2⟩ := List.pairwise_cons.mp hp
    obtain ⟨h3, h4⟩ := List.pairwise_cons.mp h2
    by_cases q : h = x
    · subst q
      have e1 : (h :: e).dropWhile (· == h) = e.dropWhile (· == h) := by simp
      rw [e1] at hz
      exact gt_drop h2 z hz
    · have e1 : (h :: e).dropWhile (· == x) = h :: e := by simp [q]
      rw [e1] at hz
      have hlt : x < h := le_lt_of_ne (h1 h (.head _)) q
      rcases List.mem_cons.mp hz with rfl | hz
      · exact hlt
      · exact lt_le hlt (h3 z hz)
theorem mem_drop {x z : List Nat} (hz : z ≠ x) : ∀ (e : List (List Nat)), z ∈ e ↔ z ∈ e.dropWhile (· == x)
  | [] => by simp
  | h :: e => by
    by_cases q : h = x
    · subst q
      have e1 : (h :: e).dropWhile (· == h) = e.dropWhile (· == h) := by simp
      rw [e1, ← mem_drop hz e]
      simp [hz]
    · have e1 : (h :: e).dropWhile (· == x) = h :: e := by simp [q]
      rw [e1]
theorem drop_sorted {x : List Nat} {e : List (List Nat)} (h : e.Pairwise (fun a b => a ≤ b)) : (e.dropWhile (· == x)).Pairwise (fun a b => a ≤ b) :=
  h.sublist (List.dropWhile_sublist _)
theorem ne_lt {a b : List Nat} (h : a < b) : b ≠ a := fun q => List.lt_irrefl a (q ▸ h)
theorem two_drop {x : List Nat} {e r : List (List Nat)} (hr : ∀ z ∈ r, x < z) : ∀ z ∈ r, (z ∈ x :: e ↔ z ∈ e.dropWhile (· == x)) ∧ ((∀ w ∈ x :: e, ¬ z < w) ↔ ∀ w ∈ e.dropWhile (· == x), ¬ z < w) := by
  intro z hz
  have hlt := hr z hz
  have hne := ne_lt hlt
  refine ⟨⟨fun h => ?_, fun h => ?_⟩, ⟨fun h w hw => ?_, fun h w hw => ?_⟩⟩
  · rcases List.mem_cons.mp h with h | h
    · exact absurd h hne
    · exact (mem_drop hne e).mp h
  · exact .tail _ ((mem_drop hne e).mpr h)
  · exact h w (.tail _ ((List.dropWhile_sublist _).subset hw))
  · by_cases q : w = x
    · subst q; exact fun hh => List.lt_irrefl _ (List.lt_trans hh hlt)
    · rcases List.mem_cons.mp hw with hw | hw
      · exact absurd hw q
      · exact h w ((mem_drop q e).mp hw)
theorem sld_on (e a mis unx : List (List Nat)) (he : e.Pairwise (fun a b => a ≤ b)) (ha : a.Pairwise (fun a b => a ≤ b)) : sldR e a mis unx = (mis ++ onF a [] e, unx ++ onF e [] a) := by
  match e, a, he, ha with
  | [], a, he, ha => rw [sldR_nil, on_all]; simp [onF]
  | x :: e, [], he, ha => rw [sldR_nil2, on_all]; simp [onF]
  | x :: e, y :: a, he, ha =>
    obtain ⟨he1, he2⟩ := List.pairwise_cons.mp he
    obtain ⟨ha1, ha2⟩ := List.pairwise_cons.mp ha
    rw [sldR_cons]
    have l1 := dropWhile_len (· == x) e
    have l2 := dropWhile_len (· == y) a
    by_cases h1 : x < y
    · rw [if_pos h1, sld_on (e.dropWhile (· == x)) (y :: a) (mis ++ [x]) unx (drop_sorted he2) ha]
      have hya : ∀ z ∈ y :: a, x < z := fun z hz => by
        rcases List.mem_cons.mp hz with rfl | hz
        · exact h1
        · exact lt_le h1 (ha1 z hz)
      have hx : tells (y :: a) [] x = true := tells_iff.mpr ⟨fun q => List.lt_irrefl _ (hya x q), .inl (by simp)⟩
      have m1 : onF (y :: a) [] (x :: e) = [x] ++ onF (y :: a) [] (e.dropWhile (· == x)) := by
        rw [onF, if_pos hx, on_skip e ([] ++ [x]) (.inr ⟨by simp, y, .head _, h1⟩) (fun z hz => by simpa using hz) (fun z hz => ne_lt (gt_drop he z hz))]
      have m2 : onF (x :: e) [] (y :: a) = onF (e.dropWhile (· == x)) [] (y :: a) := on_congr _ _ _ (two_drop hya) fun _ _ => Iff.rfl
      rw [m1, m2]; simp
    · rw [if_neg h1]
      by_cases h2 : y < x
      · rw [if_pos h2, sld_on (x :: e) (a.dropWhile (· == y)) mis (unx ++ [y]) he (drop_sorted ha2)]
        have hxe : ∀ z ∈ x :: e, y < z := fun z hz => by
          rcases List.mem_cons.mp hz with rfl | hz
          · exact h2
          · exact lt_le h2 (he1 z hz)
        have hy : tells (x :: e) [] y = true := tells_iff.mpr ⟨fun q => List.lt_irrefl _ (hxe y q), .inl (by simp)⟩
        have m1 : onF (x :: e) [] (y :: a) = [y] ++ onF (x :: e) [] (a.dropWhile (· == y)) := by
          rw [onF, if_pos hy, on_skip a ([] ++ [y]) (.inr ⟨by simp, x, .head _, h2⟩) (fun z hz => by simpa using hz) (fun z hz => ne_lt (gt_drop ha z hz))]
        have m2 : onF (y :: a) [] (x :: e) = onF (a.dropWhile (· == y)) [] (x :: e) := on_congr _ _ _ (two_drop hxe) fun _ _ => Iff.rfl
        rw [m1, m2]; simp
      · rw [if_neg h2]
        have hxy : x = y := List.le_antisymm (List.not_lt.mp h2) (List.not_lt.mp h1)
        subst hxy
        rw [sld_on (e.dropWhile (· == x)) (a.dropWhile (· == x)) mis unx (drop_sorted he2) (drop_sorted ha2)]
        have g1 := gt_drop he
        have g2 := gt_drop ha
        have n1 : ∀ (two : List (List Nat)), ¬ tells (x :: two) [] x = true := fun two q => (tells_iff.mp q).1 (.head _)
        have m1 : onF (x :: a) [] (x :: e) = onF (a.dropWhile (· == x)) [] (e.dropWhile (· == x)) := by
          rw [onF, if_neg (n1 a), List.nil_append, on_skip e ([] ++ [x]) (.inl (.head _)) (fun z hz => by simpa using hz) (fun z hz => ne_lt (g1 z hz))]
          exact on_congr _ _ _ (two_drop g1) fun _ _ => Iff.rfl
        have m2 : onF (x :: e) [] (x :: a) = onF (e.dropWhile (· == x)) [] (a.dropWhile (· == x)) := by
          rw [onF, if_neg (n1 e), List.nil_append, on_skip a ([] ++ [x]) (.inl (.head _)) (fun z hz => by simpa using hz) (fun z hz => ne_lt (g2 z hz))]
          exact on_congr _ _ _ (two_drop g2) fun _ _ => Iff.rfl
        rw [m1, m2]
termination_by e.length + a.length
theorem on_srt (one two : List (List Nat)) : onF (srt two) [] (srt one) = onF two [] (srt one) :=
  on_congr _ _ _ (fun z _ => ⟨(srt_perm two).mem_iff, ⟨fun h w hw => h w ((srt_perm two).mem_iff.mpr hw), fun h w hw => h w ((srt_perm two).mem_iff.mp hw)⟩⟩) fun _ _ => Iff.rfl
theorem sld_agree (one two : List (List Nat)) : sldR (srt one) (srt two) [] [] = (onlyP one two, onlyP two one) := by
  rw [sld_on _ _ _ _ (srt_pair one) (srt_pair two), on_srt, on_srt, only_on, only_on, List.nil_append, List.nil_append]
end Mine
end
section
set_option autoImplicit false
set_option Elab.async false
set_option linter.unusedVariables false
open PySem PySem.W PyProof.Rows PySem.Calls
namespace Mine
theorem agree : AgreeP := ⟨uld_agree, sld_agree⟩
theorem law_spec {prog : Program} {w : World} {G : Heap} (Z : W0 G) (hF : FnM G "law" 32) (sc : List Int) (hs : sc.length ≤ 100) : Spec prog w G "law" 10 [.list (sc.map D.int)] (.bool true) := by
  refine spec_body (ps := ["script"]) [.dat (.list (sc.map D.int)), .undef, .undef, .undef, .undef, .undef, .undef, .undef, .undef, .undef, .undef, .undef] vsL 8 gsL hF Z.noLimit (by decide +kernel) rfl ?_ ?_ fun c hn => law_body Z agree sc hs c hn
  · intro us doc pm an cdv ct hl
    obtain ⟨u, rfl⟩ := len1 hl
    rfl
  · intro j y av hx hr
    match j, hx, hr with
    | 0, hx, hr => exact .inr ⟨0, _, hx, rfl, (Option.some.inj hr).symm⟩
    | 1, hx, hr => exact .inl (Option.some.inj hr).symm
    | 2, hx, hr => exact .inl (Option.some.inj hr).symm
    | 3, hx, hr => exact .inl (Option.some.inj hr).symm
    | 4, hx, hr => exact .inl (Option.some.inj hr).symm
    | 5, hx, hr => exact .inl (Option.some.inj hr).symm
    | 6, hx, hr => exact .inl (Option.some.inj hr).symm
    | 7, hx, hr => exact .inl (Option.some.inj hr).symm
    | 8, hx, hr => exact .inl (Option.some.inj hr).symm
    | 9, hx, hr => exact .inl (Option.some.inj hr).symm
    | 10, hx, hr => exact .inl (Option.some.inj hr).symm
    | 11, hx, hr => exact .inl (Option.some.inj hr).symm
theorem reps_well {P : Params} {h : Heap} {f : PH} : ∀ {ns : List Int} {vs : List Value}, WellAll P h vs (ofPys (ns.map PyData.int)) → Reps f vs (ns.map D.int)
  | [], vs, r => by
    simp only [List.map_nil, ofPys] at r
    cases r
    exact .nil
  | n :: ns, vs, r => by
    simp only [List.map_cons, ofPys, ofPy] at r
    cases r with
    | cons r1 r2 =>
      cases r1
      exact .cons _ _ _ _ (.int _ _) (reps_well r2)
theorem rep_well {P : Params} {h : Heap} {ns : List Int} {v : Value} (r : Well P h v (ofPy (PyData.list (ns.map PyData.int)))) : Rep h.get? v (.list (ns.map D.int)) := by
  simp only [ofPy] at r
  cases r with
  | list e rs => exact .list _ _ 0 _ e (reps_well rs)
theorem law_call {prog : Program} {w : World} {P : Params} {s : Shared} {fa : Addr} {v : Value} {ns : List Int} {mg : Str → Option Value} {Q E : Value → Shared → Prop} (Z : W0 s.heap) (hF : FnM s.heap "law" 32) (hg : s.heap.Ns mainGlobals mg) (hmg : mg "law" = some (.ref fa))
    (hw : Well P s.heap v (ofPy (PyData.list (ns.map PyData.int)))) (hn : ns.length ≤ 63)
    (k : ∀ s', (∀ b o, s.heap.get? b = some o → s'.heap.get? b = some o) → s'.os = s.os → s'.gens = s.gens → Q (.bool true) s') : wpAny (model prog w) callerA (call (.ref fa) [v] []) Q E s := by
  refine law_spec (prog := prog) (w := w) Z hF ns (by first | assumption | exact Nat.le_trans (by assumption) (by decide) | omega) fa ⟨mg, hg, hmg⟩ callerA s.heap.get? s [v] Q E ⟨fun _ => rfl, by decide, by decide, [], rfl, fun env he => by cases he⟩ (Sub.refl _) (fun a o e => e) (Nat.zero_le _) (.cons _ _ _ _ (rep_well hw) .nil) fun r f' s' st rr => ?_
  cases rr
  exact k s' (fun b o e => st.inn b o (st.sub b o e)) st.os st.gens
end Mine
end
section
set_option autoImplicit false
set_option Elab.async false
set_option linter.unusedVariables false
open PySem PySem.W PyProof.Rows PySem.Calls
namespace Mine
noncomputable def en (P : Params) (x : Str) (t : Tok) (v : Value) : DictEntry := { hash := PyData.keyHash P x, key := .str x t, val := v }
noncomputable def frag (P : Params) : Frag :=
  [(30, { cls := Value.type "dict", data := Data.dict #[en P "__module__" 203 (Value.str "cpy313.ftplib" 194), en P "__firstlineno__" 207 (Value.int 5 206), en P "__static_attributes__" 208 (Value.ref 29), en P "__weakref__" 210 (Value.ref 32), en P "__doc__" 211 (Value.none)] 3 }),
   (31, { cls := Value.type "type", data := Data.cls { name := "Error", bases := [Value.type "Exception"], mro := [Value.ref 31, Value.type "Exception", Value.type "BaseException", Value.type "object"], ns := 30, qualname := "Error", subclasses := [Value.ref 44] }, slots := #[some (Value.ref 22), none, some (Value.str "Error" 196), some (Value.str "Error" 204), some (Value.builtin "Exception.__new__"), some (Value.bool true)] }),
   (43, { cls := Value.type "dict", data := Data.dict #[en P "__module__" 223 (Value.str "cpy313.ftplib" 194), en P "__firstlineno__" 227 (Value.int 7 226), en P "__static_attributes__" 228 (Value.ref 42), en P "__doc__" 229 (Value.none)] 2 }),
   (44, { cls := Value.type "type", data := Data.cls { name := "error_reply", bases := [Value.ref 31], mro := [Value.ref 44, Value.ref 31, Value.type "Exception", Value.type "BaseException", Value.type "object"], ns := 43, qualname := "error_reply" }, slots := #[some (Value.ref 35), none, some (Value.str "error_reply" 216), some (Value.str "error_reply" 224), some (Value.builtin "Exception.__new__"), some (Value.bool true)] })]
noncomputable def vw : Program := { PySem.Challenge.pw_ik0188_01 with main := { PySem.Challenge.pw_ik0188_01.main with body := [stm 2, stm 3, stm 4, stm 13, stm 17, stm 18, stm 19, stm 20, stm 22, stm 23, stm 25, stm 26, stm 27, stm 28, stm 29, stm 30, stm 31, stm 32] } }
noncomputable def lsw : List Str := ["_wall", "_plain_name", "ABCMeta", "_ABCLike", "_abc_plain_meta", "_check_arg_types"]
set_option maxRecDepth 100000 in
set_option maxHeartbeats 8000000 in
theorem ws : OpenLaw.wellSaid PySem.Challenge.rw_ik0188_01 = true := by
  unfold OpenLaw.wellSaid OpenRow.wellSaid OpenRow.partSaid looksOpen
  repeat' (with_reducible refine look_both ?_ ?_)
  all_goals decide +kernel
theorem leftO_boot {p q : Program} {loose : List Str} {Xt : Shared → Bool} {α : Type} {Yf : Shared → α} {Ya : World → α} {N : Nat} (e : opening p = plainProg p.main.scope.names) (hN : Nat.ble 600 N = true) (f : ∀ s, fenceModules? p s = some s)
    (rest : ∀ (w : World) (os : OsState), (topFrom treeTable p w N ⟨boot_heap w.params, Array.mk [], boot_drawn, boot_toks, os⟩).map (fun s => (openSeen q loose (importedModules p.main.body) Xt true s, Yf s)) = some (openGood q loose, Ya w)) : LeftO p q loose Xt Yf Ya N true := fun w => by
  obtain ⟨⟨h, gs, d, k, os⟩, hs, hv⟩ := Option.map_eq_some_iff.mp (boot_open e hN f w)
  simp only [Prod.mk.injEq] at hv
  obtain ⟨rfl, rfl, rfl, rfl⟩ := hv
  unfold openEnds
  rw [hs]
  exact rest w os
noncomputable def topRunT (tb : String → Option Builtin) (p : Program) (w : World) (n₀ : Nat) (ann : Option Value) : Nat → SharedT → Thread → Option SharedT
  | 0, _, _ => none
  | n + 1, s, t => match through t with
    | true => some s
    | false => match stepOk n₀ ann t with
      | false => none
      | true => match stepT (denote tb) p w s t with
        | some (s', t') => topRunT tb p w n₀ ann n s' t'
        | none => none
theorem topRunT_of {tb : String → Option Builtin} {p : Program} {w : World} {n₀ : Nat} {ann : Option Value} : ∀ {n : Nat} {s s' : SharedT} {t : Thread}, topRunT tb p w n₀ ann n s t = some s' → topRun tb p w n₀ ann n s.abs t = some s'.abs
  | 0, _, _, _, h => by cases h
  | n + 1, s, s', t, h => by
    unfold topRunT at h
    unfold topRun
    cases he : through t with
    | true => rw [he] at h; cases h; rfl
    | false =>
      rw [he] at h
      cases hk : stepOk n₀ ann t with
      | false => rw [hk] at h; cases h
      | true =>
        rw [hk] at h
        cases hs : stepT (denote tb) p w s t with
        | none => rw [hs] at h; cases h
        | some r => obtain ⟨s₂, t₂⟩ := r; rw [hs] at h; rw [stepT_spec hs]; exact topRunT_of h
noncomputable def bootTree (P : Params) : BT :=
  .node (boot_o_0 P) (.node (boot_o_1 P) (.node (boot_o_3 P) (.node (boot_o_7 P) .nil .nil) .nil) (.node (boot_o_5 P) (.node (boot_o_9 P) .nil .nil) .nil)) (.node (boot_o_2 P) (.node (boot_o_4 P) (.node (boot_o_8 P) .nil .nil) .nil) (.node (boot_o_6 P) (.node (boot_o_10 P) .nil .nil) .nil))
noncomputable def bootT (w : World) (os : OsState) : SharedT := ⟨bootTree w.params, 11, {}, #[], boot_drawn, boot_toks, os⟩
theorem bootT_abs (w : World) (os : OsState) : (bootT w os).abs = ⟨boot_heap w.params, Array.mk [], boot_drawn, boot_toks, os⟩ := rfl
theorem leftO_bootT {p q : Program} {loose : List Str} {Xt : Shared → Bool} {α : Type} {Yf : Shared → α} {Ya : World → α} {N m : Nat} {ann : Option Value} (e : opening p = plainProg p.main.scope.names) (hN : Nat.ble 600 N = true) (f : ∀ s, fenceModules? p s = some s)
    (hm : ∀ w : World, ((boot_heap w.params).isNs mainGlobals && (Array.mk [] : Array GenState).size == 0, (boot_heap w.params).objs.size, (boot_heap w.params).nsMap mainGlobals "__annotations__") = (true, m, ann))
    (rest : ∀ (w : World) (os : OsState), (topRunT treeTable p w m ann N (bootT w os) (topStub p)).map (fun s₁ => (staticsOk (importedModules p.main.body) (boot_heap w.params) s₁.abs.heap && namesBound p s₁.abs.heap && gensDone s₁.abs && laidKept (boot_heap w.params) s₁.abs.heap, openSeen q loose (importedModules p.main.body) Xt true s₁.abs, Yf s₁.abs)) = some (true, openGood q loose, Ya w)) : LeftO p q loose Xt Yf Ya N true := leftO_boot e hN f fun w os => by
  obtain ⟨s₁, hs, hv⟩ := Option.map_eq_some_iff.mp (rest w os)
  obtain ⟨h1, h2⟩ := Prod.mk.inj hv
  obtain ⟨h2, h3⟩ := Prod.mk.inj h2
  have hr := topRunT_of hs
  rw [bootT_abs] at hr
  obtain ⟨m1, m2⟩ := Prod.mk.inj (hm w)
  obtain ⟨m2, m3⟩ := Prod.mk.inj m2
  unfold topFrom
  simp only
  rw [m1, m2, m3]
  simp only
  rw [hr]
  simp only [Option.bind_some]
  rw [h1]
  simp only [Option.map_some]
  rw [h2, h3]
noncomputable def hk : Hook where
  α := List (Option Obj) × Bool × Option Value
  obs s := ([30, 31, 43, 44].map s.heap.get?, s.heap.isNs mainGlobals, s.heap.nsMap mainGlobals "error_reply")
  val w := ((frag w.params).map fun p => some p.2, true, some (.ref 44))
  says w h := (frag w.params).In h ∧ ∃ mg, h.Ns mainGlobals mg ∧ mg "error_reply" = some (.ref 44)
  of w s e := by
    obtain ⟨h1, h2⟩ := Prod.mk.inj e
    obtain ⟨h2, h3⟩ := Prod.mk.inj h2
    exact ⟨Frag.in_of rfl h1, _, .of_isNs h2, h3⟩
  keeps w h h' x k := ⟨x.1.keeps k, let ⟨mg, hn, e⟩ := x.2; ⟨mg, hn.keeps k, e⟩⟩
noncomputable def freeB (x : Str) : Bool := !startupNames.contains x && !(looseW vw lsw).contains x && !((recsOf vw).map (·.name)).contains x && !((litsOf vw).map (·.1)).contains x && !((clssOf vw (looseW vw lsw)).map (·.name)).contains x
theorem isB_T {h : Heap} {mean : ExcName → Option Value} {mg mb : Str → Option Value} (T : Top vw (looseW vw lsw) mean mg mb h) {x : Str} {v : Value} (e : freeB x = true) (hx : x ≠ "__name__") (hv : bootBuiltins x = some v) : IsB h x v := by
  unfold freeB at e
  simp only [Bool.and_eq_true, Bool.not_eq_true', ← Bool.not_eq_true, List.contains_iff_mem] at e
  obtain ⟨⟨⟨⟨e1, e2⟩, e3⟩, e4⟩, e5⟩ := e
  exact ⟨mg, mb, T.g, T.b, T.free x e1 e2 e3 e4 e5, (T.builtins x hx).trans hv⟩
theorem fnM_T {p : Program} {loose : List Str} {mean : ExcName → Option Value} {mg mb : Str → Option Value} {h : Heap} (T : Top p loose mean mg mb h) {name : Str} {i : Nat}
    (e : ((recsOf p).find? fun d => d.name == name).map (fun d => (d.name, d.params, d.body, d.scope)) = some (name, fnParams (stm i), fnBody (stm i), fnScope (stm i))) : FnM h name i := by
  obtain ⟨d, hd, he⟩ := Option.map_eq_some_iff.mp e
  obtain ⟨a, o, pm, code, doc, h1, h2, h3, h4⟩ := T.fn d (List.mem_of_find?_eq_some hd)
  obtain ⟨n, ps, b, sc, pos⟩ := d
  simp only [Prod.mk.injEq] at he
  obtain ⟨rfl, rfl, rfl, rfl⟩ := he
  obtain ⟨oc, od, data, osl⟩ := o
  simp only at h3
  subst h3
  exact ⟨a, ⟨mg, T.g, h1⟩, oc, od, osl, doc, pm, none, code, _, h2, h4⟩
theorem w0_of {h : Heap} {mean : ExcName → Option Value} {mg mb : Str → Option Value} {w : World} (X : hk.says w h) (T : Top vw (looseW vw lsw) mean mg mb h) : W0 h where
  noLimit := T.nolimit
  len := isB_T T (by kernel_rfl) (by decide) (by kernel_rfl)
  sorted := isB_T T (by kernel_rfl) (by decide) (by kernel_rfl)
  isinstance := isB_T T (by kernel_rfl) (by decide) (by kernel_rfl)
  issubclass := isB_T T (by kernel_rfl) (by decide) (by kernel_rfl)
  range := isB_T T (by kernel_rfl) (by decide) (by kernel_rfl)
  list := isB_T T (by kernel_rfl) (by decide) (by kernel_rfl)
  zip := isB_T T (by kernel_rfl) (by decide) (by kernel_rfl)
  type := isB_T T (by kernel_rfl) (by decide) (by kernel_rfl)
  str := isB_T T (by kernel_rfl) (by decide) (by kernel_rfl)
  bytes := isB_T T (by kernel_rfl) (by decide) (by kernel_rfl)
  indexError := isB_T T (by kernel_rfl) (by decide) (by kernel_rfl)
  valueError := isB_T T (by kernel_rfl) (by decide) (by kernel_rfl)
  parse257 := fnM_T T (by kernel_rfl)
  fspath := fnM_T T (by kernel_rfl)
  getsep := fnM_T T (by kernel_rfl)
  join := fnM_T T (by kernel_rfl)
  splitroot := fnM_T T (by kernel_rfl)
  normpath := fnM_T T (by kernel_rfl)
  sld := fnM_T T (by kernel_rfl)
  uld := fnM_T T (by kernel_rfl)
  path := fnM_T T (by kernel_rfl)
  walk := fnM_T T (by kernel_rfl)
  answer := fnM_T T (by kernel_rfl)
  hear := fnM_T T (by kernel_rfl)
  client := fnM_T T (by kernel_rfl)
  due := fnM_T T (by kernel_rfl)
  only := fnM_T T (by kernel_rfl)
  exc := by
    obtain ⟨C, O, _⟩ := T.ownAt (x := "error_reply") (newId := "Exception.__new__") (bm := [.type "Exception", .type "BaseException", .type "object"]) (by kernel_rfl)
    obtain ⟨X, mg', hn, e⟩ := X
    have hb := O.bound
    rw [Ns.unique T.g hn, e] at hb
    cases hb
    exact ⟨frag w.params, 44, mg, X, T.g, O, by kernel_rfl, by kernel_rfl⟩
theorem law_at {h : Heap} {loose : List Str} {mean : ExcName → Option Value} {mg mb : Str → Option Value} (T : Top vw loose mean mg mb h) : FnM h "law" 32 := fnM_T T (by kernel_rfl)
end Mine
end
open PySem PySem.W PyProof.Rows
set_option maxRecDepth 100000 in
set_option maxHeartbeats 8000000 in
theorem PySem.Challenge.cw_ik0188_01_holds : PySem.Challenge.rw_ik0188_01.Holds := by
  w_on
  refine holds_law Mine.ws fun said => ?_
  refine holds_open (q := Mine.vw) (loose := Mine.lsw) (Xt := fun s => xlAt Mine.vw [] s && recOk (RowW.records PySem.Challenge.rw_ik0188_01.row.toRowW) s) (XP := XL Mine.vw []) (Yf := Hook.obs Mine.hk) (Ya := Hook.val Mine.hk) (YP := Hook.says Mine.hk) (N := 3390) ?hl (Hook.of Mine.hk) (Hook.keeps Mine.hk) (fun s e => xl_of s (Bool.and_eq_true_iff.mp e).1) XL.keeps (by rfl) (by rfl) (by rfl) (fun s e => recFacts_of (Bool.and_eq_true_iff.mp e).2) (by rfl) (by first | assumption | decide +kernel) (by decide +kernel) ⟨rfl, rfl, rfl, rfl, rfl, by decide +kernel⟩ ?hw ?hc
  case hl => exact Mine.leftO_bootT (m := 11) (ann := some (.ref 6)) (by kernel_rfl) (by rfl) (fun s => by kernel_rfl) (fun w => by kernel_rfl) (fun w os => by kernel_rfl)
  case hw => w_witness2
  case hc =>
    w_strict (
    intro w s₀ s₁ mg mb G Y fa o pm cd doc dV kV ho hd hcd hD hmg hg args vals as hpre hlay hrd hwl hlo
    refine Ground.open G ?_
    intro T B D TE TW
    wrow_args hpre hlay hrd hwl hlo
    refine Mine.law_call (Mine.w0_of Y T) (Mine.law_at T) T.g hmg (by assumption) (by omega) ?_
    intro s' Mine.hk hos hgs
    refine GoodW.toG ⟨.inl ⟨_, .bool true, [], rfl, fun _ => rfl, .bool true, ?_, fun _ => ⟨List.nodup_nil, fun a ha => by cases ha⟩⟩, Mine.hk, hos, hgs.trans hg⟩
    kernel_rfl)
