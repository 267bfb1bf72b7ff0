import PyProof.Rows.All
import Wide.All
import OpenK.AllK
import Wide.FinOn
import PyProof.IsiStr
import PyProof.Rows.Range3
import PyProof.Rows.RuleN_isinstance
import PyProof.Rows.TupAssign
import PySem.Challenge.RW_in0287_01
set_option Elab.async false
set_option linter.all false
section
open PySem PySem.W PyProof.Rows
set_option Elab.async false
namespace Mine
section
local macro_rules | `(tactic| o_head $_) => `(tactic| assumption)
set_option maxRecDepth 100000 in
set_option maxHeartbeats 8000000 in
theorem hd (g : PySem.Challenge.rw_in0287_01.wellSaid = true) (f : PySem.Challenge.rw_in0287_01.row.Holds) : PySem.Challenge.rw_in0287_01.Holds := by
  w_on
  refine holds_law g fun said => ?_
  k_head
end
end Mine
end
section
set_option Elab.async false
set_option tactic.hygienic false
set_option genSizeOf false
set_option genInjectivity false
namespace Mine
open PySem PySem.W PySem.Calls PyProof.Rows

inductive D where
  | none
  | bool (b : Bool)
  | int (i : Int)
  | str (x : Str)
  | tuple (ds : List D)
  | list (ds : List D)
  | raw (v : Value)
  | slc (l u s : D)
  | lt (x : Str) (n : Nat)
  | ge (x : Str) (n : Nat)
  | bnd (r : Addr)
  | sett (led : Bool)

def rflTac : Lean.Syntax := .node .none `Lean.Parser.Tactic.tacticSeq #[.node .none `Lean.Parser.Tactic.tacticSeq1Indented #[.node .none `null #[.node .none `Lean.Parser.Tactic.tacticRfl #[.atom .none "rfl"]]]]
theorem cps {G : Prop} (h : ∀ P : Prop, (G → P) → P) : G := h G id
section
variable {α : Type} {l : List α}
theorem lenS {n : Nat} (h : l.length = n + 1) : ∃ a t, l = a :: t ∧ t.length = n := by
  cases l with
  | nil => cases h
  | cons a t => exact ⟨a, t, rfl, Nat.succ.inj h⟩
theorem len0 (h : l.length = 0) : l = [] := List.eq_nil_of_length_eq_zero h
theorem len1 (h : l.length = 1) : ∃ a, l = [a] := by
  obtain ⟨a, t, rfl, e⟩ := lenS h; exact ⟨a, congrArg _ (len0 e)⟩
theorem len2 (h : l.length = 2) : ∃ a b, l = [a, b] := by
  obtain ⟨a, t, rfl, e⟩ := lenS h; obtain ⟨b, rfl⟩ := len1 e; exact ⟨a, b, rfl⟩
theorem len3 (h : l.length = 3) : ∃ a b c, l = [a, b, c] := by
  obtain ⟨a, t, rfl, e⟩ := lenS h; obtain ⟨b, c, rfl⟩ := len2 e; exact ⟨a, b, c, rfl⟩
theorem len4 (h : l.length = 4) : ∃ a b c d, l = [a, b, c, d] := by
  obtain ⟨a, t, rfl, e⟩ := lenS h; obtain ⟨b, c, d, rfl⟩ := len3 e; exact ⟨a, b, c, d, rfl⟩
end

noncomputable abbrev Mp := Addr → Option Obj
noncomputable abbrev lst (vs : List Value) (n : Nat) : Obj := { cls := .type "list", data := .seq vs.toArray n }
noncomputable abbrev bndObj (r : Addr) : Obj := { cls := .type "builtin_function_or_method", data := .fields #[.builtin "list.append", .ref r] }
noncomputable abbrev setObj (led : Bool) : Obj := { cls := .type "set", data := .set #[(1, .bool true)] 1 { mask := 7, place := #[1], dummies := #[], finger := 0, led := led, moves := 0, plain := true } }
noncomputable abbrev tup (vs : List Value) (n : Nat) : Obj := { cls := .type "tuple", data := .seq vs.toArray n }

mutual
inductive Rep (Z : Mp) : Value → D → Prop
  | none : Rep Z .none .none
  | bool (b : Bool) : Rep Z (.bool b) (.bool b)
  | int (i : Int) (t : Tok) : Rep Z (.int i t) (.int i)
  | str (x : Str) (t : Tok) : Rep Z (.str x t) (.str x)
  | raw (v : Value) : Rep Z v (.raw v)
  | lt (x : Str) (t : Tok) (n : Nat) : 0 < t → t < n → Rep Z (.str x t) (.lt x n)
  | ge (x : Str) (t : Tok) (n : Nat) : n ≤ t → Rep Z (.str x t) (.ge x n)
  | tuple {a : Addr} {vs : List Value} {n : Nat} {ds : List D} : Z a = some (tup vs n) → RepL Z vs ds → Rep Z (.ref a) (.tuple ds)
  | list {a : Addr} {vs : List Value} {n : Nat} {ds : List D} : Z a = some (lst vs n) → RepL Z vs ds → Rep Z (.ref a) (.list ds)
  | bnd {a r : Addr} : Z a = some (bndObj r) → Rep Z (.ref a) (.bnd r)
  | sett {a : Addr} {led : Bool} : Z a = some (setObj led) → Rep Z (.ref a) (.sett led)
  | slc {a : Addr} {l u s : Value} {dl du ds : D} : Z a = some ({ cls := .type "slice", data := .fields #[l, u, s] } : Obj) → Rep Z l dl → Rep Z u du → Rep Z s ds → Rep Z (.ref a) (.slc dl du ds)
inductive RepL (Z : Mp) : List Value → List D → Prop
  | nil : RepL Z [] []
  | cons {v : Value} {vs : List Value} {d : D} {ds : List D} : Rep Z v d → RepL Z vs ds → RepL Z (v :: vs) (d :: ds)
end

noncomputable def Le (Z Z' : Mp) : Prop := ∀ a o, Z a = some o → Z' a = some o
theorem Le.refl (Z : Mp) : Le Z Z := fun xx xx e => e
theorem Le.trans {Z Z' Z'' : Mp} (x : Le Z Z') (y : Le Z' Z'') : Le Z Z'' := fun a o e => y a o (x a o e)

theorem Rep.mono {Z Z' : Mp} (hs : Le Z Z') {v : Value} {d : D} (h : Rep Z v d) : Rep Z' v d :=
  Rep.rec (motive_1 := fun v d xx => Rep Z' v d) (motive_2 := fun vs ds xx => RepL Z' vs ds) .none .bool .int .str .raw .lt .ge (fun h xx r => .tuple (hs _ _ h) r) (fun h xx r => .list (hs _ _ h) r)
    (fun h => .bnd (hs _ _ h)) (fun h => .sett (hs _ _ h)) (fun h xx xx xx r1 r2 r3 => .slc (hs _ _ h) r1 r2 r3) .nil (fun xx xx h r => .cons h r) h
theorem RepL.mono {Z Z' : Mp} (hs : Le Z Z') {vs : List Value} {ds : List D} (h : RepL Z vs ds) : RepL Z' vs ds := by
  induction vs generalizing ds with
  | nil => cases h; exact .nil
  | cons v vs ih => cases h with | cons h r => exact .cons (h.mono hs) (ih r)

section
variable {Z : Mp} {v : Value} {vs ws : List Value} {ds es : List D}
noncomputable def Says (Z : Mp) (v : Value) : D → Prop
  | .none => v = .none
  | .bool b => v = .bool b
  | .int i => ∃ t, v = .int i t
  | .str x => ∃ t, v = .str x t
  | .raw u => v = u
  | .lt x n => ∃ t, v = .str x t ∧ 0 < t ∧ t < n
  | .ge x n => ∃ t, v = .str x t ∧ n ≤ t
  | .tuple ds => ∃ a vs n, v = .ref a ∧ Z a = some (tup vs n) ∧ RepL Z vs ds
  | .list ds => ∃ a vs n, v = .ref a ∧ Z a = some (lst vs n) ∧ RepL Z vs ds
  | .bnd r => ∃ a, v = .ref a ∧ Z a = some (bndObj r)
  | .sett led => ∃ a, v = .ref a ∧ Z a = some (setObj led)
  | .slc dl du ds => ∃ a l u s, v = .ref a ∧ Z a = some ({ cls := .type "slice", data := .fields #[l, u, s] } : Obj) ∧ Rep Z l dl ∧ Rep Z u du ∧ Rep Z s ds
theorem Rep.says {d : D} (h : Rep Z v d) : Says Z v d := by
  cases h with
  | none => exact rfl
  | bool => exact rfl
  | raw => exact rfl
  | int _ t => exact ⟨t, rfl⟩
  | str _ t => exact ⟨t, rfl⟩
  | lt _ t _ h1 h2 => exact ⟨t, rfl, h1, h2⟩
  | ge _ t _ h1 => exact ⟨t, rfl, h1⟩
  | tuple h r => exact ⟨_, _, _, rfl, h, r⟩
  | list h r => exact ⟨_, _, _, rfl, h, r⟩
  | bnd h => exact ⟨_, rfl, h⟩
  | sett h => exact ⟨_, rfl, h⟩
  | slc h r1 r2 r3 => exact ⟨_, _, _, _, rfl, h, r1, r2, r3⟩
theorem Rep.of_int {i : Int} (h : Rep Z v (.int i)) : ∃ t, v = .int i t := h.says
theorem Rep.of_str {x : Str} (h : Rep Z v (.str x)) : ∃ t, v = .str x t := h.says
theorem Rep.of_bool {b : Bool} (h : Rep Z v (.bool b)) : v = .bool b := h.says
theorem Rep.of_none (h : Rep Z v .none) : v = .none := h.says
theorem Rep.of_raw {u : Value} (h : Rep Z v (.raw u)) : v = u := h.says
theorem Rep.of_list (h : Rep Z v (.list ds)) : ∃ a vs n, v = .ref a ∧ Z a = some (lst vs n) ∧ RepL Z vs ds := h.says
theorem Rep.of_tuple (h : Rep Z v (.tuple ds)) : ∃ a vs n, v = .ref a ∧ Z a = some (tup vs n) ∧ RepL Z vs ds := h.says
theorem Rep.of_bnd {r : Addr} (h : Rep Z v (.bnd r)) : ∃ a, v = .ref a ∧ Z a = some (bndObj r) := h.says
theorem Rep.of_slc {dl du ds : D} (h : Rep Z v (.slc dl du ds)) : ∃ a l u s, v = .ref a ∧ Z a = some ({ cls := .type "slice", data := .fields #[l, u, s] } : Obj) ∧ Rep Z l dl ∧ Rep Z u du ∧ Rep Z s ds := h.says
theorem RepL.uncons {d : D} (h : RepL Z vs (d :: ds)) : ∃ v us, vs = v :: us ∧ Rep Z v d ∧ RepL Z us ds := by cases h with | cons r q => exact ⟨_, _, rfl, r, q⟩
theorem RepL.unnil (h : RepL Z vs []) : vs = [] := by cases h; rfl
theorem RepL.inv1 {a : D} (h : RepL Z vs [a]) : ∃ v, vs = [v] ∧ Rep Z v a := by
  obtain ⟨v, us, rfl, r, q⟩ := h.uncons; cases q.unnil; exact ⟨v, rfl, r⟩
theorem RepL.inv2 {a b : D} (h : RepL Z vs [a, b]) : ∃ v w, vs = [v, w] ∧ Rep Z v a ∧ Rep Z w b := by
  obtain ⟨v, us, rfl, r, q⟩ := h.uncons; obtain ⟨w, rfl, t⟩ := q.inv1; exact ⟨v, w, rfl, r, t⟩
theorem RepL.inv3 {a b c : D} (h : RepL Z vs [a, b, c]) : ∃ v w x, vs = [v, w, x] ∧ Rep Z v a ∧ Rep Z w b ∧ Rep Z x c := by
  obtain ⟨v, us, rfl, r, q⟩ := h.uncons; obtain ⟨w, x, rfl, t⟩ := q.inv2; exact ⟨v, w, x, rfl, r, t⟩
theorem RepL.inv4 {a b c e : D} (h : RepL Z vs [a, b, c, e]) : ∃ v w x y, vs = [v, w, x, y] ∧ Rep Z v a ∧ Rep Z w b ∧ Rep Z x c ∧ Rep Z y e := by
  obtain ⟨v, us, rfl, r, q⟩ := h.uncons; obtain ⟨w, x, y, rfl, t⟩ := q.inv3; exact ⟨v, w, x, y, rfl, r, t⟩
theorem RepL.length (h : RepL Z vs ds) : vs.length = ds.length := by
  induction vs generalizing ds with
  | nil => cases h; rfl
  | cons v vs ih => cases h with | cons _ r => simp [ih r]
theorem RepL.append (h : RepL Z vs ds) (k : RepL Z ws es) : RepL Z (vs ++ ws) (ds ++ es) := by
  induction vs generalizing ds with
  | nil => cases h; exact k
  | cons v vs ih => cases h with | cons h r => exact .cons h (ih r)
theorem RepL.get (h : RepL Z vs ds) {k : Nat} {d : D} (hk : ds[k]? = some d) : ∃ v, vs[k]? = some v ∧ Rep Z v d := by
  induction vs generalizing ds k with
  | nil => cases h; simp at hk
  | cons v vs ih =>
    cases h with
    | cons h r =>
      cases k with
      | zero => simp at hk; subst hk; exact ⟨v, rfl, h⟩
      | succ k => simpa using ih r (by simpa using hk)
theorem RepL.get' (h : RepL Z vs ds) {k : Nat} (hk : vs[k]? = some v) : ∃ d, ds[k]? = some d ∧ Rep Z v d := by
  induction vs generalizing ds k with
  | nil => simp at hk
  | cons u vs ih =>
    cases h with
    | cons h r =>
      cases k with
      | zero => simp at hk; subst hk; exact ⟨_, rfl, h⟩
      | succ k => simpa using ih r (by simpa using hk)
theorem RepL.one {d : D} (h : Rep Z v d) : RepL Z [v] [d] := .cons h .nil
theorem RepL.take (h : RepL Z vs ds) (k : Nat) : RepL Z (vs.take k) (ds.take k) := by
  induction vs generalizing ds k with
  | nil => cases h; simp; exact .nil
  | cons v vs ih => cases h with | cons h r => cases k with | zero => exact .nil | succ k => exact .cons h (ih r k)
theorem RepL.drop (h : RepL Z vs ds) (k : Nat) : RepL Z (vs.drop k) (ds.drop k) := by
  induction vs generalizing ds k with
  | nil => cases h; simp; exact .nil
  | cons v vs ih => cases h with | cons h r => cases k with | zero => exact .cons h r | succ k => exact ih r k
theorem RepL.reverse (h : RepL Z vs ds) : RepL Z vs.reverse ds.reverse := by
  induction vs generalizing ds with
  | nil => cases h; exact .nil
  | cons v vs ih => cases h with | cons h r => rw [List.reverse_cons, List.reverse_cons]; exact (ih r).append (.one h)
end

noncomputable def Zof (h : Heap) (X : List Addr) : Mp := fun a => if a ∈ X then none else h.get? a
theorem Zof.get {h : Heap} {X : List Addr} {a : Addr} {o : Obj} (e : Zof h X a = some o) : h.get? a = some o ∧ a ∉ X := by
  unfold Zof at e; split at e
  · cases e
  · exact ⟨e, by assumption⟩
theorem Zof.of {h : Heap} {X : List Addr} {a : Addr} {o : Obj} (e : h.get? a = some o) (hn : a ∉ X) : Zof h X a = some o := by unfold Zof; rw [if_neg hn]; exact e
theorem Zof.le {h h' : Heap} {X : List Addr} (k : ∀ b o, h.get? b = some o → h'.get? b = some o) : Le (Zof h X) (Zof h' X) := fun xx xx e => Zof.of (k _ _ (Zof.get e).1) (Zof.get e).2
theorem Zof.sub {h : Heap} {X X' : List Addr} (hs : ∀ a ∈ X', a ∈ X) : Le (Zof h X) (Zof h X') := fun xx xx e => Zof.of (Zof.get e).1 fun q => (Zof.get e).2 (hs _ q)

structure Rm (A : Around) (k : Nat) : Prop where
  handled : A.handled = none
  depth : A.depth + k < recursionLimit
  units : A.units + 20 * k < cLine
theorem Rm.less {A : Around} {k j : Nat} (h : Rm A k) (hj : j ≤ k) : Rm A j := ⟨h.1, Nat.lt_of_le_of_lt (Nat.add_le_add_left hj _) h.2, Nat.lt_of_le_of_lt (Nat.add_le_add_left (Nat.mul_le_mul_left 20 hj) _) h.3⟩
theorem Rm.deeper {A : Around} {k : Nat} {env : Env} (h : Rm A (k + 1)) : Rm (A.deeper env) k := ⟨h.1, Nat.lt_of_le_of_lt (Nat.le_of_eq ((Nat.add_right_comm _ 1 k).trans (Nat.add_assoc _ k 1))) h.2, by have := h.3; show A.units + 3 + _ < _; lia⟩

structure Gx where
  prog : Program
  w : World
  G : Heap
  lo : Nat

inductive Keeps (s s' : Shared) : Prop
  | intro (h' : Heap) (tk : Nat) (gs : _) (e : s' = { s with heap := h', toks := tk, gens := gs }) (k : ∀ b o, s.heap.get? b = some o → h'.get? b = some o) (t : s.toks ≤ tk) (g : AllBare s.gens → AllBare gs)
noncomputable def Same (sg s : Shared) : Prop := s = { sg with heap := s.heap, toks := s.toks, gens := s.gens } ∧ (AllBare sg.gens → AllBare s.gens)
theorem Same.set {sg s : Shared} (h : Same sg s) (h' : Heap) (tk : Nat) : Same sg { s with heap := h', toks := tk } := by
  obtain ⟨e, g⟩ := h
  refine ⟨?_, g⟩
  show ({ s with heap := h', toks := tk } : Shared) = { sg with heap := h', toks := tk, gens := s.gens }
  rw [e]
noncomputable def Ok (g : Gx) (s : Shared) (X : List Addr) : Prop := (∀ a ∈ X, ∃ o, s.heap.get? a = some o) ∧ (∀ b o, g.G.get? b = some o → s.heap.get? b = some o ∧ b ∉ X) ∧ g.lo ≤ s.toks ∧ 0 < s.toks
theorem Ok.keeps {G : Gx} {s s' : Shared} {X : List Addr} (h : Ok G s X) (k : Keeps s s') : Ok G s' X := by
  obtain ⟨h', tk, gs, rfl, hk, ht, _⟩ := k
  exact ⟨fun a ha => (h.1 a ha).elim fun o e => ⟨o, hk _ _ e⟩, fun b o e => ⟨hk _ _ (h.2.1 b o e).1, (h.2.1 b o e).2⟩, Nat.le_trans h.2.2.1 ht, Nat.lt_of_lt_of_le h.2.2.2 ht⟩
theorem keeps_refl (s : Shared) : Keeps s s := ⟨s.heap, s.toks, s.gens, rfl, fun xx xx e => e, Nat.le_refl _, id⟩
theorem keeps_tok (s : Shared) (n : Nat) (hn : s.toks ≤ n) : Keeps s { s with toks := n } := ⟨s.heap, n, s.gens, rfl, fun xx xx e => e, hn, id⟩
theorem keeps_heap' {s : Shared} {h' : Heap} (k : ∀ b o, s.heap.get? b = some o → h'.get? b = some o) : Keeps s { s with heap := h' } := ⟨h', s.toks, s.gens, rfl, k, Nat.le_refl _, id⟩
theorem keeps_push (s : Shared) (o : Obj) : Keeps s { s with heap := s.heap.push o } := ⟨_, s.toks, s.gens, rfl, fun xx xx e => Heap.get?_push_of_some _ e, Nat.le_refl _, id⟩
theorem keeps_trans {s s' s'' : Shared} (x : Keeps s s') (y : Keeps s' s'') : Keeps s s'' := by
  obtain ⟨h1, t1, g1, rfl, k1, n1, b1⟩ := x
  obtain ⟨h2, t2, g2, rfl, k2, n2, b2⟩ := y
  exact ⟨h2, t2, g2, rfl, fun b o e => k2 b o (k1 b o e), Nat.le_trans n1 n2, fun q => b2 (b1 q)⟩
theorem Same.keeps {sg s s' : Shared} (h : Same sg s) (k : Keeps s s') : Same sg s' := by
  obtain ⟨e, g⟩ := h
  obtain ⟨h1, t1, g1, rfl, k1, n1, b1⟩ := k
  refine ⟨?_, fun q => b1 (g q)⟩
  show ({ s with heap := h1, toks := t1, gens := g1 } : Shared) = { sg with heap := h1, toks := t1, gens := g1 }
  rw [e]
theorem keeps_heap {s s' : Shared} (x : Keeps s s') : ∀ b o, s.heap.get? b = some o → s'.heap.get? b = some o := by obtain ⟨h1, t1, g1, rfl, k1, _⟩ := x; exact k1
theorem keeps_toks {s s' : Shared} (x : Keeps s s') : s.toks ≤ s'.toks := by obtain ⟨h1, t1, g1, rfl, k1, n1, _⟩ := x; exact n1
theorem keeps_le {s s' : Shared} {X : List Addr} (x : Keeps s s') : Le (Zof s.heap X) (Zof s'.heap X) := Zof.le (keeps_heap x)
theorem Ok.fresh {G : Gx} {s : Shared} {X : List Addr} (h : Ok G s X) : s.heap.objs.size ∉ X := fun q => by
  obtain ⟨o, e⟩ := h.1 _ q
  exact Nat.lt_irrefl _ (Heap.lt_size e)
theorem Ok.new {G : Gx} {s : Shared} {X : List Addr} (h : Ok G s X) {o : Obj} (hf : o.isFreed = false) : Zof (s.heap.push o) X s.heap.objs.size = some o := Zof.of (Heap.get?_push_size _ hf) h.fresh

noncomputable def Run (M : Model) (A : Around) (t : Sem Value) (s : Shared) (X : List Addr) (d : D) : Prop := ∀ E, wpAny M A t (fun v s' => Keeps s s' ∧ Rep (Zof s'.heap X) v d) E s
noncomputable def Fn (g : Gx) (k : Nat) (f : Value) (ds : List D) (d : D) : Prop :=
  ∀ A s X vs, Rm A k → Ok g s X → RepL (Zof s.heap X) vs ds → Run (model g.prog g.w) A (call f vs) s X d
noncomputable def Op2 (g : Gx) (k : Nat) (t : Value → Value → Sem Value) (d1 d2 d : D) : Prop :=
  ∀ A s X a b, Rm A k → Ok g s X → Rep (Zof s.heap X) a d1 → Rep (Zof s.heap X) b d2 → Run (model g.prog g.w) A (t a b) s X d
noncomputable def Op1 (g : Gx) (k : Nat) (t : Value → Sem Value) (d1 d : D) : Prop :=
  ∀ A s X a, Rm A k → Ok g s X → Rep (Zof s.heap X) a d1 → Run (model g.prog g.w) A (t a) s X d
noncomputable def Tru (g : Gx) (k : Nat) (d : D) (b : Bool) : Prop :=
  ∀ A s X v E, Rm A k → Ok g s X → Rep (Zof s.heap X) v d → wpAny (model g.prog g.w) A (truthy v) (fun r s' => Keeps s s' ∧ r = b) E s

inductive Slot where
  | val (d : D)
  | own (ds : List D)
  | own2 (dss : List (List D))
  | ownAt (r : Addr) (ds : List D)
  | tab (P : Addr) (d : D)
noncomputable abbrev Rho := List (Str × Slot)

inductive All2 {α β : Type} (R : α → β → Prop) : List α → List β → Prop
  | nil : All2 R [] []
  | cons {a : α} {b : β} {l : List α} {r : List β} : R a b → All2 R l r → All2 R (a :: l) (b :: r)
theorem All2.imp {α β : Type} {R S : α → β → Prop} {l : List α} {r : List β} (h : All2 R l r) (f : ∀ a ∈ l, ∀ b, R a b → S a b) : All2 S l r := by
  induction h with
  | nil => exact .nil
  | cons h _ ih => exact .cons (f _ (.head _) _ h) (ih fun a ha => f a (.tail _ ha))

noncomputable def SlotIs (Z : Mp) (h : Heap) (v : Value) : Slot → List Addr → Prop
  | .val d, fs => fs = [] ∧ Rep Z v d
  | .own ds, fs => ∃ a vs n, fs = [a] ∧ v = .ref a ∧ h.get? a = some (lst vs n) ∧ RepL Z vs ds
  | .own2 dss, fs => ∃ a bs n, fs = a :: bs ∧ v = .ref a ∧ h.get? a = some (lst (bs.map Value.ref) n) ∧ All2 (fun b ds => ∃ vs n, h.get? b = some (lst vs n) ∧ RepL Z vs ds) bs dss
  | .ownAt r ds, fs => ∃ vs n, fs = [r] ∧ v = .ref r ∧ h.get? r = some (lst vs n) ∧ RepL Z vs ds
  | .tab P d, fs => fs = [P] ∧ Rep Z v d ∧ ∃ ps, h.get? P = some (tabObj ps) ∧ TriplesOk ps.toList
theorem SlotIs.mono {Z Z' : Mp} {h h' : Heap} {v : Value} {sl : Slot} {fs : List Addr} (x : SlotIs Z h v sl fs) (hz : Le Z Z') (hh : ∀ a ∈ fs, ∀ o, h.get? a = some o → h'.get? a = some o) : SlotIs Z' h' v sl fs := by
  cases sl with
  | val d => exact ⟨x.1, x.2.mono hz⟩
  | own ds => obtain ⟨a, vs, n, rfl, rfl, e, r⟩ := x; exact ⟨a, vs, n, rfl, rfl, hh _ (by simp) _ e, r.mono hz⟩
  | ownAt r ds => obtain ⟨vs, n, rfl, rfl, e, q⟩ := x; exact ⟨vs, n, rfl, rfl, hh _ (by simp) _ e, q.mono hz⟩
  | tab P d => obtain ⟨rfl, q, ps, e, t⟩ := x; exact ⟨rfl, q.mono hz, ps, hh _ (by simp) _ e, t⟩
  | own2 dss =>
    obtain ⟨a, bs, n, rfl, rfl, e, r⟩ := x
    exact ⟨a, bs, n, rfl, rfl, hh _ (by simp) _ e, r.imp fun b hb ds hqz => by
      obtain ⟨vs, n, e, q⟩ := hqz; exact ⟨vs, n, hh _ (by simp [hb]) _ e, q.mono hz⟩⟩

inductive VC (Z : Mp) (h : Heap) (lk : Str → Option Value) (x : Str) (sl : Slot) (R : List Addr → Prop) (fs : List Addr) : Prop
  | intro (v : Value) (f1 f2 : List Addr) (e : fs = f1 ++ f2) (l : lk x = some v) (q : SlotIs Z h v sl f1) (z : R f2)
noncomputable def VarsIs (Z : Mp) (h : Heap) (lk : Str → Option Value) : Rho → List Addr → Prop
  | [], fs => fs = []
  | (x, sl) :: r, fs => VC Z h lk x sl (VarsIs Z h lk r) fs
theorem VarsIs.mono {Z Z' : Mp} {h h' : Heap} {lk : Str → Option Value} (hz : Le Z Z') : ∀ {ρ : Rho} {fs : List Addr}, VarsIs Z h lk ρ fs → (∀ a ∈ fs, ∀ o, h.get? a = some o → h'.get? a = some o) → VarsIs Z' h' lk ρ fs := by
  intro ρ
  induction ρ with
  | nil => exact fun x xx => x
  | cons p r ih =>
    intro fs hx hh
    obtain ⟨x, sl⟩ := p
    obtain ⟨v, f1, f2, e, l, q, y⟩ := hx
    exact ⟨v, f1, f2, e, l, q.mono hz fun a ha => hh a (e ▸ List.mem_append.mpr (.inl ha)), ih y fun a ha => hh a (e ▸ List.mem_append.mpr (.inr ha))⟩

structure Cx extends Gx where
  A : Around
  env : Env
  oc : List Addr

noncomputable def lookIn (env : Env) (m cm : Str → Option Value) (x : Str) : Option Value := if env.kindOf x = some .local then m x else cm x

structure StO (c : Cx) (sg : Shared) (B : Mp) (Y : List Addr) (fs : List Addr) (m cm : Str → Option Value) (ρ : Rho) (T : List (Value × D)) (s : Shared) : Prop where
  nd : (c.env.locals :: (c.oc ++ fs)).Nodup
  own : ∀ a ∈ c.env.locals :: (c.oc ++ fs), B a = none ∧ (∃ o, s.heap.get? a = some o) ∧ a ∉ Y
  hid : ∀ a ∈ Y, ∃ o, s.heap.get? a = some o
  keep : ∀ b o, B b = some o → s.heap.get? b = some o
  base : ∀ b o, c.G.get? b = some o → B b = some o ∧ b ∉ Y
  ns : s.heap.Ns c.env.locals m
  cells : ∀ x a, c.env.cells.lookup x = some a → s.heap.IsCell a (cm x) ∧ (a ∈ c.oc ∨ (a ∈ Y ∧ ∃ o, B a = some o))
  vars : VarsIs (Zof s.heap (c.env.locals :: (c.oc ++ fs) ++ Y)) s.heap (lookIn c.env m cm) ρ fs
  temps : ∀ p ∈ T, Rep (Zof s.heap (c.env.locals :: (c.oc ++ fs) ++ Y)) p.1 p.2
  same : Same sg s
  mono : sg.toks ≤ s.toks ∧ c.lo ≤ s.toks ∧ 0 < s.toks

theorem mono_up {a b t t' : Nat} (h : a ≤ t ∧ b ≤ t ∧ 0 < t) (k : t ≤ t') : a ≤ t' ∧ b ≤ t' ∧ 0 < t' := ⟨Nat.le_trans h.1 k, Nat.le_trans h.2.1 k, Nat.lt_of_lt_of_le h.2.2 k⟩
inductive St (c : Cx) (sg : Shared) (B : Mp) (Y : List Addr) (ρ : Rho) (T : List (Value × D)) (s : Shared) : Prop
  | intro (fs : List Addr) (m cm : Str → Option Value) (h : StO c sg B Y fs m cm ρ T s)

section
variable {c : Cx} {sg : Shared} {B : Mp} {Y : List Addr} {fs : List Addr} {m cm : Str → Option Value} {ρ : Rho} {T : List (Value × D)} {s s' : Shared}
theorem StO.ok (h : StO c sg B Y fs m cm ρ T s) : Ok c.toGx s (c.env.locals :: (c.oc ++ fs) ++ Y) := by
  refine ⟨fun a ha => ?_, fun b o e => ⟨h.keep b o (h.base b o e).1, fun q => ?_⟩, h.mono.2⟩
  · rcases List.mem_append.mp ha with q | q
    · exact (h.own a q).2.1
    · exact h.hid a q
  · rcases List.mem_append.mp q with q | q
    · have := (h.own b q).1; rw [(h.base b o e).1] at this; cases this
    · exact (h.base b o e).2 q
theorem StO.keeps (h : StO c sg B Y fs m cm ρ T s) (k : Keeps s s') : StO c sg B Y fs m cm ρ T s' := by
  have hsame := h.same.keeps k
  obtain ⟨h', tk, gs, rfl, hk, hn, _⟩ := k
  have hz : Le (Zof s.heap (c.env.locals :: (c.oc ++ fs) ++ Y)) (Zof h' (c.env.locals :: (c.oc ++ fs) ++ Y)) := Zof.le hk
  refine ⟨h.nd, fun a ha => ?_, fun a ha => ?_, fun b o e => hk b o (h.keep b o e), h.base, ?_, ?_, h.vars.mono hz fun a xx o e => hk a o e, fun p hp => (h.temps p hp).mono hz, ?_, mono_up h.mono hn⟩
  · obtain ⟨x, ⟨o, e⟩, z⟩ := h.own a ha
    exact ⟨x, ⟨o, hk _ _ e⟩, z⟩
  · obtain ⟨o, e⟩ := h.hid a ha
    exact ⟨o, hk _ _ e⟩
  · exact h.ns.at' fun o e => hk _ _ e
  · intro x a e
    obtain ⟨⟨o, e1, e2⟩, r⟩ := h.cells x a e
    exact ⟨⟨o, hk _ _ e1, e2⟩, r⟩
  · exact hsame
theorem StO.temps_sub (h : StO c sg B Y fs m cm ρ T s) {T' : List (Value × D)} (hs : ∀ p ∈ T', p ∈ T) : StO c sg B Y fs m cm ρ T' s := { h with temps := fun p hp => h.temps p (hs p hp) }
theorem St.temps_sub (h : St c sg B Y ρ T s) {T' : List (Value × D)} (hs : ∀ p ∈ T', p ∈ T) : St c sg B Y ρ T' s := by
  obtain ⟨fs, m, cm, x⟩ := h; exact ⟨fs, m, cm, x.temps_sub hs⟩

noncomputable abbrev Cx.M (c : Cx) : Model := model c.prog c.w
theorem StO.temp (h : StO c sg B Y fs m cm ρ T s) {v : Value} {d : D} (r : Rep (Zof s.heap (c.env.locals :: (c.oc ++ fs) ++ Y)) v d) : StO c sg B Y fs m cm ρ ((v, d) :: T) s :=
  { h with temps := fun p hp => by cases hp with | head => exact r | tail _ hp => exact h.temps p hp }

structure StX (c : Cx) (H : List Addr) (fs : List Addr) (m cm : Str → Option Value) (ρ : Rho) (s : Shared) : Prop where
  ok : Ok c.toGx s H
  ns : s.heap.Ns c.env.locals m
  cells : ∀ x a, c.env.cells.lookup x = some a → s.heap.IsCell a (cm x)
  ch : ∀ x a, c.env.cells.lookup x = some a → a ∈ H
  vars : VarsIs (Zof s.heap H) s.heap (lookIn c.env m cm) ρ fs
inductive Rd (c : Cx) (H : List Addr) (ρ : Rho) (s : Shared) : Prop
  | intro (fs : List Addr) (m cm : Str → Option Value) (h : StX c H fs m cm ρ s)
theorem StX.keeps {H : List Addr} (h : StX c H fs m cm ρ s) (k : Keeps s s') : StX c H fs m cm ρ s' :=
  ⟨h.ok.keeps k, h.ns.at' fun o e => keeps_heap k _ _ e, fun x a e => (h.cells x a e).elim fun o e1 => ⟨o, keeps_heap k _ _ e1.1, e1.2⟩, h.ch, h.vars.mono (keeps_le k) fun a xx o e => keeps_heap k _ _ e⟩
theorem Rd.keeps {H : List Addr} (h : Rd c H ρ s) (k : Keeps s s') : Rd c H ρ s' := by
  obtain ⟨fs, m, cm, x⟩ := h; exact ⟨fs, m, cm, x.keeps k⟩
theorem Rd.ok {H : List Addr} (h : Rd c H ρ s) : Ok c.toGx s H := by
  obtain ⟨fs, m, cm, x⟩ := h; exact x.ok
theorem StO.rd (h : StO c sg B Y fs m cm ρ T s) : Rd c (c.env.locals :: (c.oc ++ fs) ++ Y) ρ s := ⟨fs, m, cm, h.ok, h.ns, fun x a e => (h.cells x a e).1, fun x a e => List.mem_append.mpr ((h.cells x a e).2.imp (fun r => .tail _ (List.mem_append.mpr (.inl r))) fun r => r.1), h.vars⟩

noncomputable def EV (c : Cx) (ρ : Rho) (e : Expr) (d : D) : Prop := ∀ H s, Rd c H ρ s → Run c.M c.A (eval e c.env) s H d
noncomputable def EB (c : Cx) (ρ : Rho) (e : Expr) (b : Bool) : Prop := ∀ H s E, Rd c H ρ s → wpAny c.M c.A (isTrue e c.env (eval e c.env)) (fun r s' => r = b ∧ Keeps s s') E s

theorem Run.pure {M : Model} {A : Around} {v : Value} {s : Shared} {X : List Addr} {d : D} (h : Rep (Zof s.heap X) v d) : Run M A (Pure.pure v) s X d := fun E => wpAny_pure ⟨keeps_refl s, h⟩
theorem StO.ev {e : Expr} {d : D} {E : Value → Shared → Prop} {Q : Value → Shared → Prop} (h : StO c sg B Y fs m cm ρ T s) (he : EV c ρ e d) (hQ : ∀ v s', Keeps s s' → StO c sg B Y fs m cm ρ ((v, d) :: T) s' → Q v s') : wpAny c.M c.A (eval e c.env) Q E s :=
  wpAny_mono (he _ s h.rd E) (fun v s' kz0 => hQ v s' kz0.1 ((h.keeps kz0.1).temp kz0.2)) fun xx xx e => e
theorem St.ev {e : Expr} {d : D} {E : Value → Shared → Prop} {Q : Value → Shared → Prop} (h : St c sg B Y ρ T s) (he : EV c ρ e d) (hQ : ∀ v s', St c sg B Y ρ ((v, d) :: T) s' → Q v s') : wpAny c.M c.A (eval e c.env) Q E s := by
  obtain ⟨fs, m, cm, x⟩ := h
  exact x.ev he fun v s' xx q => hQ v s' ⟨fs, m, cm, q⟩
theorem St.eb {e : Expr} {b : Bool} {E : Value → Shared → Prop} {Q : Bool → Shared → Prop} (h : St c sg B Y ρ T s) (he : EB c ρ e b) (hQ : ∀ s', St c sg B Y ρ T s' → Q b s') : wpAny c.M c.A (isTrue e c.env (eval e c.env)) Q E s := by
  obtain ⟨fs, m, cm, x⟩ := h
  exact wpAny_mono (he _ s E x.rd) (fun r s' kz1 => kz1.1 ▸ hQ s' ⟨fs, m, cm, x.keeps kz1.2⟩) fun xx xx e => e
end
end Mine
end
section
set_option Elab.async false
set_option linter.unusedVariables false
namespace Mine
open PySem PySem.W PySem.Calls PyProof.Rows

section
variable {c : Cx} {ρ ρ' : Rho} {s s' : Shared} {H : List Addr}

theorem VarsIs.mem {Z : Mp} {h : Heap} {lk : Str → Option Value} {x : Str} {d : D} : ∀ {ρ : Rho} {fs : List Addr}, VarsIs Z h lk ρ fs → (x, Slot.val d) ∈ ρ → ∃ v, lk x = some v ∧ Rep Z v d := by
  intro ρ
  induction ρ with
  | nil => intro _ _ hm; cases hm
  | cons p r ih =>
    intro fs hx hm
    obtain ⟨y, sl⟩ := p
    obtain ⟨v, f1, f2, e, l, q, z⟩ := hx
    cases hm with
    | head => exact ⟨v, l, q.2⟩
    | tail _ hm => exact ih z hm

theorem EV.name {x : Str} {p : Pos} {d : D} (hx : (x, Slot.val d) ∈ ρ) (hk : c.env.scope.kind = .function)
    (hl : c.env.kindOf x = some .local ∨ ((c.env.kindOf x = some .cell) ∧ ∃ a, c.env.cells.lookup x = some a)) (hd : (x == ("__debug__" : Str)) = false) : EV c ρ (.Name x p) d := by
  intro H s hqz E
  obtain ⟨fs, m, cm, h⟩ := hqz
  obtain ⟨v, hv, r⟩ := h.vars.mem hx
  refine wpAny_Name ?_ hd
  rcases hl with hl | ⟨hl, a, ha⟩
  · unfold lookIn at hv; rw [if_pos hl] at hv
    exact wpAny_loadName_local hk hl h.ns hv ⟨keeps_refl s, r⟩
  · unfold lookIn at hv; rw [if_neg (by rw [hl]; simp)] at hv
    exact wpAny_loadName_cell hk hl ha (hv ▸ h.cells x a ha) ⟨keeps_refl s, r⟩

theorem EV.int {i : Int} {k : Nat} {p : Pos} : EV c ρ (.Constant (.int i) k p) (.int i) := fun H s h E => wpAny_Constant_int ⟨keeps_tok s _ (Nat.le_succ _), .int _ _⟩
theorem EV.str {i : Str} {k : Nat} {p : Pos} : EV c ρ (.Constant (.str i) k p) (.str i) := fun H s h E => wpAny_Constant_str ⟨keeps_tok s _ (Nat.le_succ _), .str _ _⟩
theorem EV.bool {b : Bool} {k : Nat} {p : Pos} : EV c ρ (.Constant (.bool b) k p) (.bool b) := fun H s h E => wpAny_Constant_bool ⟨keeps_refl s, .bool _⟩
theorem EV.none {k : Nat} {p : Pos} : EV c ρ (.Constant .none k p) .none := fun H s h E => wpAny_Constant_none ⟨keeps_refl s, .none⟩

theorem EV.conv {e : Expr} {d d' : D} (h : EV c ρ e d) (q : d = d') : EV c ρ e d' := q ▸ h
theorem EB.conv {e : Expr} {d d' : Bool} (h : EB c ρ e d) (q : d = d') : EB c ρ e d' := q ▸ h

theorem EV.bin {k : Nat} {l r : Expr} {op : Operator} {p : Pos} {d1 d2 d : D} (h1 : EV c ρ l d1) (h2 : EV c ρ r d2) (o : Op2 c.toGx k (binaryOp op) d1 d2 d) (hk : Rm c.A k) : EV c ρ (.BinOp l op r p) d := fun H s h E =>
  wpAny_BinOp (wpAny_mono (h1 H s h E) (fun a s₁ kz0 => wpAny_mono (h2 H s₁ (h.keeps kz0.1) E) (fun b s₂ kw =>
    wpAny_mono (o c.A s₂ H a b hk (h.keeps (keeps_trans kz0.1 kw.1)).ok (kz0.2.mono (keeps_le kw.1)) kw.2 E) (fun v s₃ kz1 => ⟨keeps_trans kz0.1 (keeps_trans kw.1 kz1.1), kz1.2⟩) fun xx xx e => e) fun xx xx e => e) fun xx xx e => e)
theorem EV.un {k : Nat} {r : Expr} {op : UnaryOp} {p : Pos} {d1 d : D} (h1 : EV c ρ r d1) (o : Op1 c.toGx k (unaryOp op) d1 d) (hk : Rm c.A k) : EV c ρ (.UnaryOp op r p) d := fun H s h E =>
  wpAny_UnaryOp (wpAny_mono (h1 H s h E) (fun a s₁ kz2 => wpAny_mono (o c.A s₁ H a hk (h.keeps kz2.1).ok kz2.2 E) (fun v s₃ kz3 => ⟨keeps_trans kz2.1 kz3.1, kz3.2⟩) fun xx xx e => e) fun xx xx e => e)
theorem tru_bool {g : Gx} {b : Bool} : Tru g 0 (.bool b) b := fun A s X v E xx xx h => by
  rw [h.of_bool]; exact wpAny_truthy_bool ⟨keeps_refl s, rfl⟩

theorem EB.cmp {k : Nat} {l r : Expr} {op : CmpOp} {p : Pos} {d1 d2 : D} {b : Bool} (h1 : EV c ρ l d1) (h2 : EV c ρ r d2) (o : Op2 c.toGx k (compareOp op) d1 d2 (.bool b)) (hk : Rm c.A k) (hm : behindInMarks op r = false) :
    EB c ρ (.Compare l [op] [r] p) b := fun H s E h =>
  wpAny_isTrue_Compare1 (wpAny_mono (h1 H s h E) (fun a s₁ kz4 => wpAny_mono (h2 H s₁ (h.keeps kz4.1) E) (fun b' s₂ kw =>
    wpAny_mono (o c.A s₂ H a b' hk (h.keeps (keeps_trans kz4.1 kw.1)).ok (kz4.2.mono (keeps_le kw.1)) kw.2 E) (fun v s₃ hqz => by
      obtain ⟨k3, r3⟩ := hqz
      rw [r3.of_bool]; exact wpAny_truthy_bool ⟨rfl, keeps_trans kz4.1 (keeps_trans kw.1 k3)⟩) fun xx xx e => e) fun xx xx e => e) fun xx xx e => e) hm
theorem EV.cmp {k : Nat} {l r : Expr} {op : CmpOp} {p : Pos} {d1 d2 d : D} (h1 : EV c ρ l d1) (h2 : EV c ρ r d2) (o : Op2 c.toGx k (compareOp op) d1 d2 d) (hk : Rm c.A k) (hm : behindInMarks op r = false) :
    EV c ρ (.Compare l [op] [r] p) d := fun H s h E => by
  rw [arm_eval_Compare]
  refine wpAny_bind (wpAny_mono (h1 H s h E) (fun a s₁ hqz0 => ?_) fun xx xx e => e)
  obtain ⟨k1, r1⟩ := hqz0
  have e : markedEach [op] [r] (evalEach [r] c.env) = [eval r c.env] := by
    rw [markedEach_of_false _ _ _ (by simpa [lastMarks] using hm)]; rfl
  rw [e]
  exact chain_last (wpAny_mono (h2 H s₁ (h.keeps k1) E) (fun b' s₂ kw =>
    wpAny_mono (o c.A s₂ H a b' hk (h.keeps (keeps_trans k1 kw.1)).ok (r1.mono (keeps_le kw.1)) kw.2 E) (fun v s₃ kz5 => ⟨keeps_trans k1 (keeps_trans kw.1 kz5.1), kz5.2⟩) fun xx xx e => e) fun xx xx e => e)
theorem EB.chain {k : Nat} {l r1 r2 : Expr} {op1 op2 : CmpOp} {p : Pos} {d1 d2 d3 : D} {b1 b2 : Bool} (h1 : EV c ρ l d1) (h2 : EV c ρ r1 d2) (h3 : EV c ρ r2 d3) (o1 : Op2 c.toGx k (compareOp op1) d1 d2 (.bool b1)) (o2 : Op2 c.toGx k (compareOp op2) d2 d3 (.bool b2)) (hk : Rm c.A k)
    (hm : lastMarks [op1, op2] [r1, r2] = false) : EB c ρ (.Compare l [op1, op2] [r1, r2] p) (b1 && b2) := fun H s E h => by
  refine isTrue_chain (rs := []) (wpAny_mono (h1 H s h E) (fun a s₁ hqz0 => test_link (wpAny_mono (h2 H s₁ (h.keeps hqz0.1) E) (fun b s₂ hqz1 => ?_) fun xx xx e => e)) fun xx xx e => e) hm
  obtain ⟨k1, q1⟩ := hqz0
  obtain ⟨k2, q2⟩ := hqz1
  have k12 := keeps_trans k1 k2
  refine wpAny_mono (o1 c.A s₂ H a b hk (h.keeps k12).ok (q1.mono (keeps_le k2)) q2 E) (fun v s₃ hqz0 => ?_) fun xx xx e => e
  obtain ⟨k3, q3⟩ := hqz0
  rw [q3.of_bool]
  refine wpAny_truthy_bool ?_
  cases b1 with
  | false => simp only [Bool.false_eq_true, if_false]; exact ⟨rfl, keeps_trans k12 k3⟩
  | true =>
    first | refine wpAny_ite_true rfl ?_ | refine (if_pos rfl).mpr ?_ | simp only [if_true]
    refine test_last (wpAny_mono (h3 H s₃ (h.keeps (keeps_trans k12 k3)) E) (fun b' s₄ hqz0 => ?_) fun xx xx e => e)
    obtain ⟨k4, q4⟩ := hqz0
    refine wpAny_mono (o2 c.A s₄ H b b' hk (h.keeps (keeps_trans k12 (keeps_trans k3 k4))).ok (q2.mono (keeps_le (keeps_trans k3 k4))) q4 E) (fun v s₅ hqz0 => ?_) fun xx xx e => e
    obtain ⟨k5, q5⟩ := hqz0
    rw [q5.of_bool]
    exact wpAny_truthy_bool ⟨by simp, keeps_trans k12 (keeps_trans k3 (keeps_trans k4 k5))⟩
theorem EB.val {k : Nat} {e : Expr} {d : D} {b : Bool} (h : EV c ρ e d) (t : Tru c.toGx k d b) (hk : Rm c.A k)
    (he : isTrue e c.env (eval e c.env) = (do let v ← eval e c.env; standAt e.pos; holding [v] (truthy v))) : EB c ρ e b := fun H s E x =>
  wpAny_isTrue_value (wpAny_mono (h H s x E) (fun v s₁ kz6 => wpAny_mono (t c.A s₁ H v E hk (x.keeps kz6.1).ok kz6.2) (fun r s' q => ⟨q.2, keeps_trans kz6.1 q.1⟩) fun xx xx e => e) fun xx xx e => e) he
theorem EB.not {e : Expr} {p : Pos} {b : Bool} (h : EB c ρ e b) : EB c ρ (.UnaryOp .Not e p) (!b) := fun H s E x =>
  wpAny_isTrue_Not (wpAny_mono (h H s E x) (fun r s₁ q => ⟨by rw [q.1], q.2⟩) fun xx xx e => e)
theorem EB.and {e1 e2 : Expr} {p : Pos} {b1 b2 : Bool} (h1 : EB c ρ e1 b1) (h2 : b1 = true → EB c ρ e2 b2) : EB c ρ (.BoolOp .And [e1, e2] p) (b1 && b2) := fun H s E x => by
  refine wpAny_isTrue_BoolOp (wpAny_allTrue_And_cons (wpAny_mono (h1 H s E x) (fun r s₁ q => ?_) fun xx xx e => e))
  obtain ⟨rfl, q⟩ := q
  cases r with
  | false => exact ⟨rfl, q⟩
  | true =>
    first | refine wpAny_ite_true rfl ?_ | refine (if_pos rfl).mpr ?_ | simp only [if_true]
    refine wpAny_allTrue_And_cons (wpAny_mono (h2 rfl H s₁ E (x.keeps q)) (fun r s₂ q2 => ?_) fun xx xx e => e)
    obtain ⟨rfl, q2⟩ := q2
    cases r with
    | false => exact ⟨rfl, keeps_trans q q2⟩
    | true => simp only [if_true]; exact wpAny_allTrue_And_nil ⟨rfl, keeps_trans q q2⟩
theorem EB.or {e1 e2 : Expr} {p : Pos} {b1 b2 : Bool} (h1 : EB c ρ e1 b1) (h2 : b1 = false → EB c ρ e2 b2) : EB c ρ (.BoolOp .Or [e1, e2] p) (b1 || b2) := fun H s E x => by
  refine wpAny_isTrue_BoolOp (wpAny_allTrue_Or_cons (wpAny_mono (h1 H s E x) (fun r s₁ q => ?_) fun xx xx e => e))
  obtain ⟨rfl, q⟩ := q
  cases r with
  | true => exact ⟨rfl, q⟩
  | false =>
    first | refine wpAny_ite_false rfl ?_ | refine (if_neg Bool.false_ne_true).mpr ?_ | simp only [Bool.false_eq_true, if_false]
    refine wpAny_allTrue_Or_cons (wpAny_mono (h2 rfl H s₁ E (x.keeps q)) (fun r s₂ q2 => ?_) fun xx xx e => e)
    obtain ⟨rfl, q2⟩ := q2
    cases r with
    | true => exact ⟨rfl, keeps_trans q q2⟩
    | false => simp only [Bool.false_eq_true, if_false]; exact wpAny_allTrue_Or_nil ⟨rfl, keeps_trans q q2⟩
theorem EV.ite {t e1 e2 : Expr} {p : Pos} {b : Bool} {d : D} (h : EB c ρ t b) (h1 : b = true → EV c ρ e1 d) (h2 : b = false → EV c ρ e2 d) : EV c ρ (.IfExp t e1 e2 p) d := fun H s x E => by
  refine wpAny_IfExp (wpAny_mono (h H s E x) (fun r s₁ q => ?_) fun xx xx e => e)
  obtain ⟨rfl, q⟩ := q
  cases r with
  | true => exact wpAny_mono (h1 rfl H s₁ (x.keeps q) E) (fun v s₂ q2 => ⟨keeps_trans q q2.1, q2.2⟩) fun xx xx e => e
  | false => exact wpAny_mono (h2 rfl H s₁ (x.keeps q) E) (fun v s₂ q2 => ⟨keeps_trans q q2.1, q2.2⟩) fun xx xx e => e

theorem subscripted_false (slice : Expr) (o i : Value) : ∃ l, subscripted slice false o i = operate l (getItem o i) := by
  cases slice
  case Slice l u s p => cases s <;> exact ⟨_, rfl⟩
  all_goals exact ⟨_, rfl⟩
noncomputable def tyOf : D → String
  | .str _ => "str"
  | .list _ => "list"
  | .tuple _ => "tuple"
  | .int _ => "int"
  | .bool _ => "bool"
  | _ => ""
noncomputable def hasTy : D → Bool
  | .str _ => true
  | .list _ => true
  | .tuple _ => true
  | .int _ => true
  | .bool _ => true
  | _ => false
theorem tyOf_ne {d : D} (h : hasTy d = true) : tyOf d ≠ "" := by
  cases d
  case str => exact (by decide : "str" ≠ "")
  case list => exact (by decide : "list" ≠ "")
  case tuple => exact (by decide : "tuple" ≠ "")
  case int => exact (by decide : "int" ≠ "")
  case bool => exact (by decide : "bool" ≠ "")
  all_goals exact Bool.noConfusion (show false = true from h)
theorem Rep.typeIs {Z : Mp} {v : Value} {d : D} (r : Rep Z v d) {s : Shared} (hz : ∀ a o, Z a = some o → s.heap.get? a = some o) (hd : tyOf d ≠ "") : s.TypeIs v (tyOf d) ∧ ∀ a, v = .ref a → ∃ ob, s.heap.get? a = some ob ∧ ob.dict = Option.none := by
  cases r with
  | none => exact absurd rfl hd
  | raw => exact absurd rfl hd
  | slc => exact absurd rfl hd
  | bnd => exact absurd rfl hd
  | sett => exact absurd rfl hd
  | lt => exact absurd rfl hd
  | ge => exact absurd rfl hd
  | bool b => exact ⟨rfl, fun a e => by cases e⟩
  | int i t => exact ⟨rfl, fun a e => by cases e⟩
  | str x t => exact ⟨rfl, fun a e => by cases e⟩
  | tuple h _ => exact ⟨⟨_, hz _ _ h, rfl⟩, fun a e => by cases e; exact ⟨_, hz _ _ h, rfl⟩⟩
  | list h _ => exact ⟨⟨_, hz _ _ h, rfl⟩, fun a e => by cases e; exact ⟨_, hz _ _ h, rfl⟩⟩
theorem sub_tail {e i : Expr} {a b : Value} {T id : String} {Q : Value → Shared → Prop} {E : Value → Shared → Prop} (hTy : s.TypeIs a T) (hl : typeLookup (.type T) "__getitem__" = pure (some (.builtin id))) (h : wpAny c.M c.A (getItem a b) Q E s) :
    wpAny c.M c.A (subscriptTail e i a b) Q E s := by
  unfold subscriptTail
  refine wpAny_bind ?_
  rw [getitemInPython_of_ne hTy.not_modules]
  refine wpAny_bind (wpAny_specialOf hTy hl ?_)
  obtain ⟨l, hs⟩ := subscripted_false i a b
  have fin : wpAny c.M c.A (subscripted i false a b) (fun r s₃ => wpAny c.M c.A (letTemporaryGo e a r >>= fun xx => pure r) Q E s₃) E s := by
    rw [hs]
    exact wpAny_operating (wpAny_mono h (fun r s₃ h₃ => wpAny_bind (wpAny_letTemporaryGo (wpAny_pure h₃))) fun xx xx x => x)
  first
    | exact wpAny_pure (wpAny_bind fin)
    | exact wpAny_bind (wpAny_pure (wpAny_bind fin))
    | exact wpAny_bind fin
theorem EV.sub {k : Nat} {e i : Expr} {p : Pos} {d1 d2 d : D} {id : String} (h1 : EV c ρ e d1) (h2 : EV c ρ i d2) (hd : hasTy d1 = true) (hl : typeLookup (.type (tyOf d1)) "__getitem__" = pure (some (.builtin id))) (o : Op2 c.toGx k getItem d1 d2 d) (hk : Rm c.A k) : EV c ρ (.Subscript e i p) d := fun H s h E => by
  refine Subscript_ (wpAny_mono (h1 H s h E) (fun a s₁ hqz0 => wpAny_mono (h2 H s₁ (h.keeps hqz0.1) E) (fun b s₂ hqz1 => ?_) fun xx xx e => e) fun xx xx e => e)
  obtain ⟨k1, r1⟩ := hqz0
  obtain ⟨k2, r2⟩ := hqz1
  have k12 := keeps_trans k1 k2
  have r1' := r1.mono (keeps_le (X := H) k2)
  refine sub_tail (r1'.typeIs (fun xx xx e => (Zof.get e).1) (tyOf_ne hd)).1 hl ?_
  exact wpAny_mono (o c.A s₂ H a b hk (h.keeps k12).ok r1' r2 E) (fun v s₃ kz7 => ⟨keeps_trans k12 kz7.1, kz7.2⟩) fun xx xx e => e
end
end Mine
end
section
set_option Elab.async false
set_option tactic.hygienic false
set_option linter.unusedVariables false
namespace Mine
open PySem PySem.W PySem.Calls PyProof.Rows

theorem RepL.of_zip {Z : Mp} {vs : List Value} {ds : List D} (e : vs.length = ds.length) (h : ∀ p ∈ vs.zip ds, Rep Z p.1 p.2) : RepL Z vs ds := by
  induction vs generalizing ds with
  | nil => cases len0 e.symm; exact .nil
  | cons v vs ih =>
    obtain ⟨d, ds, rfl, e2⟩ := lenS e.symm
    exact .cons (h (v, d) (.head _)) (ih e2.symm fun p hp => h p (.tail _ hp))
theorem RepL.zip {Z : Mp} {vs : List Value} {ds : List D} (h : RepL Z vs ds) : ∀ p ∈ vs.zip ds, Rep Z p.1 p.2 := by
  induction vs generalizing ds with
  | nil => intro p hp; cases hp
  | cons v vs ih =>
    intro p hp
    cases h with
    | cons r1 r2 =>
      cases hp with
      | head => exact r1
      | tail _ hp => exact ih r2 p hp

section
variable {c : Cx} {ρ ρ' : Rho} {s s' : Shared} {H : List Addr}

noncomputable def EVs (c : Cx) (ρ : Rho) (es : List Expr) (ds : List D) : Prop :=
  ∀ pos H s E, Rd c H ρ s → wpAny c.M c.A (spliced (backTo pos (starEach es c.env))) (fun vs s' => Keeps s s' ∧ RepL (Zof s'.heap H) vs ds) E s
theorem EVs.nil : EVs c ρ [] [] := fun pos H s E h => spliced_none ⟨keeps_refl s, .nil⟩
theorem EVs.cons {e : Expr} {es : List Expr} {d : D} {ds : List D} (h1 : EV c ρ e d) (h2 : EVs c ρ es ds) (he : ∀ env, starEach (e :: es) env = (false, eval e env) :: starEach es env) : EVs c ρ (e :: es) (d :: ds) := fun pos H s E h =>
  spliced_more (wpAny_mono (h1 H s h E) (fun v s₁ kz0 => wpAny_mono (h2 pos H s₁ E (h.keeps kz0.1)) (fun vs s₂ kz1 => ⟨keeps_trans kz0.1 kz1.1, .cons (kz0.2.mono (keeps_le kz1.1)) kz1.2⟩) fun xx xx e => e) fun xx xx e => e) (he _)
theorem EVs.star {e : Expr} {p : Pos} {es : List Expr} {ds es' : List D} (h1 : EV c ρ e (.list ds)) (h2 : EVs c ρ es es') (hsz : ds.length ≤ 1000) : EVs c ρ (.Starred e p :: es) (ds ++ es') := fun pos H s E h => by
  have e0 : backTo pos (starEach (.Starred e p :: es) c.env) = (true, (do let v ← eval e c.env; standAt pos; pure v)) :: backTo pos (starEach es c.env) := rfl
  rw [e0]
  refine ks_spliced (wpAny_mono (h1 H s h E) (fun v s₁ hqz0 => ?_) fun xx xx e => e)
  obtain ⟨k1, q⟩ := hqz0
  obtain ⟨a, vs, n, rfl, hz, hr⟩ := q.of_list
  have ha := (Zof.get hz).1
  have hlen := hr.length
  have hl : s₁.heap.IsList a vs.toArray := ⟨_, ha, rfl, n, rfl⟩
  unfold StarOf notIterableAtAll
  refine wpAny_bind (wpAny_specialOf hl.typeIs F.slot_list_iter.lookup ?_)
  refine wpAny_pure ⟨rfl, ?_⟩
  refine wpAny_collect_seq a (.inl rfl) ha rfl rfl (fun h' hk => ?_) (by simp [sizeLine]; lia)
  have k2 : Keeps s₁ { s₁ with heap := h' } := keeps_heap' hk
  refine wpAny_mono (h2 pos H _ E (h.keeps (keeps_trans k1 k2))) (fun ws s₂ kz2 => ?_) fun xx xx e => e
  obtain ⟨k3, r3⟩ := kz2
  refine ⟨keeps_trans k1 (keeps_trans k2 k3), ?_⟩
  simpa using (hr.mono (keeps_le (keeps_trans k2 k3))).append r3

theorem EV.list {es : List Expr} {p : Pos} {ds : List D} (h : EVs c ρ es ds) (hsz : ds.length ≤ sizeLine) : EV c ρ (.List es p) (.list ds) := fun H s x E => by
  refine wpAny_List (wpAny_mono (h p H s E x) (fun vs s₁ hqz0 => ?_) fun xx xx e => e)
  obtain ⟨k1, r⟩ := hqz0
  refine ⟨by rw [r.length]; exact hsz, keeps_trans k1 (keeps_push _ _), ?_⟩
  exact .list (n := 0) ((x.keeps k1).ok.new rfl) (r.mono (keeps_le (keeps_push _ _)))
theorem EV.tuple {es : List Expr} {k : Nat} {p : Pos} {ds : List D} (h : EVs c ρ es ds) (hsz : ds.length ≤ sizeLine) : EV c ρ (.Tuple es k p) (.tuple ds) := fun H s x E => by
  refine wpAny_Tuple (wpAny_mono (h p H s E x) (fun vs s₁ hqz0 => ?_) fun xx xx e => e)
  obtain ⟨k1, r⟩ := hqz0
  refine ⟨by rw [r.length]; exact hsz, keeps_trans k1 (keeps_push _ _), ?_⟩
  exact .tuple (n := 0) ((x.keeps k1).ok.new rfl) (r.mono (keeps_le (keeps_push _ _)))

noncomputable def EVo (c : Cx) (ρ : Rho) : Option Expr → D → Prop
  | none, d => d = .none
  | some e, d => EV c ρ e d
theorem EVo.part {o : Option Expr} {d : D} (h : EVo c ρ o d) (x : Rd c H ρ s) : Run c.M c.A (evalPart o c.env) s H d := by
  cases o with
  | none => cases h; exact Run.pure .none
  | some e => exact h H s x
theorem EV.slice {l u st : Option Expr} {p : Pos} {dl du ds : D} (h1 : EVo c ρ l dl) (h2 : EVo c ρ u du) (h3 : EVo c ρ st ds) : EV c ρ (.Slice l u st p) (.slc dl du ds) := fun H s x E => by
  refine wpAny_Slice (wpAny_mono (h1.part x E) (fun vl s₁ kz3 => wpAny_mono (h2.part (x.keeps kz3.1) E) (fun vu s₂ kz4 => wpAny_mono (h3.part (x.keeps (keeps_trans kz3.1 kz4.1)) E) (fun vs s₃ kz5 => ?_) fun xx xx e => e) fun xx xx e => e) fun xx xx e => e)
  obtain ⟨k1, r1⟩ := kz3
  obtain ⟨k2, r2⟩ := kz4
  obtain ⟨k3, r3⟩ := kz5
  have k123 := keeps_trans k1 (keeps_trans k2 k3)
  have kp := keeps_push s₃ { cls := .type "slice", data := .fields #[vl, vu, vs] }
  refine ⟨keeps_trans k123 kp, ?_⟩
  exact .slc ((x.keeps k123).ok.new rfl) (r1.mono (keeps_le (keeps_trans k2 (keeps_trans k3 kp)))) (r2.mono (keeps_le (keeps_trans k3 kp))) (r3.mono (keeps_le kp))

noncomputable def Callee (G : Heap) (f : Value) : Prop := (∃ id, f = .builtin id) ∨ (∃ T, f = .type T) ∨ ∃ a o fd, f = .ref a ∧ G.get? a = some o ∧ o.data = .func fd
theorem Callee.look {G : Heap} {f : Value} (h : Callee G f) {M : Model} : ∀ h' : Heap, (∀ b o, G.get? b = some o → h'.get? b = some o) → ∃ k, (k = Keeper.frame ∨ k = Keeper.machine ∨ k = Keeper.boundFrame) ∧ Looks M h' (keeperOf f) k := by
  intro h' hk
  rcases h with ⟨id, rfl⟩ | ⟨T, rfl⟩ | ⟨a, o, fd, rfl, e, hd⟩
  · exact ⟨_, .inr (.inl rfl), fun A Q E s xx hQ => wpAny_pure hQ⟩
  · exact ⟨_, .inr (.inl rfl), fun A Q E s xx hQ => wpAny_pure hQ⟩
  · refine ⟨.frame, .inl rfl, fun A Q E s k hQ => ?_⟩
    unfold keeperOf
    refine wpAny_bind (wpAny_load (k _ _ (hk _ _ e)) ?_)
    rw [hd]
    exact wpAny_pure hQ

end

noncomputable def noStar (es : List Expr) : Bool := es.all fun e => match e with | .Starred .. => false | _ => true
theorem noStar_tail {e : Expr} {es : List Expr} (h : noStar (e :: es) = true) : noStar es = true := (Bool.and_eq_true_iff.mp h).2
theorem starEach_cons_noStar {env : Env} {e : Expr} {es : List Expr} (h : noStar (e :: es) = true) : starEach (e :: es) env = (false, eval e env) :: starEach es env := by
  cases e
  case Starred => exact Bool.noConfusion (show false = true from h)
  all_goals rfl
theorem starEach_noStar {env : Env} {es : List Expr} (h : noStar es = true) (pos : Pos) : (backTo pos (starEach es env)).any (·.1) = false := by
  induction es with
  | nil => rfl
  | cons e es ih =>
    rw [starEach_cons_noStar h]
    simpa [backTo] using ih (noStar_tail h)

theorem evalArgs_gen {M : Model} {A : Around} {E : Value → Shared → Prop} {s : Shared} {f : Value} {args : List (Bool × Sem Value)} {Q : Args → Shared → Prop} (hn : ∀ x, args ≠ [(true, x)])
    (h : wpAny M A (spliced args) (fun vs s' => Q ⟨vs, []⟩ s') E s) : wpAny M A (evalArgs f true args []) Q E s := by
  have key : ∀ vs s', Q ⟨vs, []⟩ s' → wpAny M A (holding (vs ++ (none : Option Value).toList) (do
      let kw := (([] : List (Option Str × Sem Value)).filterMap (·.1)).zip (← evalAll (([] : List (Option Str × Sem Value)).map (·.2)))
      return (⟨vs, kw⟩ : Args))) Q E s' := fun vs s' h' => wpAny_holding (wpAny_bind (wpAny_pure (wpAny_pure h')))
  match args, hn, h with
  | [], _, h =>
    unfold evalArgs
    show wpAny M A (spliced [] >>= _) Q E s
    refine wpAny_bind (wpAny_mono h (fun vs s' h' => ?_) fun xx xx x => x)
    exact wpAny_holding (wpAny_bind (wpAny_pure (wpAny_bind (wpAny_pure (wpAny_pure h')))))
  | (false, x) :: r, _, h => exact evalArgs_plain h
  | (true, x) :: y :: r, _, h =>
    unfold evalArgs
    show wpAny M A (spliced ((true, x) :: y :: r) >>= _) Q E s
    refine wpAny_bind (wpAny_mono h (fun vs s' h' => ?_) fun xx xx x => x)
    exact wpAny_holding (wpAny_bind (wpAny_pure (wpAny_bind (wpAny_pure (wpAny_pure h')))))
  | [(true, x)], hn, _ => exact absurd rfl (hn x)


section
variable {c : Cx} {ρ ρ' : Rho} {s s' : Shared} {H : List Addr}
theorem callRaw {f : Value} {fd : List Value} {es : List Expr} {pos : Pos} {ds : List D} {E : Value → Shared → Prop} {Q : Value → Shared → Prop} (hf : Callee c.G f) (h2 : EVs c ρ es ds)
    (hn : ∀ env, ∀ x, backTo pos (starEach es env) ≠ [(true, x)]) (h : Rd c H ρ s) (hQ : ∀ vs s', Keeps s s' → RepL (Zof s'.heap H) vs ds → wpAny c.M c.A (call f (fd ++ vs)) Q E s') :
    wpAny c.M c.A (PySem.callWith pos f fd (backTo pos (starEach es c.env)) []) Q E s := by
  have main : wpAny c.M c.A (evalArgs f true (backTo pos (starEach es c.env)) []) (fun a s₁ => (∀ b o, c.G.get? b = some o → s₁.heap.get? b = some o) ∧ wpAny c.M c.A (call f (fd ++ a.pos) a.kw) Q E s₁) E s :=
    evalArgs_gen (hn _) (wpAny_mono (h2 pos H s E h) (fun vs s₁ kz5 => ⟨fun b o e => ((h.keeps kz5.1).ok.2.1 b o e).1, hQ vs s₁ kz5.1 kz5.2⟩) fun xx xx e => e)
  cases hst : (backTo pos (starEach es c.env)).any (·.1) with
  | true => exact ks_call (P := fun h => ∀ b o, c.G.get? b = some o → h.get? b = some o) hst (fun h hk => hf.look h hk) main
  | false => exact callWith_of (P := fun h => ∀ b o, c.G.get? b = some o → h.get? b = some o) (by simp [hst]) (fun h hk => hf.look h hk) main
theorem EV.call {k : Nat} {x : Str} {np p : Pos} {f : Value} {es : List Expr} {ds : List D} {d : D} (h1 : EV c ρ (.Name x np) (.raw f)) (h2 : EVs c ρ es ds) (hf : Callee c.G f) (hfn : Fn c.toGx k f ds d) (hk : Rm c.A k)
    (hn : ∀ pos env, ∀ x, backTo pos (starEach es env) ≠ [(true, x)]) : EV c ρ (.Call (.Name x np) es [] p) d := fun H s h E => by
  refine wpAny_Call_ofName (wpAny_mono (h1 H s h E) (fun v s₁ hqz0 => ?_) fun xx xx e => e)
  obtain ⟨k1, q⟩ := hqz0
  have e := q.of_raw
  subst e
  refine callRaw (fd := []) hf h2 (hn p) (h.keeps k1) fun vs s₂ k2 r => ?_
  exact wpAny_mono (hfn c.A s₂ H vs hk (h.keeps (keeps_trans k1 k2)).ok r E) (fun v s₃ kz6 => ⟨keeps_trans k1 (keeps_trans k2 kz6.1), kz6.2⟩) fun xx xx e => e

structure MethOk (c : Cx) (o : Expr) (name : Str) (es : List Expr) (apos p : Pos) : Prop where
  base : attributeBase o name c.env (eval o c.env) = eval o c.env
  plain : noStar es = true
  few : es.length < 30
  line : (apos.endLine == p.line) = true
theorem MethOk.form {o : Expr} {name : Str} {es : List Expr} {apos p : Pos} (k : MethOk c o name es apos p) : ((backTo p (starEach es c.env)).all (fun x => !x.1) && (backToKw p (keywordEach [] c.env)).all (fun x => x.1.isSome)
      && decide (es.length + ([] : List Keyword).length + (if ([] : List Keyword).isEmpty then 0 else 1) < 30)) = true := by
  have hany := starEach_noStar (env := c.env) k.plain p
  have e1 : (backTo p (starEach es c.env)).all (fun x => !x.1) = true := by
    rw [List.all_eq_true]; intro x hx
    have := List.any_eq_false.mp hany x hx
    simpa using this
  rw [e1]
  exact decide_eq_true (p := es.length + 0 + 0 < 30) k.few
theorem MethOk.nostar {o : Expr} {name : Str} {es : List Expr} {apos p : Pos} (k : MethOk c o name es apos p) : ∀ env, ∀ x, backTo p (starEach es env) ≠ [(true, x)] := fun env x e => by
  have := starEach_noStar (env := env) k.plain p
  rw [e] at this
  simp at this
theorem EV.meth {k : Nat} {o : Expr} {name : Str} {apos p : Pos} {id : String} {es : List Expr} {d0 : D} {ds : List D} {d : D} (h1 : EV c ρ o d0) (h2 : EVs c ρ es ds) (hfn : Fn c.toGx k (.builtin id) (d0 :: ds) d) (hk : Rm c.A k)
    (hd : hasTy d0 = true) (pa : PlainAttrs (tyOf d0)) (slot : PySem.Slot (tyOf d0) name id) (hty : typeOf (.builtin id) = pure (.type "method_descriptor")) (m : MethOk c o name es apos p) : EV c ρ (.Call (.Attribute o name apos) es [] p) d := fun H s h E => by
  refine wpAny_Call_method m.base m.form m.line pa slot hty (wpAny_mono (h1 H s h E) (fun v s₁ hqz0 => ?_) fun xx xx e => e)
  obtain ⟨k1, q⟩ := hqz0
  have t := q.typeIs (s := s₁) (fun a o e => (Zof.get e).1) (tyOf_ne hd)
  refine ⟨t.1, t.2, callRaw (fd := [v]) (.inl ⟨id, rfl⟩) h2 m.nostar (h.keeps k1) fun vs s₂ k2 r => ?_⟩
  exact wpAny_mono (hfn c.A s₂ H (v :: vs) hk (h.keeps (keeps_trans k1 k2)).ok (.cons (q.mono (keeps_le k2)) r) E) (fun v s₃ kz7 => ⟨keeps_trans k1 (keeps_trans k2 kz7.1), kz7.2⟩) fun xx xx e => e
end
end Mine
end
section
set_option Elab.async false
set_option tactic.hygienic false
set_option genSizeOf false
set_option genInjectivity false
set_option linter.unusedVariables false
namespace Mine
open PySem PySem.W PySem.Calls PyProof.Rows

noncomputable def upd (x : Str) (sl : Slot) : Rho → Rho
  | [] => [(x, sl)]
  | (y, t) :: r => if y = x then (x, sl) :: r.filter (fun p => !(p.1 == x)) else (y, t) :: upd x sl r

theorem VarsIs.look {Z : Mp} {h : Heap} {lk lk' : Str → Option Value} : ∀ {ρ : Rho} {fs : List Addr}, VarsIs Z h lk ρ fs → (∀ p ∈ ρ, lk' p.1 = lk p.1) → VarsIs Z h lk' ρ fs := by
  intro ρ
  induction ρ with
  | nil => exact fun x xx => x
  | cons p r ih =>
    intro fs hx hh
    obtain ⟨x, sl⟩ := p
    obtain ⟨v, f1, f2, e, l, q, y⟩ := hx
    exact ⟨v, f1, f2, e, (hh (x, sl) (.head _)).trans l, q, ih y fun p hp => hh p (.tail _ hp)⟩
theorem VarsIs.filter {Z : Mp} {h : Heap} {lk : Str → Option Value} (f : Str × Slot → Bool) : ∀ {ρ : Rho} {fs : List Addr}, VarsIs Z h lk ρ fs → ∃ gs, gs.Sublist fs ∧ VarsIs Z h lk (ρ.filter f) gs := by
  intro ρ
  induction ρ with
  | nil => exact fun x => ⟨[], by cases x; exact .slnil, rfl⟩
  | cons p r ih =>
    intro fs hx
    obtain ⟨x, sl⟩ := p
    obtain ⟨v, f1, f2, e, l, q, y⟩ := hx
    obtain ⟨gs, hg, hv⟩ := ih y
    subst e
    cases hf : f (x, sl) with
    | true => rw [List.filter_cons_of_pos hf]; exact ⟨f1 ++ gs, .append (.refl _) hg, v, f1, gs, rfl, l, q, hv⟩
    | false => rw [List.filter_cons_of_neg (by simp [hf])]; exact ⟨gs, hg.trans (List.sublist_append_right _ _), hv⟩
theorem VarsIs.sub {Z : Mp} {h : Heap} {lk : Str → Option Value} {ρ ρ' : Rho} (hs : ρ'.Sublist ρ) : ∀ {fs : List Addr}, VarsIs Z h lk ρ fs → ∃ gs, gs.Sublist fs ∧ VarsIs Z h lk ρ' gs := by
  induction hs with
  | slnil => intro fs x; exact ⟨[], by cases x; exact .slnil, rfl⟩
  | cons p hs ih =>
    intro fs hqz
    obtain ⟨v, f1, f2, e, l, q, y⟩ := hqz
    obtain ⟨gs, hg, hv⟩ := ih y
    exact ⟨gs, e ▸ hg.trans (List.sublist_append_right _ _), hv⟩
  | cons_cons p hs ih =>
    intro fs hqz
    obtain ⟨v, f1, f2, e, l, q, y⟩ := hqz
    obtain ⟨gs, hg, hv⟩ := ih y
    exact ⟨f1 ++ gs, e ▸ .append (.refl _) hg, v, f1, gs, rfl, l, q, hv⟩
theorem VarsIs.upd {Z : Mp} {h : Heap} {lk lk' : Str → Option Value} {x : Str} {sl : Slot} {v : Value} {f0 : List Addr} (hx : lk' x = some v) (hs : SlotIs Z h v sl f0) (hne : ∀ y, y ≠ x → lk' y = lk y) :
    ∀ {ρ : Rho} {fs : List Addr}, VarsIs Z h lk ρ fs → ∃ l r, (l ++ r).Sublist fs ∧ VarsIs Z h lk' (upd x sl ρ) (l ++ f0 ++ r) := by
  intro ρ
  induction ρ with
  | nil => exact fun y => ⟨[], [], by cases y; exact .slnil, v, f0, [], by simp, hx, hs, rfl⟩
  | cons p ρ ih =>
    intro fs hy
    obtain ⟨y, t⟩ := p
    obtain ⟨u, f1, f2, e, l, q, z⟩ := hy
    subst e
    unfold Mine.upd
    by_cases hy : y = x
    · rw [if_pos hy]
      obtain ⟨gs, hg, hv⟩ := z.filter (fun p => !(p.1 == x))
      refine ⟨[], gs, hg.trans (List.sublist_append_right _ _), v, f0, gs, by simp, hx, hs, hv.look fun p hp => hne p.1 ?_⟩
      have := (List.mem_filter.mp hp).2
      simpa using this
    · rw [if_neg hy]
      obtain ⟨l', r, hlr, hv⟩ := ih z
      refine ⟨f1 ++ l', r, ?_, u, f1, l' ++ f0 ++ r, by simp, (hne y hy).trans l, q, hv⟩
      rw [List.append_assoc]
      exact .append (.refl _) hlr

section
variable {c : Cx} {sg : Shared} {B : Mp} {Y : List Addr} {fs : List Addr} {m cm : Str → Option Value} {ρ ρ' : Rho} {T : List (Value × D)} {s s' : Shared}

theorem StO.shrink {gs : List Addr} (h : StO c sg B Y fs m cm ρ T s) (hg : gs.Sublist fs) (hv : VarsIs (Zof s.heap (c.env.locals :: (c.oc ++ fs) ++ Y)) s.heap (lookIn c.env m cm) ρ' gs) : StO c sg B Y gs m cm ρ' T s := by
  have hs : (c.env.locals :: (c.oc ++ gs)).Sublist (c.env.locals :: (c.oc ++ fs)) := .cons_cons _ (.append (.refl _) hg)
  have hz : Le (Zof s.heap (c.env.locals :: (c.oc ++ fs) ++ Y)) (Zof s.heap (c.env.locals :: (c.oc ++ gs) ++ Y)) := Zof.sub fun a ha => by
    rcases List.mem_append.mp ha with q | q
    · exact List.mem_append.mpr (.inl (hs.subset q))
    · exact List.mem_append.mpr (.inr q)
  exact ⟨h.nd.sublist hs, fun a ha => h.own a (hs.subset ha), h.hid, h.keep, h.base, h.ns, h.cells, hv.mono hz fun xx xx xx e => e, fun p hp => (h.temps p hp).mono hz, h.same, h.mono⟩
theorem St.weaken (h : St c sg B Y ρ T s) (hs : ρ'.Sublist ρ) : St c sg B Y ρ' T s := by
  obtain ⟨fs, m, cm, x⟩ := h
  obtain ⟨gs, hg, hv⟩ := x.vars.sub hs
  exact ⟨gs, m, cm, x.shrink hg hv⟩

theorem StO.stored {x : Str} {d : D} {v : Value} {a : Addr} {h' : Heap} {m' cm' : Str → Option Value} (h : StO c sg B Y fs m cm ρ ((v, d) :: T) s) (ha : a ∈ c.env.locals :: c.oc) (hs : Heap.SameBut a s.heap h') (hao : ∃ o, h'.get? a = some o)
    (hn : h'.Ns c.env.locals m') (hc : ∀ y b, c.env.cells.lookup y = some b → h'.IsCell b (cm' y)) (hx : lookIn c.env m' cm' x = some v) (hne : ∀ y, y ≠ x → lookIn c.env m' cm' y = lookIn c.env m cm y) (tk : Nat) (htk : s.toks ≤ tk) :
    St c sg B Y (upd x (.val d) ρ) T { s with heap := h', toks := tk } := by
  have hO : a ∈ c.env.locals :: (c.oc ++ fs) := by
    rcases List.mem_cons.mp ha with h | h
    · exact h ▸ .head _
    · exact .tail _ (List.mem_append.mpr (.inl h))
  have haf : a ∉ fs := fun q => by
    have nd := h.nd
    rcases List.mem_cons.mp ha with e | e
    · rw [List.nodup_cons] at nd; exact nd.1 (List.mem_append.mpr (.inr (e ▸ q)))
    · rw [List.nodup_cons, List.nodup_append] at nd; exact nd.2.2.2 a e a q rfl
  have ext : ∀ b o, b ≠ a → s.heap.get? b = some o → h'.get? b = some o := fun b o hb e => hs.extBut b o hb e
  have hz : Le (Zof s.heap (c.env.locals :: (c.oc ++ fs) ++ Y)) (Zof h' (c.env.locals :: (c.oc ++ fs) ++ Y)) := fun b o e => Zof.of (ext b o (fun q => (Zof.get e).2 (List.mem_append.mpr (.inl (q ▸ hO)))) (Zof.get e).1) (Zof.get e).2
  have hv := (h.vars.mono (h' := h') hz fun b hb o e => ext b o (fun q => haf (q ▸ hb)) e).upd (f0 := []) (sl := .val d) hx ⟨rfl, (h.temps (v, d) (by simp)).mono hz⟩ hne
  obtain ⟨l, r, hlr, hv⟩ := hv
  refine ⟨l ++ [] ++ r, m', cm', ?_⟩
  have hgs : (l ++ [] ++ r).Sublist fs := by simpa using hlr
  have hs2 : (c.env.locals :: (c.oc ++ (l ++ [] ++ r))).Sublist (c.env.locals :: (c.oc ++ fs)) := .cons_cons _ (.append (.refl _) hgs)
  have hz2 : Le (Zof h' (c.env.locals :: (c.oc ++ fs) ++ Y)) (Zof h' (c.env.locals :: (c.oc ++ (l ++ [] ++ r)) ++ Y)) := Zof.sub fun a ha => by
    rcases List.mem_append.mp ha with q | q
    · exact List.mem_append.mpr (.inl (hs2.subset q))
    · exact List.mem_append.mpr (.inr q)
  refine ⟨h.nd.sublist hs2, fun b hb => ?_, fun b hb => ?_, fun b o e => ?_, h.base, hn, fun y b e => ⟨hc y b e, (h.cells y b e).2⟩, hv.mono hz2 fun xx xx xx e => e, fun p hp => ((h.temps p (.tail _ hp)).mono hz).mono hz2, ?_, mono_up h.mono htk⟩
  · obtain ⟨x1, ⟨o, e⟩, x3⟩ := h.own b (hs2.subset hb)
    refine ⟨x1, ?_, x3⟩
    by_cases hb' : b = a
    · exact hb' ▸ hao
    · exact ⟨o, ext b o hb' e⟩
  · obtain ⟨o, e⟩ := h.hid b hb
    exact ⟨o, ext b o (fun q => (h.own a hO).2.2 (q ▸ hb)) e⟩
  · refine ext b o (fun q => ?_) (h.keep b o e)
    have := (h.own a hO).1
    rw [← q, e] at this; cases this
  · exact h.same.set h' tk

theorem St.storeL {x : Str} {d : D} {v : Value} {E : Value → Shared → Prop} (h : St c sg B Y ρ ((v, d) :: T) s) (hk : c.env.scope.kind = .function) (hl : c.env.kindOf x = some .local) :
    wpAny c.M c.A (storeName c.env x v) (fun xx s' => St c sg B Y (upd x (.val d) ρ) T s') E s := by
  obtain ⟨fs, m, cm, h⟩ := h
  refine wpAny_storeName_local hl h.ns (fun h' hn hs => ?_) (by rw [hk]; rfl)
  have ndL := h.nd
  rw [List.nodup_cons] at ndL
  refine h.stored (cm' := cm) (a := c.env.locals) (.head _) hs (by obtain ⟨o, _, _, e, _⟩ := hn; exact ⟨o, e⟩) hn (fun y b e => ?_) (by unfold lookIn; rw [if_pos hl]; simp) (fun y hy => by unfold lookIn; simp only [if_neg hy]) _ (Nat.le_succ _)
  obtain ⟨⟨o, e1, e2⟩, r⟩ := h.cells y b e
  refine ⟨o, hs.extBut b o (fun q => ?_) e1, e2⟩
  rcases r with r | ⟨r, o', e'⟩
  · exact ndL.1 (List.mem_append.mpr (.inl (q ▸ r)))
  · exact (h.own _ (.head _)).2.2 (q ▸ r)
theorem St.storeC {x : Str} {d : D} {v : Value} {a : Addr} {E : Value → Shared → Prop} (h : St c sg B Y ρ ((v, d) :: T) s) (hk : c.env.scope.kind = .function) (hl : c.env.kindOf x = some .cell) (ha : c.env.cells.lookup x = some a) (hoc : a ∈ c.oc)
    (hinj : ∀ y, c.env.cells.lookup y = some a → y = x) :
    wpAny c.M c.A (storeName c.env x v) (fun xx s' => St c sg B Y (upd x (.val d) ρ) T s') E s := by
  obtain ⟨fs, m, cm, h⟩ := h
  refine wpAny_storeName_cell hk hl ha (h.cells x a ha).1 fun h' hc hs => ?_
  have ndL := h.nd
  rw [List.nodup_cons] at ndL
  refine (h.stored (a := a) (.tail _ hoc) hs (by obtain ⟨o, e, _⟩ := hc; exact ⟨o, e⟩) (m' := m) (cm' := fun y => if y = x then some v else cm y) ?_ (fun y b e => ?_) ?_ (fun y hy => ?_) s.toks (Nat.le_refl _))
  · exact h.ns.at' fun o e => hs.extBut _ o (fun q => ndL.1 (List.mem_append.mpr (.inl (q ▸ hoc)))) e
  · by_cases hb : b = a
    · subst hb; have := hinj y e; subst this; simpa using hc
    · have hyx : y ≠ x := fun q => by subst q; rw [ha] at e; cases e; exact hb rfl
      obtain ⟨⟨o, e1, e2⟩, _⟩ := h.cells y b e
      exact ⟨o, hs.extBut b o hb e1, by simpa [hyx] using e2⟩
  · unfold lookIn; rw [if_neg (by rw [hl]; simp)]; simp
  · unfold lookIn; simp only [if_neg hy]

inductive Out where
  | next (ρ : Rho)
  | brk (ρ : Rho)
  | cont (ρ : Rho)
  | ret (d : D)
noncomputable def OutIs (c : Cx) (sg : Shared) (B : Mp) (Y : List Addr) (T : List (Value × D)) : Out → Flow → Shared → Prop
  | .next ρ, f, s => f = .next ∧ St c sg B Y ρ T s
  | .brk ρ, f, s => f = .brk ∧ St c sg B Y ρ T s
  | .cont ρ, f, s => f = .cont ∧ St c sg B Y ρ T s
  | .ret d, f, s => ∃ v, f = .ret v ∧ St c sg B Y [] ((v, d) :: T) s
noncomputable def EX1 (c : Cx) (ρ : Rho) (st : Stmt) (o : Out) : Prop := ∀ sg B Y T s E, St c sg B Y ρ T s → wpAny c.M c.A (exec st c.env) (OutIs c sg B Y T o) E s
noncomputable def EX (c : Cx) (ρ : Rho) (ss : List Stmt) (o : Out) : Prop := ∀ sg B Y T s E, St c sg B Y ρ T s → wpAny c.M c.A (execs ss c.env) (OutIs c sg B Y T o) E s

theorem EX.nil : EX c ρ [] (.next ρ) := fun sg B Y T s E h => wpAny_execs_nil ⟨rfl, h⟩
theorem EX.cons {st : Stmt} {ss : List Stmt} {o : Out} (h1 : EX1 c ρ st (.next ρ')) (h2 : EX c ρ' ss o) : EX c ρ (st :: ss) o := fun sg B Y T s E h =>
  wpAny_execs_cons (wpAny_mono (h1 sg B Y T s E h) (fun f s₁ q => by obtain ⟨rfl, q⟩ := q; exact h2 sg B Y T s₁ E q) fun xx xx e => e)
theorem EX.stop {st : Stmt} {ss : List Stmt} {o : Out} (h1 : EX1 c ρ st o) (ho : ∀ ρ, o ≠ .next ρ) : EX c ρ (st :: ss) o := fun sg B Y T s E h =>
  wpAny_execs_cons (wpAny_mono (h1 sg B Y T s E h) (fun f s₁ q => by
    cases o with
    | next ρ => exact absurd rfl (ho ρ)
    | brk ρ => obtain ⟨rfl, q⟩ := q; exact ⟨rfl, q⟩
    | cont ρ => obtain ⟨rfl, q⟩ := q; exact ⟨rfl, q⟩
    | ret d => obtain ⟨v, rfl, q⟩ := q; exact ⟨v, rfl, q⟩) fun xx xx e => e)
theorem EX.pre {ss : List Stmt} {o : Out} (hs : ρ'.Sublist ρ) (h : EX c ρ' ss o) : EX c ρ ss o := fun sg B Y T s E x => h sg B Y T s E (x.weaken hs)
theorem EX.post {ss : List Stmt} (h : EX c ρ ss (.next ρ')) {ρ'' : Rho} (hs : ρ''.Sublist ρ') : EX c ρ ss (.next ρ'') := fun sg B Y T s E x => wpAny_mono (h sg B Y T s E x) (fun f s' q => ⟨q.1, q.2.weaken hs⟩) fun xx xx e => e
theorem EX.conv {ss : List Stmt} {o o' : Out} (h : EX c ρ ss o) (e : o = o') : EX c ρ ss o' := e ▸ h
theorem EX1.conv {ss : Stmt} {o o' : Out} (h : EX1 c ρ ss o) (e : o = o') : EX1 c ρ ss o' := e ▸ h
theorem EX.convρ {ss : List Stmt} {o : Out} (h : EX c ρ' ss o) (e : ρ = ρ') : EX c ρ ss o := e ▸ h

theorem aug_read {k : Nat} {op : Operator} {e : Expr} {d0 d1 d : D} {v : Value} {Q : Value → Shared → Prop} {E : Value → Shared → Prop} (y : StO c sg B Y fs m cm ρ T s) (r0 : Rep (Zof s.heap (c.env.locals :: (c.oc ++ fs) ++ Y)) v d0) (h : EV c ρ e d1) (o : Op2 c.toGx k (inplaceOp op) d0 d1 d) (hr : Rm c.A k)
    (hQ : ∀ r s₁, St c sg B Y ρ ((r, d) :: T) s₁ → Q r s₁) : wpAny c.M c.A (eval e c.env) (fun w s₁ => wpAny c.M c.A (inplaceOp op v w) Q E s₁) E s :=
  y.ev h fun w s₁ k1 z => wpAny_mono (o c.A s₁ _ v w hr z.ok (r0.mono (keeps_le k1)) (z.temps (w, d1) (.head _)) E) (fun r s₂ kz0 => hQ r s₂ ⟨fs, m, cm, (((z.temps_sub fun p hp => .tail _ hp).keeps kz0.1).temp kz0.2)⟩) fun xx xx e => e
theorem EX1.ite {t : Expr} {b : Bool} {ss tt : List Stmt} {p : Pos} {o : Out} (h : EB c ρ t b) (h1 : b = true → EX c ρ ss o) (h2 : b = false → EX c ρ tt o) : EX1 c ρ (.If t ss tt p) o := fun sg B Y T s E y =>
  wpAny_If (y.eb h fun s₁ q => by
    cases b with
    | true => exact h1 rfl sg B Y T s₁ E q
    | false => exact h2 rfl sg B Y T s₁ E q)
theorem EX1.ret {e : Expr} {p : Pos} {d : D} (h : EV c ρ e d) : EX1 c ρ (.Return (some e) p) (.ret d) := fun sg B Y T s E y =>
  wpAny_Return_some (y.ev h fun v s₁ q => ⟨v, rfl, q.weaken (List.nil_sublist _)⟩)
theorem EX1.assert {e : Expr} {msg : Option Expr} {p : Pos} (h : EB c ρ e true) : EX1 c ρ (.Assert e msg p) (.next ρ) := fun sg B Y T s E y =>
  wpAny_Assert_holds (y.eb h fun s₁ q => ⟨rfl, rfl, q⟩)
theorem EX1.brk {p : Pos} : EX1 c ρ (.Break p) (.brk ρ) := fun sg B Y T s E y => wpAny_Break ⟨rfl, y⟩
end
end Mine
end
section
set_option Elab.async false
set_option tactic.hygienic false
set_option linter.unusedVariables false
namespace Mine
open PySem PySem.W PySem.Calls PyProof.Rows

noncomputable def newer (F : Mp) (h h' : Heap) : Mp := fun a => match F a with | some o => some o | none => if h.get? a = none then h'.get? a else none

noncomputable def isTup : Expr → Bool
  | .Tuple .. => true
  | _ => false
theorem isTup_elim {t : Expr} (h : isTup t = true) : ∃ elts k pos, t = .Tuple elts k pos := by
  cases t
  case Tuple => exact ⟨_, _, _, rfl⟩
  all_goals exact Bool.noConfusion h
abbrev TT (tt : Bool) (t : Expr) : Prop := (!tt || isTup t) = true
theorem tt_of {tt : Bool} {t : Expr} (h : TT tt t) (e : tt = true) : isTup t = true := by subst e; exact h
noncomputable abbrev L0 : Nat → D → D := fun xx d => d
structure Wk (tt : Bool) (lf : Nat → D → D) (lo : Nat) (M : Model) (A : Around) (F : Mp) (it : Value) (fp wr : List Addr) (items : List D) (P : Nat → Heap → Prop) (Mid : Nat → Value → Heap → Prop) : Prop where
  sub : ∀ b ∈ wr, b ∈ fp
  frame : ∀ i h h', P i h → (∀ b ∈ fp, ∀ o, h.get? b = some o → h'.get? b = some o) → P i h'
  alive : ∀ i h, P i h → ∀ b ∈ wr, ∃ o, h.get? b = some o
  next : ∀ i (s : Shared) (Q : Option Value → Shared → Prop) (E : Value → Shared → Prop) d, items[i]? = some d → lo ≤ s.toks → 0 < s.toks → P i s.heap → (∀ a o, F a = some o → s.heap.get? a = some o) →
    (∀ v h' tk, s.toks ≤ tk → Mid i v h' → Rep (newer F s.heap h') v (lf tk d) → (∀ b o, b ∉ wr → s.heap.get? b = some o → h'.get? b = some o) → (∀ b ∈ wr, ∃ o, h'.get? b = some o) → Q (some v) { s with heap := h', toks := tk }) → wpAny M A (pyNext it) Q E s
  go : ∀ (target : Expr) i v (s : Shared) (Q : Unit → Shared → Prop) (E : Value → Shared → Prop), (tt = true → isTup target = true) → Mid i v s.heap →
    (∀ h', P (i + 1) h' → (∀ b o, b ∉ wr → s.heap.get? b = some o → h'.get? b = some o) → Q () { s with heap := h' }) → wpAny M A (letOwnedTupleGo target it v) Q E s
  done : ∀ (s : Shared) (Q : Option Value → Shared → Prop) (E : Value → Shared → Prop), lo ≤ s.toks → 0 < s.toks → P items.length s.heap →
    (∀ h' tk, s.toks ≤ tk → (∀ b o, b ∉ wr → s.heap.get? b = some o → h'.get? b = some o) → Q none { s with heap := h', toks := tk }) → wpAny M A (pyNext it) Q E s
  self : ∀ i (s : Shared) (Q : Value → Shared → Prop) (E : Value → Shared → Prop), P i s.heap → Q it s → wpAny M A (pyIter it) Q E s

section
variable {tt : Bool} {lf : Nat → D → D} {c : Cx} {sg : Shared} {B : Mp} {Y : List Addr} {fs : List Addr} {m cm : Str → Option Value} {ρ ρ' : Rho} {T : List (Value × D)} {s s' : Shared}

noncomputable def Bx (h : Heap) (O : List Addr) : Mp := fun a => if a ∈ O then none else h.get? a
theorem Bx.get {h : Heap} {O : List Addr} {a : Addr} {o : Obj} (e : Bx h O a = some o) : h.get? a = some o ∧ a ∉ O := by
  unfold Bx at e; split at e
  · cases e
  · exact ⟨e, by assumption⟩
theorem Bx.of {h : Heap} {O : List Addr} {a : Addr} {o : Obj} (e : h.get? a = some o) (h1 : a ∉ O) : Bx h O a = some o := by
  unfold Bx; rw [if_neg h1]; exact e
theorem StO.le (h : StO c sg B Y fs m cm ρ T s) : Le B (Bx s.heap (c.env.locals :: (c.oc ++ fs))) := fun a o e => Bx.of (h.keep a o e) fun q => by have := (h.own a q).1; rw [e] at this; cases this
theorem StO.rebase (h : StO c sg B Y fs m cm ρ T s) : StO c sg (Bx s.heap (c.env.locals :: (c.oc ++ fs))) Y fs m cm ρ T s :=
  ⟨h.nd, fun a ha => ⟨by unfold Bx; rw [if_pos ha], (h.own a ha).2⟩, h.hid, fun b o e => (Bx.get e).1, fun b o e => ⟨h.le _ _ (h.base b o e).1, (h.base b o e).2⟩, h.ns, fun x a e => ⟨(h.cells x a e).1, (h.cells x a e).2.imp id fun hqz => ⟨hqz.1, hqz.2.imp fun o r' => h.le _ _ r'⟩⟩, h.vars, h.temps, h.same, h.mono⟩
theorem StO.unbase {B' : Mp} (h : StO c sg B' Y fs m cm ρ T s) (hle : Le B B') (hb : ∀ b o, c.G.get? b = some o → B b = some o ∧ b ∉ Y) (hc : ∀ x a, c.env.cells.lookup x = some a → a ∈ c.oc ∨ (a ∈ Y ∧ ∃ o, B a = some o)) : StO c sg B Y fs m cm ρ T s :=
  ⟨h.nd, fun a ha => ⟨by cases q : B a with | none => rfl | some o => (have := (h.own a ha).1; rw [hle a o q] at this; cases this), (h.own a ha).2⟩, h.hid, fun b o e => h.keep b o (hle b o e), hb, h.ns, fun x a e => ⟨(h.cells x a e).1, hc x a e⟩, h.vars, h.temps, h.same, h.mono⟩
theorem StO.hide {wr : List Addr} (h : StO c sg B Y fs m cm ρ T s) (k : Keeps s s') (hw : ∀ a ∈ wr, s.heap.get? a = none ∧ ∃ o, s'.heap.get? a = some o) : StO c sg B (wr ++ Y) fs m cm ρ T s' := by
  have x := h.keeps k
  have nw : ∀ {a o}, s.heap.get? a = some o → a ∉ wr := fun e q => by rw [(hw _ q).1] at e; cases e
  have hz : Le (Zof s.heap (c.env.locals :: (c.oc ++ fs) ++ Y)) (Zof s'.heap (c.env.locals :: (c.oc ++ fs) ++ (wr ++ Y))) := fun a o e => Zof.of (keeps_heap k _ _ (Zof.get e).1) fun q => by
    simp only [List.mem_append] at q
    rcases q with q | q | q
    · exact (Zof.get e).2 (List.mem_append.mpr (.inl q))
    · exact nw (Zof.get e).1 q
    · exact (Zof.get e).2 (List.mem_append.mpr (.inr q))
  refine ⟨x.nd, fun a ha => ⟨(x.own a ha).1, (x.own a ha).2.1, fun q => ?_⟩, fun a ha => ?_, x.keep, fun b o e => ⟨(x.base b o e).1, fun q => ?_⟩, x.ns, fun y a e => ⟨(x.cells y a e).1, (x.cells y a e).2.imp id fun kz0 => ⟨List.mem_append.mpr (.inr kz0.1), kz0.2⟩⟩, h.vars.mono hz fun a xx o e => keeps_heap k _ _ e, fun p hp => (h.temps p hp).mono hz, x.same, x.mono⟩
  · rcases List.mem_append.mp q with q | q
    · obtain ⟨o, e⟩ := (h.own a ha).2.1; exact nw e q
    · exact (h.own a ha).2.2 q
  · rcases List.mem_append.mp ha with q | q
    · exact (hw a q).2
    · exact x.hid a q
  · rcases List.mem_append.mp q with q | q
    · exact nw (h.ok.2.1 b o e).1 q
    · exact (h.base b o e).2 q
theorem StO.unhide {wr : List Addr} (h : StO c sg B (wr ++ Y) fs m cm ρ T s) (hc : ∀ x a, c.env.cells.lookup x = some a → a ∈ c.oc ∨ (a ∈ Y ∧ ∃ o, B a = some o)) : StO c sg B Y fs m cm ρ T s := by
  have hz : Le (Zof s.heap (c.env.locals :: (c.oc ++ fs) ++ (wr ++ Y))) (Zof s.heap (c.env.locals :: (c.oc ++ fs) ++ Y)) := Zof.sub fun a ha => by
    simp only [List.mem_append] at ha ⊢
    rcases ha with h | h
    · exact .inl h
    · exact .inr (.inr h)
  exact ⟨h.nd, fun a ha => ⟨(h.own a ha).1, (h.own a ha).2.1, fun q => (h.own a ha).2.2 (List.mem_append.mpr (.inr q))⟩, fun a ha => h.hid a (List.mem_append.mpr (.inr ha)), h.keep, fun b o e => ⟨(h.base b o e).1, fun q => (h.base b o e).2 (List.mem_append.mpr (.inr q))⟩, h.ns,
    fun x a e => ⟨(h.cells x a e).1, hc x a e⟩, h.vars.mono hz fun xx xx xx e => e, fun p hp => (h.temps p hp).mono hz, h.same, h.mono⟩
theorem StO.wr {wr : List Addr} {h' : Heap} {tk : Nat} (h : StO c sg B Y fs m cm ρ T s) (htk : s.toks ≤ tk) (hw : ∀ a ∈ wr, a ∈ Y ∧ B a = none ∧ ∃ o, h'.get? a = some o) (hk : ∀ b o, b ∉ wr → s.heap.get? b = some o → h'.get? b = some o) :
    StO c sg B Y fs m cm ρ T { s with heap := h', toks := tk } := by
  have hO : ∀ a ∈ c.env.locals :: (c.oc ++ fs), a ∉ wr := fun a ha q => (h.own a ha).2.2 (hw a q).1
  have hz : Le (Zof s.heap (c.env.locals :: (c.oc ++ fs) ++ Y)) (Zof h' (c.env.locals :: (c.oc ++ fs) ++ Y)) := fun a o e => Zof.of (hk _ _ (fun q => (Zof.get e).2 (List.mem_append.mpr (.inr (hw a q).1))) (Zof.get e).1) (Zof.get e).2
  have hfs : ∀ a ∈ fs, ∀ o, s.heap.get? a = some o → h'.get? a = some o := fun a ha o e => hk a o (hO a (.tail _ (List.mem_append.mpr (.inr ha)))) e
  refine ⟨h.nd, fun a ha => ⟨(h.own a ha).1, ?_, (h.own a ha).2.2⟩, fun a ha => ?_, fun b o e => hk b o (fun q => by rw [(hw b q).2.1] at e; cases e) (h.keep b o e), h.base, ?_, fun x a e => ⟨?_, (h.cells x a e).2⟩, h.vars.mono hz hfs, fun p hp => (h.temps p hp).mono hz, ?_, mono_up h.mono htk⟩
  · obtain ⟨o, e⟩ := (h.own a ha).2.1; exact ⟨o, hk _ _ (hO a ha) e⟩
  · by_cases q : a ∈ wr
    · exact (hw a q).2.2
    · obtain ⟨o, e⟩ := h.hid a ha; exact ⟨o, hk _ _ q e⟩
  · exact h.ns.at' fun o e => hk _ _ (hO _ (.head _)) e
  · obtain ⟨⟨o, e1, e2⟩, r⟩ := h.cells x a e
    refine ⟨o, hk _ _ (fun q => ?_) e1, e2⟩
    rcases r with r | ⟨_, o', r⟩
    · exact hO a (.tail _ (List.mem_append.mpr (.inl r))) q
    · rw [(hw a q).2.1] at r; cases r
  · exact h.same.set h' tk

theorem StO.move {wr X : List Addr} {h' : Heap} {tk : Nat} (h : StO c sg B (wr ++ Y) fs m cm ρ T s) (htk : s.toks ≤ tk) (hw : ∀ a ∈ wr, a ∉ Y ∧ B a = none) (hX : ∀ a ∈ X, s.heap.get? a = none ∧ ∃ o, h'.get? a = some o) (hk : ∀ b o, b ∉ wr → s.heap.get? b = some o → h'.get? b = some o)
    (hc : ∀ x a, c.env.cells.lookup x = some a → a ∈ c.oc ∨ (a ∈ Y ∧ ∃ o, B a = some o)) : StO c sg B (X ++ Y) fs m cm ρ T { s with heap := h', toks := tk } := by
  have hO : ∀ a ∈ c.env.locals :: (c.oc ++ fs), a ∉ wr := fun a ha q => (h.own a ha).2.2 (List.mem_append.mpr (.inl q))
  have nX : ∀ {a o}, s.heap.get? a = some o → a ∉ X := fun e q => by rw [(hX _ q).1] at e; cases e
  have hz : Le (Zof s.heap (c.env.locals :: (c.oc ++ fs) ++ (wr ++ Y))) (Zof h' (c.env.locals :: (c.oc ++ fs) ++ (X ++ Y))) := fun a o e => by
    obtain ⟨e1, e2⟩ := Zof.get e
    simp only [List.mem_append, not_or] at e2
    exact Zof.of (hk _ _ e2.2.1 e1) (by simp only [List.mem_append, not_or]; exact ⟨e2.1, nX e1, e2.2.2⟩)
  have hfs : ∀ a ∈ fs, ∀ o, s.heap.get? a = some o → h'.get? a = some o := fun a ha o e => hk a o (hO a (.tail _ (List.mem_append.mpr (.inr ha)))) e
  refine ⟨h.nd, fun a ha => ⟨(h.own a ha).1, ?_, fun q => ?_⟩, fun a ha => ?_, fun b o e => hk b o (fun q => by rw [(hw b q).2] at e; cases e) (h.keep b o e), fun b o e => ⟨(h.base b o e).1, fun q => ?_⟩, ?_, fun x a e => ⟨?_, (hc x a e).imp id fun kz1 => ⟨List.mem_append.mpr (.inr kz1.1), kz1.2⟩⟩, h.vars.mono hz hfs, fun p hp => (h.temps p hp).mono hz, ?_, mono_up h.mono htk⟩
  · obtain ⟨o, e⟩ := (h.own a ha).2.1; exact ⟨o, hk _ _ (hO a ha) e⟩
  · rcases List.mem_append.mp q with q | q
    · obtain ⟨o, e⟩ := (h.own a ha).2.1; exact nX e q
    · exact (h.own a ha).2.2 (List.mem_append.mpr (.inr q))
  · rcases List.mem_append.mp ha with q | q
    · exact (hX a q).2
    · obtain ⟨o, e⟩ := h.hid a (List.mem_append.mpr (.inr q)); exact ⟨o, hk _ _ (fun z => (hw a z).1 q) e⟩
  · rcases List.mem_append.mp q with q | q
    · exact nX (h.ok.2.1 b o e).1 q
    · exact (h.base b o e).2 (List.mem_append.mpr (.inr q))
  · exact h.ns.at' fun o e => hk _ _ (hO _ (.head _)) e
  · obtain ⟨⟨o, e1, e2⟩, r⟩ := h.cells x a e
    refine ⟨o, hk _ _ (fun q => ?_) e1, e2⟩
    rcases r with r | ⟨_, o', r⟩
    · exact hO a (.tail _ (List.mem_append.mpr (.inl r))) q
    · rw [(hw a q).2] at r; cases r
  · exact h.same.set h' tk
theorem StO.wrEnd {wr : List Addr} {h' : Heap} {tk : Nat} (h : StO c sg B (wr ++ Y) fs m cm ρ T s) (htk : s.toks ≤ tk) (hw : ∀ a ∈ wr, a ∉ Y ∧ B a = none) (hk : ∀ b o, b ∉ wr → s.heap.get? b = some o → h'.get? b = some o)
    (hc : ∀ x a, c.env.cells.lookup x = some a → a ∈ c.oc ∨ (a ∈ Y ∧ ∃ o, B a = some o)) : StO c sg B Y fs m cm ρ T { s with heap := h', toks := tk } :=
  h.move (X := []) htk hw (fun xx h => nomatch h) hk hc

inductive IterAt (tt : Bool) (lf : Nat → D → D) (lo : Nat) (M : Model) (A : Around) (H : List Addr) (items : List D) (it : Value) (s s₂ : Shared) : Prop
  | intro (k : Keeps s s₂) (wr fp : List Addr) (P : Nat → Heap → Prop) (Mid : Nat → Value → Heap → Prop) (F : Mp) (hw : ∀ a ∈ wr, s.heap.get? a = none) (W : Wk tt lf lo M A F it fp wr items P Mid) (h0 : P 0 s₂.heap)
      (hF : Le F (Zof s₂.heap (wr ++ H))) (hfp : ∀ b ∈ fp, b ∈ wr ∨ ∃ o, F b = some o)
noncomputable def IT (tt : Bool) (lf : Nat → D → D) (c : Cx) (ρ : Rho) (e : Expr) (items : List D) : Prop :=
  ∀ H s E, Rd c H ρ s → wpAny c.M c.A (eval e c.env) (fun x s₁ => wpAny c.M c.A (pyIter x) (fun it s₂ => IterAt tt lf c.lo c.M c.A H items it s s₂) E s₁) E s
noncomputable def AT (c : Cx) (ρ : Rho) (t : Expr) (d : D) (ρ' : Rho) : Prop :=
  ∀ sg B Y T s v E, St c sg B Y ρ ((v, d) :: T) s → wpAny c.M c.A (assign t c.env v) (fun xx s' => St c sg B Y ρ' T s') E s

inductive HeadAt (c : Cx) (sg : Shared) (B : Mp) (Y : List Addr) (T : List (Value × D)) (wr fp : List Addr) (P : Nat → Heap → Prop) (F : Mp) (i : Nat) (ρ : Rho) (s : Shared) : Prop
  | intro (fs : List Addr) (m cm : Str → Option Value) (x : StO c sg B (wr ++ Y) fs m cm ρ T s) (hP : P i s.heap) (hF : Le F (Zof s.heap (c.env.locals :: (c.oc ++ fs) ++ (wr ++ Y))))
    (hfp : ∀ b ∈ fp, b ∈ wr ∨ (b ∉ c.env.locals :: (c.oc ++ fs) ∧ ∃ o, s.heap.get? b = some o))

theorem StO.head {items : List D} {it : Value} (x : StO c sg B Y fs m cm ρ T s) (h : IterAt tt lf c.lo c.M c.A (c.env.locals :: (c.oc ++ fs) ++ Y) items it s s') :
    ∃ wr fp P Mid F, Wk tt lf c.lo c.M c.A F it fp wr items P Mid ∧ (∀ a ∈ wr, B a = none ∧ a ∉ Y) ∧ (∀ x a, c.env.cells.lookup x = some a → a ∈ c.oc ∨ (a ∈ Y ∧ ∃ o, B a = some o)) ∧ HeadAt c sg B Y T wr fp P F 0 ρ s' := by
  obtain ⟨k, wr, fp, P, Mid, F, hw, W, hP, hF, hfp⟩ := h
  refine ⟨wr, fp, P, Mid, F, W, fun a q => ⟨?_, fun z => ?_⟩, fun z a e => (x.cells z a e).2, fs, m, cm, x.hide k fun a q => ⟨hw a q, W.alive _ _ hP a q⟩, hP, fun a o e => ?_, fun b hb => ?_⟩
  · cases e : B a with
    | none => rfl
    | some o => have := x.keep a o e; rw [hw a q] at this; cases this
  · obtain ⟨o, e⟩ := x.hid a z; rw [hw a q] at e; cases e
  · obtain ⟨e1, e2⟩ := Zof.get (hF a o e)
    refine Zof.of e1 fun q => e2 ?_
    simp only [List.mem_append] at q ⊢
    rcases q with q | q | q
    · exact .inr (.inl q)
    · exact .inl q
    · exact .inr (.inr q)
  · rcases hfp b hb with r | ⟨o, e⟩
    · exact .inl r
    · obtain ⟨e1, e2⟩ := Zof.get (hF b o e)
      exact .inr ⟨fun q => e2 (List.mem_append.mpr (.inr (List.mem_append.mpr (.inl q)))), o, e1⟩

theorem StO.step {items : List D} {it : Value} {wr fp : List Addr} {P : Nat → Heap → Prop} {Mid : Nat → Value → Heap → Prop} {F : Mp} {i : Nat} {target : Expr} {d : D} {E : Value → Shared → Prop} {Q : Value → Unit → Shared → Prop}
    (x : StO c sg B (wr ++ Y) fs m cm ρ T s) (W : Wk tt lf c.lo c.M c.A F it fp wr items P Mid) (hw : ∀ a ∈ wr, B a = none ∧ a ∉ Y) (hP : P i s.heap) (hF : Le F (Zof s.heap (c.env.locals :: (c.oc ++ fs) ++ (wr ++ Y)))) (htt : TT tt target) (hd : items[i]? = some d)
    (hQ : ∀ v h' tk, s.toks ≤ tk → P (i + 1) h' → StO c sg B (wr ++ Y) fs m cm ρ ((v, lf tk d) :: T) { s with heap := h', toks := tk } → (∀ b o, b ∉ wr → s.heap.get? b = some o → h'.get? b = some o) → Q v () { s with heap := h', toks := tk }) :
    wpAny c.M c.A (pyNext it) (fun r s₁ => ∃ v, r = some v ∧ wpAny c.M c.A (letOwnedTupleGo target it v) (Q v) E s₁) E s := by
  refine W.next i s _ _ d hd x.mono.2.1 x.mono.2.2 hP (fun a o e => (Zof.get (hF a o e)).1) fun v h' tk htk hm hr hk ha => ⟨v, rfl, ?_⟩
  refine W.go target i v _ _ _ (tt_of htt) hm fun h'' hP'' hk'' => ?_
  have hwr : ∀ a ∈ wr, a ∈ wr ++ Y ∧ B a = none := fun a q => ⟨List.mem_append.mpr (.inl q), (hw a q).1⟩
  have x1 : StO c sg B (wr ++ Y) fs m cm ρ T { s with heap := h'', toks := tk } := by
    refine x.wr htk (fun a q => ⟨(hwr a q).1, (hwr a q).2, W.alive _ _ hP'' a q⟩) fun b o hb e => hk'' b o hb (hk b o hb e)
  have hz : Le (newer F s.heap h') (Zof h'' (c.env.locals :: (c.oc ++ fs) ++ (wr ++ Y))) := fun a o e => by
    unfold newer at e
    cases q : F a with
    | some o' =>
      rw [q] at e; cases e
      obtain ⟨e1, e2⟩ := Zof.get (hF a o q)
      have hn : a ∉ wr := fun q => e2 (List.mem_append.mpr (.inr (List.mem_append.mpr (.inl q))))
      exact Zof.of (hk'' _ _ hn (hk _ _ hn e1)) e2
    | none =>
      rw [q] at e
      simp only at e
      split at e
      · rename_i hn
        have na : a ∉ c.env.locals :: (c.oc ++ fs) ++ (wr ++ Y) := fun q => by
          rcases List.mem_append.mp q with q | q
          · obtain ⟨o', e'⟩ := (x.own a q).2.1; rw [hn] at e'; cases e'
          · obtain ⟨o', e'⟩ := x.hid a q; rw [hn] at e'; cases e'
        exact Zof.of (hk'' _ _ (fun q => na (List.mem_append.mpr (.inr (List.mem_append.mpr (.inl q))))) e) na
      · cases e
  exact hQ v h'' tk htk hP'' (x1.temp (hr.mono hz)) fun b o hb e => hk'' b o hb (hk b o hb e)

theorem StO.step' {items : List D} {it : Value} {wr fp : List Addr} {P : Nat → Heap → Prop} {Mid : Nat → Value → Heap → Prop} {F : Mp} {i : Nat} {target : Expr} {d : D} {E : Value → Shared → Prop} {Q : Value → Unit → Shared → Prop} {R : Option Value → Shared → Prop}
    (x : StO c sg B (wr ++ Y) fs m cm ρ T s) (W : Wk tt lf c.lo c.M c.A F it fp wr items P Mid) (hw : ∀ a ∈ wr, B a = none ∧ a ∉ Y) (hP : P i s.heap) (hF : Le F (Zof s.heap (c.env.locals :: (c.oc ++ fs) ++ (wr ++ Y)))) (htt : TT tt target) (hd : items[i]? = some d)
    (hR : ∀ v s₁, wpAny c.M c.A (letOwnedTupleGo target it v) (Q v) E s₁ → R (some v) s₁)
    (hQ : ∀ v h' tk, s.toks ≤ tk → P (i + 1) h' → StO c sg B (wr ++ Y) fs m cm ρ ((v, lf tk d) :: T) { s with heap := h', toks := tk } → (∀ b o, b ∉ wr → s.heap.get? b = some o → h'.get? b = some o) → Q v () { s with heap := h', toks := tk }) :
    wpAny c.M c.A (pyNext it) R E s := wpAny_mono (x.step W hw hP hF htt hd hQ) (fun r s₁ hqz => by obtain ⟨v, e, q⟩ := hqz; exact e ▸ hR v s₁ q) fun xx xx e => e

inductive Took (c : Cx) (sg : Shared) (B : Mp) (Y wr fp : List Addr) (P : Nat → Heap → Prop) (F : Mp) (i : Nat) (ρ : Rho) (T : List (Value × D)) (s₀ : Shared) (n : Nat) (vd : Value × D) (s : Shared) : Prop
  | intro (B' : Mp) (hn : c.lo ≤ n) (hs : n ≤ s.toks) (x : St c sg B' (wr ++ Y) ρ (vd :: T) s)
      (down : ∀ {ρ T s'}, St c sg B' (wr ++ Y) ρ T s' → St c sg B (wr ++ Y) ρ T s')
      (head : ∀ {ρ T s'}, St c sg B' (wr ++ Y) ρ T s' → HeadAt c sg B Y T wr fp P F (i + 1) ρ s')
      (keep : ∀ {ρ T s'}, St c sg B' (wr ++ Y) ρ T s' → ∀ b ∈ Y, b ∉ wr → ∀ o, s₀.heap.get? b = some o → s'.heap.get? b = some o)
theorem HeadAt.took {items : List D} {it : Value} {wr fp : List Addr} {P : Nat → Heap → Prop} {Mid : Nat → Value → Heap → Prop} {F : Mp} {i : Nat} {target : Expr} {d : D} {E : Value → Shared → Prop} {Q : Value → Unit → Shared → Prop} {R : Option Value → Shared → Prop}
    (h : HeadAt c sg B Y T wr fp P F i ρ s) (W : Wk tt lf c.lo c.M c.A F it fp wr items P Mid) (hw : ∀ a ∈ wr, B a = none ∧ a ∉ Y) (htt : TT tt target) (hd : items[i]? = some d)
    (hR : ∀ v s₁, wpAny c.M c.A (letOwnedTupleGo target it v) (Q v) E s₁ → R (some v) s₁)
    (hQ : ∀ v n s₁, Took c sg B Y wr fp P F i ρ T s n (v, lf n d) s₁ → Q v () s₁) : wpAny c.M c.A (pyNext it) R E s := by
  obtain ⟨fs, m, cm, x, hP, hF, hfp⟩ := h
  refine x.step' W hw hP hF htt hd hR fun v h'' tk htk hP'' x1 hk'' => hQ v tk _ ⟨Bx h'' (c.env.locals :: (c.oc ++ fs)), Nat.le_trans x.mono.2.1 htk, Nat.le_refl _, ⟨fs, m, cm, x1.rebase⟩, fun q => ?_, fun q => ?_, fun q b hb hbw o e => ?_⟩
  · obtain ⟨fs', m', cm', y⟩ := q
    exact ⟨fs', m', cm', y.unbase x1.le x.base fun z a e => (x.cells z a e).2⟩
  · obtain ⟨fs', m', cm', y⟩ := q
    have kp : ∀ b o, b ∉ c.env.locals :: (c.oc ++ fs) → h''.get? b = some o → _ := fun b o hb e => y.keep b o (Bx.of e hb)
    have nw : ∀ b o, b ∉ c.env.locals :: (c.oc ++ fs) → h''.get? b = some o → b ∉ c.env.locals :: (c.oc ++ fs') := fun b o hb e q => by
      have := (y.own b q).1; rw [Bx.of e hb] at this; cases this
    refine ⟨fs', m', cm', y.unbase x1.le x.base fun z a e => (x.cells z a e).2, W.frame _ _ _ hP'' fun b hb o e => kp b o (fun q => ?_) e, fun a o e => ?_, fun b hb => ?_⟩
    · rcases hfp b hb with r | r
      · exact (x.own b q).2.2 (List.mem_append.mpr (.inl r))
      · exact r.1 q
    · obtain ⟨e1, e2⟩ := Zof.get (hF a o e)
      have hnO : a ∉ c.env.locals :: (c.oc ++ fs) := fun q => e2 (List.mem_append.mpr (.inl q))
      have hg : h''.get? a = some o := hk'' _ _ (fun q => e2 (List.mem_append.mpr (.inr (List.mem_append.mpr (.inl q))))) e1
      exact Zof.of (kp a o hnO hg) fun q => (List.mem_append.mp q).elim (nw a o hnO hg) fun q => e2 (List.mem_append.mpr (.inr q))
    · rcases hfp b hb with r | ⟨r1, o, r2⟩
      · exact .inl r
      · by_cases hbw : b ∈ wr
        · exact .inl hbw
        · exact .inr ⟨nw b o r1 (hk'' _ _ hbw r2), o, kp b o r1 (hk'' _ _ hbw r2)⟩
  · obtain ⟨fs', m', cm', y⟩ := q
    exact y.keep b o (Bx.of (hk'' _ _ hbw e) fun q => (x.own b q).2.2 (List.mem_append.mpr (.inr hb)))
theorem St.unhide {wr : List Addr} (h : St c sg B (wr ++ Y) ρ T s) (hc : ∀ x a, c.env.cells.lookup x = some a → a ∈ c.oc ∨ (a ∈ Y ∧ ∃ o, B a = some o)) : St c sg B Y ρ T s := by
  obtain ⟨fs, m, cm, y⟩ := h
  exact ⟨fs, m, cm, y.unhide hc⟩
theorem HeadAt.turn {items : List D} {it : Value} {wr fp : List Addr} {P : Nat → Heap → Prop} {Mid : Nat → Value → Heap → Prop} {F : Mp} {i : Nat} {target : Expr} {d : D} {o : Out} {body : List Stmt} {E : Value → Shared → Prop} {Q : Flow → Shared → Prop} {R : Option Value → Shared → Prop}
    (W : Wk tt L0 c.lo c.M c.A F it fp wr items P Mid) (hw : ∀ a ∈ wr, B a = none ∧ a ∉ Y) (hc : ∀ x a, c.env.cells.lookup x = some a → a ∈ c.oc ∨ (a ∈ Y ∧ ∃ o, B a = some o)) (h : HeadAt c sg B Y T wr fp P F i ρ s)
    (hR : ∀ v s₁, wpAny c.M c.A (letOwnedTupleGo target it v) (fun xx s₁' => wpAny c.M c.A (assign target c.env v) (fun xx s₂ => wpAny c.M c.A (execs body c.env) Q E s₂) E s₁') E s₁ → R (some v) s₁)
    (htt : TT tt target) (hd : items[i]? = some d) (ht : AT c ρ target d ρ') (hb : EX c ρ' body o)
    (hQ : ∀ f s', (match o with
      | .next ρ => f = .next ∧ HeadAt c sg B Y T wr fp P F (i + 1) ρ s'
      | .cont ρ => f = .cont ∧ HeadAt c sg B Y T wr fp P F (i + 1) ρ s'
      | .brk ρ => f = .brk ∧ St c sg B Y ρ T s'
      | .ret d => ∃ v, f = .ret v ∧ St c sg B Y [] ((v, d) :: T) s') → Q f s') :
    wpAny c.M c.A (pyNext it) R E s := by
  refine h.took W hw htt hd hR fun v n s₁ q => ?_
  obtain ⟨B', _, _, x, down, head, _⟩ := q
  refine wpAny_mono (ht sg _ _ T _ v E x) (fun xx s₂ q2 => ?_) fun xx xx e => e
  refine wpAny_mono (hb sg _ _ T _ E q2) (fun f s₃ q => hQ f s₃ ?_) fun xx xx e => e
  cases o with
  | next ρ => exact ⟨q.1, head q.2⟩
  | cont ρ => exact ⟨q.1, head q.2⟩
  | brk ρ => exact ⟨q.1, (down q.2).unhide hc⟩
  | ret d => obtain ⟨v, e, y⟩ := q; exact ⟨v, e, (down y).unhide hc⟩

inductive Turn (N : Nat) (H : Nat → Shared → Prop) (n : Nat) (s : Shared) : Prop
  | intro (i : Nat) (hi : i ≤ N) (hn : n = N - i) (q : H i s)
theorem Turn.next {N n i : Nat} {H : Nat → Shared → Prop} {s : Shared} (h : i < N) (hn : n = N - i) (q : H (i + 1) s) : ∃ m, m < n ∧ Turn N H m s := ⟨N - (i + 1), hn ▸ Nat.sub_lt_sub_left h (Nat.lt_succ_self i), i + 1, h, rfl, q⟩
theorem Turn.last {N i : Nat} (hi : i ≤ N) (h : ¬ i < N) : i = N := Nat.le_antisymm hi (Nat.not_lt.mp h)
theorem EX1.for {target iter : Expr} {body : List Stmt} {p : Pos} {items : List D} (ρs ρt : Nat → Rho) (hi : IT tt L0 c (ρs 0) iter items) (ht : ∀ i d, items[i]? = some d → AT c (ρs i) target d (ρt i)) (hb : ∀ i d, items[i]? = some d → EX c (ρt i) body (.next (ρs (i + 1))))
    (hs : ∀ x, foldedSetIterable iter c.env x = pure x) (htt : autoParam (TT tt target) rflTac) : EX1 c (ρs 0) (.For target iter body [] p) (.next (ρs items.length)) := fun sg B Y T s E y0 => by
  obtain ⟨fs0, m0, cm0, y0⟩ := y0
  refine wpAny_For (wpAny_mono (hi _ s E y0.rd) (fun v s₁ q => wpAny_mono q (fun it s₂ q => ?_) fun xx xx e => e) fun xx xx e => e) hs
  obtain ⟨wr, fp, P, Mid, F, W, hw, hc, hd0⟩ := y0.head q
  refine codeAny_forLoop_any (Turn items.length fun i => HeadAt c sg B Y T wr fp P F i (ρs i)) (fun n s₁ q => ?_) (items.length - 0) ⟨0, Nat.zero_le _, rfl, hd0⟩
  obtain ⟨i, hi, hn, q⟩ := q
  by_cases h : i < items.length
  · refine q.turn W hw hc (fun v s₁ q => q) htt (List.getElem?_eq_getElem h) (ht i _ (List.getElem?_eq_getElem h)) (hb i _ (List.getElem?_eq_getElem h)) fun f s' q => ?_
    obtain ⟨rfl, q⟩ := q
    exact Turn.next h hn q
  · cases Turn.last hi h
    obtain ⟨fs, m, cm, x, hP, hF, hfp⟩ := q
    refine W.done s₁ _ _ x.mono.2.1 x.mono.2.2 hP fun h' tk htk hk => ?_
    exact wpAny_execs_nil ⟨rfl, fs, m, cm, x.wrEnd htk (fun a q => ⟨(hw a q).2, (hw a q).1⟩) hk hc⟩
theorem EX1.forTo {target iter : Expr} {body orelse : List Stmt} {p : Pos} {items : List D} (k : Nat) (hk : k < items.length) (ρs ρt : Nat → Rho) {o o' : Out} (hi : IT tt L0 c (ρs 0) iter items) (ht : ∀ i d, i ≤ k → items[i]? = some d → AT c (ρs i) target d (ρt i))
    (hb : ∀ i d, i < k → items[i]? = some d → EX c (ρt i) body (.next (ρs (i + 1)))) (he : ∀ x, items[k]? = some x → EX c (ρt k) body o) (ho : (∃ d, o = .ret d ∧ o' = .ret d) ∨ ∃ ρ', o = .brk ρ' ∧ o' = .next ρ')
    (hs : ∀ x, foldedSetIterable iter c.env x = pure x) (htt : TT tt target) : EX1 c (ρs 0) (.For target iter body orelse p) o' := fun sg B Y T s E y0 => by
  obtain ⟨fs0, m0, cm0, y0⟩ := y0
  refine wpAny_For (wpAny_mono (hi _ s E y0.rd) (fun v s₁ q => wpAny_mono q (fun it s₂ q => ?_) fun xx xx e => e) fun xx xx e => e) hs
  obtain ⟨wr, fp, P, Mid, F, W, hw, hc, hd0⟩ := y0.head q
  refine codeAny_forLoop_any (Turn k fun i => HeadAt c sg B Y T wr fp P F i (ρs i)) (fun n s₁ q => ?_) (k - 0) ⟨0, Nat.zero_le _, rfl, hd0⟩
  obtain ⟨i, hi, hn, q⟩ := q
  have hd := List.getElem?_eq_getElem (Nat.lt_of_le_of_lt hi hk)
  by_cases h : i < k
  · refine q.turn W hw hc (fun v s₁ q => q) htt hd (ht i _ hi hd) (hb i _ h hd) fun f s' q => ?_
    obtain ⟨rfl, q⟩ := q
    exact Turn.next h hn q
  · cases Turn.last hi h
    refine q.turn W hw hc (fun v s₁ q => q) htt hd (ht _ _ hi hd) (he _ hd) fun f s' q => ?_
    rcases ho with ⟨d, rfl, rfl⟩ | ⟨ρ', rfl, rfl⟩
    · obtain ⟨v, rfl, q⟩ := q
      exact ⟨v, rfl, q⟩
    · obtain ⟨rfl, q⟩ := q
      exact ⟨rfl, q⟩
theorem EX1.forStop {target iter : Expr} {body orelse : List Stmt} {p : Pos} {items : List D} (k : Nat) (hk : k < items.length) (ρs ρt : Nat → Rho) {d : D} (hi : IT tt L0 c (ρs 0) iter items) (ht : ∀ i d, i ≤ k → items[i]? = some d → AT c (ρs i) target d (ρt i))
    (hb : ∀ i d, i < k → items[i]? = some d → EX c (ρt i) body (.next (ρs (i + 1)))) (he : ∀ x, items[k]? = some x → EX c (ρt k) body (.ret d))
    (hs : ∀ x, foldedSetIterable iter c.env x = pure x) (htt : autoParam (TT tt target) rflTac) : EX1 c (ρs 0) (.For target iter body orelse p) (.ret d) :=
  EX1.forTo k hk ρs ρt hi ht hb he (.inl ⟨_, rfl, rfl⟩) hs htt
theorem EX1.forBrk {target iter : Expr} {body orelse : List Stmt} {p : Pos} {items : List D} (k : Nat) (hk : k < items.length) (ρs ρt : Nat → Rho) {ρ' : Rho} (hi : IT tt L0 c (ρs 0) iter items) (ht : ∀ i d, i ≤ k → items[i]? = some d → AT c (ρs i) target d (ρt i))
    (hb : ∀ i d, i < k → items[i]? = some d → EX c (ρt i) body (.next (ρs (i + 1)))) (he : ∀ x, items[k]? = some x → EX c (ρt k) body (.brk ρ'))
    (hs : ∀ x, foldedSetIterable iter c.env x = pure x) (htt : autoParam (TT tt target) rflTac) : EX1 c (ρs 0) (.For target iter body orelse p) (.next ρ') :=
  EX1.forTo k hk ρs ρt hi ht hb he (.inr ⟨_, rfl, rfl⟩) hs htt

end
end Mine
end
section
set_option Elab.async false
set_option tactic.hygienic false
set_option linter.unusedVariables false
namespace Mine
open PySem PySem.W PySem.Calls PyProof.Rows

section
variable {prog : Program} {w : World} {A : Around} {E : Value → Shared → Prop} {s : Shared}
theorem lotg_or (target : Expr) (it v : Value) : letOwnedTupleGo target it v = letOwnedTupleGo (.Tuple [] 0 ⟨0, 0, 0, 0⟩) it v ∨ letOwnedTupleGo target it v = pure () := by
  cases target
  case Tuple => exact .inl rfl
  case List => exact .inl rfl
  all_goals exact .inr rfl
theorem lotg_other {target : Expr} {I : Addr} {v : Value} {o : Obj} {n : String} {vs : Array Value} {Q : Unit → Shared → Prop} (ho : s.heap.get? I = some o) (hc : o.cls = .type n) (hd : o.data = .fields vs)
    (hn : ["enumerate", "zip", "dict_itemiterator", "dict_reverseitemiterator", "odict_iterator", "itertools.zip_longest", "itertools.pairwise"].contains n = false) (hQ : Q () s) : wpAny (model prog w) A (letOwnedTupleGo target (.ref I) v) Q E s := by
  rcases lotg_or target (.ref I) v with e | e
  · rw [e]
    cases v with
    | ref a =>
      refine wpAny_bind (wpAny_load ho ?_)
      rw [hc, hd]
      dsimp only
      rw [hn]
      exact wpAny_pure hQ
    | _ => exact wpAny_pure hQ
  · rw [e]
    exact wpAny_pure hQ
theorem lotg_val {target : Expr} {it v : Value} {Q : Unit → Shared → Prop} (hv : ∀ a, v ≠ .ref a) (hQ : Q () s) : wpAny (model prog w) A (letOwnedTupleGo target it v) Q E s := by
  rcases lotg_or target it v with e | e
  · rw [e]
    cases it with
    | ref r =>
      cases v with
      | ref a => exact absurd rfl (hv _)
      | _ => exact wpAny_pure hQ
    | _ => exact wpAny_pure hQ
  · rw [e]
    exact wpAny_pure hQ
end

theorem RepL.two {Z : Mp} {v1 v2 : Value} {d1 d2 : D} (h : RepL Z [v1, v2] [d1, d2]) : Rep Z v1 d1 ∧ Rep Z v2 d2 := by cases h with | cons a b => cases b with | cons b _ => exact ⟨a, b⟩
theorem newer_le (F : Mp) (h h' : Heap) : Le F (newer F h h') := fun a o e => by unfold newer; rw [e]

section
variable {prog : Program} {w : World} {A : Around}
theorem Wk.list {lo : Nat} (hh : A.handled = none) {F : Mp} (I a : Addr) (hne : a ≠ I) (vs : List Value) (ds : List D) (hr : RepL F vs ds) :
    Wk false L0 lo (model prog w) A F (.ref I) [I, a] [I] ds (fun i h => h.IsListIter I a i ∧ h.IsList a vs.toArray) (fun i v h => h.IsListIter I a (i + 1) ∧ h.IsList a vs.toArray) where
  sub := fun b hb => by simp at hb; simp [hb]
  frame := fun xx xx xx st hk => ⟨st.1.at fun o e => hk I (by simp) o e, st.2.at fun o e => hk a (by simp) o e⟩
  alive := fun i h st b hb => by simp at hb; subst hb; obtain ⟨o, e, _⟩ := st.1; exact ⟨o, e⟩
  next := fun i s Q E d hd xx xx st hF hQ => by
    obtain ⟨v, hv, r⟩ := hr.get hd
    refine wpAny_pyNext_list_item st.1 st.2 (x := v) (by simpa using hv) fun h' hit' hs' => ?_
    exact hQ v h' s.toks (Nat.le_refl _) ⟨hit', st.2.extBut hs'.extBut hne⟩ (r.mono (newer_le _ _ _)) (fun b o hb e => hs'.extBut b o (fun h => hb (by simp [h])) e) fun b hb => by
      simp at hb; subst hb; obtain ⟨o, e, _⟩ := hit'; exact ⟨o, e⟩
  go := fun target i v s Q E xx hm hQ => by
    obtain ⟨⟨o, e, hc, hd⟩, hl⟩ := id hm
    exact lotg_other e hc hd (by decide) (hQ s.heap hm fun xx xx xx e => e)
  done := fun s Q E xx xx st hQ => wpAny_pyNext_list_end hh st.1 st.2 (by simp [hr.length]) fun h' he' => hQ h' s.toks (Nat.le_refl _) (fun b o hb e => he' b o (fun h => hb (by simp [h])) e)
  self := fun i s Q E st hQ => wpAny_pyIter_listiter st.1 hQ
theorem Wk.tuple {lo : Nat} (hh : A.handled = none) {F : Mp} (I a : Addr) (hne : a ≠ I) (vs : List Value) (ds : List D) (hr : RepL F vs ds) :
    Wk false L0 lo (model prog w) A F (.ref I) [I, a] [I] ds (fun i h => h.IsTupleIter I a i ∧ h.IsTuple a vs.toArray) (fun i v h => h.IsTupleIter I a (i + 1) ∧ h.IsTuple a vs.toArray) where
  sub := fun b hb => by simp at hb; simp [hb]
  frame := fun xx xx xx st hk => ⟨st.1.at fun o e => hk I (by simp) o e, st.2.at fun o e => hk a (by simp) o e⟩
  alive := fun i h st b hb => by simp at hb; subst hb; obtain ⟨o, e, _⟩ := st.1; exact ⟨o, e⟩
  next := fun i s Q E d hd xx xx st hF hQ => by
    obtain ⟨v, hv, r⟩ := hr.get hd
    refine wpAny_pyNext_tuple_item st.1 st.2 (x := v) (by simpa using hv) fun h' hit' hs' => ?_
    exact hQ v h' s.toks (Nat.le_refl _) ⟨hit', st.2.extBut hs'.extBut hne⟩ (r.mono (newer_le _ _ _)) (fun b o hb e => hs'.extBut b o (fun h => hb (by simp [h])) e) fun b hb => by
      simp at hb; subst hb; obtain ⟨o, e, _⟩ := hit'; exact ⟨o, e⟩
  go := fun target i v s Q E xx hm hQ => by
    obtain ⟨⟨o, e, hc, hd⟩, hl⟩ := id hm
    exact lotg_other e hc hd (by decide) (hQ s.heap hm fun xx xx xx e => e)
  done := fun s Q E xx xx st hQ => wpAny_pyNext_tuple_end hh st.1 st.2 (by simp [hr.length]) fun h' he' => hQ h' s.toks (Nat.le_refl _) (fun b o hb e => he' b o (fun h => hb (by simp [h])) e)
  self := fun i s Q E st hQ => wpAny_pyIter_tupleiter st.1 hQ
noncomputable def chars (x : Str) : List D := x.cps.toList.map fun c => .str ⟨#[c]⟩
theorem Wk.str {lo : Nat} (hh : A.handled = none) {F : Mp} (I : Addr) (x : Str) (t : Tok) :
    Wk false L0 lo (model prog w) A F (.ref I) [I] [I] (chars x) (fun i h => h.IsStrIter I "str_ascii_iterator" x t i) (fun i v h => h.IsStrIter I "str_ascii_iterator" x t (i + 1) ∧ ∀ a, v ≠ .ref a) where
  sub := fun b hb => hb
  frame := fun xx xx xx st hk => by obtain ⟨o, e, r⟩ := st; exact ⟨o, hk I (by simp) o e, r⟩
  alive := fun i h st b hb => by simp at hb; subst hb; obtain ⟨o, e, _⟩ := st; exact ⟨o, e⟩
  next := fun i s Q E d hd xx xx st hF hQ => by
    have hd' : ∃ c, x.cps[i]? = some c ∧ d = .str ⟨#[c]⟩ := by
      simp only [chars, List.getElem?_map, Option.map_eq_some_iff] at hd
      obtain ⟨c, e, rfl⟩ := hd
      exact ⟨c, by simpa using e, rfl⟩
    obtain ⟨c, hc, rfl⟩ := hd'
    refine wpAny_pyNext_ascii_item st hc fun h' hit' hs' => ?_
    exact hQ _ h' _ (Nat.le_succ _) ⟨hit', fun a e => by cases e⟩ (.str _ _) (fun b o hb e => hs'.extBut b o (fun h => hb (by simp [h])) e) fun b hb => by
      simp at hb; subst hb; obtain ⟨o, e, _⟩ := hit'; exact ⟨o, e⟩
  go := fun target i v s Q E xx hm hQ => lotg_val hm.2 (hQ s.heap hm.1 fun xx xx xx e => e)
  done := fun s Q E xx xx st hQ => wpAny_pyNext_ascii_end hh st (by simp [chars]) fun h' he' => hQ h' s.toks (Nat.le_refl _) (fun b o hb e => he' b o (fun h => hb (by simp [h])) e)
  self := fun i s Q E st hQ => wpAny_pyIter_striter_ascii st hQ
noncomputable def rng (a : Int) (n : Nat) : List D := (List.range n).map fun (i : Nat) => D.int (a + (i : Int))
theorem Wk.range {lo : Nat} (hh : A.handled = none) {F : Mp} (I : Addr) (a : Int) (n : Nat) :
    Wk false L0 lo (model prog w) A F (.ref I) [I] [I] (rng a n) (fun i h => IsRangeIter h I (a + (i : Int)) ((n : Int) - (i : Int)) 1) (fun i v h => IsRangeIter h I (a + ((i + 1 : Nat) : Int)) ((n : Int) - ((i + 1 : Nat) : Int)) 1 ∧ ∀ a, v ≠ .ref a) where
  sub := fun b hb => hb
  frame := fun xx xx xx st hk => hk I (by simp) _ st
  alive := fun i h st b hb => by simp at hb; subst hb; exact ⟨_, st⟩
  next := fun i s Q E d hd xx xx st hF hQ => by
    have hi : i < n := by have := (List.getElem?_eq_some_iff.mp hd).1; simpa [rng] using this
    have hd' : d = .int (a + (i : Int)) := by simp [rng, hi] at hd; exact hd.symm
    subst hd'
    refine wpAny_pyNext_range_item st (by lia) fun h' hit' hs' => ?_
    refine hQ _ h' _ (Nat.le_succ _) ⟨?_, fun a e => by cases e⟩ (.int _ _) (fun b o hb e => hs'.extBut b o (fun h => hb (by simp [h])) e) fun b hb => by
      simp at hb; subst hb; exact ⟨_, hit'⟩
    have e1 : a + ((i + 1 : Nat) : Int) = a + (i : Int) + 1 := by lia
    have e2 : (n : Int) - ((i + 1 : Nat) : Int) = (n : Int) - (i : Int) - 1 := by lia
    rw [e1, e2]; exact hit'
  go := fun target i v s Q E xx hm hQ => lotg_val hm.2 (hQ s.heap hm.1 fun xx xx xx e => e)
  done := fun s Q E xx xx st hQ => wpAny_pyNext_range_end hh st (by simp [rng]) fun h' he' => hQ h' s.toks (Nat.le_refl _) (fun b o hb e => he' b o (fun h => hb (by simp [h])) e)
  self := fun i s Q E st hQ => wpAny_pyIter_rangeiter st hQ
end

section
variable {tt : Bool} {c : Cx} {sg : Shared} {B : Mp} {Y : List Addr} {fs : List Addr} {m cm : Str → Option Value} {ρ ρ' : Rho} {T : List (Value × D)} {s s' : Shared}
theorem fresh_none {h : Heap} : h.get? h.objs.size = none := by
  cases e : h.get? h.objs.size with
  | none => rfl
  | some o => exact absurd (Heap.lt_size e) (Nat.lt_irrefl _)
theorem fresh_of_keeps (k : Keeps s s') {a : Addr} (h : s'.heap.get? a = none) : s.heap.get? a = none := by
  cases e : s.heap.get? a with
  | none => rfl
  | some o => have := keeps_heap k _ _ e; rw [h] at this; cases this
theorem iterAt_push {lf : Nat → D → D} {lo : Nat} {M : Model} {A : Around} {H : List Addr} {items : List D} {o : Obj} {fp : List Addr} {P : Nat → Heap → Prop} {Mid : Nat → Value → Heap → Prop} (k : Keeps s s') (W : Wk tt lf lo M A (Zof s'.heap H) (.ref s'.heap.objs.size) fp [s'.heap.objs.size] items P Mid)
    (hP : P 0 (s'.heap.push o)) (hfp : ∀ b ∈ fp, b = s'.heap.objs.size ∨ ∃ o, Zof s'.heap H b = some o) : IterAt tt lf lo M A H items (.ref s'.heap.objs.size) s { s' with heap := s'.heap.push o } := by
  refine ⟨keeps_trans k (keeps_push _ _), _, fp, P, Mid, _, fun a ha => by simp at ha; subst ha; exact fresh_of_keeps k fresh_none, W, hP, fun a o' e => ?_, fun b hb => (hfp b hb).imp (fun h => by simp [h]) id⟩
  obtain ⟨e1, e2⟩ := Zof.get e
  refine Zof.of (Heap.get?_push_of_some _ e1) fun q => ?_
  rcases List.mem_append.mp q with q | q
  · simp at q; subst q; rw [fresh_none] at e1; cases e1
  · exact e2 q
theorem IT.list {k : Nat} {e : Expr} {ds : List D} (h : EV c ρ e (.list ds)) (hk : Rm c.A k) : IT false L0 c ρ e ds := fun H s E y => by
  refine wpAny_mono (h H s y E) (fun v s₁ hqz0 => ?_) fun xx xx e => e
  obtain ⟨k1, q⟩ := hqz0
  obtain ⟨a, vs, n, rfl, hz, hr⟩ := q.of_list
  have ha := (Zof.get hz).1
  have hl : s₁.heap.IsList a vs.toArray := ⟨_, ha, rfl, n, rfl⟩
  refine wpAny_pyIter_list hl ?_
  exact iterAt_push k1 (Wk.list hk.handled _ a (Nat.ne_of_lt (Heap.lt_size ha)) vs ds hr) ⟨⟨_, Heap.get?_push_size _ rfl, rfl, rfl⟩, hl.push _⟩ fun b hb => by
    simp at hb; rcases hb with rfl | rfl
    · exact .inl rfl
    · exact .inr ⟨_, hz⟩
theorem IT.tuple {k : Nat} {e : Expr} {ds : List D} (h : EV c ρ e (.tuple ds)) (hk : Rm c.A k) : IT false L0 c ρ e ds := fun H s E y => by
  refine wpAny_mono (h H s y E) (fun v s₁ hqz0 => ?_) fun xx xx e => e
  obtain ⟨k1, q⟩ := hqz0
  obtain ⟨a, vs, n, rfl, hz, hr⟩ := q.of_tuple
  have ha := (Zof.get hz).1
  have hl : s₁.heap.IsTuple a vs.toArray := ⟨_, ha, rfl, n, rfl⟩
  refine wpAny_pyIter_tuple hl ?_
  exact iterAt_push k1 (Wk.tuple hk.handled _ a (Nat.ne_of_lt (Heap.lt_size ha)) vs ds hr) ⟨⟨_, Heap.get?_push_size _ rfl, rfl, rfl⟩, hl.push _⟩ fun b hb => by
    simp at hb; rcases hb with rfl | rfl
    · exact .inl rfl
    · exact .inr ⟨_, hz⟩
theorem IT.str {k : Nat} {e : Expr} {x : Str} (h : EV c ρ e (.str x)) (hx : x.cps.all (· < 128) = true) (hk : Rm c.A k) : IT false L0 c ρ e (chars x) := fun H s E y => by
  refine wpAny_mono (h H s y E) (fun v s₁ hqz0 => ?_) fun xx xx e => e
  obtain ⟨k1, q⟩ := hqz0
  obtain ⟨t, rfl⟩ := q.of_str
  refine wpAny_pyIter_ascii hx ?_
  exact iterAt_push k1 (Wk.str hk.handled _ x t) ⟨_, Heap.get?_push_size _ rfl, rfl, rfl⟩ fun b hb => .inl (by simpa using hb)

theorem AT.name {x : Str} {p : Pos} {d : D} (hk : c.env.scope.kind = .function) (hl : c.env.kindOf x = some .local) : AT c ρ (.Name x p) d (upd x (.val d) ρ) := fun sg B Y T s v E h =>
  wpAny_assign_Name (h.storeL hk hl)
theorem AT.two {t1 t2 : Expr} {k : Nat} {p : Pos} {d1 d2 : D} {ρ1 ρ2 : Rho} {j : Nat} (h1 : AT c ρ t1 d1 ρ1) (h2 : AT c ρ1 t2 d2 ρ2) (hk : Rm c.A j) (hs : ∀ env, assignEach [t1, t2] env = [(false, assign t1 env), (false, assign t2 env)]) :
    AT c ρ (.Tuple [t1, t2] k p) (.tuple [d1, d2]) ρ2 := fun sg B Y T s v E h => by
  obtain ⟨fs, m, cm, x⟩ := h
  obtain ⟨a, vs, n, rfl, hz, hr⟩ := (x.temps (v, .tuple [d1, d2]) (by simp)).of_tuple
  have ha := (Zof.get hz).1
  have hlen := hr.length
  obtain ⟨v1, v2, rfl⟩ : ∃ v1 v2, vs = [v1, v2] := len2 hlen
  have ht : s.heap.IsTuple a #[v1, v2] := ⟨_, ha, rfl, n, rfl⟩
  refine wpAny_assign_Tuple hk.handled ht (by rw [hs]; rfl) (by rw [hs]; rfl) fun h' he => ?_
  rw [hs]
  have kp : Keeps s { s with heap := h' } := keeps_heap' fun b o e => he b o (Nat.ne_of_lt (Heap.lt_size e)) e
  have r2 := hr.mono (Zof.le (X := c.env.locals :: (c.oc ++ fs) ++ Y) (keeps_heap kp))
  have r := r2.two
  have x2 := (((x.keeps kp).temp r.2).temp r.1)
  refine wpAny_assignInOrder_more (wpAny_mono (h1 sg B Y _ _ v1 E ⟨fs, m, cm, x2⟩) (fun xx s₁ q => ?_) fun xx xx e => e)
  refine wpAny_assignInOrder_more (wpAny_mono (h2 sg B Y _ _ v2 E q) (fun xx s₂ q => ?_) fun xx xx e => e)
  exact wpAny_assignInOrder_none (q.temps_sub fun p hp => .tail _ hp)
end
end Mine
end
section
set_option Elab.async false
set_option tactic.hygienic false
set_option linter.unusedVariables false
namespace Mine
open PySem PySem.W PySem.Calls PyProof.Rows

section
variable {prog : Program} {w : World} {A : Around} {E : Value → Shared → Prop} {R : Result → Shared → Prop} {s : Shared}
theorem compLoop_any {elt target iter : Expr} {ifs : List Expr} {scope : Scope} {pos : Pos} {it acc : Value} {env : Env} (I : Nat → Shared → Prop)
    (turn : ∀ n s, I n s → wpAny (model prog w) A (pyNext it) (fun r s₁ => match r with
      | none => R (.ok .next) s₁
      | some v => wpAny (model prog w) A (letOwnedTupleGo target it v) (fun xx s₁' => wpAny (model prog w) A (assign target env v) (fun xx s₂ =>
          wpAny (model prog w) A (forIn ifs true fun c r => if r = true then do let ok ← isTrue c env (eval c env); pure (ForInStep.yield ok) else pure (ForInStep.yield r)) (fun ok s₃ =>
            if ok = true then wpAny (model prog w) A (eval elt env) (fun x s₄ =>
              wpAny (model prog w) A (call (.builtin "list.append") [acc, x]) (fun xx s₅ => ∃ m, m < n ∧ I m s₅) (notedBy (model prog w) A env fun e s' => R (.error e) s') s₄) (notedBy (model prog w) A env fun e s' => R (.error e) s') s₃
            else ∃ m, m < n ∧ I m s₃) (notedBy (model prog w) A env fun e s' => R (.error e) s') s₂) (notedBy (model prog w) A env fun e s' => R (.error e) s') s₁') (notedBy (model prog w) A env fun e s' => R (.error e) s') s₁) (notedBy (model prog w) A env fun e s' => R (.error e) s') s)
    (n : Nat) (h : I n s) :
    codeAny (model prog w) A (.compLoop (.ListComp elt [⟨target, iter, ifs, 0⟩] scope pos) 0 it acc env) R s := by
  refine codeAny_loop rfl I (fun n s hI => ?_) n h
  show wpAny _ A ((compTurn (.ListComp elt [⟨target, iter, ifs, 0⟩] scope pos) 0 it acc env).onRaise (fun x => do noteFrame x env; theTreesLotGoes x)) _ _ s
  refine wpAny_noted ?_
  rw [compTurn_list]
  refine wpAny_bind (wpAny_standAt (wpAny_bind (wpAny_mono (turn n s hI) (fun r s₁ h₁ => ?_) fun xx xx h' => h')))
  cases r with
  | none => exact wpAny_pure h₁
  | some v =>
    refine wpAny_bind (wpAny_mono h₁ (fun xx s₁' h₁ => ?_) fun xx xx h' => h')
    refine wpAny_bind (wpAny_mono h₁ (fun xx s₂ h₂ => wpAny_bind (wpAny_mono h₂ (fun ok s₃ h₃ => ?_) fun xx xx h' => h')) fun xx xx h' => h')
    cases ok with
    | false => exact wpAny_pure ⟨rfl, h₃⟩
    | true =>
      exact wpAny_bind (wpAny_bind (wpAny_mono h₃ (fun x s₄ h₄ => wpAny_bind (wpAny_mono h₄ (fun xx s₅ h₅ => wpAny_pure (wpAny_pure ⟨rfl, h₅⟩)) fun xx xx h' => h')) fun xx xx h' => h'))
end

noncomputable def TB (c : Cx) (ρ : Rho) (ifs : List Expr) (b : Bool) : Prop :=
  ∀ H s E, Rd c H ρ s → wpAny c.M c.A (forIn ifs true fun t r => if r = true then do let ok ← isTrue t c.env (eval t c.env); pure (ForInStep.yield ok) else pure (ForInStep.yield r)) (fun ok s' => ok = b ∧ Keeps s s') E s
theorem TB.nil {c : Cx} {ρ : Rho} : TB c ρ [] true := fun H s E h => wpAny_tests_nil ⟨rfl, keeps_refl s⟩
theorem TB.one {c : Cx} {ρ : Rho} {t : Expr} {b : Bool} (h : EB c ρ t b) : TB c ρ [t] b := fun H s E x => wpAny_tests_one (h H s E x)

inductive CE (c : Cx) (ρ₀ : Rho) (target : Expr) (ifs : List Expr) (elt : Expr) (d : D) (r : Option D) : Prop
  | intro (ρt : Rho) (h1 : AT c ρ₀ target d ρt) (h2 : ρ₀.Sublist ρt) (h3 : (r = none ∧ TB c ρt ifs false) ∨ ∃ y, r = some y ∧ TB c ρt ifs true ∧ EV c ρt elt y)
theorem CE.mk {c : Cx} {ρ₀ ρt : Rho} {target elt : Expr} {d y : D} (h1 : AT c ρ₀ target d ρt) (h2 : ρ₀.Sublist ρt) (h3 : EV c ρt elt y) : CE c ρ₀ target [] elt d (some y) := ⟨ρt, h1, h2, .inr ⟨y, rfl, .nil, h3⟩⟩
theorem CE.test {c : Cx} {ρ₀ ρt : Rho} {target elt t : Expr} {d y : D} {b : Bool} (h1 : AT c ρ₀ target d ρt) (h2 : ρ₀.Sublist ρt) (hb : EB c ρt t b) (h3 : b = true → EV c ρt elt y) : CE c ρ₀ target [t] elt d (if b then some y else none) := by
  refine ⟨ρt, h1, h2, ?_⟩
  cases b with
  | false => exact .inl ⟨rfl, .one hb⟩
  | true => exact .inr ⟨y, rfl, .one hb, h3 rfl⟩

noncomputable def Cx.inComp (c : Cx) (scope : Scope) (cl : List (Str × Addr)) (C : Addr) : Cx := { c with env := compEnvC scope cl C c.env, oc := [] }

structure CompOk (c : Cx) (ρ : Rho) (scope : Scope) (cl : List (Str × Addr)) (ρ₀ : Rho) : Prop where
  clos : closureFor scope c.env = pure cl
  kind : scope.kind = .function
  names : ∀ y ∈ scope.names, y.2 = .local → scope.names.lookup y.1 = some .local
  cell : ∀ y ∈ scope.names, y.2 ≠ .cell
  cells : ∀ x a, cl.lookup x = some a → c.env.cells.lookup x = some a
  free : ∀ p ∈ ρ₀, ∃ d, p.2 = .val d ∧ (p.1, Slot.val d) ∈ ρ ∧ c.env.kindOf p.1 ≠ some .local ∧ (relabel scope c.env).names.lookup p.1 ≠ some .local

section
variable {tt : Bool} {c : Cx} {sg : Shared} {B : Mp} {Y : List Addr} {fs : List Addr} {m cm : Str → Option Value} {ρ ρ₀ ρ' : Rho} {T : List (Value × D)} {s s' : Shared}

theorem Bx.none {h : Heap} {O : List Addr} {a : Addr} (e : h.get? a = Option.none) : Bx h O a = Option.none := by unfold Bx; split; rfl; exact e
theorem HeadAt.temps_sub {wr fp : List Addr} {P : Nat → Heap → Prop} {F : Mp} {i : Nat} {T' : List (Value × D)} (h : HeadAt c sg B Y T wr fp P F i ρ s) (hs : ∀ p ∈ T', p ∈ T) : HeadAt c sg B Y T' wr fp P F i ρ s := by
  obtain ⟨fs, m, cm, x, h1, h2, h3⟩ := h
  exact ⟨fs, m, cm, x.temps_sub hs, h1, h2, h3⟩
theorem HeadAt.pos {wr fp : List Addr} {P : Nat → Heap → Prop} {F : Mp} {i : Nat} (h : HeadAt c sg B Y T wr fp P F i ρ s) : P i s.heap := by
  obtain ⟨_, _, _, _, h, _, _⟩ := h; exact h
theorem HeadAt.put {wr fp : List Addr} {P : Nat → Heap → Prop} {F : Mp} {i : Nat} {a : Addr} {h5 : Heap} {tk : Nat} (h : HeadAt c sg B Y T wr fp P F i ρ s)
    (fr : ∀ i h h', P i h → (∀ b ∈ fp, ∀ o, h.get? b = some o → h'.get? b = some o) → P i h') (hY : a ∈ Y) (hB : B a = none) (hfa : a ∉ fp) (hF : ∀ o, F a ≠ some o) (htk : s.toks ≤ tk) (ho : ∃ o, h5.get? a = some o) (ext : ∀ b o, b ≠ a → s.heap.get? b = some o → h5.get? b = some o) :
    HeadAt c sg B Y T wr fp P F i ρ { s with heap := h5, toks := tk } := by
  obtain ⟨fs, m, cm, x, h1, h2, h3⟩ := h
  have ne : ∀ {b}, b ∈ fp → b ≠ a := fun hb q => hfa (q ▸ hb)
  refine ⟨fs, m, cm, x.wr (wr := [a]) htk (fun b hb => ?_) (fun b o hb e => ext b o (fun q => hb (q ▸ .head _)) e), fr _ _ _ h1 fun b hb o e => ext b o (ne hb) e, fun b o e => ?_, fun b hb => (h3 b hb).imp id fun q => ⟨q.1, q.2.imp fun o e => ext b o (ne hb) e⟩⟩
  · cases List.mem_singleton.mp hb
    exact ⟨List.mem_append.mpr (.inr hY), hB, ho⟩
  · exact Zof.of (ext b o (fun q => hF o (q ▸ e)) (Zof.get (h2 b o e)).1) (Zof.get (h2 b o e)).2
inductive CompIn (tt : Bool) (c : Cx) (H : List Addr) (s s₂ : Shared) (it : Value) (items : List D) (scope : Scope) (cl : List (Str × Addr)) (C D' : Addr) (ρ₀ : Rho) (ob : Obj) (s₁ : Shared) : Prop
  | intro (wr fp : List Addr) (P : Nat → Heap → Prop) (Mid : Nat → Value → Heap → Prop) (F : Mp) (W : Wk tt L0 c.lo c.M c.A F it fp wr items P Mid) (hw1 : ∀ a ∈ wr, Bx s₂.heap wr a = none ∧ a ∉ D' :: H) (hw : ∀ a ∈ wr, s.heap.get? a = none)
      (hDw : D' ∉ wr) (hDB : Bx s₂.heap wr D' = none) (hDfp : D' ∉ fp) (hDF : ∀ o, F D' ≠ some o) (hDH : D' ∉ C :: H) (hCs : s.heap.get? C = none) (acc : s₁.heap.get? D' = some ob) (hd : HeadAt (c.inComp scope cl C) s₂ (Bx s₂.heap wr) (D' :: H) [] wr fp P F 0 ρ₀ s₁)
theorem comp_pre {H : List Addr} {s₂ : Shared} {scope : Scope} {cl : List (Str × Addr)} {items : List D} {it : Value} {C D' : Addr} {h₁ : Heap} {tk : Nat} {ob : Obj} (x : ∃ fs m cm, StX c H fs m cm ρ s) (k2 : Keeps s s₂) (hw : ∀ a ∈ wr, s.heap.get? a = none) {P : Nat → Heap → Prop} {Mid : Nat → Value → Heap → Prop} {F : Mp} (W : Wk tt L0 c.lo c.M c.A F it fp wr items P Mid) (hP : P 0 s₂.heap)
    (hF : Le F (Zof s₂.heap (wr ++ H))) (hfp : ∀ b ∈ fp, b ∈ wr ∨ ∃ o, F b = some o) (K : CompOk c ρ scope cl ρ₀) (hDC : D' ≠ C) (hDn : s₂.heap.get? D' = none) (hCn : s₂.heap.get? C = none) (old : ∀ b o, s₂.heap.get? b = some o → h₁.get? b = some o) (hacc : h₁.get? D' = some ob)
    (hns₁ : h₁.Ns C fun y => ([] : List (Str × Value)).reverse.lookup y) (htk : s₂.toks ≤ tk) : CompIn tt c H s s₂ it items scope cl C D' ρ₀ ob { s₂ with heap := h₁, toks := tk } := by
  obtain ⟨fs, m, cm, x⟩ := x
  have neC : ∀ {a o}, s₂.heap.get? a = some o → a ≠ C := fun e q => by rw [q, hCn] at e; cases e
  have neD : ∀ {a o}, s₂.heap.get? a = some o → a ≠ D' := fun e q => by rw [q, hDn] at e; cases e
  have up : ∀ {a o}, s.heap.get? a = some o → s₂.heap.get? a = some o := fun e => keeps_heap k2 _ _ e
  have nw : ∀ {a o}, s.heap.get? a = some o → a ∉ wr := fun e q => by rw [hw _ q] at e; cases e
  have Hal : ∀ a ∈ H, ∃ o, s₂.heap.get? a = some o := fun a q => (x.ok.1 a q).imp fun o e => up e
  have wal : ∀ a ∈ wr, ∃ o, s₂.heap.get? a = some o := fun a q => W.alive _ _ hP a q
  have hYal : ∀ a ∈ wr ++ D' :: H, a = D' ∨ ∃ o, s₂.heap.get? a = some o := fun a ha =>
    (List.mem_append.mp ha).elim (fun q => .inr (wal a q)) fun q => (List.mem_cons.mp q).imp id (Hal a)
  have hCY : C ∉ wr ++ D' :: H := fun q => (hYal C q).elim (fun e => hDC e.symm) fun hqe => hqe.elim fun o e => neC e rfl
  have hDw : D' ∉ wr := fun q => by obtain ⟨o, e⟩ := wal D' q; exact neD e rfl
  have hDH : D' ∉ H := fun q => by obtain ⟨o, e⟩ := Hal D' q; exact neD e rfl
  have out : ∀ {a o}, s₂.heap.get? a = some o → a ∉ wr → a ∉ H → a ∉ C :: ([] ++ ([] : List Addr)) ++ (wr ++ D' :: H) := fun e h1 h2 q =>
    (List.mem_append.mp q).elim (fun q => neC e (List.mem_singleton.mp q)) fun q => (List.mem_append.mp q).elim h1 fun q => (List.mem_cons.mp q).elim (neD e) h2
  have hz0 : Le (Zof s.heap H) (Zof h₁ (C :: ([] ++ ([] : List Addr)) ++ (wr ++ D' :: H))) := fun a o e =>
    Zof.of (old _ _ (up (Zof.get e).1)) (out (up (Zof.get e).1) (nw (Zof.get e).1) (Zof.get e).2)
  have hB0 : ∀ {a o}, s.heap.get? a = some o → Bx s₂.heap wr a = some o := fun e => Bx.of (up e) (nw e)
  have hFn : ∀ {a o}, F a = some o → s₂.heap.get? a = some o := fun e => (Zof.get (hF _ _ e)).1
  refine ⟨wr, fp, P, Mid, F, W, fun a q => ⟨by unfold Bx; rw [if_pos q], fun z => (List.mem_cons.mp z).elim (fun z => hDw (z ▸ q)) fun z => ?_⟩, hw, hDw, Bx.none hDn, fun q => ?_, fun o e => neD (hFn e) rfl, fun q => (List.mem_cons.mp q).elim hDC hDH, fresh_of_keeps k2 hCn, hacc,
    [], _, cm, ⟨by simp [Cx.inComp], fun a ha => ?_, fun a ha => ?_, fun b o e => old b o (Bx.get e).1, fun b o e => ?_, hns₁, fun y a e => ?_, ?_, fun p hp => (nomatch hp), ⟨rfl, id⟩, ⟨htk, show c.lo ≤ tk from Nat.le_trans (Nat.le_trans x.ok.2.2.1 (keeps_toks k2)) htk, show 0 < tk from Nat.lt_of_lt_of_le (Nat.lt_of_lt_of_le x.ok.2.2.2 (keeps_toks k2)) htk⟩⟩, W.frame _ _ _ hP fun b xx o e => old b o e, fun a o e => ?_, fun b hb => ?_⟩
  · obtain ⟨o, e⟩ := x.ok.1 a z; exact nw e q
  · exact (hfp _ q).elim hDw fun hqe => hqe.elim fun o e => neD (hFn e) rfl
  · have ha' : a = C := by simpa [Cx.inComp, compEnvC] using ha
    rw [ha']
    refine ⟨Bx.none hCn, ?_, hCY⟩
    obtain ⟨o, _, _, e, _⟩ := hns₁; exact ⟨o, e⟩
  · exact (hYal a ha).elim (fun e => ⟨_, e ▸ hacc⟩) fun hqe => hqe.elim fun o e => ⟨o, old _ _ e⟩
  · have ok := x.ok.2.1 b o e
    exact ⟨hB0 ok.1, fun q => (List.mem_append.mp q).elim (nw ok.1) fun q => (List.mem_cons.mp q).elim (neD (up ok.1)) ok.2⟩
  · have e' := K.cells y a e
    obtain ⟨o, e1, e2⟩ := x.cells y a e'
    exact ⟨⟨o, old _ _ (up e1), e2⟩, .inr ⟨List.mem_append.mpr (.inr (.tail _ (x.ch y a e'))), o, hB0 e1⟩⟩
  · have fr := K.free
    have xv := x.vars
    clear K
    induction ρ₀ with
    | nil => rfl
    | cons p r ih =>
      obtain ⟨y, sl⟩ := p
      obtain ⟨d, rfl, hm, k1, k2⟩ := fr (y, sl) (.head _)
      obtain ⟨v, l, q⟩ := xv.mem hm
      refine ⟨v, [], [], rfl, ?_, ⟨rfl, q.mono hz0⟩, ih fun p hp => fr p (.tail _ hp)⟩
      unfold lookIn at l ⊢
      rw [if_neg k1] at l
      exact (if_neg (c := (c.inComp scope cl C).env.kindOf y = some NameKind.local) k2).trans l
  · have e1 := Zof.get (hF a o e)
    exact Zof.of (old _ _ e1.1) (out e1.1 (fun q => e1.2 (List.mem_append.mpr (.inl q))) fun q => e1.2 (List.mem_append.mpr (.inr q)))
  · exact (hfp b hb).imp id fun hqe => hqe.elim fun o e => ⟨fun q => neC (hFn e) (List.mem_singleton.mp q), o, old _ _ (hFn e)⟩
theorem comp_end {H wr : List Addr} {s₂ : Shared} {scope : Scope} {cl : List (Str × Addr)} {C D' : Addr} {h5 : Heap} {tk5 : Nat} {gs : List Addr} (k2 : Keeps s s₂) (hw : ∀ a ∈ wr, s.heap.get? a = none) (y : StO (c.inComp scope cl C) s₂ (Bx s₂.heap wr) (wr ++ D' :: H) gs m cm ρ₀ T s')
    (htk : s'.toks ≤ tk5) (hk : ∀ b o, b ∉ wr → s'.heap.get? b = some o → h5.get? b = some o) : Keeps s { s' with heap := h5, toks := tk5 } ∧ h5.Ns C m ∧ Le (Zof s'.heap (C :: ([] ++ gs) ++ (wr ++ D' :: H))) (Zof h5 (C :: H)) := by
  have hC := (y.own C (.head _)).2.2
  refine ⟨?_, y.ns.at' fun o e => hk _ _ (fun q => hC (List.mem_append.mpr (.inl q))) e, fun a o e => ?_⟩
  · have hK : ∀ b o, s.heap.get? b = some o → h5.get? b = some o := fun b o e => by
      have nw : b ∉ wr := fun q => by rw [hw _ q] at e; cases e
      exact hk b o nw (y.keep b o (Bx.of (keeps_heap k2 _ _ e) nw))
    have hT := Nat.le_trans (keeps_toks k2) (Nat.le_trans y.mono.1 htk)
    obtain ⟨a1, b1⟩ := y.same
    obtain ⟨h2, t2, g2, e2, _, _, b2⟩ := k2
    exact ⟨h5, tk5, s'.gens, by rw [a1, e2], hK, hT, fun q => b1 (by rw [e2]; exact b2 q)⟩
  · have e' := Zof.get e
    have hn := fun q => e'.2 (List.mem_append.mpr (.inr q))
    refine Zof.of (hk _ _ (fun q => hn (List.mem_append.mpr (.inl q))) e'.1) fun q => (List.mem_cons.mp q).elim (fun q => ?_) fun q => hn (List.mem_append.mpr (.inr (.tail _ q)))
    exact e'.2 (List.mem_append.mpr (.inl (q ▸ .head _)))
theorem comp_in {H : List Addr} {s₂ : Shared} {scope : Scope} {cl : List (Str × Addr)} {items : List D} {it : Value} {h₁ : Heap} {tk : Nat} {ob : Obj} (hrd : Rd c H ρ s) (hit : IterAt tt L0 c.lo c.M c.A H items it s s₂) (K : CompOk c ρ scope cl ρ₀)
    (hns₁ : h₁.Ns (s₂.heap.push ob).objs.size fun y => ([] : List (Str × Value)).reverse.lookup y) {fo : Obj} (hsb : Heap.SameBut (s₂.heap.push ob).objs.size ((s₂.heap.push ob).push fo) h₁) (htk : s₂.toks ≤ tk) (hf : autoParam (ob.isFreed = false) rflTac) :
    Keeps s s₂ ∧ CompIn tt c H s s₂ it items scope cl (s₂.heap.push ob).objs.size s₂.heap.objs.size ρ₀ ob { s₂ with heap := h₁, toks := tk } := by
  obtain ⟨fs, m, cm, x⟩ := hrd
  obtain ⟨k2, wr, fp, P, Mid, F, hw, W, hP, hF, hfp⟩ := hit
  have hC : (s₂.heap.push ob).objs.size = s₂.heap.objs.size + 1 := Heap.size_push ..
  have fresh : ∀ a, s₂.heap.objs.size ≤ a → s₂.heap.get? a = none := fun a ha => by
    cases e : s₂.heap.get? a with
    | none => rfl
    | some o' => exact absurd (Heap.lt_size e) (Nat.not_lt.mpr ha)
  have hne : s₂.heap.objs.size ≠ (s₂.heap.push ob).objs.size := fun q => Nat.lt_irrefl _ (Nat.lt_of_lt_of_eq (Nat.lt_succ_self _) (hC.symm.trans q.symm))
  have hCn := fresh (s₂.heap.push ob).objs.size (hC ▸ Nat.le_succ _)
  exact ⟨k2, comp_pre ⟨fs, m, cm, x⟩ k2 hw W hP hF hfp K hne (fresh _ (Nat.le_refl _)) hCn (fun b o e => hsb.extBut b o (fun q => by rw [q, hCn] at e; cases e) (Heap.get?_push_of_some _ (Heap.get?_push_of_some _ e)))
    (hsb.extBut _ _ hne (Heap.get?_push_of_some _ (Heap.get?_push_size _ hf))) hns₁ htk⟩
theorem comp_core {H : List Addr} {s₂ : Shared} {elt target iter : Expr} {ifs : List Expr} {scope : Scope} {pos : Pos} {cl : List (Str × Addr)} {items : List D} {g : D → Option D} {it : Value} {E : Value → Shared → Prop} {RR : Value → Addr → Result → Shared → Prop}
    (hrd : Rd c H ρ s) (htt : TT tt target) (hit : IterAt tt L0 c.lo c.M c.A H items it s s₂) (K : CompOk c ρ scope cl ρ₀) (hce : ∀ C d, d ∈ items → CE (c.inComp scope cl C) ρ₀ target ifs elt d (g d)) (hsz : items.length ≤ sizeLine)
    (hRR : ∀ D' C s₅ m', Keeps s s₅ → Rep (Zof s₅.heap (C :: H)) (.ref D') (.list (items.filterMap g)) → s.heap.get? C = none → s₅.heap.Ns C m' → RR (.ref D') C (.ok .next) s₅) :
    wpAny c.M c.A (newList []) (fun acc s₃ => wpAny c.M c.A (newFunctionEnv scope c.env.globals cl [] c.env.qual none .none (some c.env)) (fun cenv s₄ =>
      codeAny c.M c.A (.compStart (.ListComp elt [⟨target, iter, ifs, 0⟩] scope pos) 0 it acc { cenv with scope := relabel scope c.env }) (RR acc cenv.locals) s₄) E s₃) E s₂ := by
  refine wpAny_newObj_type (wpAny_newFunctionEnv K.cell (by intro y hy; simp at hy) (fun h₁ hns₁ hsb₁ => ?_) K.kind)
  dsimp only at hns₁ hsb₁ ⊢
  obtain ⟨k2, hin⟩ := comp_in hrd hit K hns₁ hsb₁ (tk := s₂.toks + ([] : List (Str × Value)).length) (Nat.le_refl _)
  clear hrd hit hns₁ hsb₁ K
  generalize (s₂.heap.push { cls := .type "list", dict := none, data := .seq ([] : List Value).toArray }).objs.size = C at hin ⊢
  generalize s₂.heap.objs.size = D' at hin ⊢
  generalize ({ s₂ with heap := h₁, toks := s₂.toks + ([] : List (Str × Value)).length } : Shared) = s₁ at hin ⊢
  obtain ⟨wr, fp, P, Mid, F, W, hw1, hw, hDw, hDB, hDfp, hDF, hDH, hCs, acc, hd⟩ := hin
  have loop : codeAny c.M c.A (.compLoop (.ListComp elt [⟨target, iter, ifs, 0⟩] scope pos) 0 it (.ref D') (compEnvC scope cl C c.env)) (RR (.ref D') C) s₁ := by
    refine compLoop_any (Turn items.length fun i s' => ∃ ys, HeadAt (c.inComp scope cl C) s₂ (Bx s₂.heap wr) (D' :: H) (ys.zip ((items.take i).filterMap g)) wr fp P F i ρ₀ s' ∧ ys.length = ((items.take i).filterMap g).length ∧ s'.heap.PlainList D' ys.toArray) (fun n s' q => ?_) (items.length - 0) ⟨0, Nat.zero_le _, rfl, [], hd, rfl, _, acc⟩
    obtain ⟨i, hi, hn, ys, y, hlen, hpl⟩ := q
    by_cases h : i < items.length
    · have htk : (items.take (i + 1)).filterMap g = (items.take i).filterMap g ++ (g items[i]).toList := by
        rw [List.take_add_one, List.filterMap_append, List.getElem?_eq_getElem h]
        cases hg : g items[i] <;> simp [hg]
      refine y.took W hw1 htt (List.getElem?_eq_getElem h) (fun v s₁ h => h) fun v n' s1 q => ?_
      obtain ⟨B', _, _, x1, _, back, keep⟩ := q
      obtain ⟨ρt, hat, hsub, hor⟩ := hce C items[i] (List.getElem_mem h)
      refine wpAny_mono (hat s₂ _ _ _ _ v _ x1) (fun xx s2 q2 => ?_) fun xx xx e => e
      obtain ⟨g2, m2, cm2, z2⟩ := q2
      rcases hor with ⟨hg, htb⟩ | ⟨u, hg, htb, hel⟩
      · refine wpAny_mono (htb _ _ _ z2.rd) (fun ok s3 q3 => ?_) fun xx xx e => e
        obtain ⟨rfl, k3⟩ := q3
        first | refine wpAny_ite_false rfl ?_ | refine (if_neg Bool.false_ne_true).mpr ?_ | simp only [Bool.false_eq_true, if_false]
        have z3 := (show St _ _ _ _ _ _ _ from ⟨g2, m2, cm2, z2.keeps k3⟩).weaken hsub
        rw [hg, Option.toList_none, List.append_nil] at htk
        exact Turn.next h hn ⟨ys, htk ▸ back z3, htk ▸ hlen, hpl.imp fun n e => keep z3 _ (.head _) hDw _ e⟩
      · refine wpAny_mono (htb _ _ _ z2.rd) (fun ok s3 q3 => ?_) fun xx xx e => e
        obtain ⟨rfl, k3⟩ := q3
        first | refine wpAny_ite_true rfl ?_ | refine (if_pos rfl).mpr ?_ | simp only [if_true]
        refine (z2.keeps k3).ev hel fun uv s4 k4 q4 => ?_
        have z4 := (show St _ _ _ _ _ _ _ from ⟨_, _, _, q4⟩).weaken hsub
        rw [hg, Option.toList_some] at htk
        have hys : ys.toArray.size ≤ sizeLine := by
          rw [List.size_toArray, hlen]
          exact Nat.le_trans (List.length_filterMap_le _ _) (Nat.le_trans (List.length_take_le' _ _) hsz)
        refine wpAny_list_append_plain (hsz := hys) (hpl.imp fun n e => keep z4 _ (.head _) hDw _ e) fun h5 hl5 hs5 => ?_
        refine Turn.next h hn ⟨ys ++ [uv], ((back z4).put (tk := s4.toks) W.frame (.head _) hDB hDfp hDF (Nat.le_refl _) (hl5.elim fun n e => ⟨_, e⟩) hs5.extBut).temps_sub fun p hp => ?_, by rw [htk]; simp [hlen], by simpa using hl5⟩
        rw [htk, List.zip_append hlen] at hp
        exact (List.mem_append.mp hp).elim (.tail _) fun q => by cases List.mem_singleton.mp q; exact .head _
    · cases Turn.last hi h
      rw [List.take_length] at y hlen
      obtain ⟨gs, m', cm', y, hPi, _, _⟩ := y
      refine W.done s' _ _ y.mono.2.1 y.mono.2.2 hPi fun h5 tk5 htk5 hk5 => ?_
      have en := comp_end k2 hw y htk5 hk5
      refine hRR D' C _ m' en.1 ?_ hCs en.2.1
      exact hpl.elim fun n e => .list (n := n) (vs := ys) (Zof.of (hk5 _ _ hDw e) hDH) ((RepL.of_zip hlen fun p hp => y.temps p hp).mono en.2.2)
  exact codeAny_compStart_list loop (W.self 0 _ _ _ hd.pos loop)

theorem EV.comp {elt target iter : Expr} {ifs : List Expr} {scope : Scope} {pos : Pos} {cl : List (Str × Addr)} {items : List D} (g : D → Option D)
    (hit : IT tt L0 c ρ iter items) (K : CompOk c ρ scope cl ρ₀) (hce : ∀ C d, d ∈ items → CE (c.inComp scope cl C) ρ₀ target ifs elt d (g d)) (hsz : items.length ≤ sizeLine) (hs : ∀ x, foldedSetIterable iter c.env x = pure x) (htt : autoParam (TT tt target) rflTac) :
    EV c ρ (.ListComp elt [⟨target, iter, ifs, 0⟩] scope pos) (.list (items.filterMap g)) := fun H s h E => by
  rw [eval_ListComp]
  refine wpAny_comprehension_free (use := Option.none) rfl hs K.clos K.kind K.names (wpAny_mono (hit H s E h) (fun v s₁ q => wpAny_mono q (fun it s₂ q => comp_core (RR := fun acc C => compPost c.M c.A E Option.none _ acc C) h htt q K hce hsz ?_) fun xx xx e => e) fun xx xx e => e)
  intro D' C s₅ m' k r hC hn
  refine ⟨m', hn, fun h'' hs'' => ?_⟩
  obtain ⟨h5, t5, g5, rfl, hk, ht5, hb5⟩ := k
  have ne : ∀ b o, s.heap.get? b = some o → b ≠ C := fun b o e q => by subst q; rw [hC] at e; cases e
  refine ⟨⟨h'', t5, g5, rfl, fun b o e => hs''.extBut b o (ne b o e) (hk b o e), ht5, hb5⟩, r.mono fun a o e => ?_⟩
  obtain ⟨e1, e2⟩ := Zof.get e
  exact Zof.of (hs''.extBut a o (fun q => e2 (by simp [q])) e1) fun q => e2 (.tail _ q)
end
end Mine
end
section
set_option Elab.async false
set_option tactic.hygienic false
set_option linter.unusedVariables false
namespace Mine
open PySem PySem.W PySem.Calls PyProof.Rows

section
variable {tt : Bool} {c : Cx} {sg : Shared} {B : Mp} {Y : List Addr} {fs : List Addr} {m cm : Str → Option Value} {ρ ρ₀ ρ' : Rho} {T : List (Value × D)} {s s' : Shared}

set_option maxHeartbeats 1000000 in
theorem EX1.assignComp {y : Str} {py spos : Pos} {elt target iter : Expr} {ifs : List Expr} {scope : Scope} {pos : Pos} {cl : List (Str × Addr)} {items : List D} (g : D → Option D)
    (hit : IT tt L0 c ρ iter items) (K : CompOk c ρ scope cl ρ₀) (hce : ∀ C d, d ∈ items → CE (c.inComp scope cl C) ρ₀ target ifs elt d (g d)) (hsz : items.length ≤ sizeLine) (hs : ∀ x, foldedSetIterable iter c.env x = pure x)
    (hsw : swapsWith (.ListComp elt [⟨target, iter, ifs, 0⟩] scope pos) (some (.Name y py)) spos.line c.env = pure true) (hk : c.env.scope.kind = .function) (hy : c.env.kindOf y = some .local) (htt : autoParam (TT tt target) rflTac) :
    EX1 c ρ (.Assign [.Name y py] (.ListComp elt [⟨target, iter, ifs, 0⟩] scope pos) spos) (.next (upd y (.val (.list (items.filterMap g))) ρ)) := fun sg B Y T s E hqz => by
  obtain ⟨fs, m, cm, h0⟩ := hqz
  rw [exec_Assign_Name_used _ _ _ _ hsw]
  refine wpAny_bind (wpAny_standAt (wpAny_bind ?_))
  show wpAny _ c.A (do let _ ← comprehension (.ListComp elt [⟨target, iter, ifs, 0⟩] scope pos) scope c.env _ (newList []) false (eval iter c.env) (some (PySem.assign (Expr.Name y py) c.env))) _ _ s
  refine wpAny_bind (wpAny_mono (wpAny_comprehension_free (use := some (PySem.assign (Expr.Name y py) c.env)) (Q := fun xx s' => OutIs c sg B Y T (.next (upd y (.val (.list (items.filterMap g))) ρ)) .next s') rfl hs K.clos K.kind K.names
    (wpAny_mono (hit _ s E h0.rd) (fun v s₁ q => wpAny_mono q (fun it s₂ q => comp_core (RR := fun acc C => compPost c.M c.A E (some (PySem.assign (Expr.Name y py) c.env)) _ acc C) h0.rd htt q K hce hsz ?_) fun xx xx e => e) fun xx xx e => e)) (fun xx s' hq => wpAny_pure (wpAny_pure hq)) fun xx xx e => e)
  intro D' C s₅ m' k r hC hn
  show wpAny _ c.A (PySem.assign (Expr.Name y py) c.env (.ref D')) _ _ _
  have hCY : C ∉ Y := fun q => by obtain ⟨o, e⟩ := h0.hid C q; rw [hC] at e; cases e
  have hB : B C = none := by
    cases q : B C with
    | none => rfl
    | some o => have := h0.keep C o q; rw [hC] at this; cases this
  have x := (h0.hide (wr := [C]) k fun a ha => by simp at ha; subst ha; obtain ⟨o, _, _, e, _⟩ := hn; exact ⟨hC, o, e⟩).temp (v := .ref D') (d := .list (items.filterMap g)) (r.mono (Zof.sub fun a ha => by
    simp only [List.mem_append, List.mem_cons, List.not_mem_nil, or_false] at ha ⊢
    rcases ha with h | h | h
    · exact .inr (.inl h)
    · exact .inl h
    · exact .inr (.inr h)))
  refine wpAny_assign_Name (wpAny_mono (St.storeL ⟨fs, m, cm, x.rebase⟩ hk hy) (fun xx s'' q => ?_) fun xx xx e => e)
  obtain ⟨fs', m1, cm1, z⟩ := q
  have hCO : C ∉ c.env.locals :: (c.oc ++ fs) := fun q => (x.own C q).2.2 (.head _)
  refine ⟨m', hn.at' fun o e => z.keep C o (Bx.of e hCO), fun h'' hs'' => ⟨rfl, fs', m1, cm1, ?_⟩⟩
  have z2 := z.unbase x.le x.base fun q a e => (x.cells q a e).2
  exact StO.wrEnd (wr := [C]) (tk := s''.toks) z2 (Nat.le_refl _) (fun a ha => by simp at ha; subst ha; exact ⟨hCY, hB⟩) (fun b o hb e => hs''.extBut b o (by simpa using hb) e) (fun q a e => (h0.cells q a e).2)

theorem VarsIs.own {Z : Mp} {h : Heap} {lk : Str → Option Value} {x : Str} {sl : Slot} : ∀ {ρ : Rho} {fs : List Addr}, VarsIs Z h lk ρ fs → (x, sl) ∈ ρ → ∃ v f1 gs f2, fs = f1 ++ gs ++ f2 ∧ lk x = some v ∧ SlotIs Z h v sl gs := by
  intro ρ
  induction ρ with
  | nil => intro _ _ hm; cases hm
  | cons p r ih =>
    intro fs hx hm
    obtain ⟨y, t⟩ := p
    obtain ⟨v, f1, f2, e, l, q, z⟩ := hx
    cases hm with
    | head => exact ⟨v, [], f1, f2, e, l, q⟩
    | tail _ hm =>
      obtain ⟨u, g1, gs, g2, e2, l2, q2⟩ := ih z hm
      exact ⟨u, f1 ++ g1, gs, g2, by rw [e, e2]; simp, l2, q2⟩

noncomputable def setSlot (x : Str) (sl : Slot) : Rho → Rho
  | [] => []
  | (y, t) :: r => if y = x then (y, sl) :: r else (y, t) :: setSlot x sl r
theorem VarsIs.turn {Z Z' : Mp} {h h' : Heap} {lk : Str → Option Value} {x : Str} {sl sl' : Slot} {gs gs' : List Addr} (hz : Le Z Z') (hsl : ∀ v, lk x = some v → SlotIs Z h v sl gs → SlotIs Z' h' v sl' gs') :
    ∀ {ρ : Rho} {fs : List Addr}, VarsIs Z h lk ρ fs → (∃ ρ1 ρ2, ρ = ρ1 ++ (x, sl) :: ρ2 ∧ ∀ p ∈ ρ1, p.1 ≠ x) → (∀ a ∈ fs, a ∉ gs → ∀ o, h.get? a = some o → h'.get? a = some o) → fs.Nodup → (∀ v f, lk x = some v → SlotIs Z h v sl f → f = gs) →
      ∃ f1 f2, fs = f1 ++ gs ++ f2 ∧ VarsIs Z' h' lk (setSlot x sl' ρ) (f1 ++ gs' ++ f2) := by
  intro ρ
  induction ρ with
  | nil => intro fs _ x; obtain ⟨ρ1, ρ2, e, _⟩ := x; simp at e
  | cons p0 r ih =>
    intro fs x1 x2 hk hnd hu
    obtain ⟨y, t⟩ := p0
    obtain ⟨v, f1, f2, e, l, q, z⟩ := x1
    obtain ⟨ρ1, ρ2, e1, hne⟩ := x2
    subst e
    cases ρ1 with
    | nil =>
      cases e1
      have e := hu v f1 l q
      subst e
      have hd : ∀ a ∈ f2, a ∉ f1 := fun a h1 h2 => by rw [List.nodup_append] at hnd; exact hnd.2.2 a h2 a h1 rfl
      refine ⟨[], f2, by simp, ?_⟩
      unfold setSlot
      rw [if_pos rfl]
      exact ⟨v, gs', f2, by simp, l, hsl v l q, z.mono hz fun a ha o e => hk a (List.mem_append.mpr (.inr ha)) (hd a ha) o e⟩
    | cons p ρ1 =>
      cases e1
      have hyx : y ≠ x := hne (y, t) (.head _)
      have hnd2 : f2.Nodup := (List.nodup_append.mp hnd).2.1
      obtain ⟨g1, g2, e2, hv⟩ := ih z ⟨ρ1, ρ2, rfl, fun p hp => hne p (.tail _ hp)⟩ (fun a ha => hk a (List.mem_append.mpr (.inr ha))) hnd2 hu
      refine ⟨f1 ++ g1, g2, by rw [e2]; simp, ?_⟩
      unfold setSlot
      rw [if_neg hyx]
      have hd : ∀ a ∈ f1, a ∉ gs := fun a h1 h2 => by rw [List.nodup_append] at hnd; exact hnd.2.2 a h1 a (by rw [e2]; simp [h2]) rfl
      exact ⟨v, f1, g1 ++ gs' ++ g2, by simp, l, q.mono hz fun a ha o e => hk a (List.mem_append.mpr (.inl ha)) (hd a ha) o e, hv⟩
end
end Mine
end
section
set_option Elab.async false
set_option tactic.hygienic false
set_option linter.unusedVariables false
namespace Mine
open PySem PySem.W PySem.Calls PyProof.Rows

theorem map_ref_inj : ∀ {as bs : List Addr}, as.map Value.ref = bs.map Value.ref → as = bs := by
  intro as
  induction as with
  | nil =>
    intro bs h
    cases bs with
    | nil => rfl
    | cons _ _ => simp at h
  | cons a as IH =>
    intro bs h
    cases bs with
    | nil => simp at h
    | cons b bs =>
      simp only [List.map_cons, List.cons.injEq, Value.ref.injEq] at h
      rw [h.1, IH h.2]
theorem SlotIs.uniq {Z Z' : Mp} {h : Heap} {v : Value} {sl : Slot} {f f' : List Addr} (x : SlotIs Z h v sl f) (y : SlotIs Z' h v sl f') : f = f' := by
  cases sl with
  | val d => rw [x.1, y.1]
  | own ds =>
    refine cps fun PP kk => ?_
    obtain ⟨a, vs, n, rfl, rfl, e, r⟩ := x
    obtain ⟨a', vs', n', rfl, e0, e', r'⟩ := y
    refine kk ?_
    clear kk PP
    cases e0; rfl
  | ownAt r ds => obtain ⟨_, _, rfl, _⟩ := x; obtain ⟨_, _, rfl, _⟩ := y; rfl
  | tab P d => rw [x.1, y.1]
  | own2 dss =>
    refine cps fun PP kk => ?_
    obtain ⟨a, bs, n, rfl, rfl, e, r⟩ := x
    obtain ⟨a', bs', n', rfl, e0, e', r'⟩ := y
    refine kk ?_
    clear kk PP
    cases e0
    rw [e] at e'
    simp only [lst, Option.some.injEq, Obj.mk.injEq, Data.seq.injEq] at e'
    have := e'.2.2.1.1
    have hb : bs.map Value.ref = bs'.map Value.ref := by simpa using this
    rw [map_ref_inj hb]

section
variable {c : Cx} {sg : Shared} {B : Mp} {Y : List Addr} {fs : List Addr} {m cm : Str → Option Value} {ρ ρ₀ ρ' : Rho} {T : List (Value × D)} {s s' : Shared}

noncomputable def HasSlot (x : Str) (sl : Slot) (ρ : Rho) : Prop := ∃ ρ1 ρ2, ρ = ρ1 ++ (x, sl) :: ρ2 ∧ ∀ p ∈ ρ1, p.1 ≠ x
theorem HasSlot.here {x : Str} {sl : Slot} {r : Rho} : HasSlot x sl ((x, sl) :: r) := ⟨[], r, rfl, fun xx h => nomatch h⟩
theorem HasSlot.there {x y : Str} {sl t : Slot} {r : Rho} (h : HasSlot x sl r) (hy : y ≠ x) : HasSlot x sl ((y, t) :: r) := by
  refine cps fun PP kk => ?_
  obtain ⟨ρ1, ρ2, rfl, hn⟩ := h
  refine kk ?_
  clear kk PP
  exact ⟨(y, t) :: ρ1, ρ2, rfl, fun p hp => by cases hp with | head => exact hy | tail _ hp => exact hn p hp⟩
theorem HasSlot.mem {x : Str} {sl : Slot} (h : HasSlot x sl ρ) : (x, sl) ∈ ρ := by obtain ⟨ρ1, ρ2, rfl, _⟩ := h; simp

theorem StO.mutate {X : List Addr} {x : Str} {sl sl' : Slot} {v : Value} {gs : List Addr} {h' : Heap} {tk : Nat} (h : StO c sg B (X ++ Y) fs m cm ρ T s) (htk : s.toks ≤ tk) (hX : X.Nodup) (hXB : ∀ a ∈ X, B a = none ∧ a ∉ Y) (hx : HasSlot x sl ρ) (hl : lookIn c.env m cm x = some v)
    (hs : SlotIs (Zof s.heap (c.env.locals :: (c.oc ++ fs) ++ (X ++ Y))) s.heap v sl gs) (hk : ∀ b o, b ∉ gs → s.heap.get? b = some o → h'.get? b = some o) (ha : ∀ a ∈ gs, ∃ o, h'.get? a = some o)
    (hs' : ∀ Z', Le (Zof s.heap (c.env.locals :: (c.oc ++ fs) ++ (X ++ Y))) Z' → SlotIs Z' h' v sl' (gs ++ X)) (hc : ∀ x a, c.env.cells.lookup x = some a → a ∈ c.oc ∨ (a ∈ Y ∧ ∃ o, B a = some o)) :
    ∃ fs', StO c sg B Y fs' m cm (setSlot x sl' ρ) T { s with heap := h', toks := tk } := by
  have nd := h.nd
  rw [List.nodup_cons, List.nodup_append] at nd
  have hu : ∀ u f, lookIn c.env m cm x = some u → SlotIs (Zof s.heap (c.env.locals :: (c.oc ++ fs) ++ (X ++ Y))) s.heap u sl f → f = gs := fun u f e q => by
    rw [hl] at e; cases e; exact q.uniq hs
  refine cps fun PP kk => ?_
  obtain ⟨v', f1, gs', f2, e1, l', q'⟩ := h.vars.own hx.mem
  have eg := hu v' gs' l' q'
  subst eg
  have hgO : ∀ a ∈ gs', a ∈ c.env.locals :: (c.oc ++ fs) := fun a ha => .tail _ (List.mem_append.mpr (.inr (by rw [e1]; simp [ha])))
  have key : ∀ f1 f2, fs = f1 ++ gs' ++ f2 → (∀ a, a ∈ c.env.locals :: (c.oc ++ (f1 ++ (gs' ++ X) ++ f2)) ++ Y ↔ a ∈ c.env.locals :: (c.oc ++ fs) ++ (X ++ Y)) := fun f1 f2 e a => by
    rw [e]; simp only [List.mem_append, List.mem_cons]
    constructor
    · rintro ((h | h | (h | h | h) | h) | h) <;> simp [h]
    · rintro ((h | h | (h | h) | h) | h | h) <;> simp [h]
  have hz : ∀ f1 f2, fs = f1 ++ gs' ++ f2 → Le (Zof s.heap (c.env.locals :: (c.oc ++ fs) ++ (X ++ Y))) (Zof h' (c.env.locals :: (c.oc ++ (f1 ++ (gs' ++ X) ++ f2)) ++ Y)) := fun f1 f2 e a o q => by
    obtain ⟨q1, q2⟩ := Zof.get q
    exact Zof.of (hk _ _ (fun z => q2 (List.mem_append.mpr (.inl (hgO a z)))) q1) fun z => q2 ((key f1 f2 e a).mp z)
  obtain ⟨g1, g2, e2, hv⟩ := VarsIs.turn (sl' := sl') (h' := h') (gs' := gs' ++ X) (hz f1 f2 e1) (fun u lu qu => by
    rw [hl] at lu; cases lu; exact hs' _ (hz f1 f2 e1)) h.vars hx (fun a ha hn o e => hk a o hn e) nd.2.2.1 hu
  refine kk ?_
  clear kk PP
  have e12 : f1 ++ gs' ++ f2 = g1 ++ gs' ++ g2 := e1.symm.trans e2
  refine ⟨g1 ++ (gs' ++ X) ++ g2, ?_⟩
  have hmem : ∀ a, a ∈ c.env.locals :: (c.oc ++ (g1 ++ (gs' ++ X) ++ g2)) → a ∈ c.env.locals :: (c.oc ++ fs) ∨ a ∈ X := fun a ha => by
    rw [e2]; simp only [List.mem_append, List.mem_cons] at ha ⊢
    rcases ha with h | h | (h | h | h) | h <;> simp [h]
  have hXO : ∀ a ∈ X, a ∉ c.env.locals :: (c.oc ++ fs) := fun a ha q => (h.own a q).2.2 (List.mem_append.mpr (.inl ha))
  refine ⟨?_, fun a ha' => ?_, fun a ha' => ?_, fun b o e => ?_, fun b o e => ⟨(h.base b o e).1, fun q => (h.base b o e).2 (List.mem_append.mpr (.inr q))⟩, ?_, fun y a e => ⟨?_, hc y a e⟩, hv.mono (Zof.sub fun a q => ?_) fun xx xx xx e => e, fun p hp => ?_, ?_, mono_up h.mono htk⟩
  · have hn := h.nd
    rw [e2] at hn
    have hperm : (c.env.locals :: (c.oc ++ (g1 ++ (gs' ++ X) ++ g2))).Perm (X ++ (c.env.locals :: (c.oc ++ (g1 ++ gs' ++ g2)))) := by
      have p1 : (g1 ++ (gs' ++ X) ++ g2).Perm (X ++ (g1 ++ gs' ++ g2)) := by
        have : g1 ++ (gs' ++ X) ++ g2 = (g1 ++ gs') ++ (X ++ g2) := by simp
        rw [this]
        refine (List.perm_append_comm_assoc (g1 ++ gs') X g2).trans ?_
        simp
      refine ((p1.append_left c.oc).cons _).trans ?_
      refine ((List.perm_append_comm_assoc c.oc X _).cons _).trans ?_
      exact (List.perm_middle (l₁ := X) (a := c.env.locals)).symm
    rw [hperm.nodup_iff, List.nodup_append]
    exact ⟨hX, hn, fun a h1 b h2 e => hXO a h1 (by rw [e, e2]; exact h2)⟩
  · rcases hmem a ha' with q | q
    · refine ⟨(h.own a q).1, ?_, fun z => (h.own a q).2.2 (List.mem_append.mpr (.inr z))⟩
      by_cases hg : a ∈ gs'
      · exact ha a hg
      · obtain ⟨o, e⟩ := (h.own a q).2.1; exact ⟨o, hk _ _ hg e⟩
    · refine ⟨(hXB a q).1, ?_, (hXB a q).2⟩
      obtain ⟨o, e⟩ := h.hid a (List.mem_append.mpr (.inl q))
      exact ⟨o, hk _ _ (fun z => hXO a q (hgO a z)) e⟩
  · obtain ⟨o, e⟩ := h.hid a (List.mem_append.mpr (.inr ha'))
    exact ⟨o, hk _ _ (fun z => (h.own a (hgO a z)).2.2 (List.mem_append.mpr (.inr ha'))) e⟩
  · refine hk b o (fun z => ?_) (h.keep b o e)
    have := (h.own b (hgO b z)).1; rw [e] at this; cases this
  · refine h.ns.at' fun o e => hk _ _ (fun z => ?_) e
    refine nd.1 (List.mem_append.mpr (.inr ?_))
    rw [e1]; simp [z]
  · obtain ⟨⟨o, e1', e2'⟩, r⟩ := h.cells y a e
    refine ⟨o, hk _ _ (fun z => ?_) e1', e2'⟩
    rcases r with r | ⟨r, _⟩
    · exact nd.2.2.2 a r a (by rw [e1]; simp [z]) rfl
    · exact (h.own a (hgO a z)).2.2 r
  · refine (key f1 f2 e1 a).mpr ((key g1 g2 e2 a).mp q)
  · exact (h.temps p hp).mono (hz g1 g2 e2)
  · exact h.same.set h' tk

theorem StO.relist {x : Str} {a : Addr} {ds ds' : List D} {vs vs' : List Value} {n n' : Nat} {h' : Heap} (y : StO c sg B Y fs m cm ρ T s) (hx : HasSlot x (.own ds) ρ) (l : lookIn c.env m cm x = some (.ref a)) (e1 : s.heap.get? a = some (lst vs n)) (r : RepL (Zof s.heap (c.env.locals :: (c.oc ++ fs) ++ Y)) vs ds)
    (hk : ∀ b o, b ≠ a → s.heap.get? b = some o → h'.get? b = some o) (ha : h'.get? a = some (lst vs' n')) (r' : RepL (Zof s.heap (c.env.locals :: (c.oc ++ fs) ++ Y)) vs' ds') : St c sg B Y (setSlot x (.own ds') ρ) T { s with heap := h', toks := s.toks } := by
  obtain ⟨fs3, z3⟩ := StO.mutate (X := []) (sl' := .own ds') (h' := h') (tk := s.toks) y (Nat.le_refl _) List.nodup_nil (fun b hb => nomatch hb) hx l ⟨a, vs, n, rfl, rfl, e1, r⟩ (fun b o hb e => hk b o (fun q => hb (q ▸ .head _)) e) (fun b hb => by cases List.mem_singleton.mp hb; exact ⟨_, ha⟩)
    (fun Z' hz => ⟨a, vs', n', rfl, rfl, ha, r'.mono hz⟩) (fun x b e => (y.cells x b e).2)
  exact ⟨fs3, m, cm, z3⟩
theorem StO.relistAt {x : Str} {a : Addr} {ds ds' : List D} {vs vs' : List Value} {n n' : Nat} {h' : Heap} (y : StO c sg B Y fs m cm ρ T s) (hx : HasSlot x (.ownAt a ds) ρ) (l : lookIn c.env m cm x = some (.ref a)) (e1 : s.heap.get? a = some (lst vs n)) (r : RepL (Zof s.heap (c.env.locals :: (c.oc ++ fs) ++ Y)) vs ds)
    (hk : ∀ b o, b ≠ a → s.heap.get? b = some o → h'.get? b = some o) (ha : h'.get? a = some (lst vs' n')) (r' : RepL (Zof s.heap (c.env.locals :: (c.oc ++ fs) ++ Y)) vs' ds') : St c sg B Y (setSlot x (.ownAt a ds') ρ) T { s with heap := h', toks := s.toks } := by
  obtain ⟨fs3, z3⟩ := StO.mutate (X := []) (sl' := .ownAt a ds') (h' := h') (tk := s.toks) y (Nat.le_refl _) List.nodup_nil (fun b hb => nomatch hb) hx l ⟨vs, n, rfl, rfl, e1, r⟩ (fun b o hb e => hk b o (fun q => hb (q ▸ .head _)) e) (fun b hb => by cases List.mem_singleton.mp hb; exact ⟨_, ha⟩)
    (fun Z' hz => ⟨vs', n', rfl, rfl, ha, r'.mono hz⟩) (fun x b e => (y.cells x b e).2)
  exact ⟨fs3, m, cm, z3⟩
theorem St.lookOwn {x : Str} {sl : Slot} (h : StO c sg B Y fs m cm ρ T s) (hx : HasSlot x sl ρ) : ∃ v gs, lookIn c.env m cm x = some v ∧ SlotIs (Zof s.heap (c.env.locals :: (c.oc ++ fs) ++ Y)) s.heap v sl gs ∧ ∀ a ∈ gs, a ∈ fs := by
  refine cps fun PP kk => ?_
  obtain ⟨v, f1, gs, f2, e, l, q⟩ := h.vars.own hx.mem
  refine kk ?_
  clear kk PP
  exact ⟨v, gs, l, q, fun a ha => by rw [e]; simp [ha]⟩
noncomputable def NameOk (c : Cx) (x : Str) : Prop := c.env.scope.kind = .function ∧ (c.env.kindOf x = some .local ∨ ((c.env.kindOf x = some .cell) ∧ ∃ a, c.env.cells.lookup x = some a)) ∧ (x == ("__debug__" : Str)) = false
theorem NameOk.eval {x : Str} {p : Pos} {v : Value} {Q : Value → Shared → Prop} {E : Value → Shared → Prop} (k : NameOk c x) (h : StO c sg B Y fs m cm ρ T s) (hl : lookIn c.env m cm x = some v) (hQ : Q v s) : wpAny c.M c.A (eval (.Name x p) c.env) Q E s := by
  obtain ⟨hk, hl', hd⟩ := k
  refine wpAny_Name ?_ hd
  rcases hl' with h1 | ⟨h1, a, ha⟩
  · unfold lookIn at hl; rw [if_pos h1] at hl
    exact wpAny_loadName_local hk h1 h.ns hl hQ
  · unfold lookIn at hl; rw [if_neg (by rw [h1]; simp)] at hl
    exact wpAny_loadName_cell hk h1 ha (hl ▸ (h.cells x a ha).1) hQ

theorem VarsIs.freeze {Z Z' : Mp} {h : Heap} {lk : Str → Option Value} {x : Str} {sl sl' : Slot} {gs : List Addr} (hz : Le Z Z') (hsl : ∀ v, lk x = some v → SlotIs Z h v sl gs → SlotIs Z' h v sl' []) :
    ∀ {ρ : Rho} {fs : List Addr}, VarsIs Z h lk ρ fs → HasSlot x sl ρ → (∀ v f, lk x = some v → SlotIs Z h v sl f → f = gs) → ∃ f1 f2, fs = f1 ++ gs ++ f2 ∧ VarsIs Z' h lk (setSlot x sl' ρ) (f1 ++ f2) := by
  intro ρ
  induction ρ with
  | nil => intro fs _ x; obtain ⟨ρ1, ρ2, e, _⟩ := x; simp at e
  | cons p0 r ih =>
    intro fs x1 x2 hu
    refine cps fun PP kk => ?_
    obtain ⟨y, t⟩ := p0
    obtain ⟨v, f1, f2, e, l, q, z⟩ := x1
    obtain ⟨ρ1, ρ2, e1, hne⟩ := x2
    refine kk ?_
    clear kk PP
    subst e
    cases ρ1 with
    | nil =>
      cases e1
      have e := hu v f1 l q
      subst e
      refine ⟨[], f2, by simp, ?_⟩
      unfold setSlot; rw [if_pos rfl]
      exact ⟨v, [], f2, by simp, l, hsl v l q, z.mono hz fun xx xx xx e => e⟩
    | cons p ρ1 =>
      cases e1
      have hyx : y ≠ x := hne (y, t) (.head _)
      refine cps fun PP kk => ?_
      obtain ⟨g1, g2, e2, hv⟩ := ih z ⟨ρ1, ρ2, rfl, fun p hp => hne p (.tail _ hp)⟩ hu
      refine kk ?_
      clear kk PP
      refine ⟨f1 ++ g1, g2, by rw [e2]; simp, ?_⟩
      unfold setSlot; rw [if_neg hyx]
      exact ⟨v, f1, g1 ++ g2, by simp, l, q.mono hz fun xx xx xx e => e, hv⟩
noncomputable def Slot.cold : Slot → D
  | .val d => d
  | .own ds => .list ds
  | .own2 dss => .list (dss.map .list)
  | .ownAt _ ds => .list ds
  | .tab _ d => d
theorem SlotIs.cold {h : Heap} {v : Value} {sl : Slot} {gs : List Addr} {Z Z' : Mp} (x : SlotIs Z h v sl gs) (hz : Le Z Z') (hg : ∀ a ∈ gs, ∀ o, h.get? a = some o → Z' a = some o) : Rep Z' v sl.cold := by
  cases sl with
  | val d => exact x.2.mono hz
  | own ds => obtain ⟨a, vs, n, rfl, rfl, e, r⟩ := x; exact .list (hg a (by simp) _ e) (r.mono hz)
  | ownAt a ds => obtain ⟨vs, n, rfl, rfl, e, r⟩ := x; exact .list (hg a (by simp) _ e) (r.mono hz)
  | tab P d => exact x.2.1.mono hz
  | own2 dss =>
    refine cps fun PP kk => ?_
    obtain ⟨a, bs, n, rfl, rfl, e, r⟩ := x
    refine kk ?_
    clear kk PP
    refine .list (hg a (by simp) _ e) ?_
    have hb : ∀ b ∈ bs, ∀ o, h.get? b = some o → Z' b = some o := fun b hb => hg b (.tail _ hb)
    clear e hg
    induction r with
    | nil => exact .nil
    | cons q _ ih =>
      refine cps fun PP kk => ?_
      obtain ⟨vs, n', e, r⟩ := q
      refine kk ?_
      clear kk PP
      exact .cons (.list (hb _ (.head _) _ e) (r.mono hz)) (ih fun b h => hb b (.tail _ h))
theorem St.freeze {x : Str} {sl : Slot} (h : St c sg B Y ρ T s) (hx : HasSlot x sl ρ) : St c sg B Y (setSlot x (.val sl.cold) ρ) T s := by
  refine cps fun PP kk => ?_
  obtain ⟨fs, m, cm, h⟩ := h
  obtain ⟨v, gs, l, q, hsub⟩ := St.lookOwn h hx
  obtain ⟨v', f1, gs', f2, e1, l', q'⟩ := h.vars.own hx.mem
  refine kk ?_
  clear kk PP
  rw [l] at l'; cases l'
  have eg := q'.uniq q
  subst eg
  have hnd := h.nd
  have hd : ∀ f1 f2, fs = f1 ++ gs' ++ f2 → ∀ a ∈ gs', a ∉ c.env.locals :: (c.oc ++ (f1 ++ f2)) ++ Y := fun f1 f2 e a ha z => by
    rw [e, List.nodup_cons, List.nodup_append] at hnd
    refine cps fun PP kk => ?_
    obtain ⟨n1, n2, n3, n4⟩ := hnd
    refine kk ?_
    clear kk PP
    rcases List.mem_append.mp z with z | z
    · rcases List.mem_cons.mp z with z | z
      · exact n1 (z ▸ List.mem_append.mpr (.inr (by simp [ha])))
      · rcases List.mem_append.mp z with z | z
        · exact n4 a z a (by simp [ha]) rfl
        · rw [List.nodup_append, List.nodup_append] at n3
          rcases List.mem_append.mp z with z | z
          · exact n3.1.2.2 a z a ha rfl
          · exact n3.2.2 a (by simp [ha]) a z rfl
    · exact (h.own a (.tail _ (List.mem_append.mpr (.inr (by rw [e]; simp [ha]))))).2.2 z
  have hz : ∀ f1 f2, fs = f1 ++ gs' ++ f2 → Le (Zof s.heap (c.env.locals :: (c.oc ++ fs) ++ Y)) (Zof s.heap (c.env.locals :: (c.oc ++ (f1 ++ f2)) ++ Y)) := fun f1 f2 e => Zof.sub fun a ha => by
    rw [e]; simp only [List.mem_append, List.mem_cons] at ha ⊢
    rcases ha with (h | h | h | h) | h <;> simp [h]
  obtain ⟨g1, g2, e2, hv⟩ := VarsIs.freeze (sl' := .val sl.cold) (hz f1 f2 e1) (fun u lu qu => ⟨rfl, qu.cold (hz f1 f2 e1) fun a ha o e => Zof.of e (hd f1 f2 e1 a ha)⟩) h.vars hx (fun u f lu qu => by rw [l] at lu; cases lu; exact qu.uniq q')
  have e12 : f1 ++ gs' ++ f2 = g1 ++ gs' ++ g2 := e1.symm.trans e2
  have hs : (g1 ++ g2).Sublist fs := by rw [e2]; simp
  have hs2 : (c.env.locals :: (c.oc ++ (g1 ++ g2))).Sublist (c.env.locals :: (c.oc ++ fs)) := .cons_cons _ (.append (.refl _) hs)
  refine ⟨g1 ++ g2, m, cm, h.nd.sublist hs2, fun a ha => h.own a (hs2.subset ha), h.hid, h.keep, h.base, h.ns, h.cells, hv.mono (Zof.sub fun a ha => ?_) fun xx xx xx e => e, fun p hp => (h.temps p hp).mono (hz g1 g2 e2), h.same, h.mono⟩
  have ng : a ∉ gs' := fun z => hd g1 g2 e2 a z ha
  simp only [List.mem_append, List.mem_cons] at ha ⊢
  have hf : a ∈ g1 ∨ a ∈ g2 → a ∈ f1 ∨ a ∈ f2 := fun q => by
    have : a ∈ f1 ++ gs' ++ f2 := by rw [e12]; simp only [List.mem_append]; rcases q with q | q <;> simp [q]
    simp only [List.mem_append] at this
    rcases this with (q | q) | q
    · exact .inl q
    · exact absurd q ng
    · exact .inr q
  rcases ha with (h | h | h) | h
  · simp [h]
  · simp [h]
  · rcases hf h with h | h <;> simp [h]
  · simp [h]
theorem EX.freeze {x : Str} {sl : Slot} {ss : List Stmt} {o : Out} (hx : HasSlot x sl ρ) (h : EX c (setSlot x (.val sl.cold) ρ) ss o) : EX c ρ ss o := fun sg B Y T s E y => h sg B Y T s E (y.freeze hx)
end
end Mine
end
section
set_option Elab.async false
set_option tactic.hygienic false
set_option linter.unusedVariables false
namespace Mine
open PySem PySem.W PySem.Calls PyProof.Rows

section
variable {c : Cx} {sg : Shared} {B : Mp} {Y : List Addr} {fs : List Addr} {m cm : Str → Option Value} {ρ ρ₀ ρ' : Rho} {T : List (Value × D)} {s s' : Shared}

noncomputable def Sto (c : Cx) (x : Str) : Prop := ∀ sg B Y (ρ : Rho) T s v d E, St c sg B Y ρ ((v, d) :: T) s → wpAny c.M c.A (storeName c.env x v) (fun xx s' => St c sg B Y (upd x (.val d) ρ) T s') E s
theorem Sto.loc {x : Str} (hk : c.env.scope.kind = .function) (hl : c.env.kindOf x = some .local) : Sto c x := fun sg B Y ρ T s v d E h => h.storeL hk hl
theorem Sto.cel {x : Str} {a : Addr} (hk : c.env.scope.kind = .function) (hl : c.env.kindOf x = some .cell) (ha : c.env.cells.lookup x = some a) (hoc : a ∈ c.oc) (hinj : ∀ y, c.env.cells.lookup y = some a → y = x) : Sto c x := fun sg B Y ρ T s v d E h => h.storeC hk hl ha hoc hinj
theorem EX1.set {x : Str} {px p : Pos} {e : Expr} {d : D} (h : EV c ρ e d) (hx : Sto c x) (hs : swapsWith e (some (.Name x px)) p.line c.env = pure false) : EX1 c ρ (.Assign [.Name x px] e p) (.next (upd x (.val d) ρ)) := fun sg B Y T s E y =>
  wpAny_Assign_Name (y.ev h fun v s₁ q => wpAny_mono (hx _ _ _ _ _ _ _ _ _ q) (fun xx s₂ q => ⟨rfl, q⟩) fun xx xx e => e) hs
theorem EX1.augS {k : Nat} {x : Str} {px p : Pos} {op : Operator} {e : Expr} {d0 d1 d : D} (hx : (x, Slot.val d0) ∈ ρ) (h : EV c ρ e d1) (o : Op2 c.toGx k (inplaceOp op) d0 d1 d) (hr : Rm c.A k) (hn : NameOk c x) (hsx : Sto c x) :
    EX1 c ρ (.AugAssign (.Name x px) op e p) (.next (upd x (.val d) ρ)) := fun sg B Y T s E y => by
  refine cps fun PP kk => ?_
  obtain ⟨fs, m, cm, y⟩ := y
  obtain ⟨v, hv, r⟩ := y.vars.mem hx
  obtain ⟨hk, hl', hd⟩ := hn
  refine kk ?_
  clear kk PP
  refine wpAny_AugAssign_Name ?_
  have key := aug_read y r h o hr (Q := fun r s₁ => wpAny c.M c.A (storeName c.env x r) (fun xx s₂ => OutIs c sg B Y T (.next (upd x (.val d) ρ)) .next s₂) E s₁) (E := E) fun r s₁ q => wpAny_mono (hsx _ _ _ _ _ _ _ _ _ q) (fun xx s₃ q => ⟨rfl, q⟩) fun xx xx e => e
  rcases hl' with h1 | ⟨h1, a, ha⟩
  · unfold lookIn at hv; rw [if_pos h1] at hv
    exact wpAny_loadName_local hk h1 y.ns hv key
  · unfold lookIn at hv; rw [if_neg (by rw [h1]; simp)] at hv
    exact wpAny_loadName_cell hk h1 ha (hv ▸ (y.cells x a ha).1) key

theorem setSlot_upd {x : Str} {a b : Slot} : ∀ {ρ : Rho}, setSlot x a (upd x b ρ) = upd x a ρ := by
  intro ρ
  induction ρ with
  | nil => simp [upd, setSlot]
  | cons p r IH =>
    obtain ⟨y, t⟩ := p
    unfold upd
    by_cases h : y = x
    · rw [if_pos h, if_pos h]; simp [setSlot]
    · rw [if_neg h, if_neg h]; simp [setSlot, h, IH]
theorem HasSlot.upd {x : Str} {b : Slot} : ∀ {ρ : Rho}, HasSlot x b (upd x b ρ) := by
  intro ρ
  induction ρ with
  | nil => exact .here
  | cons p r IH =>
    obtain ⟨y, t⟩ := p
    unfold Mine.upd
    by_cases h : y = x
    · rw [if_pos h]; exact .here
    · rw [if_neg h]; exact IH.there h

theorem EX1.newList {x : Str} {px p pl : Pos} (hx : Sto c x) (hn : NameOk c x) (hs : swapsWith (.List [] pl) (some (.Name x px)) p.line c.env = pure false) : EX1 c ρ (.Assign [.Name x px] (.List [] pl) p) (.next (upd x (.own []) ρ)) := fun sg B Y T s E hqz => by
  obtain ⟨fs, m, cm, y⟩ := hqz
  have hev : EV c ρ (.List [] pl) (.list []) := EV.list .nil (by simp)
  refine wpAny_Assign_Name (wpAny_List (spliced_none ⟨by simp, ?_⟩)) hs
  have kp := keeps_push s { cls := .type "list", data := .seq ([] : List Value).toArray }
  have hnew : (s.heap.push { cls := .type "list", data := .seq ([] : List Value).toArray }).get? s.heap.objs.size = some (lst [] 0) := Heap.get?_push_size _ rfl
  generalize ha : s.heap.objs.size = a at *
  have hfr : s.heap.get? a = none := ha ▸ fresh_none
  have hB : B a = none := by
    cases q : B a with
    | none => rfl
    | some o => have := y.keep a o q; rw [hfr] at this; cases this
  have hY : a ∉ Y := fun q => by obtain ⟨o, e⟩ := y.hid a q; rw [hfr] at e; cases e
  have y1 := (y.hide (wr := [a]) kp fun b hb => by simp at hb; subst hb; exact ⟨hfr, _, hnew⟩).temp (v := .ref a) (d := .raw (.ref a)) (.raw _)
  refine wpAny_mono (hx _ _ _ _ _ _ _ _ _ ⟨fs, m, cm, y1.rebase⟩) (fun xx s₂ q => ⟨rfl, ?_⟩) fun xx xx e => e
  refine cps fun PP kk => ?_
  obtain ⟨fs2, m2, cm2, z⟩ := q
  have haO : a ∉ c.env.locals :: (c.oc ++ fs) := fun q => (y1.own a q).2.2 (by simp)
  have h2 : s₂.heap.get? a = some (lst [] 0) := z.keep _ _ (Bx.of hnew haO)
  have z2 := z.unbase y1.le y1.base fun q b e => (y1.cells q b e).2
  obtain ⟨v, gs, l, q, _⟩ := St.lookOwn z2 HasSlot.upd
  obtain ⟨rfl, q'⟩ := id q
  have ev := q'.of_raw
  subst ev
  obtain ⟨fs3, z3⟩ := StO.mutate (X := [a]) (sl' := .own []) (h' := s₂.heap) (tk := s₂.toks) z2 (Nat.le_refl _) (by simp) (fun b hb => by simp at hb; subst hb; exact ⟨hB, hY⟩) HasSlot.upd l ⟨rfl, .raw _⟩ (fun b o xx e => e) (fun b hb => nomatch hb)
    (fun Z' xx => ⟨a, [], 0, rfl, rfl, h2, .nil⟩) (fun x b e => (y.cells x b e).2)
  refine kk ?_
  clear kk PP
  rw [setSlot_upd] at z3
  exact ⟨fs3, m2, cm2, z3⟩

theorem EX1.append {x : Str} {np apos p pe : Pos} {e : Expr} {ds : List D} {d : D} (hx : HasSlot x (.own ds) ρ) (hn : NameOk c x) (h : EV c ρ e d) (k : MethOk c (.Name x np) "append" [e] apos p) (hsz : ds.length ≤ 1000000)
    (hi : interactive c.env = false) (hs : swapsWith (.Call (.Attribute (.Name x np) "append" apos) [e] [] p) none pe.line c.env = pure false) :
    EX1 c ρ (.Expr (.Call (.Attribute (.Name x np) "append" apos) [e] [] p) pe) (.next (setSlot x (.own (ds ++ [d])) ρ)) := fun sg B Y T s E hqz => by
  obtain ⟨fs, m, cm, y⟩ := hqz
  refine cps fun PP kk => ?_
  obtain ⟨v, gs, l, q, hsub⟩ := St.lookOwn y hx
  obtain ⟨a, vs, n, rfl, rfl, e1, r⟩ := q
  refine kk ?_
  clear kk PP
  refine wpAny_Expr_any (wpAny_Call_method k.base k.form k.line F.plainAttrs_list F.slot_list_append F.type_list_append ?_) hi hs
  refine hn.eval y l ⟨⟨_, e1, rfl⟩, fun b eb => by cases eb; exact ⟨_, e1, rfl⟩, ?_⟩
  refine callRaw (.inl ⟨_, rfl⟩) (.cons h .nil (fun env => starEach_cons_noStar k.plain)) k.nostar y.rd fun us s₁ k1 q => ?_
  obtain ⟨u, rfl⟩ : ∃ u, us = [u] := len1 q.length
  have y1 := y.keeps k1
  have r1 := r.mono (keeps_le k1)
  refine wpAny_list_append_plain (hsz := by simp [sizeLine, r.length]; lia) ⟨n, keeps_heap k1 _ _ e1⟩ fun h5 hl5 hs5 => ⟨rfl, ?_⟩
  obtain ⟨n5, e5⟩ := hl5
  exact y1.relist hx l (keeps_heap k1 _ _ e1) r1 hs5.extBut (vs' := vs ++ [u]) (n' := n5) (by simpa using e5) (r1.append q)
end
end Mine
end
section
set_option Elab.async false
set_option tactic.hygienic false
set_option linter.unusedVariables false
namespace Mine
open PySem PySem.W PySem.Calls PyProof.Rows

structure Kx (K : Frag) (g : Gx) : Prop where
  inn : K.In g.G
  nolimit : g.G.NoLimit
  cst : ∃ mc, g.G.Ns cStatics mc
  mods : ∃ mg mb, g.G.Ns mainGlobals mg ∧ g.G.Ns builtinsNs mb ∧ ∀ x : Str, x ≠ "__name__" → mb x = bootBuiltins x

section
variable {c : Cx} {K : Frag} {ρ : Rho}
structure Outer (c : Cx) (x : Str) : Prop where
  kind : c.env.scope.kind = .function
  of : c.env.kindOf x = some .globalImplicit
  globals : c.env.globals = mainGlobals
  builtins : c.env.builtins = builtinsNs
  nd : (x == ("__debug__" : Str)) = false
theorem Rd.base {H : List Addr} {s : Shared} (h : Rd c H ρ s) : ∀ b o, c.G.get? b = some o → s.heap.get? b = some o := fun b o e => (h.ok.2.1 b o e).1
theorem EV.glob {x : Str} {p : Pos} {v : Value} (X : Kx K c.toGx) (o : Outer c x) (e : nsIn K mainGlobals x = some (some v)) : EV c ρ (.Name x p) (.raw v) := fun H s h E => by
  obtain ⟨mg, mb, hg, hb, hm⟩ := X.mods
  exact Name_function_global o.kind o.of (loadGlobal_global (env := c.env) (mg := mg) (show s.heap.Ns c.env.globals mg from o.globals ▸ hg.keeps h.base) (mg_of X.inn hg e) ⟨keeps_refl s, .raw _⟩) o.nd
theorem EV.built {x : Str} {p : Pos} {v : Value} (X : Kx K c.toGx) (o : Outer c x) (e : nsIn K mainGlobals x = some Option.none) (hv : bootBuiltins x = some v) (hn : x ≠ "__name__") : EV c ρ (.Name x p) (.raw v) := fun H s h E => by
  obtain ⟨mg, mb, hg, hb, hm⟩ := X.mods
  exact Name_function_global o.kind o.of (loadGlobal_builtin (env := c.env) (mg := mg) (mb := mb) (show s.heap.Ns c.env.globals mg from o.globals ▸ hg.keeps h.base) (mg_none_of X.inn hg e) (show s.heap.Ns c.env.builtins mb from o.builtins ▸ hb.keeps h.base) ((hm x hn).trans hv) ⟨keeps_refl s, .raw _⟩) o.nd
end

noncomputable def cellAddrs (env : Env) : List Addr := env.cells.map (·.2)
noncomputable def cxOf (g : Gx) (A : Around) (env : Env) : Cx := { g with A := A, env := env, oc := cellAddrs env }

theorem lookup_of_mem {α : Type} : ∀ {l : List (Str × α)} {x : Str} {a : α}, (l.map (·.1)).Nodup → (x, a) ∈ l → l.lookup x = some a := by
  intro l
  induction l with
  | nil =>
    intro x a _ h
    cases h
  | cons p0 r ih =>
    intro x a hn hm
    obtain ⟨y, b⟩ := p0
    rw [List.map_cons, List.nodup_cons] at hn
    cases hm with
    | head => simp [List.lookup]
    | tail _ hm =>
      have : x ≠ y := fun q => hn.1 (by rw [← q]; exact List.mem_map_of_mem (f := (·.1)) hm)
      have hb : (x == y) = false := by simpa using this
      simp only [List.lookup, hb]
      exact ih hn.2 hm
theorem mem_of_lookup' {α : Type} : ∀ {l : List (Str × α)} {x : Str} {a : α}, l.lookup x = some a → (x, a) ∈ l := by
  intro l
  induction l with
  | nil =>
    intro x a h
    cases h
  | cons p0 r ih =>
    intro x a e
    obtain ⟨y, b⟩ := p0
    simp only [List.lookup] at e
    split at e
    · rename_i q; cases e; rw [eq_of_beq q]; exact .head _
    · exact .tail _ (ih e)
theorem cellsFrom_keys : ∀ {l : List (Str × NameKind)} {n : Nat} {acc : List (Str × Addr)}, (l.map (·.1)).Nodup → (acc.map (·.1)).Nodup → (∀ p ∈ l, p.1 ∉ acc.map (·.1)) → ((cellsFrom n l acc).map (·.1)).Nodup := by
  intro l
  induction l with
  | nil =>
    intro n acc _ h _
    exact h
  | cons p0 r ih =>
    intro n acc hn ha hd
    obtain ⟨x, k⟩ := p0
    rw [List.map_cons, List.nodup_cons] at hn
    unfold cellsFrom
    split
    · refine ih hn.2 (by rw [List.map_cons, List.nodup_cons]; exact ⟨hd (x, k) (.head _), ha⟩) fun p hp q => ?_
      rw [List.map_cons] at q
      rcases List.mem_cons.mp q with q | q
      · exact hn.1 (by rw [← q]; exact List.mem_map_of_mem (f := (·.1)) hp)
      · exact hd p (.tail _ hp) q
    · exact ih hn.2 ha fun p hp => hd p (.tail _ hp)
theorem cellsFrom_acc : ∀ {l : List (Str × NameKind)} {n : Nat} {acc : List (Str × Addr)} {p : Str × Addr}, p ∈ acc → p ∈ cellsFrom n l acc := by
  intro l
  induction l with
  | nil =>
    intro n acc p h
    exact h
  | cons p0 r ih =>
    intro n acc p h
    obtain ⟨x, k⟩ := p0
    unfold cellsFrom
    split
    · exact ih (.tail _ h)
    · exact ih h
theorem cellsFrom_mem : ∀ {l : List (Str × NameKind)} {n : Nat} {acc : List (Str × Addr)} {x : Str}, (x, NameKind.cell) ∈ l → ∃ a, (x, a) ∈ cellsFrom n l acc := by
  intro l
  induction l with
  | nil =>
    intro n acc x h
    cases h
  | cons p0 r ih =>
    intro n acc x h
    obtain ⟨y, k⟩ := p0
    unfold cellsFrom
    cases h with
    | head => simp only [beq_self_eq_true, if_true]; exact ⟨n, cellsFrom_acc (.head _)⟩
    | tail _ h =>
      split
      · exact ih h
      · exact ih h
theorem cellsFrom_apart : ∀ {l : List (Str × NameKind)} {n : Nat} {acc : List (Str × Addr)}, (∀ p ∈ acc, p.2 < n) → (acc.map (·.2)).Nodup → ((cellsFrom n l acc).map (·.2)).Nodup := by
  intro l
  induction l with
  | nil =>
    intro n acc _ h
    exact h
  | cons p0 r ih =>
    intro n acc hl h
    obtain ⟨x, k⟩ := p0
    unfold cellsFrom
    split
    · refine ih (fun p hp => ?_) ?_
      · cases hp with
        | head => exact Nat.lt_succ_self n
        | tail _ hp => exact Nat.lt_succ_of_lt (hl p hp)
      · rw [List.map_cons, List.nodup_cons]
        refine ⟨fun q => ?_, h⟩
        obtain ⟨p, hp, e⟩ := List.mem_map.mp q
        exact absurd (hl p hp) (by rw [e]; exact Nat.lt_irrefl n)
    · exact ih hl h
theorem apart_inj {l : List (Str × Addr)} (h : (l.map (·.2)).Nodup) {p q : Str × Addr} (hp : p ∈ l) (hq : q ∈ l) (e : p.2 = q.2) : p = q := by
  induction l with
  | nil => cases hp
  | cons r l ih =>
    rw [List.map_cons, List.nodup_cons] at h
    cases hp with
    | head =>
      cases hq with
      | head => rfl
      | tail _ hq => exact absurd (List.mem_map_of_mem (f := (·.2)) hq) (by rw [← e]; exact h.1)
    | tail _ hp =>
      cases hq with
      | head => exact absurd (List.mem_map_of_mem (f := (·.2)) hp) (by rw [e]; exact h.1)
      | tail _ hq => exact ih h.2 hp hq

structure Body (c : Cx) (scope : Scope) : Prop where
  is : c.env.scope = scope
  kind : scope.kind = .function
  cells : ∀ x, scope.names.lookup x = some .cell → ∃ a, c.env.cells.lookup x = some a ∧ a ∈ c.oc
  inj : ∀ x y a, c.env.cells.lookup x = some a → c.env.cells.lookup y = some a → y = x
  globals : c.env.globals = mainGlobals
  builtins : c.env.builtins = builtinsNs
theorem Body.of {g : Gx} {A : Around} {fd : FuncData} {L f : Addr} (hn : (fd.scope.names.map (·.1)).Nodup) (hk : fd.scope.kind = .function) (hg : fd.globals = mainGlobals) (hb : fd.builtins = builtinsNs) : Body (cxOf g A (callEnvC fd L f)) fd.scope where
  is := rfl
  kind := hk
  cells := fun x e => by
    obtain ⟨a, ha⟩ := cellsFrom_mem (n := L + 1) (acc := []) (mem_of_lookup' e)
    exact ⟨a, lookup_of_mem (cellsFrom_keys hn (by simp) (by simp)) ha, List.mem_map_of_mem (f := (·.2)) ha⟩
  inj := fun x y a h1 h2 => by
    have := apart_inj (cellsFrom_apart (l := fd.scope.names) (n := L + 1) (acc := []) (by simp) (by simp)) (mem_of_lookup' h1) (mem_of_lookup' h2) rfl
    exact (congrArg (·.1) this).symm
  globals := hg
  builtins := hb
section
variable {c : Cx} {scope : Scope} {ρ : Rho}
theorem Body.fk (b : Body c scope) : c.env.scope.kind = .function := b.is ▸ b.kind
theorem Body.kindOf (b : Body c scope) (x : Str) : c.env.kindOf x = scope.names.lookup x := by unfold Env.kindOf; rw [b.is]
noncomputable def isVar (scope : Scope) (x : Str) : Bool := (scope.names.lookup x == some .local || scope.names.lookup x == some .cell) && !(x == ("__debug__" : Str))
theorem isVar_or {x : Str} (h : isVar scope x = true) : (scope.names.lookup x = some .local ∨ scope.names.lookup x = some .cell) ∧ (x == ("__debug__" : Str)) = false := by
  simpa [isVar] using h
theorem Body.sto (b : Body c scope) {x : Str} (h : isVar scope x = true) : Sto c x := by
  obtain ⟨h1 | h1, _⟩ := isVar_or h
  · exact .loc b.fk ((b.kindOf x).trans h1)
  · obtain ⟨a, ha, ho⟩ := b.cells x h1
    exact .cel b.fk ((b.kindOf x).trans h1) ha ho fun y e => b.inj x y a ha e
theorem Body.nameOk (b : Body c scope) {x : Str} (h : isVar scope x = true) : NameOk c x := by
  obtain ⟨h1 | h1, hd⟩ := isVar_or h
  · exact ⟨b.fk, .inl ((b.kindOf x).trans h1), hd⟩
  · obtain ⟨a, ha, ho⟩ := b.cells x h1
    exact ⟨b.fk, .inr ⟨(b.kindOf x).trans h1, a, ha⟩, hd⟩
theorem mem_look {x : Str} {sl : Slot} (h : ρ.lookup x = some sl) : (x, sl) ∈ ρ := mem_of_lookup' h
theorem EV.var (b : Body c scope) {x : Str} {p : Pos} {d : D} (h : isVar scope x = true) (hx : ρ.lookup x = some (Slot.val d)) : EV c ρ (.Name x p) d := let n := b.nameOk h; EV.name (mem_look hx) n.1 n.2.1 n.2.2
noncomputable def isGlob (scope : Scope) (x : Str) : Bool := (scope.names.lookup x == some .globalImplicit) && !(x == ("__debug__" : Str))
theorem Body.outer (b : Body c scope) {x : Str} (h : isGlob scope x = true) : Outer c x := by
  have h : scope.names.lookup x = some .globalImplicit ∧ (x == ("__debug__" : Str)) = false := by simpa [isGlob] using h
  exact ⟨b.fk, (b.kindOf x).trans h.1, b.globals, b.builtins, h.2⟩
end


theorem upd_new {x : Str} {sl : Slot} : ∀ {ρ : Rho}, x ∉ ρ.map (·.1) → upd x sl ρ = ρ ++ [(x, sl)] := by
  intro ρ
  induction ρ with
  | nil => intro _; rfl
  | cons p r IH =>
    intro h
    obtain ⟨y, t⟩ := p
    simp only [List.map_cons, List.mem_cons, not_or] at h
    unfold upd
    rw [if_neg (Ne.symm h.1), IH h.2]
    rfl
theorem StO.around {c : Cx} {A' : Around} {sg : Shared} {B : Mp} {Y : List Addr} {fs : List Addr} {m cm : Str → Option Value} {ρ : Rho} {T : List (Value × D)} {s : Shared} (h : StO c sg B Y fs m cm ρ T s) : StO { c with A := A' } sg B Y fs m cm ρ T s :=
  ⟨h.nd, h.own, h.hid, h.keep, h.base, h.ns, h.cells, h.vars, h.temps, h.same, h.mono⟩
theorem St.around {c : Cx} {A' : Around} {sg : Shared} {B : Mp} {Y : List Addr} {ρ : Rho} {T : List (Value × D)} {s : Shared} (h : St c sg B Y ρ T s) : St { c with A := A' } sg B Y ρ T s := by
  obtain ⟨fs, m, cm, x⟩ := h; exact ⟨fs, m, cm, x.around⟩
theorem Body.around {c : Cx} {A' : Around} {scope : Scope} (h : Body c scope) : Body { c with A := A' } scope := ⟨h.is, h.kind, h.cells, h.inj, h.globals, h.builtins⟩

theorem St.binds {c : Cx} {sg : Shared} {B : Mp} {Y : List Addr} {E : Value → Shared → Prop} (f : Str × Value → PUnit → Sem (ForInStep PUnit)) (hf : ∀ n v u, f (n, v) u = (do storeName c.env n v; pure (.yield ⟨⟩))) :
    ∀ (xs : List Str) (vs : List Value) (ds : List D) (ρ : Rho) (s : Shared), St c sg B Y ρ (vs.zip ds) s → vs.length = ds.length → (∀ x ∈ xs, Sto c x) → (ρ.map (·.1) ++ xs).Nodup →
      wpAny c.M c.A (forIn (xs.zip vs) ⟨⟩ f) (fun xx s' => St c sg B Y (ρ ++ xs.zip (ds.map Slot.val)) [] s') E s := by
  intro xs
  induction xs with
  | nil =>
    intro vs ds ρ s h _ _ _
    rw [List.zip_nil_left, List.forIn_nil]; exact wpAny_pure (by simpa using h.temps_sub (T' := []) fun p hp => by cases hp)
  | cons x xs ih =>
    intro vs ds ρ s h hl hs hn
    cases vs with
    | nil =>
      rw [List.zip_nil_right, List.forIn_nil]
      cases (len0 hl.symm : ds = [])
      exact wpAny_pure (by simpa using h)
    | cons v vs =>
    obtain ⟨d, ds, rfl, hl2⟩ := lenS hl.symm
    rw [List.zip_cons_cons, List.forIn_cons, hf]
    have hx : x ∉ ρ.map (·.1) := fun q => by rw [List.nodup_append] at hn; exact hn.2.2 x q x (.head _) rfl
    refine wpAny_bind (wpAny_bind (wpAny_mono (hs x (.head _) _ _ _ _ _ _ _ _ _ h) (fun xx s₁ q => wpAny_pure ?_) fun xx xx e => e))
    rw [upd_new hx] at q
    refine wpAny_mono (ih vs ds _ s₁ q hl2.symm (fun y hy => hs y (.tail _ hy)) (by simpa using hn)) (fun xx s₂ q => ?_) fun xx xx e => e
    simpa using q

theorem enterG {g : Gx} {K : Frag} {k : Nat} {f : Addr} {name qual : Str} {params : Arguments} {body : List Stmt} {scope : Scope} {dV kV doc pm cdv ct oc : Value} {an od : Option Addr} {osl : Array (Option Value)} {xs : List Str} {ds : List D} {Fin : Value → Shared → Prop} {s : Shared} {H : List Addr} (X : Kx K g)
    (ho : K.lookup f = some ⟨oc, od, .func (fnOf name qual params body scope dV kV doc pm an cdv ct), osl⟩) (hcd : codeIn K cdv qual = true)
    (hnd : xs.Nodup) (hsn : (scope.names.map (·.1)).Nodup)
    (hkind : ∀ x ∈ xs, isVar scope x = true)
    (hb : ∀ A L E s₁, Rm A k → Body (cxOf g A (callEnvC (fnOf name qual params body scope dV kV doc pm an cdv ct) L f)) scope → St (cxOf g A (callEnvC (fnOf name qual params body scope dV kV doc pm an cdv ct) L f)) s s.heap.get? H (xs.zip (ds.map Slot.val)) [] s₁ → wpAny (model g.prog g.w) A (execs body (callEnvC (fnOf name qual params body scope dV kV doc pm an cdv ct) L f)) (fun fl s₂ => ∃ v, fl = .ret v ∧ Fin v s₂) E s₁)
    (hco : autoParam (scope.isCoroutine = false) rflTac) (hgen : autoParam (scope.isGenerator = false) rflTac) (hk : autoParam (scope.kind = .function) rflTac) : ∀ A vs (R : Result → Shared → Prop), Rm A (k + 1) → Ok g s H → RepL (Zof s.heap H) vs ds → (∀ v s', Fin v s' → R (.ok (.ret v)) s') →
      wpAny (model g.prog g.w) A.in1 (newFunctionEnv scope mainGlobals [] (xs.zip vs) (qual ++ ".<locals>.") (some f) cdv none builtinsNs) (fun env s₂ => s₂.heap.NoLimit ∧ codeAny (model g.prog g.w) A (.func body env) R s₂) (fun e s' => R (.error e) s') s := fun A vs R hr hok hvs hR => by
  have up : ∀ b o, g.G.get? b = some o → s.heap.get? b = some o := fun b o e => (hok.2.1 b o e).1
  simp only [newFunctionEnv, Option.isSome_none, Bool.false_eq_true, if_false]
  refine wpAny_bind (wpAny_alloc ?_)
  refine wpAny_bind (wpAny_layCells _ (fun name kind cells => by cases hkc : kind == NameKind.cell <;> simp [hkc]) _ _ _ _ ?_)
  have ok := cellsFrom_ok scope.names (s.heap.push { cls := .type "frame", data := .dict #[] }) (s.heap.objs.size + 1) [] ⟨fun xx xx hm => (nomatch hm), List.Pairwise.nil⟩ (by rw [Heap.size_push]; exact Nat.le_refl _)
  rw [Heap.size_push] at ok
  rw [show ({ s with heap := s.heap.push { cls := .type "frame", data := .dict #[] } } : Shared).heap.objs.size = s.heap.objs.size + 1 from Heap.size_push ..]
  have bd : Body (cxOf g A.in1 (callEnvC (fnOf name qual params body scope dV kV doc pm an cdv ct) s.heap.objs.size f)) scope := Body.of (fd := fnOf name qual params body scope dV kV doc pm an cdv ct) hsn hk rfl rfl
  have hcl : ∀ p ∈ (cellsFrom (s.heap.objs.size + 1) scope.names []), (cellsFrom (s.heap.objs.size + 1) scope.names []).lookup p.1 = some p.2 := fun p hp => lookup_of_mem (cellsFrom_keys hsn (by simp) (by simp)) hp
  have hap : (cellAddrs (callEnvC (fnOf name qual params body scope dV kV doc pm an cdv ct) s.heap.objs.size f)).Nodup := cellsFrom_apart (l := scope.names) (n := s.heap.objs.size + 1) (acc := []) (by simp) (by simp)
  have nw : ∀ a, s.heap.objs.size ≤ a → s.heap.get? a = none := fun a ha => by
    cases q : s.heap.get? a with
    | none => rfl
    | some o => exact absurd (Heap.lt_size q) (Nat.not_lt.mpr ha)
  have hYn : ∀ a, s.heap.get? a = none → a ∉ H := fun a e q => by obtain ⟨o, e'⟩ := hok.1 a q; rw [e] at e'; cases e'
  have hkp : ∀ b o, s.heap.get? b = some o → (pushCells (s.heap.push { cls := .type "frame", data := .dict #[] }) scope.names).get? b = some o := fun b o e => pushCells_keeps _ _ b o (Heap.get?_push_of_some _ e)
  have hns : (pushCells (s.heap.push { cls := .type "frame", data := .dict #[] }) scope.names).Ns s.heap.objs.size (fun xx => none) := (Heap.Ns.new s.heap (.type "frame")).keeps (pushCells_keeps _ _)
  have cal : ∀ a ∈ cellAddrs (callEnvC (fnOf name qual params body scope dV kV doc pm an cdv ct) s.heap.objs.size f), s.heap.objs.size < a ∧ ∃ o, (pushCells (s.heap.push { cls := .type "frame", data := .dict #[] }) scope.names).get? a = some o := fun a ha => by
    obtain ⟨⟨y, b⟩, hp, rfl⟩ := List.mem_map.mp ha
    obtain ⟨⟨o, e, _⟩, hlt⟩ := ok.empty y b hp
    exact ⟨hlt, o, e⟩
  have own : ∀ a ∈ s.heap.objs.size :: (cellAddrs (callEnvC (fnOf name qual params body scope dV kV doc pm an cdv ct) s.heap.objs.size f) ++ ([] : List Addr)), s.heap.get? a = none ∧ ∃ o, (pushCells (s.heap.push { cls := .type "frame", data := .dict #[] }) scope.names).get? a = some o := fun a ha => by
    rcases List.mem_cons.mp ha with rfl | ha
    · obtain ⟨o, _, _, e, _⟩ := hns
      exact ⟨nw _ (Nat.le_refl _), o, e⟩
    · have := cal a (by simpa using ha)
      exact ⟨nw a (Nat.le_of_lt this.1), this.2⟩
  have hz : Le (Zof s.heap H) (Zof (pushCells (s.heap.push { cls := .type "frame", data := .dict #[] }) scope.names) (s.heap.objs.size :: (cellAddrs (callEnvC (fnOf name qual params body scope dV kV doc pm an cdv ct) s.heap.objs.size f) ++ ([] : List Addr)) ++ H)) := fun a o e => by
    obtain ⟨e1, e2⟩ := Zof.get e
    refine Zof.of (hkp _ _ e1) fun q => ?_
    rcases List.mem_append.mp q with q | q
    · rw [(own a q).1] at e1; cases e1
    · exact e2 q
  have y : StO (cxOf g A.in1 (callEnvC (fnOf name qual params body scope dV kV doc pm an cdv ct) s.heap.objs.size f)) s s.heap.get? H [] (fun xx => none) (fun xx => none) [] (vs.zip ds) { s with heap := pushCells (s.heap.push { cls := .type "frame", data := .dict #[] }) scope.names } := by
    refine ⟨?_, fun a ha => ⟨(own a ha).1, (own a ha).2, hYn a (own a ha).1⟩, fun a ha => ?_, hkp, fun b o e => ⟨(hok.2.1 b o e).1, (hok.2.1 b o e).2⟩, hns, fun x a e => ⟨(ok.empty x a (mem_of_lookup' e)).1, .inl ?_⟩, rfl, fun p hp => ?_, ⟨rfl, id⟩, ⟨Nat.le_refl _, hok.2.2⟩⟩
    · show (s.heap.objs.size :: (cellAddrs _ ++ ([] : List Addr))).Nodup
      rw [List.append_nil, List.nodup_cons]
      exact ⟨fun q => Nat.lt_irrefl _ (cal _ q).1, hap⟩
    · obtain ⟨o, e⟩ := hok.1 a ha; exact ⟨o, hkp _ _ e⟩
    · exact List.mem_map_of_mem (f := (·.2)) (mem_of_lookup' e)
    · exact (hvs.zip p hp).mono hz
  refine wpAny_bind (wpAny_mono (St.binds (c := cxOf g A.in1 (callEnvC (fnOf name qual params body scope dV kV doc pm an cdv ct) s.heap.objs.size f)) _ (fun xx xx xx => rfl) xs vs ds [] _ ⟨_, _, _, y⟩ hvs.length (fun x hx => bd.sto (hkind x hx)) (by simpa using hnd)) (fun xx s₁ q => wpAny_pure ?_) fun xx xx e => e)
  refine ⟨?_, codeAny_func (wpAny_mono (hb (A.deeper (callEnvC (fnOf name qual params body scope dV kV doc pm an cdv ct) s.heap.objs.size f)) s.heap.objs.size _ s₁ hr.deeper bd.around (show St (cxOf g (A.deeper (callEnvC (fnOf name qual params body scope dV kV doc pm an cdv ct) s.heap.objs.size f)) (callEnvC (fnOf name qual params body scope dV kV doc pm an cdv ct) s.heap.objs.size f)) s s.heap.get? H (xs.zip (ds.map Slot.val)) [] s₁ from q.around)) (fun fl s₂ q => ?_) fun xx xx e => e)⟩
  · obtain ⟨fs, m, cm, z⟩ := q
    exact X.nolimit.keeps fun b o e => z.keep b o (up b o e)
  · obtain ⟨v, rfl, q⟩ := q
    exact hR v s₂ q
theorem enter {g : Gx} {K : Frag} {k : Nat} {f : Addr} {name qual : Str} {params : Arguments} {body : List Stmt} {scope : Scope} {dV kV doc pm cdv ct oc : Value} {an od : Option Addr} {osl : Array (Option Value)} {xs : List Str} {ds : List D} {d : D} (X : Kx K g)
    (ho : K.lookup f = some ⟨oc, od, .func (fnOf name qual params body scope dV kV doc pm an cdv ct), osl⟩) (hcd : codeIn K cdv qual = true)
    (hnd : xs.Nodup) (hsn : (scope.names.map (·.1)).Nodup)
    (hkind : ∀ x ∈ xs, isVar scope x = true)
    (hb : ∀ A L, Rm A k → Body (cxOf g A (callEnvC (fnOf name qual params body scope dV kV doc pm an cdv ct) L f)) scope → EX (cxOf g A (callEnvC (fnOf name qual params body scope dV kV doc pm an cdv ct) L f)) (xs.zip (ds.map Slot.val)) body (.ret d))
    (hco : autoParam (scope.isCoroutine = false) rflTac) (hgen : autoParam (scope.isGenerator = false) rflTac) (hk : autoParam (scope.kind = .function) rflTac) : ∀ A s H vs (R : Result → Shared → Prop), Rm A (k + 1) → Ok g s H → RepL (Zof s.heap H) vs ds → (∀ v s', Keeps s s' → Rep (Zof s'.heap H) v d → R (.ok (.ret v)) s') →
      wpAny (model g.prog g.w) A.in1 (newFunctionEnv scope mainGlobals [] (xs.zip vs) (qual ++ ".<locals>.") (some f) cdv none builtinsNs) (fun env s₂ => s₂.heap.NoLimit ∧ codeAny (model g.prog g.w) A (.func body env) R s₂) (fun e s' => R (.error e) s') s := fun A s H vs R hr hok hvs hR => by
  refine enterG (s := s) (H := H) (ds := ds) (Fin := fun v s' => Keeps s s' ∧ Rep (Zof s'.heap H) v d) X ho hcd hnd hsn hkind (fun A L E s₁ hr bd q => ?_) hco hgen hk A vs R hr hok hvs fun v s' q => hR v s' q.1 q.2
  refine wpAny_mono (hb A L hr bd _ _ _ _ _ E q) (fun fl s₂ q => ?_) fun xx xx e => e
  obtain ⟨v, rfl, fs, m, cm, z⟩ := q
  exact ⟨v, rfl, ⟨s₂.heap, s₂.toks, s₂.gens, z.same.1, z.keep, z.mono.1, z.same.2⟩, (z.temps (v, d) (.head _)).mono (Zof.sub fun a ha => List.mem_append.mpr (.inr ha))⟩
theorem Fn.of {g : Gx} {K : Frag} {k : Nat} {f : Addr} {name qual : Str} {params : Arguments} {body : List Stmt} {scope : Scope} {dV kV doc pm cdv ct oc : Value} {an od : Option Addr} {osl : Array (Option Value)} {xs : List Str} {ds : List D} {d : D} (X : Kx K g)
    (ho : K.lookup f = some ⟨oc, od, .func (fnOf name qual params body scope dV kV doc pm an cdv ct), osl⟩) (hcd : codeIn K cdv qual = true)
    (hbind : ∀ vs : List Value, vs.length = ds.length → bindArgs (fnOf name qual params body scope dV kV doc pm an cdv ct) ⟨vs, []⟩ = pure (xs.zip vs)) (hnd : xs.Nodup) (hsn : (scope.names.map (·.1)).Nodup)
    (hkind : ∀ x ∈ xs, isVar scope x = true)
    (hb : ∀ A L, Rm A k → Body (cxOf g A (callEnvC (fnOf name qual params body scope dV kV doc pm an cdv ct) L f)) scope → EX (cxOf g A (callEnvC (fnOf name qual params body scope dV kV doc pm an cdv ct) L f)) (xs.zip (ds.map Slot.val)) body (.ret d))
    (hco : autoParam (scope.isCoroutine = false) rflTac) (hgen : autoParam (scope.isGenerator = false) rflTac) (hk : autoParam (scope.kind = .function) rflTac) : Fn g (k + 1) (.ref f) ds d := fun A s H vs hr hok hvs E => by
  have up : ∀ b o, g.G.get? b = some o → s.heap.get? b = some o := fun b o e => (hok.2.1 b o e).1
  refine wpAny_call (codeAny_call_function (fd := fnOf name qual params body scope dV kV doc pm an cdv ct) (body := body) (by have := hr.depth; lia) (up _ _ (X.inn _ _ ho)) rfl hco hgen rfl (codeRec_of (X.inn.keeps up) hcd) ?_)
  rw [hbind vs hvs.length]
  exact wpAny_pure (enter X ho hcd hnd hsn hkind hb hco hgen hk A s H vs _ hr hok hvs fun v s' k r => ⟨k, r⟩)
theorem Fn.ofVar {g : Gx} {K : Frag} {k : Nat} {f : Addr} {name qual : Str} {params : Arguments} {body : List Stmt} {scope : Scope} {dV kV doc pm cdv ct oc : Value} {an od : Option Addr} {osl : Array (Option Value)} {xa xp : Str} {d0 : D} {ds : List D} {d : D} (X : Kx K g)
    (ho : K.lookup f = some ⟨oc, od, .func (fnOf name qual params body scope dV kV doc pm an cdv ct), osl⟩) (hcd : codeIn K cdv qual = true)
    (hbind : ∀ (v0 : Value) (vs : List Value), bindArgs (fnOf name qual params body scope dV kV doc pm an cdv ct) ⟨v0 :: vs, []⟩ = (do let t ← newTuple vs; pure [(xa, v0), (xp, t)])) (hsz : ds.length ≤ sizeLine) (hnd : [xa, xp].Nodup) (hsn : (scope.names.map (·.1)).Nodup)
    (hkind : ∀ x ∈ [xa, xp], isVar scope x = true)
    (hb : ∀ A L, Rm A k → Body (cxOf g A (callEnvC (fnOf name qual params body scope dV kV doc pm an cdv ct) L f)) scope → EX (cxOf g A (callEnvC (fnOf name qual params body scope dV kV doc pm an cdv ct) L f)) [(xa, Slot.val d0), (xp, Slot.val (.tuple ds))] body (.ret d))
    (hco : autoParam (scope.isCoroutine = false) rflTac) (hgen : autoParam (scope.isGenerator = false) rflTac) (hk : autoParam (scope.kind = .function) rflTac) : Fn g (k + 1) (.ref f) (d0 :: ds) d := fun A s H vs hr hok hvs E => by
  have up : ∀ b o, g.G.get? b = some o → s.heap.get? b = some o := fun b o e => (hok.2.1 b o e).1
  obtain ⟨v0, us, rfl, r0, rs⟩ := hvs.uncons
  refine wpAny_call (codeAny_call_function (fd := fnOf name qual params body scope dV kV doc pm an cdv ct) (body := body) (by have := hr.depth; lia) (up _ _ (X.inn _ _ ho)) rfl hco hgen rfl (codeRec_of (X.inn.keeps up) hcd) ?_)
  rw [hbind]
  refine wpAny_bind (wpAny_newTuple (wpAny_pure ?_) (by rw [rs.length]; exact hsz))
  have kp := keeps_push s { cls := .type "tuple", data := .seq us.toArray }
  refine enter (xs := [xa, xp]) (ds := [d0, .tuple ds]) X ho hcd hnd hsn hkind hb hco hgen hk A _ H [v0, .ref s.heap.objs.size] _ hr (hok.keeps kp) (.cons (r0.mono (keeps_le kp)) (.cons (.tuple (n := 0) (vs := us) (hok.new rfl) (rs.mono (keeps_le kp))) .nil)) fun v s' k r => ⟨keeps_trans kp k, r⟩
end Mine
end
section
set_option Elab.async false
set_option tactic.hygienic false
set_option linter.unusedVariables false
namespace Mine
open PySem PySem.W PySem.Calls PyProof.Rows

noncomputable abbrev S (l : List Nat) : Str := ⟨l.toArray⟩
theorem S_cps (x : Str) : x = S x.cps.toList := by cases x; simp
theorem S_inj {a b : List Nat} (h : S a = S b) : a = b := by simpa using h
theorem S_append (a b : List Nat) : S a ++ S b = S (a ++ b) := Str.ext' (by simp [Str.cps_append])
theorem S_length (a : List Nat) : (S a).length = a.length := by simp [Str.length]

section
variable {g : Gx} {k : Nat}
theorem keeps_next (s : Shared) : Keeps s { s with toks := s.toks + 1 } := keeps_tok s _ (Nat.le_succ _)
theorem keeps_next2 (s : Shared) : Keeps s { s with toks := s.toks + 1 + 1 } := keeps_tok s _ (by lia)

theorem Op2.add_int {a b : Int} : Op2 g 0 (binaryOp .Add) (.int a) (.int b) (.int (a + b)) := fun A s X v w hr ok ra rb E => by
  obtain ⟨t, rfl⟩ := ra.of_int; obtain ⟨u, rfl⟩ := rb.of_int; exact P.add_int ⟨keeps_next s, .int _ _⟩
theorem Op2.sub_int {a b : Int} : Op2 g 0 (binaryOp .Sub) (.int a) (.int b) (.int (a - b)) := fun A s X v w hr ok ra rb E => by
  obtain ⟨t, rfl⟩ := ra.of_int; obtain ⟨u, rfl⟩ := rb.of_int; exact P.sub_int ⟨keeps_next s, .int _ _⟩
theorem mul_ok {a b : Int} (h : b.natAbs < 2 ^ 60) : IntMulOk a b := by
  unfold IntMulOk
  have h' : ¬ (Builtin.Int.intBits b > shortFactorBits) := by
    have h1 : Builtin.Int.intBits b ≤ 64 := by
      unfold Builtin.Int.intBits
      split
      · exact Nat.zero_le _
      · rename_i hb
        have hb' : b.natAbs ≠ 0 := by simpa using hb
        have := (Nat.log2_lt hb').mpr h
        lia
    exact Nat.not_lt.mpr h1
  rw [decide_eq_false h']; simp
theorem Op2.mul_int {a b : Int} (h : b.natAbs < 2 ^ 60) : Op2 g 0 (binaryOp .Mult) (.int a) (.int b) (.int (a * b)) := fun A s X v w hr ok ra rb E => by
  obtain ⟨t, rfl⟩ := ra.of_int; obtain ⟨u, rfl⟩ := rb.of_int; exact P.mul_int ⟨keeps_next s, .int _ _⟩ (mul_ok h)
theorem Op2.mod_int {a b : Int} (hb : b ≠ 0) : Op2 g 0 (binaryOp .Mod) (.int a) (.int b) (.int (a.fmod b)) := fun A s X v w hr ok ra rb E => by
  obtain ⟨t, rfl⟩ := ra.of_int; obtain ⟨u, rfl⟩ := rb.of_int; exact mod_int' hb ⟨keeps_next s, .int _ _⟩
theorem Op2.iadd_int {a b : Int} : Op2 g 0 (inplaceOp .Add) (.int a) (.int b) (.int (a + b)) := fun A s X v w hr ok ra rb E => by
  obtain ⟨t, rfl⟩ := ra.of_int; obtain ⟨u, rfl⟩ := rb.of_int; exact P.iadd_int ⟨keeps_next s, .int _ _⟩
theorem Op2.imul_int {a b : Int} (h : b.natAbs < 2 ^ 60) : Op2 g 0 (inplaceOp .Mult) (.int a) (.int b) (.int (a * b)) := fun A s X v w hr ok ra rb E => by
  obtain ⟨t, rfl⟩ := ra.of_int; obtain ⟨u, rfl⟩ := rb.of_int; exact P.imul_int ⟨keeps_next s, .int _ _⟩ (mul_ok h)
theorem Op2.floordiv_int {a b : Int} (hb : b ≠ 0) (h : Builtin.divisionGoesByPylong a b = false) : Op2 g 0 (binaryOp .FloorDiv) (.int a) (.int b) (.int (a.fdiv b)) := fun A s X v w hr ok ra rb E => by
  obtain ⟨t, rfl⟩ := ra.of_int; obtain ⟨u, rfl⟩ := rb.of_int
  exact PyProof.Rows.floordiv_int hb ⟨keeps_next s, .int _ _⟩ (.inl h)
theorem Op2.ifloordiv_int {a b : Int} (hb : b ≠ 0) (h : Builtin.divisionGoesByPylong a b = false) : Op2 g 0 (inplaceOp .FloorDiv) (.int a) (.int b) (.int (a.fdiv b)) := fun A s X v w hr ok ra rb E => by
  obtain ⟨t, rfl⟩ := ra.of_int; obtain ⟨u, rfl⟩ := rb.of_int
  exact PyProof.Rows.ifloordiv_int hb ⟨keeps_next s, .int _ _⟩ (.inl h)
theorem Op1.neg_int {a : Int} : Op1 g 0 (unaryOp .USub) (.int a) (.int (-a)) := fun A s X v hr ok ra E => by
  obtain ⟨t, rfl⟩ := ra.of_int; exact P.neg_int ⟨keeps_next s, .int _ _⟩
theorem Op2.eq_int {a b : Int} : Op2 g 0 (compareOp .Eq) (.int a) (.int b) (.bool (a == b)) := fun A s X v w hr ok ra rb E => by
  obtain ⟨t, rfl⟩ := ra.of_int; obtain ⟨u, rfl⟩ := rb.of_int; exact P.eq_int ⟨keeps_refl s, .bool _⟩
theorem Op2.ne_int {a b : Int} : Op2 g 0 (compareOp .NotEq) (.int a) (.int b) (.bool (a != b)) := fun A s X v w hr ok ra rb E => by
  obtain ⟨t, rfl⟩ := ra.of_int; obtain ⟨u, rfl⟩ := rb.of_int; exact P.ne_int ⟨keeps_refl s, .bool _⟩
theorem Op2.lt_int {a b : Int} : Op2 g 0 (compareOp .Lt) (.int a) (.int b) (.bool (decide (a < b))) := fun A s X v w hr ok ra rb E => by
  obtain ⟨t, rfl⟩ := ra.of_int; obtain ⟨u, rfl⟩ := rb.of_int; exact P.lt_int ⟨keeps_refl s, .bool _⟩
theorem Op2.ge_int {a b : Int} : Op2 g 0 (compareOp .GtE) (.int a) (.int b) (.bool (decide (a ≥ b))) := fun A s X v w hr ok ra rb E => by
  obtain ⟨t, rfl⟩ := ra.of_int; obtain ⟨u, rfl⟩ := rb.of_int; exact P.ge_int ⟨keeps_refl s, .bool _⟩

theorem made_cat {X : List Addr} {x y : Str} {t u : Tok} {s : Shared} (hx : Keeps s s) (h : x.length + y.length ≤ sizeLine) :
    (if x.length == 0 then Made.val (.str y u) else if y.length == 0 then Made.val (.str x t) else Made.str (x ++ y)).post (fun v s' => Keeps s s' ∧ Rep (Zof s'.heap X) v (.str (x ++ y))) s := by
  have e0 : ∀ z : Str, z.length = 0 → z = Str.empty := fun z hz => Str.ext' (by
    have : z.cps.size = 0 := hz
    exact Array.eq_empty_of_size_eq_zero this)
  split
  · rename_i hx; rw [e0 x (by simpa using hx), Str.empty_append]; exact ⟨keeps_refl s, .str _ _⟩
  · split
    · rename_i hy; rw [e0 y (by simpa using hy), Str.append_empty]; exact ⟨keeps_refl s, .str _ _⟩
    · exact ⟨by rw [Str.length_append]; exact h, keeps_next s, .str _ _⟩
theorem Op2.add_str {a b : List Nat} (h : a.length + b.length ≤ sizeLine) : Op2 g 0 (binaryOp .Add) (.str (S a)) (.str (S b)) (.str (S (a ++ b))) := fun A s X v w hr ok ra rb E => by
  obtain ⟨t, rfl⟩ := ra.of_str; obtain ⟨u, rfl⟩ := rb.of_str; rw [← S_append]
  exact P.add_str (made_cat (keeps_refl s) (by simpa [S_length] using h))
theorem Op2.iadd_str {a b : List Nat} (h : a.length + b.length ≤ sizeLine) : Op2 g 0 (inplaceOp .Add) (.str (S a)) (.str (S b)) (.str (S (a ++ b))) := fun A s X v w hr ok ra rb E => by
  obtain ⟨t, rfl⟩ := ra.of_str; obtain ⟨u, rfl⟩ := rb.of_str; rw [← S_append]
  exact P.iadd_str (made_cat (keeps_refl s) (by simpa [S_length] using h))
theorem Op2.eq_str {a b : List Nat} : Op2 g 0 (compareOp .Eq) (.str (S a)) (.str (S b)) (.bool (a == b)) := fun A s X v w hr ok ra rb E => by
  obtain ⟨t, rfl⟩ := ra.of_str; obtain ⟨u, rfl⟩ := rb.of_str; exact P.eq_str ⟨keeps_refl s, .bool _⟩
theorem Op2.ne_str {a b : List Nat} : Op2 g 0 (compareOp .NotEq) (.str (S a)) (.str (S b)) (.bool (a != b)) := fun A s X v w hr ok ra rb E => by
  obtain ⟨t, rfl⟩ := ra.of_str; obtain ⟨u, rfl⟩ := rb.of_str; exact P.ne_str ⟨keeps_refl s, .bool _⟩
theorem Op2.lt_str {a b : List Nat} : Op2 g 0 (compareOp .Lt) (.str (S a)) (.str (S b)) (.bool (decide (a < b))) := fun A s X v w hr ok ra rb E => by
  obtain ⟨t, rfl⟩ := ra.of_str; obtain ⟨u, rfl⟩ := rb.of_str; exact P.lt_str ⟨keeps_refl s, .bool _⟩
theorem Op2.le_str {a b : List Nat} : Op2 g 0 (compareOp .LtE) (.str (S a)) (.str (S b)) (.bool (!decide (b < a))) := fun A s X v w hr ok ra rb E => by
  obtain ⟨t, rfl⟩ := ra.of_str; obtain ⟨u, rfl⟩ := rb.of_str; exact P.le_str ⟨keeps_refl s, .bool _⟩
theorem Op2.gt_str {a b : List Nat} : Op2 g 0 (compareOp .Gt) (.str (S a)) (.str (S b)) (.bool (decide (b < a))) := fun A s X v w hr ok ra rb E => by
  obtain ⟨t, rfl⟩ := ra.of_str; obtain ⟨u, rfl⟩ := rb.of_str; exact P.gt_str ⟨keeps_refl s, .bool _⟩
theorem Op2.in_one {a : List Nat} {b : Nat} : Op2 g 0 (compareOp .In) (.str (S [b])) (.str (S a)) (.bool (decide (b ∈ a))) := fun A s X v w hr ok ra rb E => by
  obtain ⟨t, rfl⟩ := ra.of_str; obtain ⟨u, rfl⟩ := rb.of_str
  refine P.in_str ⟨keeps_refl s, ?_⟩
  have := StrLaws.found_one (S a) b
  rw [show (!(Builtin.Str.occurrences (S a) (S [b]) 0 (S a).length 1).isEmpty) = decide (b ∈ a) by simpa using this]
  exact .bool _
theorem Op2.notin_one {a : List Nat} {b : Nat} : Op2 g 0 (compareOp .NotIn) (.str (S [b])) (.str (S a)) (.bool (!decide (b ∈ a))) := fun A s X v w hr ok ra rb E => by
  obtain ⟨t, rfl⟩ := ra.of_str; obtain ⟨u, rfl⟩ := rb.of_str
  refine P.notIn_str ⟨keeps_refl s, ?_⟩
  have := StrLaws.found_one (S a) b
  rw [show (!(Builtin.Str.occurrences (S a) (S [b]) 0 (S a).length 1).isEmpty) = decide (b ∈ a) by simpa using this]
  exact .bool _
theorem Tru.str {a : List Nat} (h : a.length ≤ sizeLine) : Tru g 0 (.str (S a)) (!a.isEmpty) := fun A s X v E hr ok ra => by
  obtain ⟨t, rfl⟩ := ra.of_str
  have h' : a.length ≤ 16777216 := h
  refine P.truthy_str (by rw [S_length]; lia) ⟨keeps_next2 s, ?_⟩
  rw [S_length]
  cases a <;> simp
  lia

theorem Op2.sub_str {a : List Nat} {i : Int} {j c : Nat} (hi : seqIndex? i a.length = some j) (hc : a[j]? = some c) (hlo : -(2 ^ 62 : Int) ≤ i) (hhi : i < 2 ^ 62) : Op2 g 0 getItem (.str (S a)) (.int i) (.str (S [c])) := fun A s X v w hr ok ra rb E => by
  obtain ⟨t, rfl⟩ := ra.of_str; obtain ⟨u, rfl⟩ := rb.of_int
  refine P.getItem_str (c := c) ?_ ?_ ⟨keeps_next s, .str _ _⟩
  · rw [Bool.or_eq_false_iff]; constructor <;> exact decide_eq_false (by lia)
  · rw [S_length, hi]; simpa using hc
theorem Op2.sub_list {ds : List D} {d : D} {i : Int} {j : Nat} (hi : seqIndex? i ds.length = some j) (hc : ds[j]? = some d) (hlo : -(2 ^ 62 : Int) ≤ i) (hhi : i < 2 ^ 62) : Op2 g 0 getItem (.list ds) (.int i) d := fun A s X v w hr ok ra rb E => by
  obtain ⟨a, vs, n, rfl, hz, hr'⟩ := ra.of_list; obtain ⟨u, rfl⟩ := rb.of_int
  have hl : s.heap.IsList a vs.toArray := ⟨_, (Zof.get hz).1, rfl, n, rfl⟩
  obtain ⟨x, hx, rx⟩ := hr'.get hc
  have hlen := hr'.length
  unfold seqIndex? at hi
  by_cases h0 : i < 0
  · simp only [h0, if_true] at hi
    split at hi
    · rename_i hh
      simp only [Bool.and_eq_true, decide_eq_true_eq] at hh
      cases hi
      refine wpAny_getItem_list_neg hl h0 (by simp; lia) (by lia) (x := x) ?_ ⟨keeps_refl s, rx⟩
      rw [← hlen] at hx
      simpa using hx
    · cases hi
  · simp only [h0, if_false] at hi
    split at hi
    · rename_i hh
      simp only [Bool.and_eq_true, decide_eq_true_eq] at hh
      cases hi
      exact wpAny_getItem_list hl (by lia) (by lia) (x := x) (by simpa using hx) ⟨keeps_refl s, rx⟩
    · cases hi
theorem Op2.sub_tuple {ds : List D} {d : D} {i : Int} {j : Nat} (hi : seqIndex? i ds.length = some j) (hc : ds[j]? = some d) (hlo : -(2 ^ 62 : Int) ≤ i) (hhi : i < 2 ^ 62) : Op2 g 0 getItem (.tuple ds) (.int i) d := fun A s X v w hr ok ra rb E => by
  obtain ⟨a, vs, n, rfl, hz, hr'⟩ := ra.of_tuple; obtain ⟨u, rfl⟩ := rb.of_int
  obtain ⟨x, hx, rx⟩ := hr'.get hc
  exact P.getItem_tuple (k := j) (y := x) (items := vs.toArray) (n := n) (Zof.get hz).1 (by lia) (by lia) (by rw [List.size_toArray, hr'.length]; exact hi) (by simpa using hx) ⟨keeps_refl s, rx⟩
end
end Mine
end
section
set_option Elab.async false
set_option tactic.hygienic false
set_option linter.unusedVariables false
namespace Mine
open PySem PySem.W PySem.Calls PyProof.Rows

structure Dr (lf : Nat → D → D) (lo : Nat) (prog : Program) (w : World) (F : Mp) (it : Addr) (fp : List Addr) (items : List D) (St : Nat → Heap → Prop) : Prop where
  mem : it ∈ fp
  live : ∀ i h, St i h → ∃ o, h.get? it = some o
  frame : ∀ i h h', St i h → (∀ b ∈ fp, ∀ o, h.get? b = some o → h'.get? b = some o) → St i h'
  item : ∀ (A : Around) i (s : Shared) (Q : Value → Shared → Prop) (E : Value → Shared → Prop) d, items[i]? = some d → lo ≤ s.toks → 0 < s.toks → St i s.heap →
    (∀ x h' tk, s.toks ≤ tk → Rep F x (lf tk d) → St (i + 1) h' → Heap.SameBut it s.heap h' → Q x { s with heap := h', toks := tk }) → wpAny (model prog w) A (Builtin.SmallTypes.nextOf (.ref it)) Q E s
  done : ∀ (A : Around) i (s : Shared) (Q : Value → Shared → Prop) (E : Value → Shared → Prop), A.handled = none → items[i]? = none → St i s.heap → i ≤ items.length →
    (∀ h' e, Heap.ExtBut it s.heap h' → (∃ o, h'.get? e = some o ∧ o.cls = .type "StopIteration") → E (.ref e) { s with heap := h' }) → wpAny (model prog w) A (Builtin.SmallTypes.nextOf (.ref it)) Q E s

section
variable {prog : Program} {w : World}
theorem Dr.list {lo : Nat} {F : Mp} (it l : Addr) (hne : l ≠ it) (vs : List Value) (ds : List D) (hr : RepL F vs ds) : Dr L0 lo prog w F it [it, l] ds (fun i h => h.IsListIter it l i ∧ h.IsList l vs.toArray) where
  mem := by simp
  live := fun xx xx st => st.1.elim fun o ho => ⟨o, ho.1⟩
  frame := fun xx xx xx st hk => ⟨st.1.at fun o e => hk it (by simp) o e, st.2.at fun o e => hk l (by simp) o e⟩
  item := fun A i s Q E d hd hlo hpos st hQ => by
    obtain ⟨v, hv, r⟩ := hr.get hd
    refine wpAny_nextOf_list_item st.1 st.2 (x := v) (by simpa using hv) fun h' hit' hs' => ?_
    exact hQ _ h' s.toks (Nat.le_refl _) r ⟨hit', st.2.extBut hs'.extBut hne⟩ hs'
  done := fun A i s Q E hh hi st xx hE => wpAny_nextOf_list_end hh st.1 st.2 (by
    have := hr.length
    rw [List.getElem?_eq_none_iff] at hi
    simp; lia) hE
theorem Dr.str {lo : Nat} {F : Mp} (it : Addr) (x : Str) (t : Tok) : Dr L0 lo prog w F it [it] (chars x) (fun i h => h.IsStrIter it "str_ascii_iterator" x t i) where
  mem := by simp
  live := fun xx xx st => st.elim fun o ho => ⟨o, ho.1⟩
  frame := fun xx xx xx st hk => by obtain ⟨o, e, r⟩ := st; exact ⟨o, hk it (by simp) _ e, r⟩
  item := fun A i s Q E d hd hlo hpos st hQ => by
    have hd' : ∃ c, x.cps[i]? = some c ∧ d = .str ⟨#[c]⟩ := by
      simp only [chars, List.getElem?_map, Option.map_eq_some_iff] at hd
      obtain ⟨c, e, rfl⟩ := hd
      exact ⟨c, by simpa using e, rfl⟩
    obtain ⟨c, hc, rfl⟩ := hd'
    refine wpAny_nextOf_ascii_item st hc fun h' hit' hs' => ?_
    exact hQ _ h' _ (Nat.le_succ _) (.str _ _) hit' hs'
  done := fun A i s Q E hh hi st xx hE => wpAny_nextOf_ascii_end hh st (by simpa [chars] using hi) hE

noncomputable def LT (n : Nat) : D → D
  | .str x => .lt x n
  | d => d
theorem Dr.strT {lo : Nat} {F : Mp} (it : Addr) (x : Str) (t : Tok) : Dr LT lo prog w F it [it] (chars x) (fun i h => h.IsStrIter it "str_ascii_iterator" x t i) where
  mem := by simp
  live := fun xx xx st => st.elim fun o ho => ⟨o, ho.1⟩
  frame := fun xx xx xx st hk => by obtain ⟨o, e, r⟩ := st; exact ⟨o, hk it (by simp) _ e, r⟩
  item := fun A i s Q E d hd hlo hpos st hQ => by
    have hd' : ∃ c, x.cps[i]? = some c ∧ d = .str ⟨#[c]⟩ := by
      simp only [chars, List.getElem?_map, Option.map_eq_some_iff] at hd
      obtain ⟨c, e, rfl⟩ := hd
      exact ⟨c, by simpa using e, rfl⟩
    obtain ⟨c, hc, rfl⟩ := hd'
    refine wpAny_nextOf_ascii_item st hc fun h' hit' hs' => ?_
    exact hQ _ h' _ (Nat.le_succ _) (.lt _ _ _ hpos (Nat.lt_succ_self _)) hit' hs'
  done := fun A i s Q E hh hi st xx hE => wpAny_nextOf_ascii_end hh st (by simpa [chars] using hi) hE

noncomputable def charsG (x : Str) (lo : Nat) : List D := x.cps.toList.map fun c => .ge ⟨#[c]⟩ lo
theorem Dr.strG {lo : Nat} {F : Mp} (it : Addr) (x : Str) (t : Tok) : Dr L0 lo prog w F it [it] (charsG x lo) (fun i h => h.IsStrIter it "str_ascii_iterator" x t i) where
  mem := by simp
  live := fun xx xx st => st.elim fun o ho => ⟨o, ho.1⟩
  frame := fun xx xx xx st hk => by obtain ⟨o, e, r⟩ := st; exact ⟨o, hk it (by simp) _ e, r⟩
  item := fun A i s Q E d hd hlo hpos st hQ => by
    have hd' : ∃ c, x.cps[i]? = some c ∧ d = .ge ⟨#[c]⟩ lo := by
      simp only [charsG, List.getElem?_map, Option.map_eq_some_iff] at hd
      obtain ⟨c, e, rfl⟩ := hd
      exact ⟨c, by simpa using e, rfl⟩
    obtain ⟨c, hc, rfl⟩ := hd'
    refine wpAny_nextOf_ascii_item st hc fun h' hit' hs' => ?_
    exact hQ _ h' _ (Nat.le_succ _) (.ge _ _ _ hlo) hit' hs'
  done := fun A i s Q E hh hi st xx hE => wpAny_nextOf_ascii_end hh st (by simpa [charsG] using hi) hE

structure ZAp (z TI TO i1 i2 : Addr) (fp1 fp2 : List Addr) : Prop where
  TIz : TI ≠ z
  TOz : TO ≠ z
  TITO : TI ≠ TO
  TIi1 : TI ≠ i1
  TIi2 : TI ≠ i2
  z1 : z ∉ fp1
  z2 : z ∉ fp2
  O1 : TO ∉ fp1
  O2 : TO ∉ fp2
  i1 : i1 ∉ fp2
  i2 : i2 ∉ fp1

variable {lf : Nat → D → D} {lo : Nat} {F : Mp} {z TI TO i1 i2 : Addr} {fp1 fp2 : List Addr} {ds1 ds2 : List D} {St1 St2 : Nat → Heap → Prop} {A : Around} {E : Value → Shared → Prop} {s : Shared}
theorem nin {a b : Addr} {l : List Addr} (h : a ∈ l) (k : b ∉ l) : a ≠ b := fun e => k (e ▸ h)
theorem zip_item {i : Nat} {d1 d2 : D} {a b : Value} {Q : Value → Shared → Prop} (D1 : Dr L0 lo prog w F i1 fp1 ds1 St1) (D2 : Dr lf lo prog w F i2 fp2 ds2 St2) (D : ZAp z TI TO i1 i2 fp1 fp2)
    (hz : IsZip s.heap z TI TO .none) (hTI : IsPair s.heap TI (.ref i1) (.ref i2)) (hTO : IsPair s.heap TO a b) (hlo : lo ≤ s.toks) (hpos : 0 < s.toks) (h1 : St1 i s.heap) (h2 : St2 i s.heap) (e1 : ds1[i]? = some d1) (e2 : ds2[i]? = some d2)
    (hQ : ∀ h' tk x y, s.toks ≤ tk → Rep F x d1 → Rep F y (lf tk d2) → IsZip h' z TI TO (rawInt s.heap.objs.size) → IsPair h' TO x y → St1 (i + 1) h' → St2 (i + 1) h' → IsPair h' s.heap.objs.size x y → h'.objs.size = s.heap.objs.size + 1 →
      (∀ c o, c ≠ z → c ≠ TO → c ≠ i1 → c ≠ i2 → s.heap.get? c = some o → h'.get? c = some o) → Q (.ref s.heap.objs.size) { s with heap := h', toks := tk }) :
    wpAny (model prog w) A (Builtin.«zip.__next__» ⟨[.ref z], []⟩) (fun fin s' => ∃ v, fin = .done (.ret v) ∧ Q v s') E s := by
  have i1z := nin D1.mem D.z1
  have i2z := nin D2.mem D.z2
  have TOi1 := (nin D1.mem D.O1).symm
  have TOi2 := (nin D2.mem D.O2).symm
  have i12 : i1 ≠ i2 := (nin D2.mem D.i1).symm
  show wpAny _ _ (field (.ref z) 2 >>= _) _ _ _
  refine wpAny_bind (wpAny_field hz rfl (x := .bool false) rfl ?_)
  show wpAny _ _ (field (.ref z) 3 >>= _) _ _ _
  refine wpAny_bind (wpAny_field hz rfl (x := .ref TI) rfl ?_)
  refine wpAny_bind (wpAny_seqItems hTI rfl ?_)
  show wpAny _ _ (Builtin.SmallTypes.ownedTupleIsFree (.ref z) >>= _) _ _ _
  refine wpAny_bind ?_
  unfold Builtin.SmallTypes.ownedTupleIsFree
  refine wpAny_bind (wpAny_field hz rfl (x := .none) rfl (wpAny_pure ?_))
  first | refine wpAny_ite_true rfl ?_ | simp only [if_true]
  refine wpAny_bind (wpAny_rule ?_)
  refine wpAny_bind (wpAny_field hz rfl (x := .ref TO) rfl ?_)
  refine wpAny_bind (wpAny_setField_rec hz (by simp) fun h₁ hz₁ hs₁ => ?_)
  replace hz₁ : IsZip h₁ z TI TO .ellipsis := hz₁
  refine wpAny_bind ?_
  rw [List.zipIdx_cons, List.zipIdx_cons, List.zipIdx_nil, List.forIn_cons]
  refine wpAny_bind (wpAny_bind (wpAny_onRaise ?_))
  show wpAny _ _ (Builtin.SmallTypes.nextOf (.ref i1) >>= _) _ _ _
  have st1₁ : St1 i h₁ := D1.frame _ _ _ h1 fun b hb o e => hs₁.extBut b o (nin hb D.z1) e
  have st2₁ : St2 i h₁ := D2.frame _ _ _ h2 fun b hb o e => hs₁.extBut b o (nin hb D.z2) e
  refine wpAny_bind (D1.item _ _ _ _ _ _ e1 hlo hpos st1₁ fun x h₂ tk₂ ht₂ rx st1₂ hs₂ => wpAny_pure ?_)
  replace hs₂ : Heap.SameBut i1 h₁ h₂ := hs₂
  have hTO₂ : IsPair h₂ TO a b := hs₂.extBut _ _ TOi1 (hs₁.extBut _ _ D.TOz hTO)
  refine wpAny_bind (wpAny_seqItems hTO₂ rfl ?_)
  refine wpAny_bind (wpAny_updateSeq_pair hTO₂ fun h₃ hTO₃ hs₃ => ?_)
  replace hTO₃ : IsPair h₃ TO x b := hTO₃
  replace hs₃ : Heap.SameBut TO h₂ h₃ := hs₃
  refine wpAny_bind (wpAny_letGo (wpAny_pure ?_))
  dsimp only
  rw [List.forIn_cons]
  refine wpAny_bind (wpAny_bind (wpAny_onRaise ?_))
  show wpAny _ _ (Builtin.SmallTypes.nextOf (.ref i2) >>= _) _ _ _
  have st2₃ : St2 i h₃ := D2.frame _ _ _ st2₁ fun b hb o e => hs₃.extBut b o (nin hb D.O2) (hs₂.extBut b o (nin hb D.i1) e)
  refine wpAny_bind (D2.item _ _ _ _ _ _ e2 (Nat.le_trans hlo ht₂) (Nat.lt_of_lt_of_le hpos ht₂) st2₃ fun y h₄ tk₄ ht₄ ry st2₄ hs₄ => wpAny_pure ?_)
  replace hs₄ : Heap.SameBut i2 h₃ h₄ := hs₄
  have hTO₄ : IsPair h₄ TO x b := hs₄.extBut _ _ TOi2 hTO₃
  refine wpAny_bind (wpAny_seqItems hTO₄ rfl ?_)
  refine wpAny_bind (wpAny_updateSeq_pair hTO₄ fun h₅ hTO₅ hs₅ => ?_)
  replace hTO₅ : IsPair h₅ TO x y := hTO₅
  replace hs₅ : Heap.SameBut TO h₄ h₅ := hs₅
  refine wpAny_bind (wpAny_letGo (wpAny_pure (wpAny_pure ?_)))
  refine wpAny_bind (wpAny_seqItems hTO₅ rfl ?_)
  refine wpAny_bind (wpAny_newTuple ?_)
  have hsz : h₅.objs.size = s.heap.objs.size := by rw [hs₅.1, hs₄.1, hs₃.1, hs₂.1, hs₁.1]
  have hz₅ : IsZip h₅ z TI TO .ellipsis := hs₅.extBut _ _ D.TOz.symm (hs₄.extBut _ _ i2z.symm (hs₃.extBut _ _ D.TOz.symm (hs₂.extBut _ _ i1z.symm hz₁)))
  have hk₅ : ∀ c o, c ≠ z → c ≠ TO → c ≠ i1 → c ≠ i2 → s.heap.get? c = some o → h₅.get? c = some o := fun c o c1 c2 c3 c4 e =>
    hs₅.extBut _ _ c2 (hs₄.extBut _ _ c4 (hs₃.extBut _ _ c2 (hs₂.extBut _ _ c3 (hs₁.extBut _ _ c1 e))))
  have h1₅ : St1 (i + 1) h₅ := D1.frame _ _ _ st1₂ fun b hb o e => hs₅.extBut b o (nin hb D.O1) (hs₄.extBut b o (nin hb D.i2) (hs₃.extBut b o (nin hb D.O1) e))
  have h2₅ : St2 (i + 1) h₅ := D2.frame _ _ _ st2₄ fun b hb o e => hs₅.extBut b o (nin hb D.O2) e
  have hzlt : z < h₅.objs.size := Heap.lt_size hz₅
  have hTOlt : TO < h₅.objs.size := Heap.lt_size hTO₅
  show wpAny _ _ (Builtin.SmallTypes.ownedTupleHandOut (.ref z) (.ref h₅.objs.size) >>= _) _ _ _
  refine wpAny_bind ?_
  unfold Builtin.SmallTypes.ownedTupleHandOut
  have hz₆ : IsZip (h₅.push { cls := .type "tuple", data := .seq #[x, y] }) z TI TO .ellipsis := Heap.get?_push_of_some _ hz₅
  refine wpAny_bind (wpAny_setField_rec hz₆ (by simp) fun h₇ hz₇ hs₇ => ?_)
  replace hz₇ : IsZip h₇ z TI TO (rawInt h₅.objs.size) := hz₇
  replace hs₇ : Heap.SameBut z (h₅.push { cls := .type "tuple", data := .seq #[x, y] }) h₇ := hs₇
  refine wpAny_setField_rec hz₇ (by simp) fun h₈ hz₈ hs₈ => ?_
  replace hz₈ : IsZip h₈ z TI TO (rawInt h₅.objs.size) := hz₈
  replace hs₈ : Heap.SameBut z h₇ h₈ := hs₈
  have up : ∀ c o, c ≠ z → h₅.get? c = some o → h₈.get? c = some o := fun c o c1 e => hs₈.extBut _ _ c1 (hs₇.extBut _ _ c1 (Heap.get?_push_of_some _ e))
  have hT₈ : IsPair h₈ h₅.objs.size x y := hs₈.extBut _ _ (Nat.ne_of_gt hzlt) (hs₇.extBut _ _ (Nat.ne_of_gt hzlt) (Heap.get?_push_size _ rfl))
  have hz8 : h₈.objs.size = h₅.objs.size + 1 := by rw [hs₈.1, hs₇.1, Heap.size_push]
  rw [hsz] at hz₈ hT₈ hz8
  refine wpAny_pure ⟨_, rfl, ?_⟩
  show Q (.ref h₅.objs.size) _
  rw [hsz]
  exact hQ h₈ _ x y (Nat.le_trans ht₂ ht₄) rx ry hz₈ (up _ _ D.TOz hTO₅) (D1.frame _ _ _ h1₅ fun b hb o e => up b o (nin hb D.z1) e) (D2.frame _ _ _ h2₅ fun b hb o e => up b o (nin hb D.z2) e) hT₈ hz8 fun c o c1 c2 c3 c4 e => up c o c1 (hk₅ c o c1 c2 c3 c4 e)

theorem zip_end {i : Nat} {a b : Value} {Q : Fin → Shared → Prop} (hh : A.handled = none) (D1 : Dr L0 lo prog w F i1 fp1 ds1 St1) (D2 : Dr lf lo prog w F i2 fp2 ds2 St2) (D : ZAp z TI TO i1 i2 fp1 fp2)
    (hz : IsZip s.heap z TI TO .none) (hTI : IsPair s.heap TI (.ref i1) (.ref i2)) (hTO : IsPair s.heap TO a b) (hlo : lo ≤ s.toks) (hpos : 0 < s.toks) (h1 : St1 i s.heap) (h2 : St2 i s.heap) (hend : ds1[i]? = none ∨ ds2[i]? = none) (hl1 : i ≤ ds1.length) (hl2 : i ≤ ds2.length)
    (hE : ∀ h' tk e, s.toks ≤ tk → (∀ c o, c ≠ z → c ≠ TO → c ≠ i1 → c ≠ i2 → s.heap.get? c = some o → h'.get? c = some o) → (∃ o, h'.get? e = some o ∧ o.cls = .type "StopIteration") → E (.ref e) { s with heap := h', toks := tk }) :
    wpAny (model prog w) A (Builtin.«zip.__next__» ⟨[.ref z], []⟩) Q E s := by
  have i1z := nin D1.mem D.z1
  have i2z := nin D2.mem D.z2
  have TOi1 := (nin D1.mem D.O1).symm
  have TOi2 := (nin D2.mem D.O2).symm
  show wpAny _ _ (field (.ref z) 2 >>= _) _ _ _
  refine wpAny_bind (wpAny_field hz rfl (x := .bool false) rfl ?_)
  show wpAny _ _ (field (.ref z) 3 >>= _) _ _ _
  refine wpAny_bind (wpAny_field hz rfl (x := .ref TI) rfl ?_)
  refine wpAny_bind (wpAny_seqItems hTI rfl ?_)
  show wpAny _ _ (Builtin.SmallTypes.ownedTupleIsFree (.ref z) >>= _) _ _ _
  refine wpAny_bind ?_
  unfold Builtin.SmallTypes.ownedTupleIsFree
  refine wpAny_bind (wpAny_field hz rfl (x := .none) rfl (wpAny_pure ?_))
  first | refine wpAny_ite_true rfl ?_ | simp only [if_true]
  refine wpAny_bind (wpAny_rule ?_)
  refine wpAny_bind (wpAny_field hz rfl (x := .ref TO) rfl ?_)
  refine wpAny_bind (wpAny_setField_rec hz (by simp) fun h₁ hz₁ hs₁ => ?_)
  replace hz₁ : IsZip h₁ z TI TO .ellipsis := hz₁
  refine wpAny_bind ?_
  rw [List.zipIdx_cons, List.zipIdx_cons, List.zipIdx_nil, List.forIn_cons]
  refine wpAny_bind (wpAny_bind (wpAny_onRaise ?_))
  show wpAny _ _ (Builtin.SmallTypes.nextOf (.ref i1) >>= _) _ _ _
  have st1₁ : St1 i h₁ := D1.frame _ _ _ h1 fun b hb o e => hs₁.extBut b o (nin hb D.z1) e
  have st2₁ : St2 i h₁ := D2.frame _ _ _ h2 fun b hb o e => hs₁.extBut b o (nin hb D.z2) e
  cases e1 : ds1[i]? with
  | none =>
    refine wpAny_bind (D1.done _ _ _ _ _ hh e1 st1₁ hl1 fun h₂ e hs₂ he => ?_)
    obtain ⟨oe, hoe, hce⟩ := he
    have hz₂ : IsZip h₂ z TI TO .ellipsis := hs₂ _ _ i1z.symm hz₁
    have hez : e ≠ z := fun x => by subst x; rw [hz₂] at hoe; cases hoe; simp at hce
    refine wpAny_setField_rec hz₂ (by simp) fun h₃ xx hs₃ => hE h₃ _ e (Nat.le_refl _) (fun c o c1 xx c3 xx x => hs₃.extBut _ _ c1 (hs₂ _ _ c3 (hs₁.extBut _ _ c1 x))) ⟨oe, hs₃.extBut _ _ hez hoe, hce⟩
  | some d1 =>
    have e2 : ds2[i]? = none := by rcases hend with h | h; rw [e1] at h; cases h; exact h
    refine wpAny_bind (D1.item _ _ _ _ _ _ e1 hlo hpos st1₁ fun x h₂ tk₂ ht₂ rx st1₂ hs₂ => wpAny_pure ?_)
    replace hs₂ : Heap.SameBut i1 h₁ h₂ := hs₂
    have hTO₂ : IsPair h₂ TO a b := hs₂.extBut _ _ TOi1 (hs₁.extBut _ _ D.TOz hTO)
    refine wpAny_bind (wpAny_seqItems hTO₂ rfl ?_)
    refine wpAny_bind (wpAny_updateSeq_pair hTO₂ fun h₃ hTO₃ hs₃ => ?_)
    replace hs₃ : Heap.SameBut TO h₂ h₃ := hs₃
    refine wpAny_bind (wpAny_letGo (wpAny_pure ?_))
    refine wpAny_bind (wpAny_bind (wpAny_onRaise ?_))
    show wpAny _ _ (Builtin.SmallTypes.nextOf (.ref i2) >>= _) _ _ _
    have st2₃ : St2 i h₃ := D2.frame _ _ _ st2₁ fun b hb o e => hs₃.extBut b o (nin hb D.O2) (hs₂.extBut b o (nin hb D.i1) e)
    refine wpAny_bind (D2.done _ _ _ _ _ hh e2 st2₃ hl2 fun h₄ e hs₄ he => ?_)
    obtain ⟨oe, hoe, hce⟩ := he
    have hz₄ : IsZip h₄ z TI TO .ellipsis := hs₄ _ _ i2z.symm (hs₃.extBut _ _ D.TOz.symm (hs₂.extBut _ _ i1z.symm hz₁))
    have hez : e ≠ z := fun x => by subst x; rw [hz₄] at hoe; cases hoe; simp at hce
    refine wpAny_setField_rec hz₄ (by simp) fun h₅ xx hs₅ => hE h₅ _ e ht₂ (fun c o c1 c2 c3 c4 x => hs₅.extBut _ _ c1 (hs₄ _ _ c4 (hs₃.extBut _ _ c2 (hs₂.extBut _ _ c3 (hs₁.extBut _ _ c1 x))))) ⟨oe, hs₅.extBut _ _ hez hoe, hce⟩
end
end Mine
end
section
set_option Elab.async false
set_option linter.unusedVariables false
namespace Mine
open PySem PySem.W PySem.Calls PyProof.Rows

noncomputable def pairs (ds1 ds2 : List D) : List D := (ds1.zip ds2).map fun p => .tuple [p.1, p.2]
section
variable {prog : Program} {w : World} {A : Around} {lf : Nat → D → D} {lo : Nat} {Fz : Mp} {z TI TO i1 i2 : Addr} {fp1 fp2 : List Addr} {ds1 ds2 : List D} {St1 St2 : Nat → Heap → Prop} {s : Shared}
noncomputable def lfz (lf : Nat → D → D) (n : Nat) : D → D
  | .tuple [a, b] => .tuple [a, lf n b]
  | d => d
theorem lfz_L0 : lfz L0 = L0 := by
  funext n d
  cases d
  case tuple ds => rcases ds with _ | ⟨a, _ | ⟨b, _ | ⟨c, r⟩⟩⟩ <;> rfl
  all_goals rfl
theorem Wk.zip (hh : A.handled = none) (D1 : Dr L0 lo prog w Fz i1 fp1 ds1 St1) (D2 : Dr lf lo prog w Fz i2 fp2 ds2 St2) (D : ZAp z TI TO i1 i2 fp1 fp2) :
    Wk true (lfz lf) lo (model prog w) A Fz (.ref z) (z :: TI :: TO :: (fp1 ++ fp2)) [z, TO, i1, i2] (pairs ds1 ds2)
      (fun i h => IsZip h z TI TO .none ∧ IsPair h TI (.ref i1) (.ref i2) ∧ (∃ a b, IsPair h TO a b) ∧ St1 i h ∧ St2 i h)
      (fun i v h => ∃ T, v = .ref T ∧ IsZip h z TI TO (rawInt T) ∧ IsPair h TI (.ref i1) (.ref i2) ∧ (∃ a b, IsPair h TO a b) ∧ St1 (i + 1) h ∧ St2 (i + 1) h) where
  sub := fun c hc => by
    simp only [List.mem_cons, List.not_mem_nil, or_false, List.mem_append] at hc ⊢
    rcases hc with rfl | rfl | rfl | rfl
    · exact .inl rfl
    · exact .inr (.inr (.inl rfl))
    · exact .inr (.inr (.inr (.inl D1.mem)))
    · exact .inr (.inr (.inr (.inr D2.mem)))
  frame := fun i h h' hqz hk => by
    obtain ⟨hz, hTI, ⟨a, b, hTO⟩, h1, h2⟩ := hqz
    exact ⟨hk z (by simp) _ hz, hk TI (by simp) _ hTI, ⟨a, b, hk TO (by simp) _ hTO⟩, D1.frame _ _ _ h1 fun b hb o e => hk b (by simp [hb]) o e, D2.frame _ _ _ h2 fun b hb o e => hk b (by simp [hb]) o e⟩
  alive := fun i h st0 c hc => by
    obtain ⟨hz, hTI, ⟨a, b, hTO⟩, h1, h2⟩ := st0
    simp only [List.mem_cons, List.not_mem_nil, or_false] at hc
    rcases hc with rfl | rfl | rfl | rfl
    · exact ⟨_, hz⟩
    · exact ⟨_, hTO⟩
    · exact D1.live _ _ h1
    · exact D2.live _ _ h2
  next := fun i s Q E d hd hlo hpos st0 hF hQ => by
    obtain ⟨hz, hTI, ⟨a, b, hTO⟩, h1, h2⟩ := st0
    obtain ⟨d1, d2, e1, e2, rfl⟩ : ∃ d1 d2, ds1[i]? = some d1 ∧ ds2[i]? = some d2 ∧ d = .tuple [d1, d2] := by
      simp only [pairs, List.getElem?_map, Option.map_eq_some_iff] at hd
      obtain ⟨⟨d1, d2⟩, e, rfl⟩ := hd
      rw [List.getElem?_zip_eq_some] at e
      exact ⟨d1, d2, e.1, e.2, rfl⟩
    have hT : s.TypeIs (.ref z) "zip" := ⟨_, hz, rfl⟩
    unfold pyNext
    refine wpAny_bind (wpAny_attempt (wpAny_callSpecial?_slot (name := Str.ofString "__next__") hT F.slot_zip_next (wpAny_call_entry F.slot_zip_next hT F.entry_zip_next
      (zip_item D1 D2 D hz hTI hTO hlo hpos h1 h2 e1 e2 fun h' tk x y ht rx ry a1 a2 a3 a4 a5 a6 hk => wpAny_pure ?_) (F.args_zip_next_1 _))))
    have hfr : s.heap.get? s.heap.objs.size = none := fresh_none
    have hFT : Fz s.heap.objs.size = none := by
      cases q : Fz s.heap.objs.size with
      | none => rfl
      | some o => have := hF _ _ q; rw [hfr] at this; cases this
    have lt : ∀ {c o}, s.heap.get? c = some o → c ≠ s.heap.objs.size := fun e => Nat.ne_of_lt (Heap.lt_size e)
    have hTI' : IsPair h' TI (.ref i1) (.ref i2) := hk _ _ D.TIz D.TITO D.TIi1 D.TIi2 hTI
    refine hQ _ h' tk ht ⟨_, rfl, a1, hTI', ⟨_, _, a2⟩, a3, a4⟩ ?_ (fun c o hc e => hk c o (fun x => hc (by simp [x])) (fun x => hc (by simp [x])) (fun x => hc (by simp [x])) (fun x => hc (by simp [x])) e) ?_
    · refine .tuple (vs := [x, y]) (n := 0) ?_ (.cons (rx.mono (newer_le _ _ _)) (.cons (ry.mono (newer_le _ _ _)) .nil))
      unfold newer
      rw [hFT]
      simp only [hfr, if_true]
      exact a5
    · intro c hc
      simp only [List.mem_cons, List.not_mem_nil, or_false] at hc
      rcases hc with rfl | rfl | rfl | rfl
      · exact ⟨_, a1⟩
      · exact ⟨_, a2⟩
      · exact D1.live _ _ a3
      · exact D2.live _ _ a4
  go := fun target i v s Q E ht st0 hQ => by
    obtain ⟨T, hv, hz, hTI, ⟨a, b, hTO⟩, h1, h2⟩ := st0
    subst hv
    obtain ⟨elts, k, pos, rfl⟩ := isTup_elim (ht rfl)
    refine wpAny_letOwnedTupleGo_zip hz fun h' hz' hs' => hQ h' ⟨hz', hs'.extBut _ _ D.TIz hTI, ⟨a, b, hs'.extBut _ _ D.TOz hTO⟩, D1.frame _ _ _ h1 fun b hb o e => hs'.extBut b o (nin hb D.z1) e, D2.frame _ _ _ h2 fun b hb o e => hs'.extBut b o (nin hb D.z2) e⟩ fun c o hc e => hs'.extBut _ _ (fun x => hc (by simp [x])) e
  done := fun s Q E hlo hpos st0 hQ => by
    obtain ⟨hz, hTI, ⟨a, b, hTO⟩, h1, h2⟩ := st0
    have hl : (pairs ds1 ds2).length = min ds1.length ds2.length := by simp [pairs]
    rw [hl] at h1 h2
    have hend : ds1[min ds1.length ds2.length]? = none ∨ ds2[min ds1.length ds2.length]? = none := by
      rcases Nat.le_total ds1.length ds2.length with h | h
      · exact .inl (by rw [Nat.min_eq_left h]; exact List.getElem?_eq_none (Nat.le_refl _))
      · exact .inr (by rw [Nat.min_eq_right h]; exact List.getElem?_eq_none (Nat.le_refl _))
    have hT : s.TypeIs (.ref z) "zip" := ⟨_, hz, rfl⟩
    unfold pyNext
    refine wpAny_bind (wpAny_attempt (wpAny_callSpecial?_slot (name := Str.ofString "__next__") hT F.slot_zip_next
      (wpAny_call_entry F.slot_zip_next hT F.entry_zip_next (zip_end hh D1 D2 D hz hTI hTO hlo hpos h1 h2 hend (Nat.min_le_left ..) (Nat.min_le_right ..) fun h' tk e ht hk he => ?_) (F.args_zip_next_1 _))))
    obtain ⟨o, ho, hc⟩ := he
    refine wpAny_bind (wpAny_isInstance (T := "StopIteration") (b := true) ⟨o, ho, hc⟩ isSubtype_stop ?_)
    exact wpAny_pure (hQ _ _ ht fun c o hc e => hk c o (fun x => hc (by simp [x])) (fun x => hc (by simp [x])) (fun x => hc (by simp [x])) (fun x => hc (by simp [x])) e)
  self := fun i s Q E st hQ => wpAny_pyIter_zip st.1 hQ
end

noncomputable def Iters (prog : Program) (w : World) (v : Value) (o : Obj) (h : Heap) : Prop := o.isFreed = false ∧ ∀ (A : Around) (Q : Value → Shared → Prop) (E : Value → Shared → Prop) (s : Shared), (∀ b o, h.get? b = some o → s.heap.get? b = some o) → Q (.ref s.heap.objs.size) { s with heap := s.heap.push o } → wpAny (model prog w) A (pyIter v) Q E s
theorem Iters.list {prog : Program} {w : World} {l : Addr} {h : Heap} {items : Array Value} (hl : h.IsList l items) : Iters prog w (.ref l) { cls := .type "list_iterator", data := .fields #[.ref l, .int 0 0] } h := ⟨rfl, fun A Q E s k hQ => wpAny_pyIter_list (hl.at fun o e => k _ _ e) hQ⟩
theorem Iters.str {prog : Program} {w : World} {x : Str} {t : Tok} {h : Heap} (hx : x.cps.all (· < 128) = true) : Iters prog w (.str x t) { cls := .type "str_ascii_iterator", data := .fields #[.str x t, .int 0 0] } h := ⟨rfl, fun A Q E s k hQ => wpAny_pyIter_ascii hx hQ⟩
noncomputable abbrev zh1 (h : Heap) (o1 : Obj) : Heap := h.push o1
noncomputable abbrev zh2 (h : Heap) (o1 o2 : Obj) : Heap := (zh1 h o1).push o2
noncomputable abbrev zh3 (h : Heap) (o1 o2 : Obj) : Heap := (zh2 h o1 o2).push { cls := .type "tuple", data := .seq #[.ref h.objs.size, .ref (zh1 h o1).objs.size] }
noncomputable abbrev zh4 (h : Heap) (o1 o2 : Obj) : Heap := (zh3 h o1 o2).push { cls := .type "tuple", data := .seq #[.none, .none] }
noncomputable abbrev zh5 (h : Heap) (o1 o2 : Obj) : Heap := (zh4 h o1 o2).push { cls := .type "zip", data := .fields #[.none, .bool false, .bool false, .ref (zh2 h o1 o2).objs.size, .ref (zh3 h o1 o2).objs.size] }
theorem call_zip {prog : Program} {w : World} {A : Around} {E : Value → Shared → Prop} {s : Shared} {v1 v2 : Value} {o1 o2 : Obj} {Q : Value → Shared → Prop} (I1 : Iters prog w v1 o1 s.heap) (I2 : Iters prog w v2 o2 s.heap)
    (h : ∀ h', IsZip h' (s.heap.objs.size + 4) (s.heap.objs.size + 2) (s.heap.objs.size + 3) .none → IsPair h' (s.heap.objs.size + 2) (.ref s.heap.objs.size) (.ref (s.heap.objs.size + 1)) →
      IsPair h' (s.heap.objs.size + 3) .none .none → h'.get? s.heap.objs.size = some o1 → h'.get? (s.heap.objs.size + 1) = some o2 →
      (∀ c o, s.heap.get? c = some o → h'.get? c = some o) → Q (.ref (s.heap.objs.size + 4)) { s with heap := h' }) :
    wpAny (model prog w) A (call (.type "zip") [v1, v2]) Q E s := by
  have meets : MeetsIn prog w (Builtin.«zip.__new__» ⟨[.type "zip", v1, v2], []⟩) (fun xx R s' => s' = s ∧ R (.ok (.ret (.ref (zh4 s.heap o1 o2).objs.size))) { s with heap := zh5 s.heap o1 o2 }) :=
    .of_wp fun A R s' h => by
      obtain ⟨rfl, h⟩ := h
      obtain ⟨hp, g, d, tk, os⟩ := s'
      have hsub := sub_zip
      have p1 : ∀ {A : Around} {Q : Value → Shared → Prop} {E : Value → Shared → Prop}, Q (.ref hp.objs.size) ⟨hp.push o1, g, d, tk, os⟩ → wpAny (model prog w) A (pyIter v1) Q E ⟨hp, g, d, tk, os⟩ := fun q => I1.2 _ _ _ _ (fun xx xx e => e) q
      have p2 : ∀ {A : Around} {Q : Value → Shared → Prop} {E : Value → Shared → Prop}, Q (.ref (hp.push o1).objs.size) ⟨(hp.push o1).push o2, g, d, tk, os⟩ → wpAny (model prog w) A (pyIter v2) Q E ⟨hp.push o1, g, d, tk, os⟩ := fun q => I2.2 _ _ _ _ (fun xx xx e => Heap.get?_push_of_some _ e) q
      wp_walk using p1, p2
      exact ⟨_, rfl, h⟩
  refine callType_newIn F.called_zip (by decide) (F.typeCall_zip_2 _ _) (F.newCall_zip_2 _ _) (fun obj => F.args_object_init_3 obj _ _) F.entry_zip_new meets ⟨rfl, ?_⟩
  have z1 : (zh1 s.heap o1).objs.size = s.heap.objs.size + 1 := Heap.size_push ..
  have z2 : (zh2 s.heap o1 o2).objs.size = s.heap.objs.size + 2 := by rw [Heap.size_push, z1]
  have z3 : (zh3 s.heap o1 o2).objs.size = s.heap.objs.size + 3 := by rw [Heap.size_push, z2]
  have z4 : (zh4 s.heap o1 o2).objs.size = s.heap.objs.size + 4 := by rw [Heap.size_push, z3]
  have g5 : (zh5 s.heap o1 o2).get? (zh4 s.heap o1 o2).objs.size = some _ := Heap.get?_push_size _ rfl
  have g4 : (zh5 s.heap o1 o2).get? (zh3 s.heap o1 o2).objs.size = some _ := Heap.get?_push_of_some _ (Heap.get?_push_size _ rfl)
  have g3 : (zh5 s.heap o1 o2).get? (zh2 s.heap o1 o2).objs.size = some _ := Heap.get?_push_of_some _ (Heap.get?_push_of_some _ (Heap.get?_push_size _ rfl))
  have g2 : (zh5 s.heap o1 o2).get? (zh1 s.heap o1).objs.size = some _ := Heap.get?_push_of_some _ (Heap.get?_push_of_some _ (Heap.get?_push_of_some _ (Heap.get?_push_size _ I2.1)))
  have g1 : (zh5 s.heap o1 o2).get? s.heap.objs.size = some _ := Heap.get?_push_of_some _ (Heap.get?_push_of_some _ (Heap.get?_push_of_some _ (Heap.get?_push_of_some _ (Heap.get?_push_size _ I1.1))))
  show _ ∧ _
  rw [z2, z3, z4] at g5
  rw [z1, z2] at g3
  rw [z3] at g4
  rw [z1] at g2
  rw [z4]
  exact ⟨⟨_, g5, rfl⟩, h _ g5 g3 g4 g1 g2 fun c o x =>
    Heap.get?_push_of_some _ (Heap.get?_push_of_some _ (Heap.get?_push_of_some _ (Heap.get?_push_of_some _ (Heap.get?_push_of_some _ x))))⟩
end Mine
end
section
set_option Elab.async false
set_option tactic.hygienic false
set_option linter.unusedVariables false
namespace Mine
open PySem PySem.W PySem.Calls PyProof.Rows

inductive Src (lo : Nat) : (Nat → D → D) → D → List D → Prop
  | list (ds : List D) : Src lo L0 (.list ds) ds
  | str {x : Str} (hx : x.cps.all (· < 128) = true) : Src lo L0 (.str x) (chars x)
  | strT {x : Str} (hx : x.cps.all (· < 128) = true) : Src lo LT (.str x) (chars x)
  | strG {x : Str} (hx : x.cps.all (· < 128) = true) : Src lo L0 (.str x) (charsG x lo)
theorem Src.dr {lf : Nat → D → D} {lo : Nat} {prog : Program} {w : World} {Z : Mp} {v : Value} {d : D} {items : List D} {h : Heap} (x : Src lo lf d items) (r : Rep Z v d) (hz : ∀ a o, Z a = some o → h.get? a = some o) :
    ∃ o, Iters prog w v o h ∧ ∀ (Fz : Mp) it h', Le Z Fz → Z it = none → h'.get? it = some o → (∀ a o, Z a = some o → h'.get? a = some o) → ∃ fp St, Dr lf lo prog w Fz it fp items St ∧ St 0 h' ∧ (∀ b ∈ fp, b = it ∨ ∃ o, Z b = some o) := by
  cases x with
  | list ds =>
    obtain ⟨a, vs, n, rfl, e, hr⟩ := r.of_list
    refine ⟨_, Iters.list (items := vs.toArray) ⟨_, hz _ _ e, rfl, n, rfl⟩, fun Fz it h' hF hn hit hk => ⟨_, _, Dr.list it a (fun q => by subst q; rw [e] at hn; cases hn) vs items (hr.mono hF), ⟨⟨_, hit, rfl, rfl⟩, ⟨_, hk _ _ e, rfl, n, rfl⟩⟩, fun b hb => ?_⟩⟩
    simp at hb
    rcases hb with rfl | rfl
    · exact .inl rfl
    · exact .inr ⟨_, e⟩
  | str hx =>
    obtain ⟨t, rfl⟩ := r.of_str
    refine ⟨_, Iters.str hx, fun Fz it h' hF hn hit hk => ⟨_, _, Dr.str it _ t, ⟨_, hit, rfl, rfl⟩, fun b hb => .inl (by simpa using hb)⟩⟩
  | strT hx =>
    obtain ⟨t, rfl⟩ := r.of_str
    refine ⟨_, Iters.str hx, fun Fz it h' hF hn hit hk => ⟨_, _, Dr.strT it _ t, ⟨_, hit, rfl, rfl⟩, fun b hb => .inl (by simpa using hb)⟩⟩
  | strG hx =>
    obtain ⟨t, rfl⟩ := r.of_str
    refine ⟨_, Iters.str hx, fun Fz it h' hF hn hit hk => ⟨_, _, Dr.strG it _ t, ⟨_, hit, rfl, rfl⟩, fun b hb => .inl (by simpa using hb)⟩⟩

theorem addr_ne {a b : Nat} (h : a ≠ b) : @Ne Addr a b := h
theorem four_ge {n a : Nat} (q : a = n + 4 ∨ a = n + 3 ∨ a = n ∨ a = n + 1) : n ≤ a := by lia
theorem four_ne2 {n : Nat} (q : n + 2 = n + 4 ∨ n + 2 = n + 3 ∨ n + 2 = n ∨ n + 2 = n + 1) : False := by lia
section
variable {lf : Nat → D → D} {c : Cx} {ρ : Rho}
theorem zip_at {k : Nat} {s s₁ : Shared} {H : List Addr} {v1 v2 : Value} {d1 d2 : D} {it1 it2 : List D} {E : Value → Shared → Prop} {Q : Value → Shared → Prop} (kp : Keeps s s₁) (hH : ∀ a ∈ H, ∃ o, s₁.heap.get? a = some o) (x1 : Src c.lo L0 d1 it1) (x2 : Src c.lo lf d2 it2) (r1 : Rep (Zof s₁.heap H) v1 d1) (r2 : Rep (Zof s₁.heap H) v2 d2) (hk : Rm c.A k)
    (hQ : ∀ z s₂, (∃ TI TO f0, IsZip s₂.heap z TI TO f0) → IterAt true (lfz lf) c.lo c.M c.A H (pairs it1 it2) (.ref z) s s₂ → Q (.ref z) s₂) :
    wpAny c.M c.A (call (.type "zip") [v1, v2]) Q E s₁ := by
  obtain ⟨o1, I1, m1⟩ := x1.dr (prog := c.prog) (w := c.w) r1 (h := s₁.heap) fun a o e => (Zof.get e).1
  obtain ⟨o2, I2, m2⟩ := x2.dr (prog := c.prog) (w := c.w) r2 (h := s₁.heap) fun a o e => (Zof.get e).1
  refine call_zip I1 I2 fun h' hz hTI hTO g1 g2 hk' => ?_
  generalize hn : s₁.heap.objs.size = n at *
  have fr : ∀ a, n ≤ a → s₁.heap.get? a = none := fun a ha => by
    cases q : s₁.heap.get? a with
    | none => rfl
    | some o => exact absurd (Heap.lt_size q) (Nat.not_lt.mpr (hn ▸ ha))
  have frZ : ∀ a, n ≤ a → Zof s₁.heap H a = none := fun a ha => by
    cases q : Zof s₁.heap H a with
    | none => rfl
    | some o => have := (Zof.get q).1; rw [fr a ha] at this; cases this
  have frH : ∀ a, n ≤ a → a ∉ H := fun a ha q => by obtain ⟨o, e⟩ := hH a q; rw [fr a ha] at e; cases e
  have hF : Le (Zof s₁.heap H) (Zof h' ([n + 4, n + 3, n, n + 1] ++ H)) := fun a o e => by
    obtain ⟨e1, e2⟩ := Zof.get e
    refine Zof.of (hk' _ _ e1) fun q => ?_
    rcases List.mem_append.mp q with q | q
    · simp only [List.mem_cons, List.not_mem_nil, or_false] at q
      have : n ≤ a := four_ge q
      rw [fr a this] at e1; cases e1
    · exact e2 q
  obtain ⟨fp1, St1, D1, st1, hf1⟩ := m1 (Zof h' ([n + 4, n + 3, n, n + 1] ++ H)) n h' hF (frZ n (Nat.le_refl _)) g1 fun a o e => hk' _ _ (Zof.get e).1
  obtain ⟨fp2, St2, D2, st2, hf2⟩ := m2 (Zof h' ([n + 4, n + 3, n, n + 1] ++ H)) (n + 1) h' hF (frZ _ (by lia)) g2 fun a o e => hk' _ _ (Zof.get e).1
  have no : ∀ {fp : List Addr} {it a : Addr}, (∀ b ∈ fp, b = it ∨ ∃ o, Zof s₁.heap H b = some o) → a ≠ it → n ≤ a → a ∉ fp := fun h1 h2 h3 q => by
    rcases h1 _ q with r | ⟨o, r⟩
    · exact h2 r
    · rw [frZ _ h3] at r; cases r
  have ap : ZAp (n + 4) (n + 2) (n + 3) n (n + 1) fp1 fp2 := ⟨addr_ne (by lia), addr_ne (by lia), addr_ne (by lia), addr_ne (by lia), addr_ne (by lia), no hf1 (addr_ne (by lia)) (by lia), no hf2 (addr_ne (by lia)) (by lia), no hf1 (addr_ne (by lia)) (by lia), no hf2 (addr_ne (by lia)) (by lia), no hf2 (addr_ne (by lia)) (by lia), no hf1 (addr_ne (by lia)) (by lia)⟩
  refine hQ (n + 4) _ ⟨_, _, _, hz⟩ ⟨keeps_trans kp (keeps_heap' hk'), [n + 4, n + 3, n, n + 1], _, _, _, _, fun a ha => ?_, Wk.zip hk.handled D1 D2 ap, ⟨hz, hTI, ⟨_, _, hTO⟩, st1, st2⟩, Le.refl _, fun b hb => ?_⟩
  · simp only [List.mem_cons, List.not_mem_nil, or_false] at ha
    exact fresh_of_keeps kp (fr a (four_ge ha))
  · have old : ∀ {b}, (∃ o, Zof s₁.heap H b = some o) → ∃ o, Zof h' ([n + 4, n + 3, n, n + 1] ++ H) b = some o := fun hqe => hqe.elim fun o e => ⟨o, hF _ _ e⟩
    simp only [List.mem_cons, List.mem_append] at hb
    rcases hb with rfl | rfl | rfl | hb | hb
    · exact .inl (by simp)
    · refine .inr ⟨_, Zof.of hTI fun q => ?_⟩
      rcases List.mem_append.mp q with q | q
      · simp only [List.mem_cons, List.not_mem_nil, or_false] at q; exact four_ne2 q
      · exact frH _ (by lia) q
    · exact .inl (by simp)
    · exact (hf1 b hb).imp (fun h => by simp [h]) old
    · exact (hf2 b hb).imp (fun h => by simp [h]) old

theorem IT.zip {k : Nat} {x : Str} {np p : Pos} {e1 e2 : Expr} {d1 d2 : D} {it1 it2 : List D} (hn : EV c ρ (.Name x np) (.raw (.type "zip"))) (h1 : EV c ρ e1 d1) (h2 : EV c ρ e2 d2) (hs : noStar [e1, e2] = true) (x1 : Src c.lo L0 d1 it1) (x2 : Src c.lo lf d2 it2) (hk : Rm c.A k) :
    IT true (lfz lf) c ρ (.Call (.Name x np) [e1, e2] [] p) (pairs it1 it2) := fun H s E h => by
  refine wpAny_Call_ofName (wpAny_mono (hn H s h E) (fun v s₁ hqz0 => ?_) fun xx xx e => e)
  obtain ⟨k1, q⟩ := hqz0
  have e := q.of_raw
  subst e
  have hns : noStar [e2] = true := noStar_tail hs
  refine callRaw (fd := []) (.inr (.inl ⟨_, rfl⟩)) (.cons h1 (.cons h2 .nil fun env => starEach_cons_noStar hns) fun env => starEach_cons_noStar hs) (fun env y q => by
    have := starEach_noStar (env := env) hs p
    rw [q] at this; simp at this) (h.keeps k1) fun vs s₂ k2 r => ?_
  obtain ⟨v1, v2, rfl⟩ : ∃ v1 v2, vs = [v1, v2] := len2 r.length
  have k12 := keeps_trans k1 k2
  refine zip_at (k := k) k12 (h.keeps k12).ok.1 x1 x2 r.two.1 r.two.2 hk fun z s₃ hqz hi => ?_
  obtain ⟨TI, TO, f0, hz⟩ := hqz
  exact wpAny_pyIter_zip hz hi
end
end Mine
end
section
set_option Elab.async false
set_option tactic.hygienic false
set_option linter.unusedVariables false
namespace Mine
open PySem PySem.W PySem.Calls PyProof.Rows

noncomputable def enums (ds : List D) : List D := ds.zipIdx.map fun p => .tuple [.int (p.2 : Int), p.1]
section
variable {prog : Program} {w : World} {A : Around} {E : Value → Shared → Prop} {lf : Nat → D → D} {lo : Nat} {Fz : Mp} {e it : Addr} {fp : List Addr} {ds : List D} {St : Nat → Heap → Prop} {s : Shared}
theorem enum_item {i : Nat} {d : D} {old : Value} {Q : Value → Shared → Prop} (D : Dr lf lo prog w Fz it fp ds St) (hef : e ∉ fp) (he : IsEnum s.heap e it i old) (hst : St i s.heap) (hd : ds[i]? = some d) (hlo : lo ≤ s.toks) (hpos : 0 < s.toks)
    (hQ : ∀ x h' tk tu, s.toks ≤ tk → Rep Fz x (lf tk d) → IsEnumOut h' e it ((i : Int) + 1) x s.heap.objs.size → St (i + 1) h' → h'.get? s.heap.objs.size = some { cls := .type "tuple", data := .seq #[.int i tu, x] } →
      (∀ b o, b ≠ e → b ≠ it → s.heap.get? b = some o → h'.get? b = some o) → Q (.ref s.heap.objs.size) { s with heap := h', toks := tk + 1 }) :
    wpAny (model prog w) A (Builtin.«enumerate.__next__» ⟨[.ref e], []⟩) (fun fin s' => ∃ v, fin = .done (.ret v) ∧ Q v s') E s := by
  have hne : e ≠ it := (nin D.mem hef).symm
  obtain ⟨hp, g, dr, tk, os⟩ := s
  show wpAny _ _ (field (.ref e) 2 >>= _) _ _ _
  refine wpAny_bind (wpAny_field he rfl (x := .ref it) rfl ?_)
  refine wpAny_bind (D.item _ _ _ _ _ _ hd hlo hpos hst fun x h₁ tk₁ ht₁ rx st₁ hs₁ => ?_)
  replace hs₁ : Heap.SameBut it hp h₁ := hs₁
  have he₁ : IsEnum h₁ e it i old := (hs₁.2 e hne).trans he
  show wpAny _ _ (field (.ref e) 3 >>= _) _ _ ⟨h₁, g, dr, tk₁, os⟩
  refine wpAny_bind (wpAny_field he₁ rfl (x := rawInt i) rfl ?_)
  show wpAny _ _ (field (.ref e) 4 >>= _) _ _ ⟨h₁, g, dr, tk₁, os⟩
  refine wpAny_bind (wpAny_field he₁ rfl (x := .none) rfl ?_)
  show wpAny _ _ (mkInt i >>= _) _ _ ⟨h₁, g, dr, tk₁, os⟩
  refine wpAny_bind (wpAny_mkInt ?_)
  show wpAny _ _ (setField (.ref e) 3 (rawInt ((i : Int) + 1)) >>= _) _ _ ⟨h₁, g, dr, tk₁ + 1, os⟩
  refine wpAny_bind (wpAny_setField_rec he₁ (by simp) fun h₂ he₂ hs₂ => ?_)
  replace hs₂ : Heap.SameBut e h₁ h₂ := hs₂
  replace he₂ : IsEnum h₂ e it ((i : Int) + 1) old := he₂
  show wpAny _ _ (setField (.ref e) 4 .none >>= _) _ _ ⟨h₂, g, dr, tk₁ + 1, os⟩
  refine wpAny_bind (wpAny_setField_rec he₂ (by simp) fun h₃ he₃ hs₃ => ?_)
  replace hs₃ : Heap.SameBut e h₂ h₃ := hs₃
  replace he₃ : IsEnum h₃ e it ((i : Int) + 1) old := he₃
  show wpAny _ _ (newTuple [.int i tk₁, x] >>= _) _ _ ⟨h₃, g, dr, tk₁ + 1, os⟩
  refine wpAny_bind (wpAny_newTuple ?_)
  have he₄ : IsEnum (h₃.push { cls := .type "tuple", data := .seq #[.int i tk₁, x] }) e it ((i : Int) + 1) old := Heap.get?_push_of_some _ he₃
  generalize hh₄ : h₃.push { cls := .type "tuple", data := .seq #[.int i tk₁, x] } = h₄ at he₄
  have hsz : h₃.objs.size = hp.objs.size := by rw [hs₃.1, hs₂.1, hs₁.1]
  have hel : e < hp.objs.size := Heap.lt_size he
  have ht₄ : h₄.get? hp.objs.size = some { cls := .type "tuple", data := .seq #[.int i tk₁, x] } := by rw [← hh₄, ← hsz]; exact Heap.get?_push_size _ rfl
  have hk₄ : ∀ b o, b ≠ e → b ≠ it → hp.get? b = some o → h₄.get? b = some o := fun b o hbe hbi hb => by
    rw [← hh₄]; exact Heap.get?_push_of_some _ (hs₃.extBut b o hbe (hs₂.extBut b o hbe (hs₁.extBut b o hbi hb)))
  have st₄ : St (i + 1) h₄ := D.frame _ _ _ st₁ fun b hb o eb => by
    rw [← hh₄]; exact Heap.get?_push_of_some _ (hs₃.extBut b o (nin hb hef) (hs₂.extBut b o (nin hb hef) eb))
  show wpAny _ _ (Builtin.SmallTypes.ownedTupleIsFree (.ref e) >>= _) _ _ ⟨h₄, g, dr, tk₁ + 1, os⟩
  rw [hsz]
  clear hh₄ he₃ hs₃ he₂ hs₂ he₁ hs₁ st₁ hsz h₃ h₂ h₁
  refine wpAny_bind ?_
  unfold Builtin.SmallTypes.ownedTupleIsFree
  refine wpAny_bind (wpAny_field he₄ rfl (x := .none) rfl (wpAny_pure ?_))
  first | refine wpAny_ite_true rfl ?_ | simp only [if_true]
  refine wpAny_bind (wpAny_rule ?_)
  refine wpAny_bind (wpAny_field he₄ rfl (x := old) rfl ?_)
  refine wpAny_bind (wpAny_setField_rec he₄ (by simp) fun h₅ he₅ hs₅ => ?_)
  replace hs₅ : Heap.SameBut e h₄ h₅ := hs₅
  replace he₅ : IsEnum h₅ e it ((i : Int) + 1) x := he₅
  show wpAny _ _ (Builtin.SmallTypes.ownedTupleHandOut (.ref e) (.ref hp.objs.size) >>= _) _ _ ⟨h₅, g, dr, tk₁ + 1, os⟩
  refine wpAny_bind ?_
  unfold Builtin.SmallTypes.ownedTupleHandOut
  refine wpAny_bind (wpAny_setField_rec he₅ (by simp) fun h₆ he₆ hs₆ => ?_)
  replace hs₆ : Heap.SameBut e h₅ h₆ := hs₆
  replace he₆ : IsEnumOut h₆ e it ((i : Int) + 1) x hp.objs.size := he₆
  refine wpAny_setField_rec he₆ (by simp) fun h₇ he₇ hs₇ => ?_
  replace hs₇ : Heap.SameBut e h₆ h₇ := hs₇
  replace he₇ : IsEnumOut h₇ e it ((i : Int) + 1) x hp.objs.size := he₇
  refine wpAny_bind (wpAny_letGo (wpAny_pure ⟨_, rfl, hQ x h₇ tk₁ tk₁ ht₁ rx he₇ ?_ ?_ ?_⟩))
  · exact D.frame _ _ _ st₄ fun b hb o eb => hs₇.extBut _ _ (nin hb hef) (hs₆.extBut _ _ (nin hb hef) (hs₅.extBut _ _ (nin hb hef) eb))
  · exact hs₇.extBut _ _ (Nat.ne_of_gt hel) (hs₆.extBut _ _ (Nat.ne_of_gt hel) (hs₅.extBut _ _ (Nat.ne_of_gt hel) ht₄))
  · exact fun b o hbe hbi hb => hs₇.extBut b o hbe (hs₆.extBut b o hbe (hs₅.extBut b o hbe (hk₄ b o hbe hbi hb)))

theorem Wk.enum (hh : A.handled = none) (D : Dr L0 lo prog w Fz it fp ds St) (hef : e ∉ fp) :
    Wk true L0 lo (model prog w) A Fz (.ref e) (e :: fp) [e, it] (enums ds) (fun i h => (∃ old, IsEnum h e it i old) ∧ St i h) (fun i v h => ∃ T, v = .ref T ∧ (∃ x, IsEnumOut h e it ((i : Int) + 1) x T) ∧ St (i + 1) h) where
  sub := fun c hc => by
    simp only [List.mem_cons, List.not_mem_nil, or_false] at hc ⊢
    rcases hc with rfl | rfl
    · exact .inl rfl
    · exact .inr D.mem
  frame := fun i h h' hqz hk => ⟨hqz.1.imp fun old he => hk e (by simp) _ he, D.frame _ _ _ hqz.2 fun b hb o eb => hk b (by simp [hb]) o eb⟩
  alive := fun i h st0 c hc => by
    obtain ⟨⟨old, he⟩, hs⟩ := st0
    simp only [List.mem_cons, List.not_mem_nil, or_false] at hc
    rcases hc with rfl | rfl
    · exact ⟨_, he⟩
    · exact D.live _ _ hs
  next := fun i s Q E d hd hlo hpos st0 hF hQ => by
    obtain ⟨⟨old, he⟩, hs⟩ := st0
    obtain ⟨d1, e1, rfl⟩ : ∃ d1, ds[i]? = some d1 ∧ d = .tuple [.int (i : Int), d1] := by
      simp only [enums, List.getElem?_map, Option.map_eq_some_iff, List.getElem?_zipIdx] at hd
      obtain ⟨⟨d1, j⟩, ⟨a, e2, e3⟩, rfl⟩ := hd
      cases e3
      exact ⟨d1, e2, by simp⟩
    have hT : s.TypeIs (.ref e) "enumerate" := ⟨_, he, rfl⟩
    unfold pyNext
    refine wpAny_bind (wpAny_attempt (wpAny_callSpecial?_slot (name := Str.ofString "__next__") hT F.slot_enumerate_next (wpAny_call_entry F.slot_enumerate_next hT F.entry_enumerate_next
      (enum_item D hef he hs e1 hlo hpos fun x h' tk tu ht rx a1 a2 a3 hk => wpAny_pure ?_) (F.args_enumerate_next_1 _))))
    have hfr : s.heap.get? s.heap.objs.size = none := fresh_none
    have hFT : Fz s.heap.objs.size = none := by
      cases q : Fz s.heap.objs.size with
      | none => rfl
      | some o => have := hF _ _ q; rw [hfr] at this; cases this
    refine hQ _ h' (tk + 1) (Nat.le_succ_of_le ht) ⟨_, rfl, ⟨x, a1⟩, a2⟩ ?_ (fun c o hc ec => hk c o (fun y => hc (by simp [y])) (fun y => hc (by simp [y])) ec) ?_
    · refine .tuple (vs := [.int i tu, x]) (n := 0) ?_ (.cons (.int _ _) (.cons (rx.mono (newer_le _ _ _)) .nil))
      unfold newer
      rw [hFT]
      simp only [hfr, if_true]
      exact a3
    · intro c hc
      simp only [List.mem_cons, List.not_mem_nil, or_false] at hc
      rcases hc with rfl | rfl
      · exact ⟨_, a1⟩
      · exact D.live _ _ a2
  go := fun target i v s Q E ht st0 hQ => by
    obtain ⟨T, hv, ⟨x, he⟩, hs⟩ := st0
    subst hv
    obtain ⟨elts, k, pos, rfl⟩ := isTup_elim (ht rfl)
    refine wpAny_letOwnedTupleGo_enum he fun h' he' hs' => hQ h' ⟨⟨x, by simpa using he'⟩, D.frame _ _ _ hs fun b hb o eb => hs'.extBut b o (nin hb hef) eb⟩ fun c o hc ec => hs'.extBut _ _ (fun y => hc (by simp [y])) ec
  done := fun s Q E hlo hpos st0 hQ => by
    obtain ⟨⟨old, he⟩, hs⟩ := st0
    have hl : (enums ds).length = ds.length := by simp [enums]
    rw [hl] at hs he
    have hT : s.TypeIs (.ref e) "enumerate" := ⟨_, he, rfl⟩
    unfold pyNext
    refine wpAny_bind (wpAny_attempt (wpAny_callSpecial?_slot (name := Str.ofString "__next__") hT F.slot_enumerate_next
      (wpAny_call_entry F.slot_enumerate_next hT F.entry_enumerate_next ?_ (F.args_enumerate_next_1 _))))
    show wpAny _ _ (field (.ref e) 2 >>= _) _ _ _
    refine wpAny_bind (wpAny_field he rfl (x := .ref it) rfl ?_)
    refine wpAny_bind (D.done _ _ _ _ _ hh (by simp) hs (Nat.le_refl _) fun h' x he' hx' => ?_)
    obtain ⟨o, ho, hc⟩ := hx'
    refine wpAny_bind (wpAny_isInstance (T := "StopIteration") (b := true) ⟨o, ho, hc⟩ isSubtype_stop ?_)
    exact wpAny_pure (hQ _ _ (Nat.le_refl _) fun c o hc ec => he' c o (fun y => hc (by simp [y])) ec)
  self := fun i s Q E hqz hQ => hqz.1.elim fun old he => wpAny_pyIter_enum he hQ

theorem call_enum {v1 : Value} {o1 : Obj} {Q : Value → Shared → Prop} (I1 : Iters prog w v1 o1 s.heap)
    (h : ∀ h', IsEnum h' (s.heap.objs.size + 1) s.heap.objs.size 0 .none → h'.get? s.heap.objs.size = some o1 → (∀ c o, s.heap.get? c = some o → h'.get? c = some o) → Q (.ref (s.heap.objs.size + 1)) { s with heap := h' }) :
    wpAny (model prog w) A (call (.type "enumerate") [v1]) Q E s := by
  have meets : MeetsIn prog w (Builtin.«enumerate.__new__» ⟨[.type "enumerate", v1], []⟩) (fun xx R s' => s' = s ∧ R (.ok (.ret (.ref (s.heap.push o1).objs.size))) { s with heap := (s.heap.push o1).push { cls := .type "enumerate", data := .fields #[.none, .bool false, .ref s.heap.objs.size, rawInt 0, .none, .none] } }) :=
    .of_wp fun A R s' h => by
      obtain ⟨rfl, h⟩ := h
      obtain ⟨hp, g, d, tk, os⟩ := s'
      have hsub := sub_enumerate
      have p1 : ∀ {A : Around} {Q : Value → Shared → Prop} {E : Value → Shared → Prop}, Q (.ref hp.objs.size) ⟨hp.push o1, g, d, tk, os⟩ → wpAny (model prog w) A (pyIter v1) Q E ⟨hp, g, d, tk, os⟩ := fun q => I1.2 _ _ _ _ (fun xx xx e => e) q
      wp_walk using p1
      refine wpAny_stack_any fun st => wpAny_pure ?_
      generalize Builtin.SmallTypes.calledThroughType.match_1 _ _ _ _ = b
      cases b
      · wp_walk using p1
        exact ⟨_, rfl, h⟩
      · wp_walk using p1
        exact ⟨_, rfl, h⟩
  refine callType_newIn F.called_enumerate (by decide) (F.typeCall_enumerate_1 _) (F.newCall_enumerate_1 _) (fun obj => F.args_object_init_2 obj _) F.entry_enumerate_new meets ⟨rfl, ?_⟩
  have hz : (s.heap.push o1).objs.size = s.heap.objs.size + 1 := Heap.size_push ..
  show _ ∧ _
  rw [hz]
  have he : IsEnum ((s.heap.push o1).push { cls := .type "enumerate", data := .fields #[.none, .bool false, .ref s.heap.objs.size, rawInt 0, .none, .none] }) (s.heap.objs.size + 1) s.heap.objs.size 0 .none := by
    have := Heap.get?_push_size (s.heap.push o1) (o := { cls := .type "enumerate", data := .fields #[.none, .bool false, .ref s.heap.objs.size, rawInt 0, .none, .none] }) rfl
    rw [hz] at this; exact this
  exact ⟨⟨_, he, rfl⟩, h _ he (Heap.get?_push_of_some _ (Heap.get?_push_size _ I1.1)) fun b o x => Heap.get?_push_of_some _ (Heap.get?_push_of_some _ x)⟩
end

theorem two_ge {n a : Nat} (q : a = n + 1 ∨ a = n) : n ≤ a := by lia
section
variable {c : Cx} {ρ : Rho}
theorem IT.enum {k : Nat} {x : Str} {np p : Pos} {e1 : Expr} {d1 : D} {it1 : List D} (hn : EV c ρ (.Name x np) (.raw (.type "enumerate"))) (h1 : EV c ρ e1 d1) (hs : noStar [e1] = true) (x1 : Src c.lo L0 d1 it1) (hk : Rm c.A k) :
    IT true L0 c ρ (.Call (.Name x np) [e1] [] p) (enums it1) := fun H s E h => by
  refine wpAny_Call_ofName (wpAny_mono (hn H s h E) (fun v s₁ hqz0 => ?_) fun xx xx e => e)
  obtain ⟨k1, q⟩ := hqz0
  have e := q.of_raw
  subst e
  refine callRaw (fd := []) (.inr (.inl ⟨_, rfl⟩)) (.cons h1 .nil fun env => starEach_cons_noStar hs) (fun env y q => by
    have := starEach_noStar (env := env) hs p
    rw [q] at this; simp at this) (h.keeps k1) fun vs s₂ k2 r => ?_
  obtain ⟨v1, rfl⟩ : ∃ v1, vs = [v1] := len1 r.length
  have r1 : Rep (Zof s₂.heap H) v1 d1 := by cases r with | cons a _ => exact a
  have kp := keeps_trans k1 k2
  have hH := (h.keeps kp).ok.1
  obtain ⟨o1, I1, m1⟩ := x1.dr (prog := c.prog) (w := c.w) r1 (h := s₂.heap) fun a o e => (Zof.get e).1
  refine call_enum I1 fun h' he g1 hk' => ?_
  refine wpAny_pyIter_enum he ?_
  generalize hn : s₂.heap.objs.size = n at *
  have fr : ∀ a, n ≤ a → s₂.heap.get? a = none := fun a ha => by
    cases q : s₂.heap.get? a with
    | none => rfl
    | some o => exact absurd (Heap.lt_size q) (Nat.not_lt.mpr (hn ▸ ha))
  have frZ : ∀ a, n ≤ a → Zof s₂.heap H a = none := fun a ha => by
    cases q : Zof s₂.heap H a with
    | none => rfl
    | some o => have := (Zof.get q).1; rw [fr a ha] at this; cases this
  have hF : Le (Zof s₂.heap H) (Zof h' ([n + 1, n] ++ H)) := fun a o e => by
    obtain ⟨e1, e2⟩ := Zof.get e
    refine Zof.of (hk' _ _ e1) fun q => ?_
    rcases List.mem_append.mp q with q | q
    · simp only [List.mem_cons, List.not_mem_nil, or_false] at q
      have : n ≤ a := two_ge q
      rw [fr a this] at e1; cases e1
    · exact e2 q
  obtain ⟨fp1, St1, D1, st1, hf1⟩ := m1 (Zof h' ([n + 1, n] ++ H)) n h' hF (frZ n (Nat.le_refl _)) g1 fun a o e => hk' _ _ (Zof.get e).1
  have ap : n + 1 ∉ fp1 := fun q => by
    rcases hf1 _ q with r | ⟨o, r⟩
    · exact addr_ne (by lia) r
    · rw [frZ _ (by lia)] at r; cases r
  refine ⟨keeps_trans kp (keeps_heap' hk'), [n + 1, n], _, _, _, _, fun a ha => ?_, Wk.enum hk.handled D1 ap, ⟨⟨_, he⟩, st1⟩, Le.refl _, fun b hb => ?_⟩
  · simp only [List.mem_cons, List.not_mem_nil, or_false] at ha
    exact fresh_of_keeps kp (fr a (two_ge ha))
  · rcases List.mem_cons.mp hb with rfl | hb
    · exact .inl (by simp)
    · exact (hf1 b hb).imp (fun h => by simp [h]) fun hqe => hqe.elim fun o e => ⟨o, hF _ _ e⟩
end
end Mine
end
section
set_option Elab.async false
set_option tactic.hygienic false
set_option linter.unusedVariables false
namespace Mine
open PySem PySem.W PySem.Calls PyProof.Rows

noncomputable def Cx.up (c : Cx) (n : Nat) : Cx := { c with lo := n }
section
variable {tt : Bool} {lf : Nat → D → D} {c : Cx} {sg : Shared} {B : Mp} {Y : List Addr} {fs : List Addr} {m cm : Str → Option Value} {ρ ρ' : Rho} {T : List (Value × D)} {s s' : Shared}
theorem StO.up {n : Nat} (h : StO c sg B Y fs m cm ρ T s) (hn : n ≤ s.toks) : StO (c.up n) sg B Y fs m cm ρ T s := ⟨h.nd, h.own, h.hid, h.keep, h.base, h.ns, h.cells, h.vars, h.temps, h.same, h.mono.1, hn, h.mono.2.2⟩
theorem StO.down {n : Nat} (h : StO (c.up n) sg B Y fs m cm ρ T s) (hn : c.lo ≤ n) : StO c sg B Y fs m cm ρ T s := ⟨h.nd, h.own, h.hid, h.keep, h.base, h.ns, h.cells, h.vars, h.temps, h.same, h.mono.1, Nat.le_trans hn h.mono.2.1, h.mono.2.2⟩
theorem St.up {n : Nat} (h : St c sg B Y ρ T s) (hn : n ≤ s.toks) : St (c.up n) sg B Y ρ T s := by
  obtain ⟨fs, m, cm, y⟩ := h
  exact ⟨fs, m, cm, y.up hn⟩
theorem St.down {n : Nat} (h : St (c.up n) sg B Y ρ T s) (hn : c.lo ≤ n) : St c sg B Y ρ T s := by
  obtain ⟨fs, m, cm, y⟩ := h
  exact ⟨fs, m, cm, y.down hn⟩
theorem EX1.forLo {target iter : Expr} {body : List Stmt} {p : Pos} {items : List D} (ρs : Nat → Rho) (hi : IT tt lf c (ρs 0) iter items) (hb : ∀ i d n, items[i]? = some d → c.lo ≤ n → ∃ ρt, AT (c.up n) (ρs i) target (lf n d) ρt ∧ EX (c.up n) ρt body (.next (ρs (i + 1))))
    (hs : ∀ x, foldedSetIterable iter c.env x = pure x) (htt : autoParam (TT tt target) rflTac) : EX1 c (ρs 0) (.For target iter body [] p) (.next (ρs items.length)) := fun sg B Y T s E y0 => by
  obtain ⟨fs0, m0, cm0, y0⟩ := y0
  refine wpAny_For (wpAny_mono (hi _ s E y0.rd) (fun v s₁ q => wpAny_mono q (fun it s₂ q => ?_) fun xx xx e => e) fun xx xx e => e) hs
  obtain ⟨wr, fp, P, Mid, F, W, hw, hc, hd0⟩ := y0.head q
  refine codeAny_forLoop_any (Turn items.length fun i => HeadAt c sg B Y T wr fp P F i (ρs i)) (fun n s₁ q => ?_) (items.length - 0) ⟨0, Nat.zero_le _, rfl, hd0⟩
  obtain ⟨i, hi, hn, q⟩ := q
  by_cases h : i < items.length
  · refine q.took (Q := fun v xx s₁' => wpAny c.M c.A (PySem.assign target c.env v) (fun xx s₂ => wpAny c.M c.A (execs body c.env) _ _ s₂) _ s₁') W hw htt (List.getElem?_eq_getElem h) (fun v s₁ q => q) fun v n s₁ q => ?_
    obtain ⟨B', h1, h2, x, down, head, _⟩ := q
    obtain ⟨ρt, ht, hb⟩ := hb i _ n (List.getElem?_eq_getElem h) h1
    refine wpAny_mono (ht sg _ _ T _ v _ (x.up h2)) (fun xx s₂ q2 => ?_) fun xx xx e => e
    refine wpAny_mono (hb sg _ _ T _ _ q2) (fun f s₃ q => ?_) fun xx xx e => e
    obtain ⟨rfl, q⟩ := q
    exact Turn.next h hn (head (q.down h1))
  · cases Turn.last hi h
    obtain ⟨fs, m, cm, x, hP, hF, hfp⟩ := q
    refine W.done s₁ _ _ x.mono.2.1 x.mono.2.2 hP fun h' tk htk hk => ?_
    exact wpAny_execs_nil ⟨rfl, fs, m, cm, x.wrEnd htk (fun a q => ⟨(hw a q).2, (hw a q).1⟩) hk hc⟩

theorem EX1.whlBy {α : Type} {test : Expr} {body : List Stmt} {p : Pos} (f : α → Rho) (I : α → Prop) (ms : α → Nat) (R : Rho)
    (h : ∀ a, I a → (EB c (f a) test true ∧ ∃ b, EX c (f a) body (.next (f b)) ∧ I b ∧ ms b < ms a) ∨ (EB c (f a) test false ∧ f a = R)) (a : α) (ha : I a) :
    EX1 c (f a) (.While test body [] p) (.next R) := fun sg B Y T s E y => by
  refine wpAny_While (codeAny_whileLoop (fun n s => ∃ a, I a ∧ n = ms a ∧ St c sg B Y (f a) T s) (fun n s₁ hqz0 => ?_) (ms a) ⟨a, ha, rfl, y⟩)
  obtain ⟨a, hI, hn, q⟩ := hqz0
  rcases h a hI with ⟨ht, b, hb, hIb, hlt⟩ | ⟨ht, hR⟩
  · refine q.eb ht fun s₂ q => ?_
    first | refine wpAny_ite_true rfl ?_ | refine (if_pos rfl).mpr ?_ | simp only [if_true]
    exact wpAny_mono (hb sg B Y T s₂ _ q) (fun f s₃ q => by obtain ⟨rfl, q⟩ := q; exact ⟨ms b, by lia, b, hIb, rfl, q⟩) fun xx xx e => e
  · refine q.eb ht fun s₂ q => ?_
    first | refine wpAny_ite_false rfl ?_ | refine (if_neg Bool.false_ne_true).mpr ?_ | simp only [Bool.false_eq_true, if_false]
    exact wpAny_execs_nil ⟨rfl, hR ▸ q⟩
theorem EX1.whlByBrk {α : Type} {test : Expr} {body : List Stmt} {p : Pos} (f : α → Rho) (I : α → Prop) (ms : α → Nat) (R : Rho)
    (h : ∀ a, I a → EB c (f a) test true ∧ ((∃ b, EX c (f a) body (.next (f b)) ∧ I b ∧ ms b < ms a) ∨ EX c (f a) body (.brk R))) (a : α) (ha : I a) :
    EX1 c (f a) (.While test body [] p) (.next R) := fun sg B Y T s E y => by
  refine wpAny_While (codeAny_whileLoop (fun n s => ∃ a, I a ∧ n = ms a ∧ St c sg B Y (f a) T s) (fun n s₁ hqz0 => ?_) (ms a) ⟨a, ha, rfl, y⟩)
  obtain ⟨a, hI, hn, q⟩ := hqz0
  obtain ⟨ht, ⟨b, hb, hIb, hlt⟩ | hb⟩ := h a hI
  · refine q.eb ht fun s₂ q => ?_
    first | refine wpAny_ite_true rfl ?_ | refine (if_pos rfl).mpr ?_ | simp only [if_true]
    exact wpAny_mono (hb sg B Y T s₂ _ q) (fun f s₃ q => by obtain ⟨rfl, q⟩ := q; exact ⟨ms b, by lia, b, hIb, rfl, q⟩) fun xx xx e => e
  · refine q.eb ht fun s₂ q => ?_
    first | refine wpAny_ite_true rfl ?_ | refine (if_pos rfl).mpr ?_ | simp only [if_true]
    exact wpAny_mono (hb sg B Y T s₂ _ q) (fun f s₃ q => by obtain ⟨rfl, q⟩ := q; exact ⟨rfl, q⟩) fun xx xx e => e
end
end Mine
end
section
set_option Elab.async false
set_option tactic.hygienic false
set_option linter.unusedVariables false
namespace Mine
open PySem PySem.W PySem.Calls PyProof.Rows

theorem ns_none_of {K : Frag} {h : Heap} {a : Addr} {mg : Str → Option Value} {n : Str} (X : K.In h) (G : h.Ns a mg) (e : nsIn K a n = some none) : mg n = none := by
  obtain ⟨o, es, ep, ho, hd, _, hf⟩ := G
  unfold nsIn at e
  cases hk : K.lookup a with
  | none => rw [hk] at e; cases e
  | some ob =>
    rw [hk] at e
    cases ho.symm.trans (X _ _ hk)
    obtain ⟨cl, di, da, sl⟩ := o
    cases (show da = .dict es ep from hd)
    dsimp only at e
    cases he : es.toList.find? (fun e => e.key.isStr n) with
    | some e1 => rw [he] at e; cases e
    | none =>
      rw [← hf]
      unfold nsFind findBy
      rw [← Array.find?_toList, he]
      rfl
section
variable {K : Frag} {c : Cx} {ρ : Rho}
theorem Kx.booked (X : Kx K c.toGx) (e : nsIn K cStatics sharingNotToldKey = some none) {H : List Addr} {s : Shared} (h : Rd c H ρ s) : NoneBooked s.heap := by
  obtain ⟨mc, hn⟩ := X.cst
  exact ⟨mc, hn.keeps h.base, ns_none_of X.inn hn e⟩
theorem Rep.of_lt {Z : Mp} {v : Value} {x : Str} {n : Nat} (h : Rep Z v (.lt x n)) : ∃ t, v = .str x t ∧ 0 < t ∧ t < n := h.says
theorem Rep.of_ge {Z : Mp} {v : Value} {x : Str} {n : Nat} (h : Rep Z v (.ge x n)) : ∃ t, v = .str x t ∧ n ≤ t := h.says
theorem tok_apart {t u n : Nat} (ht : n ≤ t) (hu : 0 < u) (hu2 : u < n) : (t == 0 || u == 0) = false ∧ (t == u) = false := by
  constructor
  · rw [Bool.or_eq_false_iff]; constructor <;> (rw [beq_eq_false_iff_ne]; lia)
  · rw [beq_eq_false_iff_ne]; lia
theorem EB.isOr {l r e2 : Expr} {p p' : Pos} {x y : Str} {n : Nat} (X : Kx K c.toGx) (e : nsIn K cStatics sharingNotToldKey = some none) (h1 : EV c ρ l (.ge x n)) (h2 : EV c ρ r (.lt y n)) (h3 : EB c ρ e2 (decide (x = y))) (hm : behindInMarks .Is r = false) :
    EB c ρ (.BoolOp .Or [.Compare l [.Is] [r] p, e2] p') (decide (x = y)) := fun H s E h => by
  refine wpAny_isTrue_BoolOp (wpAny_allTrue_Or_cons (wpAny_isTrue_Compare1 (wpAny_mono (h1 H s h E) (fun a s₁ hqz0 => wpAny_mono (h2 H s₁ (h.keeps hqz0.1) E) (fun b s₂ hqz1 => ?_) fun xx xx e => e) fun xx xx e => e) hm))
  obtain ⟨k1, r1⟩ := hqz0
  obtain ⟨k2, r2⟩ := hqz1
  obtain ⟨t, rfl, ht⟩ := r1.of_ge
  obtain ⟨u, rfl, hu, hu2⟩ := r2.of_lt
  have k12 := keeps_trans k1 k2
  obtain ⟨h0, htu⟩ := tok_apart ht hu hu2
  have tail : ∀ b : Bool, (b = true → x = y) → wpAny c.M c.A (truthy (.bool b)) (fun t s' => if t = true then (true = decide (x = y) ∧ Keeps s s') else wpAny c.M c.A (allTrue .Or [e2] c.env) (fun r s' => r = decide (x = y) ∧ Keeps s s') E s') E s₂ := fun b hb => by
    refine wpAny_truthy_bool ?_
    cases b with
    | true => simp only [if_true]; exact ⟨(decide_eq_true (hb rfl)).symm, k12⟩
    | false =>
      first | refine wpAny_ite_false rfl ?_ | refine (if_neg Bool.false_ne_true).mpr ?_ | simp only [Bool.false_eq_true, if_false]
      refine wpAny_allTrue_Or_cons (wpAny_mono (h3 H s₂ E (h.keeps k12)) (fun r s₃ q => ?_) fun xx xx e => e)
      obtain ⟨rfl, q⟩ := q
      cases hd : decide (x = y) with
      | true => rw [if_pos rfl]; exact ⟨rfl, keeps_trans k12 q⟩
      | false => simp only [Bool.false_eq_true, if_false]; exact wpAny_allTrue_Or_nil ⟨rfl, keeps_trans k12 q⟩
  show wpAny _ _ (do return Value.bool (← isSame (.str x t) (.str y u))) _ _ _
  by_cases hxy : x = y
  · exact wpAny_bind (wpAny_isSame_str h0 (X.booked e (h.keeps k12)) fun b => wpAny_pure (tail b fun xx => hxy))
  · rw [isSame_str_other x y t u h0 htu (by rw [beq_eq_false_iff_ne]; exact hxy)]
    exact wpAny_bind (wpAny_pure (wpAny_pure (tail false fun q => by cases q)))
theorem EV.weak {e : Expr} {d d' : D} (h : EV c ρ e d) (k : ∀ Z v, Rep Z v d → Rep Z v d') : EV c ρ e d' := fun H s x E => wpAny_mono (h H s x E) (fun v s' q => ⟨q.1, k _ _ q.2⟩) fun xx xx e => e
theorem EV.ge_str {e : Expr} {x : Str} {n : Nat} (h : EV c ρ e (.ge x n)) : EV c ρ e (.str x) := h.weak fun Z v r => by obtain ⟨t, rfl, _⟩ := r.of_ge; exact .str _ _
theorem EV.lt_str {e : Expr} {x : Str} {n : Nat} (h : EV c ρ e (.lt x n)) : EV c ρ e (.str x) := h.weak fun Z v r => by obtain ⟨t, rfl, _⟩ := r.of_lt; exact .str _ _
end
end Mine
end
section
open PySem PySem.W PyProof.Rows
set_option Elab.async false
set_option tactic.hygienic false
set_option maxRecDepth 100000
set_option maxHeartbeats 8000000
namespace Mine
section
variable {fd : FuncData} {a b c d : Str}
theorem bind1 (h : ∀ v, bindArgs fd ⟨[v], []⟩ = pure [(a, v)]) : ∀ vs : List Value, vs.length = 1 → bindArgs fd ⟨vs, []⟩ = pure ([a].zip vs) := fun vs hl => by
  obtain ⟨v, rfl⟩ := len1 hl; exact h v
theorem bind2 (h : ∀ v w, bindArgs fd ⟨[v, w], []⟩ = pure [(a, v), (b, w)]) : ∀ vs : List Value, vs.length = 2 → bindArgs fd ⟨vs, []⟩ = pure ([a, b].zip vs) := fun vs hl => by
  obtain ⟨v, w, rfl⟩ := len2 hl; exact h v w
theorem bind3 (h : ∀ v w x, bindArgs fd ⟨[v, w, x], []⟩ = pure [(a, v), (b, w), (c, x)]) : ∀ vs : List Value, vs.length = 3 → bindArgs fd ⟨vs, []⟩ = pure ([a, b, c].zip vs) := fun vs hl => by
  obtain ⟨v, w, x, rfl⟩ := len3 hl; exact h v w x
theorem bind4 (h : ∀ v w x y, bindArgs fd ⟨[v, w, x, y], []⟩ = pure [(a, v), (b, w), (c, x), (d, y)]) : ∀ vs : List Value, vs.length = 4 → bindArgs fd ⟨vs, []⟩ = pure ([a, b, c, d].zip vs) := fun vs hl => by
  obtain ⟨v, w, x, y, rfl⟩ := len4 hl; exact h v w x y
end

section
variable {g : Gx} {P : Params}
theorem f_mul (X : Kx (Mine.hd.heap_1 P) g) {a b : Int} (hb : b.natAbs < 2 ^ 60) : Fn g 1 (.ref 97) [.int a, .int b] (.int (a * b)) := by
  refine Fn.of (k := 0) (xs := ["a", "b"]) X rfl rfl (bind2 fun xx xx => rfl) (by decide) (by decide) (by decide) (fun A L hr bd => ?_)
  exact EX.stop (EX1.ret (EV.bin (EV.var bd (by decide) rfl) (EV.var bd (by decide) rfl) (Op2.mul_int hb) hr)) (by simp)
theorem f_add (X : Kx (Mine.hd.heap_1 P) g) {a b : Int} : Fn g 1 (.ref 76) [.int a, .int b] (.int (a + b)) := by
  refine Fn.of (k := 0) (xs := ["a", "b"]) X rfl rfl (bind2 fun xx xx => rfl) (by decide) (by decide) (by decide) (fun A L hr bd => ?_)
  exact EX.stop (EX1.ret (EV.bin (EV.var bd (by decide) rfl) (EV.var bd (by decide) rfl) Op2.add_int hr)) (by simp)
theorem f_floordiv (X : Kx (Mine.hd.heap_1 P) g) {a b : Int} (hb : b ≠ 0) (h : Builtin.divisionGoesByPylong a b = false) : Fn g 1 (.ref 83) [.int a, .int b] (.int (a.fdiv b)) := by
  refine Fn.of (k := 0) (xs := ["a", "b"]) X rfl rfl (bind2 fun xx xx => rfl) (by decide) (by decide) (by decide) (fun A L hr bd => ?_)
  exact EX.stop (EX1.ret (EV.bin (EV.var bd (by decide) rfl) (EV.var bd (by decide) rfl) (Op2.floordiv_int hb h) hr)) (by simp)
theorem f_mod (X : Kx (Mine.hd.heap_1 P) g) {a b : Int} (hb : b ≠ 0) : Fn g 1 (.ref 90) [.int a, .int b] (.int (a.fmod b)) := by
  refine Fn.of (k := 0) (xs := ["a", "b"]) X rfl rfl (bind2 fun xx xx => rfl) (by decide) (by decide) (by decide) (fun A L hr bd => ?_)
  exact EX.stop (EX1.ret (EV.bin (EV.var bd (by decide) rfl) (EV.var bd (by decide) rfl) (Op2.mod_int hb) hr)) (by simp)
theorem f_getitem (X : Kx (Mine.hd.heap_1 P) g) {a : List Nat} {i : Int} {j c : Nat} (hi : seqIndex? i a.length = some j) (hc : a[j]? = some c) (hlo : -(2 ^ 62 : Int) ≤ i) (hhi : i < 2 ^ 62) : Fn g 1 (.ref 111) [.str (S a), .int i] (.str (S [c])) := by
  refine Fn.of (k := 0) (xs := ["a", "b"]) X rfl rfl (bind2 fun xx xx => rfl) (by decide) (by decide) (by decide) (fun A L hr bd => ?_)
  exact EX.stop (EX1.ret (EV.sub (EV.var bd (by decide) rfl) (EV.var bd (by decide) rfl) rfl F.slot_str_getitem.lookup (Op2.sub_str hi hc hlo hhi) hr)) (by simp)

theorem charsG_get {a : List Nat} {lo i : Nat} {d : D} (h : (enums (charsG (S a) lo))[i]? = some d) : ∃ c, a[i]? = some c ∧ d = .tuple [.int i, .ge (S [c]) lo] := by
  simp only [enums, charsG, List.getElem?_map, Option.map_eq_some_iff, List.getElem?_zipIdx] at h
  obtain ⟨⟨d1, j⟩, ⟨d2, ⟨c, e, e2⟩, e3⟩, rfl⟩ := h
  cases e3; subst e2
  exact ⟨c, by simpa using e, by simp⟩
theorem ascii_of {a : List Nat} (h : ∀ c ∈ a, c < 128) : (S a).cps.all (· < 128) = true := by
  simp only [List.all_toArray, List.all_eq_true, decide_eq_true_eq]
  exact h
theorem f_indexOf (X : Kx (Mine.hd.heap_1 P) g) {a : List Nat} {b k : Nat} (ha : ∀ c ∈ a, c < 128) (hk : a[k]? = some b) (hlt : ∀ i, i < k → a[i]? ≠ some b) : Fn g 1 (.ref 118) [.str (S a), .lt (S [b]) g.lo] (.int k) := by
  refine Fn.of (k := 0) (xs := ["a", "b"]) X rfl rfl (bind2 fun xx xx => rfl) (by decide) (by decide) (by decide) (fun A L hr bd => ?_)
  refine EX.stop (EX1.forStop (tt := true) (items := enums (charsG (S a) g.lo)) k ?_ (fun xx => [("a", .val (.str (S a))), ("b", .val (.lt (S [b]) g.lo))]) (fun i => [("a", .val (.str (S a))), ("b", .val (.lt (S [b]) g.lo)), ("i", .val (.int i)), ("j", .val (.ge (S [a[i]?.getD 0]) g.lo))])
    (IT.enum (EV.built X (bd.outer (by decide)) rfl (by rfl) (by decide)) (EV.var bd (by decide) rfl) rfl (Src.strG (ascii_of ha)) hr) (fun i d hi hd => ?_) (fun i d hi hd => ?_) (fun d hd => ?_) (fun xx => rfl)) (by simp)
  · have := (List.getElem?_eq_some_iff.mp hk).1
    simpa [enums, charsG] using this
  · obtain ⟨c, hc, rfl⟩ := charsG_get hd
    simp only [hc, Option.getD_some]
    exact AT.two (AT.name bd.fk (bd.kindOf _)) (AT.name bd.fk (bd.kindOf _)) hr fun xx => rfl
  · obtain ⟨c, hc, rfl⟩ := charsG_get hd
    simp only [hc, Option.getD_some]
    have hne : ¬ S [c] = S [b] := fun q => hlt i hi (by simpa [hc] using S_inj q)
    refine EX.cons (EX1.ite (b := decide (S [c] = S [b])) (EB.isOr X rfl (EV.var bd (by decide) rfl) (EV.var bd (by decide) rfl) (.conv (EB.cmp (EV.var bd (by decide) rfl).ge_str (EV.var bd (by decide) rfl).lt_str Op2.eq_str hr rfl) ?_) rfl) (fun q => absurd (of_decide_eq_true q) hne) fun xx => EX.nil.post ?_) .nil
    · rw [decide_eq_false hne]; simpa using fun q => hne (by rw [q])
    · simp [List.zip]
  · obtain ⟨c, hc, rfl⟩ := charsG_get hd
    have hcb : c = b := by rw [hk] at hc; cases hc; rfl
    subst hcb
    simp only [hc, Option.getD_some]
    refine EX.stop (EX1.ite (b := decide (S [c] = S [c])) (EB.isOr X rfl (EV.var bd (by decide) rfl) (EV.var bd (by decide) rfl) (.conv (EB.cmp (EV.var bd (by decide) rfl).ge_str (EV.var bd (by decide) rfl).lt_str Op2.eq_str hr rfl) (by simp)) rfl) (fun xx => EX.stop (EX1.ret (EV.var bd (by decide) rfl)) (by simp)) (fun q => by simp at q)) (by simp)
end
end Mine
end
section
set_option Elab.async false
set_option tactic.hygienic false
set_option linter.unusedVariables false
namespace Mine
open PySem PySem.W PySem.Calls PyProof.Rows

section
variable {tt : Bool} {c : Cx} {ρ ρ' : Rho}
theorem EX1.forE {target iter : Expr} {body : List Stmt} {p : Pos} {items : List D} (ρs : Nat → Rho) (hi : IT tt L0 c (ρs 0) iter items) (hb : ∀ i d, items[i]? = some d → ∃ ρt, AT c (ρs i) target d ρt ∧ EX c ρt body (.next (ρs (i + 1))))
    (hs : ∀ x, foldedSetIterable iter c.env x = pure x) (htt : autoParam (TT tt target) rflTac) : EX1 c (ρs 0) (.For target iter body [] p) (.next (ρs items.length)) := by
  refine EX1.for ρs (fun i => if h : i < items.length then Classical.choose (hb i items[i] (List.getElem?_eq_getElem h)) else []) hi (fun i d hd => ?_) (fun i d hd => ?_) hs htt
  · obtain ⟨h, rfl⟩ := List.getElem?_eq_some_iff.mp hd
    rw [dif_pos h]; exact (Classical.choose_spec (hb i items[i] (List.getElem?_eq_getElem h))).1
  · obtain ⟨h, rfl⟩ := List.getElem?_eq_some_iff.mp hd
    rw [dif_pos h]; exact (Classical.choose_spec (hb i items[i] (List.getElem?_eq_getElem h))).2
theorem EX1.forMap {α : Type} {target iter : Expr} {body : List Stmt} {p : Pos} {xs : List α} {f : α → D} (ρs : Nat → Rho) (hi : IT tt L0 c (ρs 0) iter (xs.map f)) (hb : ∀ i x, xs[i]? = some x → ∃ ρt, AT c (ρs i) target (f x) ρt ∧ EX c ρt body (.next (ρs (i + 1))))
    (hs : ∀ x, foldedSetIterable iter c.env x = pure x) (htt : autoParam (TT tt target) rflTac) : EX1 c (ρs 0) (.For target iter body [] p) (.next (ρs xs.length)) := by
  have := EX1.forE (p := p) (body := body) ρs hi (fun i d hd => ?_) hs htt
  · simpa using this
  · rw [List.getElem?_map, Option.map_eq_some_iff] at hd
    refine cps fun PP kk => ?_
    obtain ⟨x, e, rfl⟩ := hd
    refine kk ?_
    clear kk PP
    exact hb i x e
theorem EX1.forFold {α β : Type} {target iter : Expr} {body : List Stmt} {p : Pos} {xs : List α} {f : α → D} (R : β → Rho) (stp : β → α → β) (b0 : β) (hi : IT tt L0 c (R b0) iter (xs.map f))
    (hb : ∀ b x, x ∈ xs → ∃ ρt, AT c (R b) target (f x) ρt ∧ EX c ρt body (.next (R (stp b x)))) (hs : ∀ x, foldedSetIterable iter c.env x = pure x) (htt : autoParam (TT tt target) rflTac) :
    EX1 c (R b0) (.For target iter body [] p) (.next (R (xs.foldl stp b0))) := by
  have := EX1.forMap (c := c) (p := p) (body := body) (fun i => R ((xs.take i).foldl stp b0)) (by simpa using hi) (fun i x hx => ?_) hs htt
  · simpa using this
  · have hm : x ∈ xs := List.mem_of_getElem? hx
    obtain ⟨ρt, h1, h2⟩ := hb ((xs.take i).foldl stp b0) x hm
    refine ⟨ρt, h1, ?_⟩
    have e : (xs.take (i + 1)).foldl stp b0 = stp ((xs.take i).foldl stp b0) x := by
      rw [List.take_add_one, hx, List.foldl_append]; rfl
    show EX c ρt body (.next (R ((xs.take (i + 1)).foldl stp b0)))
    rw [e]; exact h2
end

section
variable {g : Gx} {k : Nat}
theorem RepL.one' {Z : Mp} {vs : List Value} {d : D} (h : RepL Z vs [d]) : ∃ v, vs = [v] ∧ Rep Z v d := h.inv1
theorem RepL.two' {Z : Mp} {vs : List Value} {d1 d2 : D} (h : RepL Z vs [d1, d2]) : ∃ v w, vs = [v, w] ∧ Rep Z v d1 ∧ Rep Z w d2 := h.inv2
theorem Fn.len_str {a : List Nat} (h : a.length ≤ 16777216) : Fn g 0 (.builtin "len") [.str (S a)] (.int a.length) := fun A s X vs hr ok hv E => by
  refine cps fun PP kk => ?_
  obtain ⟨v, rfl, r⟩ := hv.one'
  obtain ⟨t, rfl⟩ := r.of_str
  refine kk ?_
  clear kk PP
  exact P.len_str (by rw [S_length]; lia) ⟨keeps_next2 s, by rw [S_length]; exact .int _ _⟩
theorem Fn.len_list {ds : List D} (h : ds.length ≤ 16777216) : Fn g 0 (.builtin "len") [.list ds] (.int ds.length) := fun A s X vs hr ok hv E => by
  refine cps fun PP kk => ?_
  obtain ⟨v, rfl, r⟩ := hv.one'
  obtain ⟨a, us, n, rfl, hz, hr'⟩ := r.of_list
  refine kk ?_
  clear kk PP
  exact call_len_list (items := us.toArray) ⟨_, (Zof.get hz).1, rfl, n, rfl⟩ (by rw [List.size_toArray, hr'.length]; lia) ⟨keeps_next2 s, by rw [List.size_toArray, hr'.length]; exact .int _ _⟩
theorem Op2.add_list {a b : List D} (h : a.length + b.length ≤ sizeLine) : Op2 g 0 (binaryOp .Add) (.list a) (.list b) (.list (a ++ b)) := fun A s X v w hr ok ra rb E => by
  refine cps fun PP kk => ?_
  obtain ⟨p, us, n, rfl, hz, h1⟩ := ra.of_list
  obtain ⟨q, ws, m, rfl, hz2, h2⟩ := rb.of_list
  refine kk ?_
  clear kk PP
  refine P.add_list (items := us.toArray) (items2 := ws.toArray) (n := n) (n2 := m) (Zof.get hz).1 (Zof.get hz2).1 ⟨keeps_push _ _, ?_⟩ (by simp [h1.length, h2.length]; exact h)
  refine .list (n := 0) (vs := us ++ ws) ?_ ((h1.append h2).mono (keeps_le (keeps_push _ _)))
  exact Zof.of (by simpa using Heap.get?_push_size s.heap (o := lst (us ++ ws) 0) rfl) ok.fresh

inductive PartD : D → Option Int → Prop
  | none : PartD .none none
  | int (i : Int) : PartD (.int i) (some i)
theorem PartD.part {Z : Mp} {v : Value} {d : D} {o : Option Int} (h : PartD d o) (r : Rep Z v d) : IsPart v o := by
  cases h with
  | none => rw [r.of_none]; exact .none
  | int i => obtain ⟨t, rfl⟩ := r.of_int; exact .int i t
theorem Op2.slice_list {ds es : List D} {l u st : D} {lo hi step : Option Int} (pl : PartD l lo) (pu : PartD u hi) (ps : PartD st step) (h0 : step ≠ some 0) (hlen : ds.length ≤ sizeLine)
    (he : ∀ {Z : Mp} {vs : List Value}, RepL Z vs ds → RepL Z (slicePick vs.toArray lo hi step).toList es) : Op2 g 0 getItem (.list ds) (.slc l u st) (.list es) := fun A s X v w hr ok ra rb E => by
  refine cps fun PP kk => ?_
  obtain ⟨p, us, n, rfl, hz, h1⟩ := ra.of_list
  obtain ⟨q, vl, vu, vs, rfl, hz2, r1, r2, r3⟩ := rb.of_slc
  refine kk ?_
  clear kk PP
  refine wpAny_getItem_list_slice (items := us.toArray) ⟨_, (Zof.get hz).1, rfl, n, rfl⟩ ⟨_, (Zof.get hz2).1, rfl, rfl⟩ (pl.part r1) (pu.part r2) (ps.part r3) h0 ⟨keeps_push _ _, ?_⟩ (by simp [h1.length]; exact hlen)
  refine .list (n := 0) (vs := (slicePick us.toArray lo hi step).toList) ?_ ((he h1).mono (keeps_le (keeps_push _ _)))
  exact Zof.of (by simpa using Heap.get?_push_size s.heap (o := lst (slicePick us.toArray lo hi step).toList 0) rfl) ok.fresh
theorem Op2.rev_list {ds : List D} (h : ds.length ≤ sizeLine) : Op2 g 0 getItem (.list ds) (.slc .none .none (.int (-1))) (.list ds.reverse) :=
  Op2.slice_list .none .none (.int _) (by decide) h fun r => by rw [krv_pick]; simpa using r.reverse
theorem Op2.from_list {ds : List D} {a : Nat} (h : ds.length ≤ sizeLine) : Op2 g 0 getItem (.list ds) (.slc (.int a) .none .none) (.list (ds.drop a)) :=
  Op2.slice_list (.int _) .none .none (by decide) h fun r => by rw [slicePick_from']; simpa using r.drop a
theorem Op2.upto_list {ds : List D} {a : Nat} (h : ds.length ≤ sizeLine) : Op2 g 0 getItem (.list ds) (.slc .none (.int a) .none) (.list (ds.take a)) :=
  Op2.slice_list .none (.int _) .none (by decide) h fun r => by rw [slicePick_upto']; simpa using r.take a
theorem PartD.sl {Z : Mp} {v : Value} {d : D} {o : Option Int} (h : PartD d o) (r : Rep Z v d) : ∃ q : Option (Int × Tok), v = partValue q ∧ q.map (·.1) = o := by
  cases h with
  | none => rw [r.of_none]; exact ⟨Option.none, rfl, rfl⟩
  | int i => obtain ⟨t, rfl⟩ := r.of_int; exact ⟨some (i, t), rfl, rfl⟩
noncomputable def cut (a : List Nat) (lo hi : Option Int) : List Nat := (a.drop (lo.elim 0 (clipAt a.length))).take (hi.elim a.length (clipAt a.length) - lo.elim 0 (clipAt a.length))
theorem indices_plain (lo hi : Option Int) (n : Nat) : Builtin.Str.strSliceIndices lo hi 1 n = (List.range (hi.elim n (clipAt n) - lo.elim 0 (clipAt n))).map (lo.elim 0 (clipAt n) + ·) := by
  rw [← sliceRange_one]
  have h := sliceBounds_plain lo hi n
  have e : Builtin.Str.strSliceIndices lo hi 1 n = sliceRange (sliceBounds lo hi none n).1 (sliceBounds lo hi none n).2.1 1 := by
    unfold Builtin.Str.strSliceIndices sliceBounds
    cases lo <;> cases hi <;> rfl
  rw [e, h]
theorem clipAt_le (n : Nat) (i : Int) : clipAt n i ≤ n := by have := clipAt_cast n i; omega
theorem Op2.slice_str {a : List Nat} {l u : D} {lo hi : Option Int} (pl : PartD l lo) (pu : PartD u hi) (h : a.length ≤ sizeLine) : Op2 g 0 getItem (.str (S a)) (.slc l u .none) (.str (S (cut a lo hi))) := fun A s X v w hr ok ra rb E => by
  refine cps fun PP kk => ?_
  obtain ⟨t, rfl⟩ := ra.of_str
  obtain ⟨q, vl, vu, vs, rfl, hz2, r1, r2, r3⟩ := rb.of_slc
  obtain ⟨ql, rfl, el⟩ := pl.sl r1
  obtain ⟨qu, rfl, eu⟩ := pu.sl r2
  refine kk ?_
  clear kk PP
  have e3 := r3.of_none
  subst e3
  refine wpAny_getItem_str_slice (l := ql) (u := qu) (st := none) ⟨_, (Zof.get hz2).1, rfl, rfl⟩ rfl ?_
  unfold sliceMade slicePicked
  rw [el, eu]
  simp only [Option.map_none, Option.getD_none, beq_self_eq_true, Bool.true_and, beq_iff_eq]
  rw [S_length, indices_plain]
  have hp : ((List.range (hi.elim a.length (clipAt a.length) - lo.elim 0 (clipAt a.length))).map (lo.elim 0 (clipAt a.length) + ·)).filterMap ((S a).cps[·]?) = cut a lo hi := by
    rw [pick_run]; rfl
  split
  · rename_i hl
    simp only [List.length_map, List.length_range] at hl
    refine ⟨keeps_refl s, ?_⟩
    have e : cut a lo hi = a := by
      unfold cut
      rw [hl]
      have hlo : lo.elim 0 (clipAt a.length) = 0 := by
        have h1 : hi.elim a.length (clipAt a.length) ≤ a.length := by
          cases hi with
          | none => exact Nat.le_refl _
          | some i => exact clipAt_le _ _
        have h2 : lo.elim 0 (clipAt a.length) ≤ a.length := by
          cases lo with
          | none => exact Nat.zero_le _
          | some i => exact clipAt_le _ _
        lia
      rw [hlo]; simp
    rw [e]; exact .str _ _
  · refine ⟨?_, keeps_next s, ?_⟩
    · rw [hp]
      show (S (cut a lo hi)).length ≤ _
      rw [S_length]
      unfold cut
      simp only [List.length_take, List.length_drop]
      lia
    · rw [hp]; exact .str _ _
end
end Mine
end
section
set_option Elab.async false
set_option linter.unusedVariables false
namespace Mine
open PySem PySem.W PySem.Calls PyProof.Rows PySem.Builtin PySem.Builtin.Str

theorem Body.up {c : Cx} {scope : Scope} {n : Nat} (h : Body c scope) : Body (c.up n) scope := ⟨h.is, h.kind, h.cells, h.inj, h.globals, h.builtins⟩
theorem Kx.lo {K : Frag} {g : Gx} {n : Nat} (X : Kx K g) : Kx K { g with lo := n } := ⟨X.inn, X.nolimit, X.cst, X.mods⟩
theorem Kx.callee {K : Frag} {g : Gx} {a : Addr} {o : Obj} {fd : FuncData} (X : Kx K g) (ho : K.lookup a = some o) (hd : o.data = .func fd) : Callee g.G (.ref a) := .inr (.inr ⟨a, o, fd, rfl, X.inn _ _ ho, hd⟩)
theorem AT.var {c : Cx} {scope : Scope} {ρ : Rho} (bd : Body c scope) {x : Str} {p : Pos} {d : D} (h : isVar scope x = true) : AT c ρ (.Name x p) d (upd x (.val d) ρ) := fun sg B Y T s v E h' => wpAny_assign_Name ((bd.sto h) _ _ _ _ _ _ _ _ _ h')
section
variable {c : Cx} {K : Frag} {ρ : Rho} {scope : Scope}
theorem EV.callB {j k : Nat} {x : Str} {np p : Pos} {f : Value} {es : List Expr} {ds : List D} {d : D} (bd : Body c scope) (X : Kx K c.toGx) (h : isGlob scope x = true) (e : nsIn K mainGlobals x = some Option.none) (hv : bootBuiltins x = some f) (hn : (x == ("__name__" : Str)) = false)
    (hf : (∃ id, f = .builtin id) ∨ ∃ T, f = .type T) (h2 : EVs c ρ es ds) (hfn : Fn c.toGx k f ds d) (hk : Rm c.A j) (hkj : k ≤ j) (hns : noStar es = true) : EV c ρ (.Call (.Name x np) es [] p) d :=
  EV.call (EV.built X (bd.outer h) e hv (by simpa using hn)) h2 (hf.imp id .inl) hfn (hk.less hkj) fun pos env y q => by
    have := starEach_noStar (env := env) hns pos
    rw [q] at this; simp at this
theorem EV.callF {j k : Nat} {x : Str} {np p : Pos} {a : Addr} {o : Obj} {fd : FuncData} {es : List Expr} {ds : List D} {d : D} (bd : Body c scope) (X : Kx K c.toGx) (h : isGlob scope x = true) (e : nsIn K mainGlobals x = some (some (.ref a))) (ho : K.lookup a = some o) (hd : o.data = .func fd)
    (h2 : EVs c ρ es ds) (hfn : Fn c.toGx k (.ref a) ds d) (hk : Rm c.A j) (hkj : k ≤ j) (hns : noStar es = true) : EV c ρ (.Call (.Name x np) es [] p) d :=
  EV.call (EV.glob X (bd.outer h) e) h2 (X.callee ho hd) hfn (hk.less hkj) fun pos env y q => by
    have := starEach_noStar (env := env) hns pos
    rw [q] at this; simp at this
theorem EV.bin' {j k : Nat} {l r : Expr} {op : Operator} {p : Pos} {d1 d2 d : D} (h1 : EV c ρ l d1) (h2 : EV c ρ r d2) (o : Op2 c.toGx k (binaryOp op) d1 d2 d) (hk : Rm c.A j) (hkj : k ≤ j) : EV c ρ (.BinOp l op r p) d := EV.bin h1 h2 o (hk.less hkj)
theorem EVs.one {e : Expr} {d : D} (h : EV c ρ e d) (hs : noStar [e] = true) : EVs c ρ [e] [d] := .cons h .nil fun xx => starEach_cons_noStar hs
theorem EVs.two {e1 e2 : Expr} {d1 d2 : D} (h1 : EV c ρ e1 d1) (h2 : EV c ρ e2 d2) (hs : noStar [e1, e2] = true) : EVs c ρ [e1, e2] [d1, d2] := .cons h1 (.one h2 (noStar_tail hs)) fun xx => starEach_cons_noStar hs
end

section
variable {g : Gx}
theorem strs_of {Z : Mp} : ∀ {vs : List Value} {ts : List (List Nat)}, RepL Z vs (ts.map fun t => D.str (S t)) → ∃ l : List (Str × Tok), vs = strValues l ∧ l.map (·.1) = ts.map S := by
  intro vs ts
  induction ts generalizing vs with
  | nil => intro h; cases h.unnil; exact ⟨[], rfl, rfl⟩
  | cons t ts ih =>
    intro h
    obtain ⟨v, us, rfl, r1, r2⟩ := h.uncons
    obtain ⟨u, rfl⟩ := r1.of_str
    obtain ⟨l, rfl, e⟩ := ih r2
    exact ⟨(S t, u) :: l, rfl, congrArg (S t :: ·) e⟩
noncomputable def glue (sep : List Nat) : List (List Nat) → List Nat
  | [] => []
  | [t] => t
  | t :: r => t ++ sep ++ glue sep r
theorem join_S (sep : List Nat) : ∀ ts : List (List Nat), Str.join (S sep) (ts.map S) = S (glue sep ts)
  | [] => rfl
  | [t] => rfl
  | t :: u :: r => by
    have ih := join_S sep (u :: r)
    rw [List.map_cons] at ih ⊢
    rw [List.map_cons]
    show S t ++ S sep ++ Str.join (S sep) (S u :: r.map S) = _
    rw [ih, S_append, S_append]
    rfl
theorem glue_cons {sep t u : List Nat} {r : List (List Nat)} : glue sep (t :: u :: r) = t ++ sep ++ glue sep (u :: r) := rfl
theorem glue_length (sep : List Nat) : ∀ ts : List (List Nat), (glue sep ts).length ≤ (ts.map (·.length)).sum + ts.length * sep.length
  | [] => Nat.zero_le _
  | [t] => Nat.le_trans (show t.length ≤ ([t].map (·.length)).sum from Nat.le_refl _) (Nat.le_add_right _ _)
  | t :: u :: r => by
    have ih := glue_length sep (u :: r)
    simp only [glue_cons, List.length_append, List.map_cons, List.sum_cons, List.length_cons] at ih ⊢
    have e : (r.length + 1 + 1) * sep.length = (r.length + 1) * sep.length + sep.length := by rw [Nat.add_mul (r.length + 1) 1, Nat.one_mul]
    lia
theorem Fn.join {sep : List Nat} {ts : List (List Nat)} (h : (ts.map (·.length)).sum + ts.length * sep.length ≤ 16777216) : Fn g 0 (.builtin "str.join") [.str (S sep), .list (ts.map fun t => .str (S t))] (.str (S (glue sep ts))) := fun A s X vs hr ok hv E => by
  obtain ⟨v, w, rfl, r1, r2⟩ := hv.two'
  obtain ⟨t, rfl⟩ := r1.of_str
  obtain ⟨a, us, n, rfl, hz, hr'⟩ := r2.of_list
  obtain ⟨l, rfl, hl⟩ := strs_of hr'
  have hsum : ((l.map (·.1)).map (·.length)).sum = (ts.map (·.length)).sum := by
    rw [hl, List.map_map]; exact congrArg List.sum (List.map_congr_left fun t xx => S_length t)
  have hlen : (l.map (·.1)).length = ts.length := by rw [hl]; simp
  have hok : tooLong ((l.map (·.1)).toArray.foldl (· + ·.length + (S sep).length) 0) = false := by
    have := StrLaws.joinTotal (S sep) (l.map (·.1))
    rw [this, hsum, hlen, S_length]
    exact decide_eq_false (by show ¬ _ > 16777216; lia)
  refine call_meets F.slot_str_join (typeIs_str _ _ _) F.entry_str_join (F.args_str_join_2 _ _) (meets_str_join_list (S sep) t a l hok) ⟨⟨_, (Zof.get hz).1, rfl, n, rfl⟩, ?_⟩
  have hg : glued (S sep) (l.map (·.1)) = S (glue sep ts) := by rw [StrLaws.glued_eq_join, hl, join_S]
  unfold joinMade
  split
  · rename_i p
    have e : S (glue sep ts) = p.1 := by rw [← hg]; simp [StrLaws.glued_eq_join, Str.join]
    exact ⟨keeps_refl s, by rw [e]; exact .str _ _⟩
  · refine ⟨?_, keeps_next s, by rw [hg]; exact .str _ _⟩
    rw [hg, S_length]
    have := glue_length sep ts
    show _ ≤ 16777216
    lia
end
end Mine
end
section
open PySem PySem.W PyProof.Rows
set_option Elab.async false
set_option tactic.hygienic false
set_option maxRecDepth 100000
set_option maxHeartbeats 8000000
set_option linter.unusedVariables false
namespace Mine
noncomputable abbrev dS (s : List Nat) : D := .str (S s)
noncomputable abbrev dRow (r : List (List Nat)) : D := .list (r.map dS)
noncomputable abbrev dRows (r : List (List (List Nat))) : D := .list (r.map dRow)
section
variable {g : Gx} {P : Params}
noncomputable def total (rows : List (List (List Nat))) : Nat := rows.foldl (fun t row => row.foldl (fun t s => t * s.length) t) 1
theorem f_total (X : Kx (Mine.hd.heap_1 P) g) {rows : List (List (List Nat))} (hr0 : ∀ row ∈ rows, ∀ s ∈ row, s.length ≤ 1000) : Fn g 2 (.ref 257) [dRows rows] (.int (total rows)) := by
  refine Fn.of (k := 1) (xs := ["rows"]) X rfl rfl (bind1 fun xx => rfl) (by decide) (by decide) (by decide) (fun A L hr bd => ?_)
  refine EX.cons (EX1.set (EV.int (i := 1)) (bd.sto (by decide)) rfl) ?_
  refine EX.cons (EX1.forFold (xs := rows) (f := dRow) (fun (t : Nat) => [("rows", .val (dRows rows)), ("total", .val (.int t))]) (fun t row => row.foldl (fun t s => t * s.length) t) 1 (IT.list (EV.var bd (by decide) rfl) hr) (fun t row hrow => ⟨_, AT.var bd (by decide), ?_⟩) (fun xx => rfl)) (EX.stop (EX1.ret (EV.var bd (by decide) rfl)) (by simp))
  refine EX.cons (EX1.forFold (xs := row) (f := dS) (fun (t : Nat) => [("rows", .val (dRows rows)), ("total", .val (.int t)), ("row", .val (dRow row))]) (fun t s => t * s.length) t (IT.list (EV.var bd (by decide) rfl) hr) (fun t s hs => ⟨_, AT.var bd (by decide), ?_⟩) (fun xx => rfl)) (EX.nil.post ?_)
  · have hl := hr0 row hrow s hs
    refine EX.cons (EX1.set (d := .int ((t * s.length : Nat) : Int)) (.conv (EV.callF bd X (by decide) rfl rfl rfl (.two (EV.var bd (by decide) rfl) (EV.callB bd X (by decide) rfl rfl (by decide) (.inl ⟨_, rfl⟩) (.one (EV.var bd (by decide) rfl) rfl) (Fn.len_str (by lia)) hr (by decide) rfl) rfl) (f_mul X (by lia)) hr (by decide) rfl) (by simp)) (bd.sto (by decide)) rfl) (EX.nil.post ?_)
    exact .cons_cons _ (.cons_cons _ (.cons_cons _ (.cons _ .slnil)))
  · exact .cons_cons _ (.cons_cons _ (.cons _ .slnil))
end
end Mine
end
section
set_option Elab.async false
set_option tactic.hygienic false
set_option linter.unusedVariables false
namespace Mine
open PySem PySem.W PySem.Calls PyProof.Rows

theorem pairs_map {α β : Type} (f : α → D) (g : β → D) : ∀ (xs : List α) (ys : List β), pairs (xs.map f) (ys.map g) = (xs.zip ys).map fun p => D.tuple [f p.1, g p.2]
  | [], _ => by simp [pairs]
  | _ :: _, [] => by simp [pairs]
  | x :: xs, y :: ys => by
    have ih := pairs_map f g xs ys
    unfold pairs at ih ⊢
    simp only [List.map_cons, List.zip_cons_cons]
    rw [ih]
theorem chars_S (a : List Nat) : chars (S a) = a.map fun c => D.str (S [c]) := rfl
section
variable {tt : Bool} {lf : Nat → D → D} {c : Cx} {ρ ρ' : Rho}
theorem EX1.forLoFold {α β : Type} {target iter : Expr} {body : List Stmt} {p : Pos} {items : List D} {xs : List α} {f : α → D} (R : β → Rho) (stp : β → α → β) (b0 : β) (hi : IT tt lf c (R b0) iter items) (he : items = xs.map f)
    (hb : ∀ b x n, x ∈ xs → c.lo ≤ n → ∃ ρt, AT (c.up n) (R b) target (lf n (f x)) ρt ∧ EX (c.up n) ρt body (.next (R (stp b x)))) (hs : ∀ x, foldedSetIterable iter c.env x = pure x) (htt : autoParam (TT tt target) rflTac) :
    EX1 c (R b0) (.For target iter body [] p) (.next (R (xs.foldl stp b0))) := by
  subst he
  have := EX1.forLo (c := c) (p := p) (body := body) (fun i => R ((xs.take i).foldl stp b0)) (by simpa using hi) (fun i d n hd hn => ?_) hs htt
  · simpa using this
  · rw [List.getElem?_map, Option.map_eq_some_iff] at hd
    obtain ⟨x, hx, rfl⟩ := hd
    have hm : x ∈ xs := List.mem_of_getElem? hx
    obtain ⟨ρt, h1, h2⟩ := hb ((xs.take i).foldl stp b0) x n hm hn
    refine ⟨ρt, h1, ?_⟩
    have e : (xs.take (i + 1)).foldl stp b0 = stp ((xs.take i).foldl stp b0) x := by
      rw [List.take_add_one, hx, List.foldl_append]; rfl
    show EX (c.up n) ρt body (.next (R ((xs.take (i + 1)).foldl stp b0)))
    rw [e]; exact h2
theorem EX1.forFold' {α β : Type} {target iter : Expr} {body : List Stmt} {p : Pos} {items : List D} {xs : List α} {f : α → D} (R : β → Rho) (stp : β → α → β) (b0 : β) (hi : IT tt lf c (R b0) iter items) (hl : lf = L0) (he : items = xs.map f)
    (hb : ∀ b x, x ∈ xs → ∃ ρt, AT c (R b) target (f x) ρt ∧ EX c ρt body (.next (R (stp b x)))) (hs : ∀ x, foldedSetIterable iter c.env x = pure x) (htt : autoParam (TT tt target) rflTac) :
    EX1 c (R b0) (.For target iter body [] p) (.next (R (xs.foldl stp b0))) := by
  subst he hl
  exact EX1.forFold R stp b0 hi hb hs htt
theorem EX.ends {st : Stmt} {ss : List Stmt} {d : D} (h : EX1 c ρ st (.ret d)) : EX c ρ (st :: ss) (.ret d) := EX.stop h fun ρ q => nomatch q
theorem EX.gives {e : Expr} {p : Pos} {ss : List Stmt} {d : D} (h : EV c ρ e d) : EX c ρ (.Return (some e) p :: ss) (.ret d) := EX.ends (EX1.ret h)
end
end Mine
end
section
open PySem PySem.W PyProof.Rows
set_option Elab.async false
set_option tactic.hygienic false
set_option maxRecDepth 100000
set_option maxHeartbeats 8000000
set_option linter.unusedVariables false
namespace Mine
noncomputable def numRow (t : Nat) (p : List (List Nat) × List Nat) : Nat := (p.1.zip p.2).foldl (fun t q => t * q.1.length + q.1.idxOf q.2) t
noncomputable def numOf (rows : List (List (List Nat))) (names : List (List Nat)) : Nat := (rows.zip names).foldl numRow 0
theorem idx_get {a : List Nat} {b : Nat} (h : b ∈ a) : a[a.idxOf b]? = some b := by
  have := List.idxOf_lt_length_of_mem h
  rw [List.getElem?_eq_getElem this]
  simp
theorem idx_first {a : List Nat} {b i : Nat} (h : i < a.idxOf b) : a[i]? ≠ some b := fun q => by
  have hb : b ∈ a := List.mem_of_getElem? q
  have hl := List.idxOf_lt_length_of_mem hb
  obtain ⟨hi, e⟩ := List.getElem?_eq_some_iff.mp q
  have := List.not_of_lt_findIdx (p := (· == b)) (xs := a) (i := i) h
  simp [e] at this
section
variable {g : Gx} {P : Params}
theorem f_number (X : Kx (Mine.hd.heap_1 P) g) {rows : List (List (List Nat))} {names : List (List Nat)} (h1 : ∀ p ∈ rows.zip names, (∀ c ∈ p.2, c < 128) ∧ ∀ q ∈ p.1.zip p.2, q.1.length ≤ 1000 ∧ (∀ c ∈ q.1, c < 128) ∧ q.2 ∈ q.1) : Fn g 2 (.ref 278) [dRows rows, dRow names] (.int (numOf rows names)) := by
  refine Fn.of (k := 1) (xs := ["rows", "names"]) X rfl rfl (bind2 fun xx xx => rfl) (by decide) (by decide) (by decide) (fun A L hr bd => ?_)
  refine EX.cons (EX1.set (EV.int (i := 0)) (bd.sto (by decide)) rfl) ?_
  refine EX.cons (EX1.forFold' (tt := true) (xs := rows.zip names) (f := fun p => .tuple [dRow p.1, dS p.2]) (fun (t : Nat) => [("rows", .val (dRows rows)), ("names", .val (dRow names)), ("number", .val (.int t))]) numRow 0 (IT.zip (EV.built X (bd.outer (by decide)) rfl rfl (by decide)) (EV.var bd (by decide) rfl) (EV.var bd (by decide) rfl) rfl (.list _) (.list _) hr) lfz_L0 (pairs_map _ _ _ _) (fun t p hp => ⟨_, AT.two (AT.var bd (by decide)) (AT.var bd (by decide)) hr fun xx => rfl, ?_⟩) (fun xx => rfl)) (EX.stop (EX1.ret (EV.var bd (by decide) rfl)) (by simp))
  obtain ⟨row, name⟩ := p
  obtain ⟨hasc, hq⟩ := h1 _ hp
  refine EX.cons (EX1.forLoFold (tt := true) (xs := row.zip name) (f := fun q => .tuple [dS q.1, dS [q.2]]) (fun (t : Nat) => [("rows", .val (dRows rows)), ("names", .val (dRow names)), ("number", .val (.int t)), ("row", .val (dRow row)), ("name", .val (dS name))]) (fun t q => t * q.1.length + q.1.idxOf q.2) t (IT.zip (EV.built X (bd.outer (by decide)) rfl rfl (by decide)) (EV.var bd (by decide) rfl) (EV.var bd (by decide) rfl) rfl (.list _) (.strT (ascii_of hasc)) hr) (by rw [chars_S]; exact pairs_map _ _ _ _) (fun t q n hq' hn => ⟨_, AT.two (AT.var bd.up (by decide)) (AT.var bd.up (by decide)) hr fun xx => rfl, ?_⟩) (fun xx => rfl)) (EX.nil.post ?_)
  · obtain ⟨s, ch⟩ := q
    obtain ⟨hl, hs, hm⟩ := hq _ hq'
    have X' : Kx (Mine.hd.heap_1 P) { g with lo := n } := X.lo
    refine EX.cons (EX1.set (d := .int ((t * s.length + s.idxOf ch : Nat) : Int)) (.conv (EV.callF bd.up X' (by decide) rfl rfl rfl (.two (EV.callF bd.up X' (by decide) rfl rfl rfl (.two (EV.var bd.up (by decide) rfl) (EV.callB bd.up X' (by decide) rfl rfl (by decide) (.inl ⟨_, rfl⟩) (.one (EV.var bd.up (by decide) rfl) rfl) (Fn.len_str (by lia)) hr (by decide) rfl) rfl) (f_mul X' (by lia)) hr (by decide) rfl)
      (EV.callF bd.up X' (by decide) rfl rfl rfl (.two (EV.var bd.up (by decide) rfl) (EV.var bd.up (by decide) rfl) rfl) (f_indexOf X' hs (idx_get hm) fun i hi => idx_first hi) hr (by decide) rfl) rfl) (f_add X') hr (by decide) rfl) (by simp)) (bd.up.sto (by decide)) rfl) (EX.nil.post ?_)
    exact .cons_cons _ (.cons_cons _ (.cons_cons _ (.cons_cons _ (.cons_cons _ (.cons _ (.cons _ .slnil))))))
  · exact .cons_cons _ (.cons_cons _ (.cons_cons _ (.cons _ (.cons _ .slnil))))
end
end Mine
end
section
set_option Elab.async false
set_option tactic.hygienic false
set_option linter.unusedVariables false
namespace Mine
open PySem PySem.W PySem.Calls PyProof.Rows

section
variable {c : Cx} {sg : Shared} {B : Mp} {Y : List Addr} {fs : List Addr} {m cm : Str → Option Value} {ρ ρ₀ ρ' : Rho} {T : List (Value × D)} {s s' : Shared}

theorem VarsIs.reslot {Z : Mp} {h : Heap} {lk : Str → Option Value} {x : Str} {sl sl' : Slot} (hsl : ∀ v f, SlotIs Z h v sl f → SlotIs Z h v sl' f) : ∀ {ρ : Rho} {fs : List Addr}, VarsIs Z h lk ρ fs → HasSlot x sl ρ → VarsIs Z h lk (setSlot x sl' ρ) fs := by
  intro ρ
  induction ρ with
  | nil => intro fs _ x; obtain ⟨ρ1, ρ2, e, _⟩ := x; simp at e
  | cons p0 r ih =>
    intro fs x1 x2
    refine cps fun PP kk => ?_
    obtain ⟨y, t⟩ := p0
    obtain ⟨v, f1, f2, e, l, q, z⟩ := x1
    obtain ⟨ρ1, ρ2, e1, hne⟩ := x2
    refine kk ?_
    clear kk PP
    cases ρ1 with
    | nil =>
      cases e1
      unfold setSlot; rw [if_pos rfl]
      exact ⟨v, f1, f2, e, l, hsl v f1 q, z⟩
    | cons p ρ1 =>
      cases e1
      have hyx : y ≠ x := hne (y, t) (.head _)
      unfold setSlot; rw [if_neg hyx]
      exact ⟨v, f1, f2, e, l, q, ih z ⟨ρ1, ρ2, rfl, fun p hp => hne p (.tail _ hp)⟩⟩
theorem own_own2 {Z : Mp} {h : Heap} {v : Value} {f : List Addr} (x : SlotIs Z h v (.own []) f) : SlotIs Z h v (.own2 []) f := by
  refine cps fun PP kk => ?_
  obtain ⟨a, vs, n, rfl, rfl, e, r⟩ := x
  refine kk ?_
  clear kk PP
  cases r
  exact ⟨a, [], n, rfl, rfl, e, .nil⟩
theorem EX.to2 {x : Str} {ss : List Stmt} {o : Out} (hx : HasSlot x (.own []) ρ) (h : EX c (setSlot x (.own2 []) ρ) ss o) : EX c ρ ss o := fun sg B Y T s E hqz => by
  obtain ⟨fs, m, cm, y⟩ := hqz; exact
  h sg B Y T s E ⟨fs, m, cm, y.nd, y.own, y.hid, y.keep, y.base, y.ns, y.cells, y.vars.reslot (fun xx xx => own_own2) hx, y.temps, y.same, y.mono⟩
theorem HasSlot.of_look {x : Str} {sl : Slot} : ∀ {ρ : Rho}, ρ.lookup x = some sl → HasSlot x sl ρ
  | (y, t) :: r, h => by
    simp only [List.lookup] at h
    split at h
    · rename_i q; cases h; rw [eq_of_beq q]; exact .here
    · rename_i q
      exact (HasSlot.of_look h).there (fun e => by subst e; simp at q)

theorem callRaw0 {f : Value} {fd : List Value} {es : List Expr} {pos : Pos} {E : Value → Shared → Prop} {Q : Value → Shared → Prop} (hf : Callee c.G f)
    (hn : ∀ env, ∀ x, backTo pos (starEach es env) ≠ [(true, x)]) (h : wpAny c.M c.A (spliced (backTo pos (starEach es c.env))) (fun vs s' => (∀ b o, c.G.get? b = some o → s'.heap.get? b = some o) ∧ wpAny c.M c.A (call f (fd ++ vs)) Q E s') E s) :
    wpAny c.M c.A (PySem.callWith pos f fd (backTo pos (starEach es c.env)) []) Q E s := by
  have main : wpAny c.M c.A (evalArgs f true (backTo pos (starEach es c.env)) []) (fun a s₁ => (∀ b o, c.G.get? b = some o → s₁.heap.get? b = some o) ∧ wpAny c.M c.A (call f (fd ++ a.pos) a.kw) Q E s₁) E s :=
    evalArgs_gen (hn _) (wpAny_mono h (fun vs s₁ q => q) fun xx xx e => e)
  cases hst : (backTo pos (starEach es c.env)).any (·.1) with
  | true => exact ks_call (P := fun h => ∀ b o, c.G.get? b = some o → h.get? b = some o) hst (fun h hk => hf.look h hk) main
  | false => exact callWith_of (P := fun h => ∀ b o, c.G.get? b = some o → h.get? b = some o) (by simp [hst]) (fun h hk => hf.look h hk) main

theorem EX1.append2 {x : Str} {np apos p pe pl : Pos} {dss : List (List D)} (hx : HasSlot x (.own2 dss) ρ) (hn : NameOk c x) (k : MethOk c (.Name x np) "append" [.List [] pl] apos p) (hsz : dss.length ≤ 1000000)
    (hi : interactive c.env = false) (hs : swapsWith (.Call (.Attribute (.Name x np) "append" apos) [.List [] pl] [] p) none pe.line c.env = pure false) :
    EX1 c ρ (.Expr (.Call (.Attribute (.Name x np) "append" apos) [.List [] pl] [] p) pe) (.next (setSlot x (.own2 (dss ++ [[]])) ρ)) := fun sg B Y T s E hqz => by
  obtain ⟨fs, m, cm, y⟩ := hqz
  refine cps fun PP kk => ?_
  obtain ⟨v, f1, gs, f2, ef, l, q⟩ := y.vars.own hx.mem
  obtain ⟨a, bs, n, rfl, rfl, e1, r⟩ := id q
  refine kk ?_
  clear kk PP
  have hnd : (a :: bs).Nodup := by
    have := y.nd
    rw [List.nodup_cons, List.nodup_append, ef, List.nodup_append, List.nodup_append] at this
    exact this.2.2.1.1.2.1
  have hin : ∀ b ∈ a :: bs, b ∈ fs := fun b hb => by rw [ef]; simp only [List.mem_append]; exact .inl (.inr hb)
  refine wpAny_Expr_any (wpAny_Call_method k.base k.form k.line F.plainAttrs_list F.slot_list_append F.type_list_append ?_) hi hs
  refine hn.eval y l ⟨⟨_, e1, rfl⟩, fun b eb => by cases eb; exact ⟨_, e1, rfl⟩, ?_⟩
  refine callRaw0 (.inl ⟨_, rfl⟩) k.nostar ?_
  refine spliced_more (wpAny_List (spliced_none ⟨by simp, spliced_none ⟨fun b o e => Heap.get?_push_of_some _ (y.rd.base b o e), ?_⟩⟩)) rfl
  have kp := keeps_push s { cls := .type "list", data := .seq ([] : List Value).toArray }
  have hnew : (s.heap.push { cls := .type "list", data := .seq ([] : List Value).toArray }).get? s.heap.objs.size = some (lst [] 0) := Heap.get?_push_size _ rfl
  have hup : ∀ d o, s.heap.get? d = some o → (s.heap.push { cls := .type "list", data := .seq ([] : List Value).toArray }).get? d = some o := fun d o e => Heap.get?_push_of_some _ e
  generalize s.heap.push { cls := .type "list", data := .seq ([] : List Value).toArray } = H2 at *
  generalize ha : s.heap.objs.size = b at *
  have hfr : s.heap.get? b = none := ha ▸ fresh_none
  have hB : B b = none := by
    cases q : B b with
    | none => rfl
    | some o => have := y.keep b o q; rw [hfr] at this; cases this
  have hY : b ∉ Y := fun q => by obtain ⟨o, e⟩ := y.hid b q; rw [hfr] at e; cases e
  have hnb : ∀ d ∈ a :: bs, d ≠ b := fun d hd q => by
    obtain ⟨o, e⟩ := (y.own d (.tail _ (List.mem_append.mpr (.inr (hin d hd))))).2.1
    rw [q, hfr] at e; cases e
  have y1 := y.hide (wr := [b]) kp fun d hd => by simp at hd; subst hd; exact ⟨hfr, _, hnew⟩
  have e1' : H2.get? a = some (lst (bs.map Value.ref) n) := hup _ _ e1
  have hlen : dss.length = bs.length := by
    clear hx q hnd hin hnb ef e1 e1'
    induction r with
    | nil => rfl
    | cons _ _ ih => simp at hsz ⊢; exact ih (by lia)
  refine wpAny_list_append_plain (hsz := by simp [sizeLine, ← hlen]; lia) ⟨n, e1'⟩ fun h5 hl5 hs5 => ⟨rfl, ?_⟩
  obtain ⟨n5, e5⟩ := hl5
  have q1 : SlotIs (Zof H2 (c.env.locals :: (c.oc ++ fs) ++ ([b] ++ Y))) H2 (.ref a) (.own2 dss) (a :: bs) := by
    refine q.mono (fun d o ed => ?_) fun d xx o ed => hup _ _ ed
    obtain ⟨g1, g2⟩ := Zof.get ed
    refine Zof.of (hup _ _ g1) fun z => ?_
    simp only [List.mem_append, List.mem_cons, List.not_mem_nil, or_false] at z g2
    rcases z with (z | z | z) | z | z
    · exact g2 (.inl (.inl z))
    · exact g2 (.inl (.inr (.inl z)))
    · exact g2 (.inl (.inr (.inr z)))
    · rw [z, hfr] at g1; cases g1
    · exact g2 (.inr z)
  have hslot : ∀ Z', Le (Zof H2 (c.env.locals :: (c.oc ++ fs) ++ ([b] ++ Y))) Z' → SlotIs Z' h5 (.ref a) (.own2 (dss ++ [[]])) ((a :: bs) ++ [b]) := fun Z' hz => by
    refine cps fun PP kk => ?_
    obtain ⟨a', bs', n', e0, e0', e2, r2⟩ := q1
    refine kk ?_
    clear kk PP
    cases e0
    refine ⟨a, bs ++ [b], n5, by simp, rfl, by simpa using e5, ?_⟩
    rw [List.nodup_cons] at hnd
    have last : ∃ vs n, h5.get? b = some (lst vs n) ∧ RepL Z' vs [] := ⟨[], 0, hs5.extBut b _ (fun z => hnb a (.head _) z.symm) hnew, .nil⟩
    have old : ∀ d ∈ bs, ∀ o, H2.get? d = some o → h5.get? d = some o := fun d hd o ed => hs5.extBut d o (fun z => hnd.1 (z ▸ hd)) ed
    clear e2 e0' hx q r hlen hin hnb ef e1 e1' e5 hsz
    induction r2 with
    | nil => exact .cons last .nil
    | cons hh tl ih =>
      refine cps fun PP kk => ?_
      obtain ⟨vs, n, e, rr⟩ := hh
      refine kk ?_
      clear kk PP
      rw [List.nodup_cons] at hnd
      exact .cons ⟨vs, n, old _ (.head _) _ e, rr.mono hz⟩ (ih ⟨fun z => hnd.1 (.tail _ z), hnd.2.2⟩ fun d hd => old d (.tail _ hd))
  obtain ⟨fs3, z3⟩ := StO.mutate (X := [b]) (sl' := .own2 (dss ++ [[]])) (h' := h5) (tk := s.toks) y1 (Nat.le_refl _) (by simp) (fun d hd => by simp at hd; subst hd; exact ⟨hB, hY⟩) hx l q1
    (fun d o hd e => hs5.extBut d o (fun z => hd (by simp [z])) e) (fun d hd => by
      rcases List.mem_cons.mp hd with rfl | hd'
      · exact ⟨_, e5⟩
      · obtain ⟨o, e⟩ := (y.own d (.tail _ (List.mem_append.mpr (.inr (hin d hd))))).2.1
        rw [List.nodup_cons] at hnd
        exact ⟨o, hs5.extBut d o (fun z => hnd.1 (z ▸ hd')) (hup _ _ e)⟩)
    hslot (fun x b e => (y.cells x b e).2)
  exact ⟨fs3, m, cm, z3⟩
end
end Mine
end
section
set_option Elab.async false
set_option tactic.hygienic false
set_option linter.unusedVariables false
namespace Mine
open PySem PySem.W PySem.Calls PyProof.Rows

theorem All2.uncons {α β : Type} {R : α → β → Prop} {l : List α} {b : β} {r : List β} (h : All2 R l (b :: r)) : ∃ a l', l = a :: l' ∧ R a b ∧ All2 R l' r := by
  cases h with | cons h t => exact ⟨_, _, rfl, h, t⟩
theorem All2.unnil {α β : Type} {R : α → β → Prop} {l : List α} (h : All2 R l ([] : List β)) : l = [] := by cases h; rfl
theorem All2.snoc_inv {α β : Type} {R : α → β → Prop} {l : List α} {r : List β} {b : β} (h : All2 R l (r ++ [b])) : ∃ l' a, l = l' ++ [a] ∧ All2 R l' r ∧ R a b := by
  induction r generalizing l with
  | nil =>
    obtain ⟨a, l', rfl, h1, h2⟩ := All2.uncons h
    cases All2.unnil h2
    exact ⟨[], a, rfl, .nil, h1⟩
  | cons y r ih =>
    obtain ⟨x, l1, rfl, h1, h2⟩ := All2.uncons h
    obtain ⟨l', a, rfl, h3, h4⟩ := ih h2
    exact ⟨x :: l', a, rfl, .cons h1 h3, h4⟩
theorem All2.snoc {α β : Type} {R : α → β → Prop} {a : α} {b : β}  {l : List α} {r : List β} (h : All2 R l r) (k : R a b) : All2 R (l ++ [a]) (r ++ [b]) := by
  induction h with
  | nil => exact .cons k .nil
  | cons h _ ih => exact .cons h ih
theorem All2.length {α β : Type} {R : α → β → Prop}  {l : List α} {r : List β} (h : All2 R l r) : l.length = r.length := by
  induction h with
  | nil => rfl
  | cons _ _ ih => simp [ih]

section
variable {c : Cx} {sg : Shared} {B : Mp} {Y : List Addr} {fs : List Addr} {m cm : Str → Option Value} {ρ ρ₀ ρ' : Rho} {T : List (Value × D)} {s s' : Shared}
theorem EX1.appendLast {x : Str} {np apos p pe sp : Pos} {i e : Expr} {pre : List (List D)} {l : List D} {d : D} (hx : HasSlot x (.own2 (pre ++ [l])) ρ) (hn : NameOk c x) (h1 : EV c ρ i (.int (-1))) (h : EV c ρ e d) (k : MethOk c (.Subscript (.Name x np) i sp) "append" [e] apos p) (hsz : l.length ≤ 1000000)
    (hi : interactive c.env = false) (hs : swapsWith (.Call (.Attribute (.Subscript (.Name x np) i sp) "append" apos) [e] [] p) none pe.line c.env = pure false) :
    EX1 c ρ (.Expr (.Call (.Attribute (.Subscript (.Name x np) i sp) "append" apos) [e] [] p) pe) (.next (setSlot x (.own2 (pre ++ [l ++ [d]])) ρ)) := fun sg B Y T s E hqz => by
  obtain ⟨fs, m, cm, y⟩ := hqz
  refine cps fun PP kk => ?_
  obtain ⟨v, f1, gs, f2, ef, lk, q⟩ := y.vars.own hx.mem
  obtain ⟨a, bs, n, rfl, rfl, e1, r⟩ := id q
  obtain ⟨bp, b, rfl, rp, vs, nb, eb, rb⟩ := r.snoc_inv
  refine kk ?_
  clear kk PP
  have hnd : (a :: (bp ++ [b])).Nodup := by
    have := y.nd
    rw [List.nodup_cons, List.nodup_append, ef, List.nodup_append, List.nodup_append] at this
    exact this.2.2.1.1.2.1
  refine wpAny_Expr_any (wpAny_Call_method k.base k.form k.line F.plainAttrs_list F.slot_list_append F.type_list_append ?_) hi hs
  refine Subscript_ (hn.eval y lk (wpAny_mono (h1 _ s y.rd E) (fun vi s₁ hqz0 => ?_) fun xx xx e => e))
  obtain ⟨k1, ri⟩ := hqz0
  obtain ⟨t, rfl⟩ := ri.of_int
  have e1' := keeps_heap k1 _ _ e1
  have eb' := keeps_heap k1 _ _ eb
  refine sub_tail (T := "list") ⟨_, e1', rfl⟩ F.slot_list_getitem.lookup ?_
  refine wpAny_getItem_list_neg (items := ((bp ++ [b]).map Value.ref).toArray) (x := .ref b) ⟨_, e1', rfl, n, rfl⟩ (by decide) (by simp; lia) (by decide) (by
    have : ((-1 : Int) + ((((bp ++ [b]).map Value.ref).toArray.size : Nat) : Int)).toNat = bp.length := by simp; lia
    rw [this]; simp) ⟨⟨_, eb', rfl⟩, fun b' eb'' => by cases eb''; exact ⟨_, eb', rfl⟩, ?_⟩
  refine callRaw (.inl ⟨_, rfl⟩) (.cons h .nil (fun env => starEach_cons_noStar k.plain)) k.nostar (y.keeps k1).rd fun us s₂ k2 qu => ?_
  refine cps fun PP kk => ?_
  obtain ⟨u, rfl, ru⟩ := qu.one'
  refine kk ?_
  clear kk PP
  have k12 := keeps_trans k1 k2
  have y2 := y.keeps k12
  have q2 : SlotIs (Zof s₂.heap (c.env.locals :: (c.oc ++ fs) ++ ([] ++ Y))) s₂.heap (.ref a) (.own2 (pre ++ [l])) (a :: (bp ++ [b])) := q.mono (keeps_le k12) fun d xx o ed => keeps_heap k12 _ _ ed
  have eb2 := keeps_heap k12 _ _ eb
  have e12 := keeps_heap k12 _ _ e1
  refine wpAny_list_append_plain (hsz := by simp [sizeLine, rb.length]; lia) ⟨nb, eb2⟩ fun h5 hl5 hs5 => ⟨rfl, ?_⟩
  obtain ⟨n5, e5⟩ := hl5
  have hab : a ≠ b := fun z => by rw [List.nodup_cons] at hnd; exact hnd.1 (by simp [z])
  have hpb : ∀ d ∈ bp, d ≠ b := fun d hd z => by
    rw [List.nodup_cons, List.nodup_append] at hnd
    exact hnd.2.2.2 d hd b (by simp) z
  have hslot : ∀ Z', Le (Zof s₂.heap (c.env.locals :: (c.oc ++ fs) ++ ([] ++ Y))) Z' → SlotIs Z' h5 (.ref a) (.own2 (pre ++ [l ++ [d]])) ((a :: (bp ++ [b])) ++ []) := fun Z' hz => by
    refine ⟨a, bp ++ [b], n, by simp, rfl, hs5.extBut a _ hab e12, ?_⟩
    refine All2.snoc ?_ ⟨vs ++ [u], n5, by simpa using e5, ((rb.mono (keeps_le k12)).mono hz).append ((RepL.one ru).mono hz)⟩
    exact rp.imp fun b' hb' ds hqz => by
      obtain ⟨vs', n', ee, rr⟩ := hqz; exact ⟨vs', n', hs5.extBut b' _ (hpb b' hb') (keeps_heap k12 _ _ ee), (rr.mono (keeps_le k12)).mono hz⟩
  obtain ⟨fs3, z3⟩ := StO.mutate (X := []) (sl' := .own2 (pre ++ [l ++ [d]])) (h' := h5) (tk := s₂.toks) y2 (Nat.le_refl _) (by simp) (fun d hd => nomatch hd) hx lk q2
    (fun d o hd e => hs5.extBut d o (fun z => hd (by simp [z])) e) (fun d hd => by
      by_cases hdb : d = b
      · subst hdb; exact ⟨_, e5⟩
      · have : d ∈ fs := by rw [ef]; simp only [List.mem_append]; exact .inl (.inr hd)
        obtain ⟨o, e⟩ := (y2.own d (.tail _ (List.mem_append.mpr (.inr this)))).2.1
        exact ⟨o, hs5.extBut d o hdb e⟩)
    hslot (fun x b e => (y.cells x b e).2)
  exact ⟨fs3, m, cm, z3⟩

theorem EB.eqNil2 {j : Nat} {x : Str} {np p pl : Pos} {dss : List (List D)} (hx : (x, Slot.own2 dss) ∈ ρ) (hn : NameOk c x) (hk : Rm c.A j) (hm : behindInMarks .Eq (.List [] pl) = false) (hsz : dss.length ≤ 1000000) : EB c ρ (.Compare (.Name x np) [.Eq] [.List [] pl] p) dss.isEmpty := fun H s E hqz => by
  obtain ⟨fs, m, cm, y⟩ := hqz
  refine cps fun PP kk => ?_
  obtain ⟨v, f1, gs, f2, ef, lk, q⟩ := y.vars.own hx
  obtain ⟨a, bs, n, rfl, rfl, e1, r⟩ := id q
  have hbs := r.length
  obtain ⟨hk', hl', hd⟩ := hn
  refine kk ?_
  clear kk PP
  refine wpAny_isTrue_Compare1 (wpAny_Name ?_ hd) hm
  have key : wpAny c.M c.A (eval (.List [] pl) c.env) (fun b s₂ => wpAny c.M c.A (compareOp .Eq (.ref a) b) (fun c₁ s₃ => wpAny c.M c.A (truthy c₁) (fun r s' => r = dss.isEmpty ∧ Keeps s s') E s₃) E s₂) E s := by
    refine wpAny_List (spliced_none ⟨by simp, ?_⟩)
    have kp := keeps_push s { cls := .type "list", data := .seq ([] : List Value).toArray }
    have l1 : (s.heap.push { cls := .type "list", data := .seq ([] : List Value).toArray }).IsList a (bs.map Value.ref).toArray := ⟨_, Heap.get?_push_of_some _ e1, rfl, n, rfl⟩
    have l2 : (s.heap.push { cls := .type "list", data := .seq ([] : List Value).toArray }).IsList s.heap.objs.size #[] := ⟨_, Heap.get?_push_size _ rfl, rfl, 0, rfl⟩
    have hu : c.A.units < cLine := by have := hk.units; lia
    cases hd : dss with
    | nil =>
      rw [hd] at hbs
      have : bs = [] := List.length_eq_zero_iff.mp hbs
      subst this
      exact SeqAt.eq_listAt l1 l2 rfl hu (fun j h1 h2 => absurd h1 (Nat.not_lt_zero j)) (wpAny_truthy_bool ⟨rfl, kp⟩) (e := fun xx => true)
    | cons d r =>
      rw [hd] at hbs
      exact SeqAt.eq_list_lengthsAt l1 l2 (by simp [hbs]) hu (wpAny_truthy_bool ⟨rfl, kp⟩)
  rcases hl' with h1 | ⟨h1, ad, had⟩
  · unfold lookIn at lk; rw [if_pos h1] at lk
    exact wpAny_loadName_local hk' h1 y.ns lk key
  · unfold lookIn at lk; rw [if_neg (by rw [h1]; simp)] at lk
    exact wpAny_loadName_cell hk' h1 had (lk ▸ y.cells x ad had) key
end
end Mine
end
section
open PySem PySem.W PyProof.Rows
set_option Elab.async false
set_option tactic.hygienic false
set_option maxRecDepth 100000
set_option maxHeartbeats 200000
set_option linter.unusedVariables false
namespace Mine
noncomputable def items : List (List Nat × List Nat) := [
  ([63], [33, 45, 93, 97, 98, 99]), ([97], [97]), ([91, 33, 97, 93], [33, 45, 93, 98, 99]), ([91, 97, 45, 99, 93], [97, 98, 99]),
  ([91, 93, 97, 93], [93, 97]), ([91, 33, 93, 98, 93], [33, 45, 97, 99]), ([91, 97, 45, 93], [45, 97]), ([91, 33, 45, 97, 93], [33, 93, 98, 99]),
  ([91, 45, 45, 98, 93], [45, 93, 97, 98]), ([91, 99, 45, 97, 98, 33, 93], [33, 98]), ([91, 33, 99, 45, 97, 93], [33, 45, 93, 97, 98, 99]), ([91, 98, 45, 97, 33, 97, 93], [33, 45, 93, 98, 99]),
  ([91, 33, 99, 45, 97, 45, 93], [33, 93, 97, 98, 99]), ([93], [93]), ([33], [33]), ([91, 33, 33, 45, 93], [93, 97, 98, 99])]
theorem items_length : items.length = 16 := rfl
noncomputable abbrev dItem (p : List Nat × List Nat) : D := .tuple [dS p.1, dS p.2]
theorem items_len : (items.map dItem).length ≤ sizeLine := by
  rw [List.length_map, items_length]; unfold sizeLine; lia
theorem strS {c : Cx} {ρ : Rho} {x : Str} {k : Nat} {p : Pos} {l : List Nat} (h : x = S l) : EV c ρ (.Constant (.str x) k p) (dS l) := h ▸ EV.str
theorem evItem {c : Cx} {ρ : Rho} {x y : Str} {k1 k2 k : Nat} {p1 p2 p : Pos} {l r : List Nat} (h1 : x = S l) (h2 : y = S r) : EV c ρ (.Tuple [.Constant (.str x) k1 p1, .Constant (.str y) k2 p2] k p) (dItem (l, r)) :=
  EV.tuple (EVs.two (strS h1) (strS h2) rfl) (by unfold sizeLine; simp)
section
variable {g : Gx} {P : Params}
theorem evs {c : Cx} {ρ : Rho} {e : Expr} {es : List Expr} {p : List Nat × List Nat} {ps : List (List Nat × List Nat)} (h1 : EV c ρ e (dItem p)) (h2 : EVs c ρ es (ps.map dItem)) (hn : noStar (e :: es) = true) : EVs c ρ (e :: es) ((p :: ps).map dItem) := EVs.cons h1 h2 fun xx => starEach_cons_noStar hn
theorem f_items (X : Kx (Mine.hd.heap_1 P) g) : Fn g 1 (.ref 231) [] (.list (items.map dItem)) := by
  refine Fn.of (k := 0) (xs := []) X rfl rfl (fun vs hl => by obtain rfl := len0 hl; rfl) (by decide) (by decide) (by decide) (fun A L hr bd => ?_)
  refine EX.gives ?_
  refine EV.list ?_ ?_
  · unfold items
    iterate 16
      refine evs ?_ ?_ ?_
      rotate_right
      · rfl
      · refine evItem ?_ ?_ <;> rfl
    exact EVs.nil
  · exact items_len
end
end Mine
end
section
open PySem PySem.W PyProof.Rows
set_option Elab.async false
set_option tactic.hygienic false
set_option maxRecDepth 100000
set_option maxHeartbeats 400000
set_option linter.unusedVariables false
namespace Mine
noncomputable abbrev Itm := List Nat × List Nat
noncomputable def addLast {α : Type} : List (List α) → α → List (List α)
  | [], _ => []
  | [l], a => [l ++ [a]]
  | l :: r :: s, a => l :: addLast (r :: s) a
theorem addLast_cons {α : Type} {l r : List α} {s : List (List α)} {a : α} : addLast (l :: r :: s) a = l :: addLast (r :: s) a := rfl
theorem addLast_snoc {α : Type} (l : List α) (a : α) : ∀ pre : List (List α), addLast (pre ++ [l]) a = pre ++ [l ++ [a]]
  | [] => rfl
  | [p] => rfl
  | p :: q :: r => by
    have ih := addLast_snoc l a (q :: r)
    simp only [List.cons_append] at ih ⊢
    rw [addLast_cons, ih]
noncomputable def itemAt (x : Int) : Itm := items.getD (x.fmod 16).toNat ([], [])
noncomputable def opens (dss : List (List Itm)) (x : Int) : Bool := dss.isEmpty || ((x.fdiv 16).fmod 2 == 1)
noncomputable def nstep (dss : List (List Itm)) (x : Int) : List (List Itm) := addLast (if opens dss x then dss ++ [[]] else dss) (itemAt x)
noncomputable def drawn (numbers : List Int) : List (List Itm) := numbers.foldl nstep []
theorem snoc_of_ne {α : Type} {l : List α} (h : l ≠ []) : ∃ p a, l = p ++ [a] := ⟨l.dropLast, l.getLast h, (List.dropLast_concat_getLast h).symm⟩
theorem opened_snoc (dss : List (List Itm)) (x : Int) : ∃ pre l, (if opens dss x then dss ++ [[]] else dss) = pre ++ [l] := by
  cases h : opens dss x with
  | true => exact ⟨dss, [], rfl⟩
  | false =>
    have : dss ≠ [] := fun e => by subst e; simp [opens] at h
    obtain ⟨p, a, e⟩ := snoc_of_ne this
    exact ⟨p, a, by simpa using e⟩
theorem drawn_small : ∀ (numbers : List Int) (dss : List (List Itm)) (n : Nat), dss.length ≤ n → (∀ l ∈ dss, l.length ≤ n) → (numbers.foldl nstep dss).length ≤ n + numbers.length ∧ ∀ l ∈ numbers.foldl nstep dss, l.length ≤ n + numbers.length := by
  intro zz
  induction zz with
  | nil => intro dss n h1 h2; exact ⟨h1, h2⟩
  | cons x r IH =>
    intro dss n h1 h2
    have ih := IH (nstep dss x) (n + 1) ?_ ?_
    · simp only [List.foldl_cons, List.length_cons]
      have e : n + (r.length + 1) = n + 1 + r.length := by lia
      rw [e]; exact ih
    · unfold nstep
      obtain ⟨pre, l, e⟩ := opened_snoc dss x
      rw [e, addLast_snoc]
      have : (pre ++ [l]).length ≤ n + 1 := by rw [← e]; split <;> (try simp only [List.length_append, List.length_cons, List.length_nil]) <;> lia
      simpa using this
    · unfold nstep
      obtain ⟨pre, l, e⟩ := opened_snoc dss x
      have hm : ∀ q ∈ pre ++ [l], q.length ≤ n := by
        rw [← e]; intro q hq
        split at hq
        · rcases List.mem_append.mp hq with h | h
          · exact h2 q h
          · simp at h; subst h; simp
        · exact h2 q hq
      rw [e, addLast_snoc]
      intro q hq
      rcases List.mem_append.mp hq with h | h
      · have := hm q (List.mem_append.mpr (.inl h)); lia
      · simp at h; subst h
        have := hm l (by simp)
        simp; lia
section
variable {g : Gx} {P : Params}
theorem map_snoc {α β : Type} (f : α → β) (pre : List α) (l : α) : (pre ++ [l]).map f = pre.map f ++ [f l] := by simp
theorem fmod16 (x : Int) : 0 ≤ x.fmod 16 ∧ x.fmod 16 < 16 := ⟨Int.fmod_nonneg_of_pos x (by decide), Int.fmod_lt_of_pos x (by decide)⟩
theorem f_names (X : Kx (Mine.hd.heap_1 P) g) {numbers : List Int} (hn : numbers.length ≤ 1000) : Fn g 2 (.ref 238) [.list (numbers.map D.int)] (.list ((drawn numbers).map fun r => .list (r.map dItem))) := by
  refine Fn.of (k := 1) (xs := ["numbers"]) X rfl rfl (bind1 fun xx => rfl) (by decide) (by decide) (by decide) (fun A L hr bd => ?_)
  refine EX.cons (EX1.set (EV.callF bd X (by decide) rfl rfl rfl EVs.nil (f_items X) hr (by decide) rfl) (bd.sto (by decide)) rfl) ?_
  refine EX.cons (EX1.newList (bd.sto (by decide)) (bd.nameOk (by decide)) rfl) ?_
  refine EX.to2 (x := "names") (.of_look rfl) ?_
  refine EX.cons (EX1.forMap (xs := numbers) (f := D.int) (fun i => [("numbers", .val (.list (numbers.map D.int))), ("items", .val (.list (items.map dItem))), ("names", .own2 (((numbers.take i).foldl nstep []).map fun r => r.map dItem))]) (IT.list (EV.var bd (by decide) rfl) hr) (fun i x hx => ⟨_, AT.var bd (by decide), ?_⟩) (fun xx => rfl)) ?_
  · have hsm := drawn_small (numbers.take i) [] 0 (by simp) (by simp)
    have hti : (numbers.take i).length ≤ 1000 := by simp; lia
    have e1 : (numbers.take (i + 1)).foldl nstep [] = nstep ((numbers.take i).foldl nstep []) x := by
      rw [List.take_add_one, hx, List.foldl_append]; rfl
    simp only [e1]
    generalize (numbers.take i).foldl nstep [] = dss at *
    refine EX.cons (EX1.ite (b := opens dss x) (o := .next [("numbers", .val (.list (numbers.map D.int))), ("items", .val (.list (items.map dItem))), ("names", .own2 ((if opens dss x then dss ++ [[]] else dss).map fun r => r.map dItem)), ("x", .val (.int x))]) ?_ (fun hb => ?_) (fun hb => ?_)) ?_
    · refine EB.conv (EB.or (b2 := ((x.fdiv 16).fmod 2 == 1)) (EB.eqNil2 (mem_look rfl) (bd.nameOk (by decide)) hr rfl (by simp; lia)) fun xx => EB.cmp (EV.bin' (EV.bin' (EV.var bd (by decide) rfl) EV.int (Op2.floordiv_int (by decide) (PyProof.noPylong_small (by decide))) hr (by decide)) EV.int (Op2.mod_int (by decide)) hr (by decide)) EV.int Op2.eq_int (hr.less (by decide)) rfl) ?_
      unfold opens; cases dss <;> simp
    · refine EX.cons (EX1.append2 (.of_look rfl) (bd.nameOk (by decide)) ⟨rfl, rfl, by decide, rfl⟩ (by simp; lia) rfl rfl) (EX.nil.conv ?_)
      rw [if_pos hb, map_snoc]; rfl
    · refine EX.nil.conv ?_
      rw [if_neg (by simp [hb])]; rfl
    · obtain ⟨pre, l, ep⟩ := opened_snoc dss x
      have hlen : l.length ≤ 1000 := by
        have hm : l ∈ (if opens dss x then dss ++ [[]] else dss) := by rw [ep]; simp
        split at hm
        · rcases List.mem_append.mp hm with h | h
          · have := hsm.2 l h; lia
          · simp at h; subst h; simp
        · have := hsm.2 l hm; lia
      have hit : items[(x.fmod 16).toNat]? = some (itemAt x) := by
        have h := fmod16 x
        have hlt : (x.fmod 16).toNat < items.length := by rw [items_length]; lia
        unfold itemAt
        rw [List.getD_eq_getElem?_getD, List.getElem?_eq_getElem hlt]; rfl
      unfold nstep
      rw [ep, addLast_snoc, map_snoc, map_snoc]
      refine EX.cons (EX1.appendLast (pre := pre.map fun r => r.map dItem) (l := l.map dItem) (d := dItem (itemAt x)) (.of_look rfl) (bd.nameOk (by decide)) (EV.un EV.int Op1.neg_int (hr.less (by decide))) (EV.sub (EV.var bd (by decide) rfl) (EV.bin' (EV.var bd (by decide) rfl) EV.int (Op2.mod_int (by decide)) hr (by decide)) rfl F.slot_list_getitem.lookup (Op2.sub_list (j := (x.fmod 16).toNat) ?_ ?_ ?_ ?_) (hr.less (by decide))) ⟨rfl, rfl, by decide, rfl⟩ (by simp; lia) rfl rfl) (EX.nil.post ?_)
      · have h := fmod16 x
        have h0 : ¬ x.fmod 16 < 0 := by lia
        have h1 : (decide (0 ≤ x.fmod 16) && decide (x.fmod 16 < ((16 : Nat) : Int))) = true := by simp; lia
        unfold seqIndex?
        rw [List.length_map, items_length]
        simp only [h0, if_false]
        rw [if_pos h1]
      · rw [List.getElem?_map, hit]; rfl
      · exact Int.le_trans (by decide) (fmod16 x).1
      · exact Int.lt_trans (fmod16 x).2 (by decide)
      · have e2 : (pre.map (fun r => r.map dItem) ++ [l.map dItem ++ [dItem (itemAt x)]]) = pre.map (fun r => r.map dItem) ++ [(l ++ [itemAt x]).map dItem] := by simp
        rw [e2]
        exact .cons_cons _ (.cons_cons _ (.cons_cons _ (.cons _ .slnil)))
  · refine EX.freeze (x := "names") (.of_look rfl) (EX.gives (.conv (EV.var bd (by decide) rfl) ?_))
    refine congrArg D.list ?_
    simp [drawn]
end
end Mine
end
section
set_option Elab.async false
set_option tactic.hygienic false
set_option linter.unusedVariables false
namespace Mine
open PySem PySem.W PySem.Calls PyProof.Rows PySem.Builtin PySem.Builtin.Str

noncomputable def pieces (c : Nat) : List Nat → List (List Nat)
  | [] => [[]]
  | x :: r => if x = c then [] :: pieces c r else match pieces c r with | p :: q => (x :: p) :: q | [] => [[x]]
theorem pieces_free {c : Nat} : ∀ {p : List Nat}, c ∉ p → pieces c p = [p] := by
  intro zz
  induction zz with
  | nil => intro _; exact rfl
  | cons x r IH =>
    intro h
    simp only [List.mem_cons, not_or] at h
    unfold pieces
    rw [if_neg (Ne.symm h.1), IH h.2]
theorem pieces_cut {c : Nat} (rest : List Nat) : ∀ {p : List Nat}, c ∉ p → pieces c (p ++ c :: rest) = p :: pieces c rest := by
  intro zz
  induction zz with
  | nil =>
    intro _
    show pieces c (c :: rest) = _
    rw [pieces, if_pos rfl]
  | cons x r IH =>
    intro h
    simp only [List.mem_cons, not_or] at h
    rw [List.cons_append, pieces, if_neg (Ne.symm h.1), IH h.2]
theorem pieces_glue {c : Nat} : ∀ {ps : List (List Nat)}, ps ≠ [] → (∀ p ∈ ps, c ∉ p) → pieces c (glue [c] ps) = ps
  | [], h, _ => absurd rfl h
  | [p], _, h => by rw [show glue [c] [p] = p from rfl, pieces_free (h p (by simp))]
  | p :: q :: r, _, h => by
    have e0 : glue [c] (p :: q :: r) = p ++ [c] ++ glue [c] (q :: r) := rfl
    have e : p ++ [c] ++ glue [c] (q :: r) = p ++ c :: glue [c] (q :: r) := by simp
    rw [e0, e, pieces_cut _ (h p (by simp)), pieces_glue (by simp) fun x hx => h x (.tail _ hx)]
theorem map_S_of (l : List Str) : l = (l.map fun x => x.cps.toList).map S := by
  rw [List.map_map]
  conv => lhs; rw [← List.map_id l]
  exact List.map_congr_left fun x xx => S_cps x
theorem split_pieces (a : List Nat) (c : Nat) : Txt.split (S a) (S [c]) = (pieces c a).map S := by
  have h1 := StrLaws.join_split (S a) (S [c])
  have h2 := StrLaws.split_free (S a) c
  have h3 := split_pos (S a) (S [c])
  generalize Txt.split (S a) (S [c]) = l at h1 h2 h3
  have e := map_S_of l
  rw [e, join_S] at h1
  have h4 := S_inj h1
  rw [← h4, pieces_glue, ← e]
  · intro q; rw [List.map_eq_nil_iff] at q; subst q; simp at h3
  · intro p hp
    obtain ⟨x, hx, rfl⟩ := List.mem_map.mp hp
    exact h2 x hx
theorem strsFrom_rep {Z : Mp} : ∀ (l : List Str) (tk : Nat), RepL Z (strsFrom tk l) (l.map D.str) := by
  intro zz
  induction zz with
  | nil => intro _; exact .nil
  | cons x r IH => intro tk; exact .cons (.str _ _) (IH (tk + 1))
section
variable {g : Gx}
theorem Fn.split {a : List Nat} {c : Nat} (h : a.length ≤ 100000) : Fn g 0 (.builtin "str.split") [.str (S a), .str (S [c])] (.list ((pieces c a).map fun p => .str (S p))) := fun A s X vs hr ok hv E => by
  obtain ⟨v, w, rfl, r1, r2⟩ := hv.two'
  obtain ⟨t, rfl⟩ := r1.of_str
  obtain ⟨u, rfl⟩ := r2.of_str
  have hsp := split_pieces a c
  have hres : ((pieces c a).map fun p => D.str (S p)) = (Txt.split (S a) (S [c])).map D.str := by rw [hsp, List.map_map]; rfl
  rw [hres]
  have hself : Txt.split (S a) (S [c]) = [S a] → ∀ m, Meets («str.split» ⟨[.str (S a) t, .str (S [c]) u], []⟩) (listOfItself (S a) t) → m = s → wpAny (model g.prog g.w) A (call (.builtin "str.split") [.str (S a) t, .str (S [c]) u]) (fun v s' => Keeps s s' ∧ Rep (Zof s'.heap X) v (.list ((Txt.split (S a) (S [c])).map D.str))) E s := fun e m hm xx => by
    refine call_meets F.slot_str_split (typeIs_str _ _ _) F.entry_str_split (F.args_str_split_2 _ _) hm ?_
    refine ⟨keeps_push s { cls := .type "list", data := .seq [Value.str (S a) t].toArray }, ?_⟩
    rw [e]
    exact .list (n := 0) (vs := [.str (S a) t]) (Zof.of (Heap.get?_push_size _ rfl) ok.fresh) (.cons (.str _ _) .nil)
  by_cases h1 : (decide ((S a).length < (S [c]).length) || decide (strKind (S a) < strKind (S [c]))) = true
  · exact hself (by unfold Txt.split; rw [if_pos h1]) s (meets_str_split_cannot_occur _ _ t u h1) rfl
  · by_cases h2 : (occurrences (S a) (S [c]) 0 (S a).length ((S a).length + 1)).isEmpty = true
    · exact hself (by unfold Txt.split; rw [if_neg h1, if_pos h2]) s (meets_str_split_not_found _ _ t u (by simpa using h1) (by simp [Str.length]) h2) rfl
    · have e : Txt.split (S a) (S [c]) = partsBetween (S a) (occurrences (S a) (S [c]) 0 (S a).length ((S a).length + 1)) (S [c]).length := by unfold Txt.split; rw [if_neg h1, if_neg h2]
      have hle := split_le (S a) (S [c])
      rw [S_length] at hle
      refine call_meets F.slot_str_split (typeIs_str _ _ _) F.entry_str_split (F.args_str_split_2 _ _) (meets_str_split_sep (S a) (S [c]) t u (by simpa using h1) (by simp [Str.length]) (by simpa using h2) (by rw [S_length]; show _ ≤ 16777216; lia) (by rw [← e]; show _ ≤ 16777216; lia)) ?_
      rw [← e]
      refine ⟨⟨_, _, _, rfl, fun b o eb => Heap.get?_push_of_some _ eb, Nat.le_add_right _ _, id⟩, ?_⟩
      exact .list (n := 0) (vs := strsFrom s.toks (Txt.split (S a) (S [c]))) (Zof.of (Heap.get?_push_size _ rfl) ok.fresh) (strsFrom_rep _ _)
end
end Mine
end
section
set_option Elab.async false
set_option tactic.hygienic false
set_option linter.unusedVariables false
namespace Mine
open PySem PySem.W PySem.Calls PyProof.Rows PySem.Builtin PySem.Builtin.Str

theorem at_one {a : List Nat} {c n i : Nat} (hn : n = a.length) : StrLaws.At (S a) (S [c]) n i ↔ a[i]? = some c := by
  subst hn
  have := StrLaws.subAt_one (S a) c i
  rw [show (S a).length = a.length from S_length a] at this
  exact this
section
variable {g : Gx}
theorem Fn.starts {a : List Nat} {c : Nat} : Fn g 0 (.builtin "str.startswith") [.str (S a), .str (S [c])] (.bool (a.head? == some c)) := fun A s X vs hr ok hv E => by
  obtain ⟨v, w, rfl, r1, r2⟩ := hv.two'
  obtain ⟨t, rfl⟩ := r1.of_str
  obtain ⟨u, rfl⟩ := r2.of_str
  refine SC.startswith ⟨keeps_refl s, ?_⟩
  have e : Txt.startswith (S a) (S [c]) = (a.head? == some c) := by
    have h := StrLaws.subAt_one (S a) c 0
    have h2 : (S a).cps.toList[0]? = a.head? := by cases a <;> rfl
    rw [h2] at h
    rw [Bool.eq_iff_iff, beq_iff_eq, ← h]
    simp [Txt.startswith]
  rw [e]; exact .bool _
theorem Fn.ends {a : List Nat} {c : Nat} : Fn g 0 (.builtin "str.endswith") [.str (S a), .str (S [c])] (.bool (a.getLast? == some c)) := fun A s X vs hr ok hv E => by
  obtain ⟨v, w, rfl, r1, r2⟩ := hv.two'
  obtain ⟨t, rfl⟩ := r1.of_str
  obtain ⟨u, rfl⟩ := r2.of_str
  refine SC.endswith ⟨keeps_refl s, ?_⟩
  have e : Txt.endswith (S a) (S [c]) = (a.getLast? == some c) := by
    have h := StrLaws.subAt_one (S a) c (a.length - 1)
    rw [Bool.eq_iff_iff, beq_iff_eq, List.getLast?_eq_getElem?]
    have h2 : (S a).cps.toList[a.length - 1]? = a[a.length - 1]? := rfl
    rw [h2] at h
    rw [← h]
    simp only [Txt.endswith, S_length, Bool.and_eq_true, decide_eq_true_eq, List.length_cons, List.length_nil]
    constructor
    · rintro ⟨h1, h2⟩; exact ⟨by lia, h2⟩
    · rintro ⟨h1, h2⟩
      refine ⟨?_, h2⟩
      cases a with
      | nil => simp [subAt] at h2
      | cons x r => simp
  rw [e]; exact .bool _
theorem Fn.rfind {p q : List Nat} {c : Nat} (hq : c ∉ q) : Fn g 0 (.builtin "str.rfind") [.str (S (p ++ c :: q)), .str (S [c])] (.int p.length) := fun A s X vs hr ok hv E => by
  obtain ⟨v, w, rfl, r1, r2⟩ := hv.two'
  obtain ⟨t, rfl⟩ := r1.of_str
  obtain ⟨u, rfl⟩ := r2.of_str
  refine SC.rfind ⟨keeps_next s, ?_⟩
  have hat : (p ++ c :: q)[p.length]? = some c := by simp
  have e : Txt.rfind (S (p ++ c :: q)) (S [c]) = p.length := by
    unfold Txt.rfind
    rcases StrLaws.last_spec (S (p ++ c :: q)) (S [c]) with ⟨h, hn⟩ | ⟨i, h, hi, hn⟩
    · exact absurd ((at_one (S_length _)).mpr hat) (hn _)
    · rw [h]
      have hi' := (at_one (S_length _)).mp hi
      rcases Nat.lt_trichotomy i p.length with hlt | heq | hgt
      · exact absurd ((at_one (S_length _)).mpr hat) (hn _ hlt)
      · rw [heq]
      · exfalso
        rw [List.getElem?_append_right (by lia)] at hi'
        obtain ⟨j, hj⟩ : ∃ j, i - p.length = j + 1 := ⟨i - p.length - 1, by lia⟩
        rw [hj, List.getElem?_cons_succ] at hi'
        exact hq (List.mem_of_getElem? hi')
  rw [e]; exact .int _ _
theorem Fn.rstrip {p : List Nat} {c : Nat} (hp : p.getLast? ≠ some c) (hl : p.length ≤ 100000) : Fn g 0 (.builtin "str.rstrip") [.str (S (p ++ [c])), .str (S [c])] (.str (S p)) := fun A s X vs hr ok hv E => by
  obtain ⟨v, w, rfl, r1, r2⟩ := hv.two'
  obtain ⟨t, rfl⟩ := r1.of_str
  obtain ⟨u, rfl⟩ := r2.of_str
  have hlo : stripLo (S [c]).cps.contains false (S (p ++ [c])) = 0 := rfl
  have hhi : stripHi (S [c]).cps.contains true (S (p ++ [c])) 0 = p.length := by
    have e1 : ((S (p ++ [c])).cps.toList.drop 0).reverse = c :: p.reverse := by simp
    have e2 : (p.reverse.takeWhile (S [c]).cps.contains) = [] := by
      cases h : p.reverse with
      | nil => rfl
      | cons d r =>
        have hd : p.getLast? = some d := by rw [List.getLast?_eq_head?_reverse, h]; rfl
        have hdc : d ≠ c := fun q => hp (by rw [hd, q])
        rw [List.takeWhile_cons_of_neg]
        simpa using hdc
    unfold stripHi
    rw [if_pos rfl, e1, List.takeWhile_cons_of_pos (by simp), e2, S_length]
    simp
  refine call_gives F.slot_str_rstrip (typeIs_str _ _ _) F.entry_str_rstrip (F.args_str_rstrip_2 _ _) (gives_str_rstrip_chars _ _ t u) ?_
  have hs : stripSame (S [c]).cps.contains false true (S (p ++ [c])) = false := by
    unfold stripSame; rw [hlo, hhi, S_length]; simp
  have he : PySem.stripped (S [c]).cps.contains false true (S (p ++ [c])) = S p := by
    unfold PySem.stripped; rw [hlo, hhi]
    apply Str.ext'
    simp [strSub]
  rw [if_neg (by simp [hs]), he]
  exact ⟨by rw [S_length]; show _ ≤ 16777216; lia, keeps_next s, .str _ _⟩
end
end Mine
end
section
set_option Elab.async false
set_option tactic.hygienic false
set_option linter.unusedVariables false
namespace Mine
open PySem PySem.W PySem.Calls PyProof.Rows PySem.SeqAt

structure EqKind {α : Type} [DecidableEq α] (A : Around) (s : Shared) (Z : Mp) (f : α → D) : Prop where
  eq : ∀ v w x y, Rep Z v (f x) → Rep Z w (f y) → EqAt A s v w (decide (x = y))
  fn : ∀ v x y, Rep Z v (f x) → Rep Z v (f y) → x = y
section
variable {A : Around} {s : Shared} {Z : Mp}
theorem EqKind.str : EqKind A s Z fun a : List Nat => D.str (S a) where
  eq := fun v w x y r1 r2 => by
    obtain ⟨t, rfl⟩ := r1.of_str; obtain ⟨u, rfl⟩ := r2.of_str
    have e : decide (x = y) = (S x == S y) := by
      rw [Bool.eq_iff_iff, decide_eq_true_eq, beq_iff_eq]
      exact ⟨fun h => by rw [h], S_inj⟩
    rw [e]; exact EqAt.str_str _ _ _ _
  fn := fun v x y r1 r2 => by
    obtain ⟨t, rfl⟩ := r1.of_str; obtain ⟨u, e⟩ := r2.of_str
    cases e; exact S_inj rfl
theorem EqKind.int : EqKind A s Z D.int where
  eq := fun v w x y r1 r2 => by
    obtain ⟨t, rfl⟩ := r1.of_int; obtain ⟨u, rfl⟩ := r2.of_int
    have e : decide (x = y) = (x == y) := by rw [Bool.eq_iff_iff, decide_eq_true_eq, beq_iff_eq]
    rw [e]; exact EqAt.int_int _ _ _ _
  fn := fun v x y r1 r2 => by
    obtain ⟨t, rfl⟩ := r1.of_int; obtain ⟨u, e⟩ := r2.of_int
    cases e; rfl
theorem EqKind.bool : EqKind A s Z D.bool where
  eq := fun v w x y r1 r2 => by
    rw [r1.of_bool, r2.of_bool]
    have e : decide (x = y) = (x == y) := by rw [Bool.eq_iff_iff, decide_eq_true_eq, beq_iff_eq]
    rw [e]; exact EqAt.bool_bool _ _
  fn := fun v x y r1 r2 => by
    have e1 := r1.of_bool; have e2 := r2.of_bool
    rw [e1] at e2; cases e2; rfl
variable {α : Type} [DecidableEq α] {f : α → D}
theorem RepL.fn {Z : Mp} {f : α → D} (hf : ∀ v x y, Rep Z v (f x) → Rep Z v (f y) → x = y) : ∀ {vs : List Value} {xs ys : List α}, RepL Z vs (xs.map f) → RepL Z vs (ys.map f) → xs = ys := by
  intro vs
  induction vs with
  | nil =>
    intro xs ys h1 h2
    cases xs with
    | cons => cases h1
    | nil =>
      cases ys with
      | nil => rfl
      | cons => cases h2
  | cons v vs ih =>
    intro xs ys h1 h2
    cases xs with
    | nil => cases h1
    | cons x xs =>
      cases ys with
      | nil => cases h2
      | cons y ys =>
        obtain ⟨_, _, e, r1, q1⟩ := h1.uncons
        cases e
        obtain ⟨_, _, e, r2, q2⟩ := h2.uncons
        cases e
        rw [hf v x y r1 r2, ih q1 q2]
theorem all_eq (xs ys : List α) (h : xs.length = ys.length) : ((List.range xs.length).all fun j => decide (xs[j]? = ys[j]?)) = decide (xs = ys) := by
  rw [Bool.eq_iff_iff, decide_eq_true_eq, List.all_eq_true]
  constructor
  · intro q
    apply List.ext_getElem? 
    intro j
    by_cases hj : j < xs.length
    · exact of_decide_eq_true (q j (List.mem_range.mpr hj))
    · rw [List.getElem?_eq_none (by lia), List.getElem?_eq_none (by lia)]
  · intro q j _; subst q; simp
theorem eq_items {us ws : List Value} {xs ys : List α} (K : EqKind A.in1 s Z f) (h1 : RepL Z us (xs.map f)) (h2 : RepL Z ws (ys.map f)) : ∀ j (g1 : j < us.toArray.size) (g2 : j < ws.toArray.size), EqAt A.in1 s us.toArray[j] ws.toArray[j] (decide (xs[j]? = ys[j]?)) := fun j g1 g2 => by
  have l1 := h1.length; have l2 := h2.length
  simp only [List.length_map] at l1 l2
  simp only [List.size_toArray] at g1 g2
  have e1 : us[j]? = some us[j] := List.getElem?_eq_getElem g1
  have e2 : ws[j]? = some ws[j] := List.getElem?_eq_getElem g2
  refine cps fun PP kk => ?_
  obtain ⟨d1, hd1, r1⟩ := h1.get' e1
  obtain ⟨d2, hd2, r2⟩ := h2.get' e2
  rw [List.getElem?_map, Option.map_eq_some_iff] at hd1 hd2
  obtain ⟨x, hx, rfl⟩ := hd1
  obtain ⟨y, hy, rfl⟩ := hd2
  refine kk ?_
  clear kk PP
  have e : decide (xs[j]? = ys[j]?) = decide (x = y) := by rw [hx, hy]; simp
  rw [e]
  simpa using K.eq _ _ x y r1 r2
theorem rc_list {a b : Addr} {us ws : List Value} {n m : Nat} {xs ys : List α} (ha : s.heap.get? a = some (lst us n)) (hb : s.heap.get? b = some (lst ws m)) (K : EqKind A.in1 s Z f) (h1 : RepL Z us (xs.map f)) (h2 : RepL Z ws (ys.map f)) (hu : A.units < cLine) : RcAt A s (.ref a) (.ref b) (decide (xs = ys)) := by
  have l1 := h1.length; have l2 := h2.length
  simp only [List.length_map] at l1 l2
  by_cases hl : xs.length = ys.length
  · rw [← all_eq xs ys hl, ← l1]
    exact RcAt.lists (items := us.toArray) (items2 := ws.toArray) ⟨_, ha, rfl, n, rfl⟩ ⟨_, hb, rfl, m, rfl⟩ (by simp; lia) hu (eq_items K h1 h2)
  · have e : decide (xs = ys) = false := decide_eq_false fun q => hl (by rw [q])
    rw [e]
    exact RcAt.lists_lengths (items := us.toArray) (items2 := ws.toArray) ⟨_, ha, rfl, n, rfl⟩ ⟨_, hb, rfl, m, rfl⟩ (by simp; lia) hu
theorem EqKind.list (K : EqKind A.in1 s Z f) (hz : ∀ a o, Z a = some o → s.heap.get? a = some o) (hu : A.units < cLine) : EqKind A s Z fun l : List α => D.list (l.map f) where
  eq := fun v w x y r1 r2 => by
    refine cps fun PP kk => ?_
    obtain ⟨a, us, n, rfl, e1, h1⟩ := r1.of_list
    obtain ⟨b, ws, m, rfl, e2, h2⟩ := r2.of_list
    refine kk ?_
    clear kk PP
    by_cases hab : a = b
    · subst hab
      rw [e1] at e2; cases e2
      have := RepL.fn K.fn h1 h2
      rw [decide_eq_true this]; exact EqAt.same _
    · exact EqAt.of_refs hab (rc_list (hz _ _ e1) (hz _ _ e2) K h1 h2 hu)
  fn := fun v x y r1 r2 => by
    refine cps fun PP kk => ?_
    obtain ⟨a, us, n, rfl, e1, h1⟩ := r1.of_list
    obtain ⟨b, ws, m, e0, e2, h2⟩ := r2.of_list
    refine kk ?_
    clear kk PP
    cases e0
    rw [e1] at e2; cases e2
    exact RepL.fn K.fn h1 h2
end
section
variable {g : Gx} {α : Type} [DecidableEq α] {f : α → D}
theorem rcne_list {A : Around} {s : Shared} {Z : Mp} {a b : Addr} {us ws : List Value} {n m : Nat} {xs ys : List α} (ha : s.heap.get? a = some (lst us n)) (hb : s.heap.get? b = some (lst ws m)) (K : EqKind A.in1 s Z f) (h1 : RepL Z us (xs.map f)) (h2 : RepL Z ws (ys.map f)) (hu : A.units < cLine) : RcNeAt A s (.ref a) (.ref b) (!decide (xs = ys)) := by
  have l1 := h1.length; have l2 := h2.length
  simp only [List.length_map] at l1 l2
  by_cases hl : xs.length = ys.length
  · rw [← all_eq xs ys hl, ← l1]
    exact RcNeAt.lists (items := us.toArray) (items2 := ws.toArray) ⟨_, ha, rfl, n, rfl⟩ ⟨_, hb, rfl, m, rfl⟩ (by simp; lia) hu (eq_items K h1 h2)
  · have e : decide (xs = ys) = false := decide_eq_false fun q => hl (by rw [q])
    rw [e]
    exact RcNeAt.lists_lengths (items := us.toArray) (items2 := ws.toArray) ⟨_, ha, rfl, n, rfl⟩ ⟨_, hb, rfl, m, rfl⟩ (by simp; lia) hu
theorem Op2.ne_list {xs ys : List α} (K : ∀ A s Z, (∀ a o, Z a = some o → s.heap.get? a = some o) → A.units + 10 < cLine → EqKind A s Z f) : Op2 g 1 (compareOp .NotEq) (.list (xs.map f)) (.list (ys.map f)) (.bool (!decide (xs = ys))) := fun A s X v w hr ok ra rb E => by
  refine cps fun PP kk => ?_
  obtain ⟨a, us, n, rfl, e1, h1⟩ := ra.of_list
  obtain ⟨b, ws, m, rfl, e2, h2⟩ := rb.of_list
  refine kk ?_
  clear kk PP
  have hu := hr.units
  exact rcne_list (Zof.get e1).1 (Zof.get e2).1 (K A.in1 s _ (fun xx xx e => (Zof.get e).1) (by show A.units + 1 + 10 < _; lia)) h1 h2 (by lia) g.prog g.w E _ ⟨keeps_refl s, .bool _⟩
theorem Op2.ne_bool {a b : Bool} : Op2 g 0 (compareOp .NotEq) (.bool a) (.bool b) (.bool (!(a == b))) := fun A s X v w hr ok ra rb E => by
  rw [ra.of_bool, rb.of_bool]
  exact RcNeAt.bool_bool a b g.prog g.w E _ ⟨keeps_refl s, .bool _⟩
end
end Mine
end
section
set_option Elab.async false
set_option tactic.hygienic false
namespace Mine
open PySem PySem.W PySem.Calls PyProof.Rows PySem.SeqAt
set_option maxHeartbeats 1000000
set_option linter.unusedVariables false
theorem nested_str {prog : Program} {w : World} {A : Around} {E : Value → Shared → Prop} {s : Shared} {k : Value} {dep : Int} {tk : Tok} {Q : Fin → Shared → Prop} (hk : k = .int dep tk) (hq : Q (.done (.ret (.bool true))) s) :
    wpAny (model prog w) A (Builtin.«issubclass.nested» ⟨[.type "str", .type "str", k], []⟩) Q E s := by
  subst hk
  have hm : typeOf (.type "str") = pure (.type "type") := by first | rfl | kernel_rfl | decide
  have hself : isSubtype (.type "str") (.type "str") = pure true := by rw [isSubtype_type]; kernel_rfl
  repeat (any_goals (first | assumption | (rw [if_pos hm]) | (rw [hself]) | wp_step))
theorem nested_tup {prog : Program} {w : World} {A : Around} {E : Value → Shared → Prop} {s : Shared} {a : Addr} {n : Nat} {Q : Fin → Shared → Prop} (ht : s.heap.get? a = some (tup [.type "str", .type "bytes"] n)) (hq : Q (.done (.ret (.bool true))) s) :
    wpAny (model prog w) A (Builtin.«issubclass.nested» ⟨[.type "str", .ref a, rawInt 0], []⟩) Q E s := by
  have hT : s.TypeIs (.ref a) "tuple" := ⟨_, ht, rfl⟩
  have hc : ∀ (R : Result → Shared → Prop) (A : Around), R (.ok (.ret (.bool true))) s → codeAny (model prog w) A (.call (.builtin "issubclass.nested") ⟨[.type "str", .type "str", rawInt (0 + 1)], []⟩) R s := by
    intro R A h
    refine codeAny_call_builtin (by decide +kernel) F.entry_issubclass_nested ?_
    have e : checkBuiltinCall "issubclass.nested" ⟨[.type "str", .type "str", rawInt (0 + 1)], []⟩ = pure () := by kernel_rfl
    rw [e]
    exact wpAny_pure (nested_str (k := rawInt (0 + 1)) rfl h)
  have hsubT : isSubtype (.type "tuple") (.type "tuple") = pure true := by rw [isSubtype_type]; kernel_rfl
  repeat (any_goals (first | assumption | wp_step))
  refine hc _ _ ?_
  repeat (any_goals (first | assumption | wp_step))
section
variable {g : Gx}
theorem Fn.issub : Fn g 0 (.builtin "issubclass") [.raw (.type "str"), .tuple [.raw (.type "str"), .raw (.type "bytes")]] (.bool true) := fun A s X vs hr ok hv E => by
  obtain ⟨v, w, rfl, r1, r2⟩ := hv.two'
  have e1 := r1.of_raw
  subst e1
  obtain ⟨a, us, n, rfl, hz, hu⟩ := r2.of_tuple
  obtain ⟨v1, v2, rfl, q1, q2⟩ := hu.two'
  have e1 := q1.of_raw
  have e2 := q2.of_raw
  subst e1 e2
  have m : Meets (Builtin.«issubclass» ⟨[.type "str", .ref a], []⟩) (fun xx R s => s.heap.get? a = some (tup [.type "str", .type "bytes"] n) ∧ R (.ok (.ret (.bool true))) s) := fun xx xx xx xx xx hs => issubclass_outer (nested_tup hs.1 hs.2)
  exact call_issubclass m ⟨(Zof.get hz).1, keeps_refl s, .bool _⟩
theorem Fn.type_str {x : Str} : Fn g 0 (.type "type") [.str x] (.raw (.type "str")) := fun A s X vs hr ok hv E => by
  obtain ⟨v, rfl, r⟩ := hv.one'
  obtain ⟨t, rfl⟩ := r.of_str
  exact call_type_of (typeIs_str _ _ _) (by decide) ⟨keeps_refl s, .raw _⟩
end
end Mine
end
section
set_option Elab.async false
set_option tactic.hygienic false
set_option linter.unusedVariables false
set_option maxRecDepth 100000
namespace Mine
open PySem PySem.W PySem.Calls PyProof.Rows PySem.SeqAt
set_option maxHeartbeats 400000
theorem slot_wd_get : PySem.Slot "wrapper_descriptor" "__get__" "wrapper_descriptor.__get__" :=
  .of (owner := "wrapper_descriptor") (n := "__get__") (by rw [typeLookup_type, builtinLookup_eq_fast]; kernel_rfl) (by decide +kernel) (by decide +kernel) (by decide +kernel)
    (by first | exact .inl (by decide +kernel) | exact .inr (by decide +kernel)) (by rw [isSubtype_type]; kernel_rfl)
theorem entry_wd_get : entryFor table "wrapper_descriptor.__get__" = some Builtin.«wrapper_descriptor.__get__» := entryFor_of_tree (by kernel_rfl)
theorem args_wd_get (a b c : Value) : argsOk "wrapper_descriptor.__get__" ⟨[a, b, c], []⟩ := by unfold argsOk; kernel_rfl
theorem typeOf_getitem : typeOf (.builtin "str.__getitem__") = pure (.type "wrapper_descriptor") := by show builtinType _ = _; rw [builtinType_eq_fast]; kernel_rfl
theorem owner_getitem : (".".intercalate ("str.__getitem__".cutAt '.').dropLast) = "str" := by
  have e0 : "str.__getitem__".cutAt '.' = ["str", "__getitem__"] := by first | rfl | decide +kernel
  rw [e0]; decide +kernel
theorem sub_owner : isSubtype (.type "str") (.type (".".intercalate ("str.__getitem__".cutAt '.').dropLast)) = pure true := by rw [owner_getitem, isSubtype_type]; kernel_rfl
section
variable {prog : Program} {w : World} {A : Around} {E : Value → Shared → Prop} {h : Heap} {g : Array GenState} {d : Drawn} {t : Nat} {os : OsState} {x : Str} {u : Tok}
theorem wd_get_str {R : Result → Shared → Prop} (hq : ∀ a s', Keeps ⟨h, g, d, t, os⟩ s' → R (.ok (.ret (.ref a))) s') :
    codeAny (model prog w) A (.call (.builtin "wrapper_descriptor.__get__") ⟨[.builtin "str.__getitem__", .str x u, .type "str"], []⟩) R ⟨h, g, d, t, os⟩ := by
  have hT : (⟨h, g, d, t, os⟩ : Shared).TypeIs (.str x u) "str" := rfl
  have hT5 : (⟨h, g, d, t, os⟩ : Shared).TypeIs (.builtin "str.__getitem__") "wrapper_descriptor" := typeOf_getitem
  refine codeAny_call_builtin slot_wd_get.plain entry_wd_get (slot_wd_get.check _ _ _ _ _ _ _ _ hT5 (args_wd_get _ _ _) ?_)
  have f8 := sub_owner
  repeat (any_goals (first | assumption | wp_step))
  all_goals exact hq _ _ (keeps_push _ _)
theorem has_entry_str {tk : Tok} {Q : Fin → Shared → Prop} (hq : ∀ a s', Keeps ⟨h, g, d, t, os⟩ s' → Q (.done (.ret (.ref a))) s') :
    wpAny (model prog w) A (Builtin.«object.__getattribute__» ⟨[.str x u, .str "__getitem__" tk], []⟩) Q E ⟨h, g, d, t, os⟩ := by
  have hT : (⟨h, g, d, t, os⟩ : Shared).TypeIs (.str x u) "str" := rfl
  have hT5 : (⟨h, g, d, t, os⟩ : Shared).TypeIs (.builtin "str.__getitem__") "wrapper_descriptor" := typeOf_getitem
  have f4 := F.slot_str_getitem.lookup
  have f5 := typeOf_getitem
  have f6 := slot_wd_get.lookup
  have f7 : typeLookup (.type "wrapper_descriptor") "__set__" = pure none := by rw [typeLookup_type, builtinLookup_eq_fast]; kernel_rfl
  have f9 : typeLookup (.type "wrapper_descriptor") "__delete__" = pure none := by rw [typeLookup_type, builtinLookup_eq_fast]; kernel_rfl
  repeat (any_goals (first | assumption | wp_step))
  exact wd_get_str fun a s' k => wpAny_pure (hq a s' k)
theorem has_call_str {tk : Tok} {R : Result → Shared → Prop} (hq : ∀ a s', Keeps ⟨h, g, d, t, os⟩ s' → R (.ok (.ret (.ref a))) s') :
    codeAny (model prog w) A (.call (.builtin "object.__getattribute__") ⟨[.str x u, .str "__getitem__" tk], []⟩) R ⟨h, g, d, t, os⟩ :=
  codeAny_call_builtin F.slot_str_getattribute.plain F.entry_object_getattribute (F.slot_str_getattribute.check _ _ _ _ _ _ _ _ (show (⟨h, g, d, t, os⟩ : Shared).TypeIs (.str x u) "str" from rfl) (F.args_object_getattribute_2 _ _) (has_entry_str fun a s' k => hq a s' k))
end
end Mine
end
section
set_option Elab.async false
set_option tactic.hygienic false
set_option linter.unusedVariables false
set_option maxRecDepth 100000
namespace Mine
open PySem PySem.W PySem.Calls PyProof.Rows PySem.SeqAt
set_option maxHeartbeats 1000000
section
variable {prog : Program} {w : World} {A : Around} {E : Value → Shared → Prop} {h : Heap} {g : Array GenState} {d : Drawn} {t : Nat} {os : OsState} {x : Str} {u : Tok}
theorem hasattr_str {tk : Tok} {Q : Fin → Shared → Prop} (hq : ∀ s', Keeps ⟨h, g, d, t, os⟩ s' → Q (.done (.ret (.bool true))) s') : wpAny (model prog w) A (Builtin.«hasattr» ⟨[.str x u, .str "__getitem__" tk], []⟩) Q E ⟨h, g, d, t, os⟩ := by
  have h1 := F.slot_str_getitem.lookup
  have h2 := F.slot_str_getattribute.lookup
  have h3 : (withoutEnding? "str.__getitem__" "#data").isSome = false := by decide +kernel
  have hT : (⟨h, g, d, t, os⟩ : Shared).TypeIs (.str x u) "str" := rfl
  have f3 := F.slot_str_getattribute.bind (.str x u)
  repeat (any_goals (first | assumption | rw [h1] | wp_step))
  refine has_call_str fun a s' k => ?_
  repeat (any_goals (first | assumption | wp_step))
  all_goals exact hq _ k
end
theorem entry_hasattr : entryFor table "hasattr" = some Builtin.«hasattr» := entryFor_of_tree (by kernel_rfl)
theorem Fn.hasattr {g : Gx} {x : Str} : Fn g 0 (.builtin "hasattr") [.str x, .str (Str.ofString "__getitem__")] (.bool true) := fun A s X vs hr ok hv E => by
  obtain ⟨v, w, rfl, r1, r2⟩ := hv.two'
  obtain ⟨t, rfl⟩ := r1.of_str
  obtain ⟨u, rfl⟩ := r2.of_str
  obtain ⟨hp, gn, d, tk, os⟩ := s
  have m : Meets (Builtin.«hasattr» ⟨[.str x t, .str "__getitem__" u], []⟩) (fun xx R s => ∀ s', Keeps s s' → R (.ok (.ret (.bool true))) s') := fun xx xx xx xx s hs => by
    obtain ⟨hp, gn, d, tk, os⟩ := s
    exact hasattr_str fun s' k => hs s' k
  exact call_function_meets (by decide +kernel) (by decide +kernel) entry_hasattr (by unfold argsOk; kernel_rfl) m fun s' k => ⟨k, .bool _⟩
theorem Fn.isbytes {g : Gx} {x : Str} : Fn g 0 (.builtin "isinstance") [.str x, .raw (.type "bytes")] (.bool false) := fun A s X vs hr ok hv E => by
  obtain ⟨v, w, rfl, r1, r2⟩ := hv.two'
  obtain ⟨t, rfl⟩ := r1.of_str
  have e := r2.of_raw
  subst e
  exact call_isinstance (isinstance_false_str (by decide +kernel) (by show typeOf _ = _; kernel_rfl) (by rw [isSubtype_type]; kernel_rfl)) ⟨keeps_next s, .bool _⟩
end Mine
end
section
open PySem PySem.W PyProof.Rows
set_option Elab.async false
set_option tactic.hygienic false
set_option maxRecDepth 100000
set_option maxHeartbeats 400000
set_option linter.unusedVariables false
namespace Mine
section
variable {g : Gx} {P : Params}
theorem f_concat (X : Kx (Mine.hd.heap_1 P) g) {a b : List Nat} (h : a.length + b.length ≤ sizeLine) : Fn g 1 (.ref 104) [dS a, dS b] (dS (a ++ b)) := by
  refine Fn.of (k := 0) (xs := ["a", "b"]) X rfl rfl (bind2 fun xx xx => rfl) (by decide) (by decide) (by decide) (fun A L hr bd => ?_)
  refine EX.cons (EX1.ite (b := false) ?_ (fun q => by cases q) (fun xx => EX.nil)) (EX.gives (EV.bin' (EV.var bd (by decide) rfl) (EV.var bd (by decide) rfl) (Op2.add_str h) hr (by decide)))
  refine EB.not (b := true) (EB.val (EV.callB bd X (by decide) rfl rfl (by decide) (.inl ⟨_, rfl⟩) (.two (EV.var bd (by decide) rfl) EV.str rfl) Fn.hasattr hr (by decide) rfl) tru_bool hr rfl)
theorem f_getsep (X : Kx (Mine.hd.heap_1 P) g) {a : List Nat} : Fn g 1 (.ref 205) [dS a] (dS [47]) := by
  refine Fn.of (k := 0) (xs := ["path"]) X rfl rfl (bind1 fun xx => rfl) (by decide) (by decide) (by decide) (fun A L hr bd => ?_)
  refine EX.ends (EX1.ite (b := false) ?_ (fun q => by cases q) (fun xx => EX.gives (strS rfl)))
  exact EB.val (EV.callB bd X (by decide) rfl rfl (by decide) (.inl ⟨_, rfl⟩) (.two (EV.var bd (by decide) rfl) (EV.built X (bd.outer (by decide)) rfl rfl (by decide)) rfl) Fn.isbytes hr (by decide) rfl) tru_bool hr rfl
theorem f_fspath (X : Kx (Mine.hd.heap_1 P) g) {a : List Nat} : Fn g 1 (.ref 191) [dS a] (dS a) := by
  refine Fn.of (k := 0) (xs := ["path"]) X rfl rfl (bind1 fun xx => rfl) (by decide) (by decide) (by decide) (fun A L hr bd => ?_)
  refine EX.cons (EX1.set (EV.callB bd X (by decide) rfl rfl (by decide) (.inr ⟨_, rfl⟩) (.one (EV.var bd (by decide) rfl) rfl) Fn.type_str hr (by decide) rfl) (bd.sto (by decide)) rfl) ?_
  refine EX.ends (EX1.ite (b := true) ?_ (fun xx => EX.gives (EV.var bd (by decide) rfl)) (fun q => by cases q))
  exact EB.val (EV.callB bd X (by decide) rfl rfl (by decide) (.inl ⟨_, rfl⟩) (.two (EV.var bd (by decide) rfl) (EV.tuple (.two (EV.built X (bd.outer (by decide)) rfl rfl (by decide)) (EV.built X (bd.outer (by decide)) rfl rfl (by decide)) rfl) (by unfold sizeLine; simp)) rfl) Fn.issub hr (by decide) rfl) tru_bool hr rfl
end
end Mine
end
section
set_option Elab.async false
set_option tactic.hygienic false
set_option linter.unusedVariables false
namespace Mine
open PySem PySem.W PySem.Calls PyProof.Rows

section
variable {c : Cx} {ρ ρ' : Rho}
theorem EX1.assignT {elts : List Expr} {k : Nat} {tpos pos : Pos} {e : Expr} {d : D} (h : EV c ρ e d) (ht : AT c ρ (.Tuple elts k tpos) d ρ') (hs : swapsWithSole [.Tuple elts k tpos] e pos.line c.env = pure false) (hw : swappedStores [.Tuple elts k tpos] e c.env = pure none) :
    EX1 c ρ (.Assign [.Tuple elts k tpos] e pos) (.next ρ') := fun sg B Y T s E y =>
  Assign_Tuple (y.ev h fun v s₁ q => wpAny_mono (ht sg B Y T s₁ v E q) (fun xx s₂ q => ⟨rfl, q⟩) fun xx xx e => e) hs hw
theorem EX1.assignSwap {elts : List Expr} {k j : Nat} {tpos pos : Pos} {x y : Str} {e : Expr} {d1 d2 : D} (h : EV c ρ e (.tuple [d1, d2])) (hx : Sto c x) (hy : Sto c y) (hk : Rm c.A j) (hs : swapsWithSole [.Tuple elts k tpos] e pos.line c.env = pure false) (hw : swappedStores [.Tuple elts k tpos] e c.env = pure (some [x, y])) :
    EX1 c ρ (.Assign [.Tuple elts k tpos] e pos) (.next (upd x (.val d1) (upd y (.val d2) ρ))) := fun sg B Y T s E z => by
  refine Assign_Tuple_swapped (z.ev h fun v s₁ q => ?_) hs hw
  refine cps fun PP kk => ?_
  obtain ⟨fs, m, cm, q⟩ := q
  obtain ⟨a, vs, n, rfl, hz, hr⟩ := (q.temps (v, .tuple [d1, d2]) (by simp)).of_tuple
  obtain ⟨v1, v2, rfl, r1, r2⟩ := hr.two'
  refine kk ?_
  clear kk PP
  have ha := (Zof.get hz).1
  refine wpAny_unpackItems_tuple (items := #[v1, v2]) hk.handled ⟨_, ha, rfl, n, rfl⟩ fun h' he => ?_
  have kp : Keeps s₁ { s₁ with heap := h' } := keeps_heap' fun b o e => he b o (Nat.ne_of_lt (Heap.lt_size e)) e
  have x2 := (((q.keeps kp).temp (r1.mono (keeps_le kp))).temp (r2.mono (keeps_le kp)))
  show wpAny _ _ (assignInOrder [bindName c.env y, bindName c.env x] [v2, v1]) _ _ _
  refine wpAny_assignInOrder_more (bindName_ (wpAny_mono (hy _ _ _ _ _ _ _ _ _ ⟨fs, m, cm, x2⟩) (fun xx s₃ q3 => ?_) fun xx xx e => e))
  refine wpAny_assignInOrder_more (bindName_ (wpAny_mono (hx _ _ _ _ _ _ _ _ _ q3) (fun xx s₄ q4 => ?_) fun xx xx e => e))
  exact wpAny_assignInOrder_none ⟨rfl, q4.temps_sub fun p hp => .tail _ hp⟩
end
end Mine
end
section
set_option Elab.async false
set_option tactic.hygienic false
set_option linter.unusedVariables false
namespace Mine
open PySem PySem.W PySem.Calls PyProof.Rows

theorem foldl_rep (c : Nat) : ∀ (n : Nat) (acc : Array Nat), ((List.replicate n (S [c]).cps).foldl (· ++ ·) acc).toList = acc.toList ++ List.replicate n c := by
  intro zz
  induction zz with
  | zero => intro acc; simp
  | succ n IH =>
    intro acc
    rw [List.replicate_succ, List.foldl_cons, IH]
    simp [List.replicate_succ]
section
variable {g : Gx}
theorem Op2.mul_str {c n : Nat} (h1 : 1 ≤ n) (h2 : n ≤ 100000) : Op2 g 0 (binaryOp .Mult) (.str (S [c])) (.int n) (.str (S (List.replicate n c))) := fun A s X v w hr ok ra rb E => by
  obtain ⟨t, rfl⟩ := ra.of_str; obtain ⟨u, rfl⟩ := rb.of_int
  have hl1 : (S [c]).length = 1 := rfl
  refine P.mul_str ?_ (fun xx xx => ?_) (fun xx xx => ?_) ?_
  · rw [Bool.or_eq_false_iff]; constructor <;> exact decide_eq_false (by lia)
  · rw [hl1]
    have : (1 : Int) ≤ (2 ^ 63 - 1) / (n : Int) := by
      apply Int.le_ediv_of_mul_le (by lia)
      lia
    lia
  · rw [hl1]; unfold PySem.Builtin.Str.tooLong sizeLine; exact decide_eq_false (by simp; lia)
  · rw [if_neg (by lia)]
    split
    · rename_i hh
      have hn : n = 1 := by
        simp only [hl1, Bool.or_eq_true, beq_iff_eq] at hh
        rcases hh with h | h
        · lia
        · cases h
      subst hn
      exact ⟨keeps_refl s, .str _ _⟩
    · have e : (⟨(List.replicate (n : Int).toNat (S [c]).cps).foldl (· ++ ·) #[]⟩ : Str) = S (List.replicate n c) := by
        apply Str.ext'
        apply Array.ext'
        rw [Int.toNat_natCast, foldl_rep]; simp
      rw [e]
      exact ⟨by rw [S_length]; simp [sizeLine]; lia, keeps_next s, .str _ _⟩
end
theorem cut_upto (a : List Nat) (j : Nat) : cut a none (some (j : Int)) = a.take j := by
  unfold cut
  simp only [Option.elim, clipAt_nat, List.drop_zero, Nat.sub_zero]
  rcases Nat.le_total j a.length with h | h
  · rw [Nat.min_eq_left h]
  · rw [Nat.min_eq_right h, List.take_of_length_le (Nat.le_refl _), List.take_of_length_le h]
theorem cut_from (a : List Nat) (j : Nat) : cut a (some (j : Int)) none = a.drop j := by
  unfold cut
  simp only [Option.elim, clipAt_nat]
  rcases Nat.le_total j a.length with h | h
  · rw [Nat.min_eq_left h, List.take_of_length_le (by simp)]
  · rw [Nat.min_eq_right h, List.drop_of_length_le h, List.drop_of_length_le (Nat.le_refl _)]; simp
end Mine
end
section
open PySem PySem.W PyProof.Rows
set_option Elab.async false
set_option tactic.hygienic false
set_option maxRecDepth 100000
set_option maxHeartbeats 400000
set_option linter.unusedVariables false
namespace Mine
noncomputable def headOf (pre : List Nat) : List Nat := if pre = [] then [47] else pre
theorem take_head (pre name : List Nat) : (pre ++ 47 :: name).take (pre.length + 1) = pre ++ [47] := by
  rw [List.take_append, List.take_of_length_le (by lia)]
  have : pre.length + 1 - pre.length = 1 := by lia
  rw [this]; rfl
theorem drop_head (pre name : List Nat) : (pre ++ 47 :: name).drop (pre.length + 1) = name := by
  rw [List.drop_append, List.drop_of_length_le (by lia)]
  have : pre.length + 1 - pre.length = 1 := by lia
  rw [this]; rfl
theorem all_seps {pre : List Nat} (hp : pre.getLast? ≠ some 47) : (!(pre ++ [47]).isEmpty && ((pre ++ [47]) != List.replicate (pre ++ [47]).length 47)) = !decide (pre = []) := by
  cases hpre : pre with
  | nil => rfl
  | cons x r =>
    have hne : pre ≠ [] := by simp [hpre]
    rw [← hpre]
    have h1 : (pre ++ [47]) ≠ List.replicate (pre ++ [47]).length 47 := fun q => by
      have hm : pre.getLast hne ∈ List.replicate (pre ++ [47]).length 47 := by
        rw [← q]; exact List.mem_append.mpr (.inl (List.getLast_mem hne))
      have := List.eq_of_mem_replicate hm
      exact hp (by rw [List.getLast?_eq_some_getLast hne, this])
    have h2 : ((pre ++ [47]) != List.replicate (pre ++ [47]).length 47) = true := by simpa using h1
    rw [h2]
    simp [hne]
section
variable {g : Gx} {P : Params}
theorem f_split (X : Kx (Mine.hd.heap_1 P) g) {pre name : List Nat} (hn : 47 ∉ name) (hp : pre.getLast? ≠ some 47) (hl : (pre ++ 47 :: name).length ≤ 10000) : Fn g 2 (.ref 219) [dS (pre ++ 47 :: name)] (.tuple [dS (headOf pre), dS name]) := by
  refine Fn.of (k := 1) (xs := ["p"]) X rfl rfl (bind1 fun xx => rfl) (by decide) (by decide) (by decide) (fun A L hr bd => ?_)
  have hlen : (pre ++ 47 :: name).length ≤ sizeLine := by unfold sizeLine; lia
  have hpl : pre.length + 1 ≤ 10000 := by simp at hl; lia
  refine EX.cons (EX1.set (EV.callF bd X (by decide) rfl rfl rfl (.one (EV.var bd (by decide) rfl) rfl) (f_fspath X) hr (by decide) rfl) (bd.sto (by decide)) rfl) ?_
  refine EX.cons (EX1.set (EV.callF bd X (by decide) rfl rfl rfl (.one (EV.var bd (by decide) rfl) rfl) (f_getsep X) hr (by decide) rfl) (bd.sto (by decide)) rfl) ?_
  refine EX.cons (EX1.set (d := .int ((pre.length + 1 : Nat) : Int)) (EV.conv (EV.bin' (EV.meth (EV.var bd (by decide) rfl) (.one (EV.var bd (by decide) rfl) rfl) (Fn.rfind hn) (hr.less (by decide)) rfl F.plainAttrs_str F.slot_str_rfind F.type_str_rfind ⟨rfl, rfl, by decide, rfl⟩) EV.int Op2.add_int hr (by decide)) (by simp)) (bd.sto (by decide)) rfl) ?_
  refine EX.cons (EX1.assignSwap (x := "head") (y := "tail") (d1 := dS (pre ++ [47])) (d2 := dS name) (EV.tuple (.two (EV.conv (EV.sub (EV.var bd (by decide) rfl) (EV.slice (dl := .none) (du := .int ((pre.length + 1 : Nat) : Int)) (ds := .none) rfl (EV.var bd (by decide) rfl) rfl) rfl F.slot_str_getitem.lookup (Op2.slice_str .none (.int _) hlen) (hr.less (by decide))) ?_) (EV.conv (EV.sub (EV.var bd (by decide) rfl) (EV.slice (dl := .int ((pre.length + 1 : Nat) : Int)) (du := .none) (ds := .none) (EV.var bd (by decide) rfl) rfl rfl) rfl F.slot_str_getitem.lookup (Op2.slice_str (.int _) .none hlen) (hr.less (by decide))) ?_) rfl) (by unfold sizeLine; simp)) (bd.sto (by decide)) (bd.sto (by decide)) hr rfl rfl) ?_
  · rw [cut_upto, take_head]
  · rw [cut_from, drop_head]
  refine EX.cons (EX1.ite (b := !decide (pre = [])) (o := .next [("p", .val (dS (pre ++ 47 :: name))), ("sep", .val (dS [47])), ("i", .val (.int ((pre.length + 1 : Nat) : Int))), ("tail", .val (dS name)), ("head", .val (dS (headOf pre)))]) ?_ (fun hb => ?_) (fun hb => ?_)) (EX.gives (EV.tuple (.two (EV.var bd (by decide) rfl) (EV.var bd (by decide) rfl) rfl) (by unfold sizeLine; simp)))
  · refine EB.conv (EB.and (EB.val (EV.var bd (by decide) rfl) (Tru.str (a := pre ++ [47]) (by unfold sizeLine; simp; lia)) (hr.less (by decide)) rfl) fun xx => EB.cmp (EV.var bd (by decide) rfl) (EV.bin' (EV.var bd (by decide) rfl) (EV.callB bd X (by decide) rfl rfl (by decide) (.inl ⟨_, rfl⟩) (.one (EV.var bd (by decide) rfl) rfl) (Fn.len_str (a := pre ++ [47]) (by simp; lia)) hr (by decide) rfl) (Op2.mul_str (n := (pre ++ [47]).length) (by simp) (by simp; lia)) hr (by decide)) Op2.ne_str (hr.less (by decide)) rfl) ?_
    exact all_seps hp
  · have hne : pre ≠ [] := by simpa using hb
    refine EX.cons (EX1.set (EV.meth (EV.var bd (by decide) rfl) (.one (EV.var bd (by decide) rfl) rfl) (Fn.rstrip hp (by lia)) (hr.less (by decide)) rfl F.plainAttrs_str F.slot_str_rstrip F.type_str_rstrip ⟨rfl, rfl, by decide, rfl⟩) (bd.sto (by decide)) rfl) (EX.nil.conv ?_)
    unfold headOf; rw [if_neg hne]; rfl
  · have he : pre = [] := by simpa using hb
    refine EX.nil.conv ?_
    subst he; rfl
end
end Mine
end
section
set_option Elab.async false
set_option tactic.hygienic false
set_option linter.unusedVariables false
namespace Mine
open PySem PySem.W PySem.Calls PyProof.Rows

theorem range_small (n : Nat) (h : n ≤ 1000000) : Builtin.Range.small 0 n 1 = true ∧ Builtin.Range.rangeSize 0 n 1 = n := by
  have e : Builtin.Range.rangeSize 0 n 1 = n := by
    unfold Builtin.Range.rangeSize
    simp only [show (1 : Int) > 0 by decide, if_true]
    split
    · lia
    · lia
  refine ⟨?_, e⟩
  unfold Builtin.Range.small Builtin.Range.rangeFitsLong
  rw [e]
  simp
  lia
section
variable {c : Cx} {ρ : Rho}
theorem IT.range1 {k : Nat} {x : Str} {np p : Pos} {e1 : Expr} {n : Nat} (hn : EV c ρ (.Name x np) (.raw (.type "range"))) (h1 : EV c ρ e1 (.int n)) (hs : noStar [e1] = true) (hl : n ≤ 1000000) (hk : Rm c.A k) : IT false L0 c ρ (.Call (.Name x np) [e1] [] p) (rng 0 n) := fun H s E h => by
  refine wpAny_Call_ofName (wpAny_mono (hn H s h E) (fun v s₁ hqz0 => ?_) fun xx xx e => e)
  obtain ⟨k1, q⟩ := hqz0
  have e := q.of_raw
  subst e
  refine callRaw (fd := []) (.inr (.inl ⟨_, rfl⟩)) (.cons h1 .nil fun env => starEach_cons_noStar hs) (fun env y q => by
    have := starEach_noStar (env := env) hs p
    rw [q] at this; simp at this) (h.keeps k1) fun vs s₂ k2 r => ?_
  obtain ⟨v1, rfl, r1⟩ := r.one'
  obtain ⟨t, rfl⟩ := r1.of_int
  have k12 := keeps_trans k1 k2
  refine call_range_1 ?_
  obtain ⟨hsm, hsz⟩ := range_small n hl
  have k3 : Keeps s₂ { s₂ with heap := s₂.heap.push { cls := .type "range", data := .fields #[.int 0 s₂.toks, .int n t, .int 1 (s₂.toks + 1)] }, toks := s₂.toks + 1 + 1 } := ⟨_, _, _, rfl, fun xx xx e => Heap.get?_push_of_some _ e, by lia, id⟩
  refine wpAny_pyIter_range (a := 0) (b := n) (c := 1) (t := s₂.toks) (u := t) (v := s₂.toks + 1) (Heap.get?_push_size _ rfl) hsm ?_
  refine iterAt_push (keeps_trans k12 k3) (Wk.range hk.handled _ 0 n) ?_ fun b hb => .inl (by simpa using hb)
  rw [hsz]
  have := Heap.get?_push_size (s₂.heap.push { cls := .type "range", data := .fields #[.int 0 s₂.toks, .int n t, .int 1 (s₂.toks + 1)] }) (o := { cls := .type "range_iterator", data := .fields #[rawInt 0, rawInt (n : Int), rawInt 1] }) rfl
  simpa using this
end
end Mine
end
section
open PySem PySem.W PyProof.Rows
set_option Elab.async false
set_option tactic.hygienic false
set_option maxRecDepth 100000
set_option maxHeartbeats 400000
set_option linter.unusedVariables false
namespace Mine
noncomputable def pathOf (names : List (List Nat)) : List Nat := names.flatMap fun n => 47 :: n
theorem pathOf_snoc (l : List (List Nat)) (n : List Nat) : pathOf (l ++ [n]) = pathOf l ++ 47 :: n := by simp [pathOf]
structure NameOK (n : List Nat) : Prop where
  ne : n ≠ []
  free : 47 ∉ n
  ascii : ∀ c ∈ n, c < 128
theorem pathOf_last {l : List (List Nat)} (h : ∀ n ∈ l, NameOK n) : (pathOf l).getLast? ≠ some 47 := by
  rcases List.eq_nil_or_concat l with rfl | ⟨r, n, rfl⟩
  · simp [pathOf]
  · rw [List.concat_eq_append] at h ⊢
    have hn := h n (by simp)
    obtain ⟨q, z, rfl⟩ := snoc_of_ne hn.ne
    have e : pathOf (r ++ [q ++ [z]]) = (pathOf r ++ 47 :: q) ++ [z] := by rw [pathOf_snoc]; simp
    rw [e, List.getLast?_concat]
    intro h47
    exact hn.free (by cases h47; simp)
theorem pathOf_ne {l : List (List Nat)} (h : l ≠ []) : pathOf l ≠ [] := by
  cases l with
  | nil => exact absurd rfl h
  | cons n r => simp [pathOf]
section
variable {g : Gx} {P : Params}
theorem f_steps (X : Kx (Mine.hd.heap_1 P) g) {names : List (List Nat)} (hne : names ≠ []) (hn : ∀ n ∈ names, NameOK n) (hl : (pathOf names).length ≤ 10000) (hc : names.length ≤ 1000) : Fn g 3 (.ref 271) [dS (pathOf names), .int names.length] (dRow ([47] :: names)) := by
  refine Fn.of (k := 2) (xs := ["path", "count"]) X rfl rfl (bind2 fun xx xx => rfl) (by decide) (by decide) (by decide) (fun A L hr bd => ?_)
  refine EX.cons (EX1.set (EV.var bd (by decide) rfl) (bd.sto (by decide)) rfl) ?_
  refine EX.cons (EX1.set (EV.list (ds := []) EVs.nil (by unfold sizeLine; simp)) (bd.sto (by decide)) rfl) ?_
  have e1 : headOf (pathOf (names.take (names.length - 0))) = pathOf names := by
    unfold headOf; simp [pathOf_ne hne]
  have e2 : names.drop (names.length - 0) = [] := by simp
  refine EX.convρ (ρ' := [("path", .val (dS (pathOf names))), ("count", .val (.int names.length)), ("left", .val (dS (headOf (pathOf (names.take (names.length - 0)))))), ("names", .val (dRow (names.drop (names.length - 0))))]) ?_ (by rw [e1, e2]; rfl)
  refine EX.cons (EX1.forMap (xs := List.range names.length) (f := fun (i : Nat) => D.int (0 + (i : Int))) (fun i => [("path", .val (dS (pathOf names))), ("count", .val (.int names.length)), ("left", .val (dS (headOf (pathOf (names.take (names.length - i)))))), ("names", .val (dRow (names.drop (names.length - i))))]) (IT.range1 (EV.built X (bd.outer (by decide)) rfl rfl (by decide)) (EV.var bd (by decide) rfl) rfl (by lia) hr) (fun i x hx => ⟨_, AT.var bd (by decide), ?_⟩) (fun xx => rfl)) ?_
  · have hx' : i < names.length := by have := (List.getElem?_eq_some_iff.mp hx).1; simpa using this
    obtain ⟨m, hm⟩ : ∃ m, names.length - i = m + 1 := ⟨names.length - i - 1, by lia⟩
    have hm2 : names.length - (i + 1) = m := by lia
    have hml : m < names.length := by lia
    have ht : names.take (m + 1) = names.take m ++ [names[m]] := by rw [List.take_add_one, List.getElem?_eq_getElem hml]; rfl
    have hd : names.drop m = names[m] :: names.drop (m + 1) := List.drop_eq_getElem_cons hml
    have hp : headOf (pathOf (names.take (m + 1))) = pathOf (names.take m) ++ 47 :: names[m] := by
      rw [ht, pathOf_snoc]; unfold headOf; rw [if_neg (by simp)]
    have hnm := hn names[m] (List.getElem_mem hml)
    have hsum : (pathOf (names.take m) ++ 47 :: names[m]).length ≤ 10000 := by
      have e : pathOf names = pathOf (names.take (m + 1)) ++ pathOf (names.drop (m + 1)) := by
        have pa : ∀ a b : List (List Nat), pathOf (a ++ b) = pathOf a ++ pathOf b := fun a b => by simp [pathOf]
        rw [← pa, List.take_append_drop]
      rw [ht, pathOf_snoc] at e
      rw [e, List.length_append] at hl
      lia
    rw [hm, hm2, hp, hd]
    refine EX.cons (EX1.assignT (EV.callF bd X (by decide) rfl rfl rfl (.one (EV.var bd (by decide) rfl) rfl) (f_split X hnm.free (pathOf_last fun n h => hn n (List.mem_of_mem_take h)) hsum) hr (by decide) rfl) (AT.two (AT.var bd (by decide)) (AT.var bd (by decide)) hr fun xx => rfl) rfl rfl) ?_
    refine EX.cons (EX1.set (EV.bin' (EV.list (.one (EV.var bd (by decide) rfl) rfl) (by unfold sizeLine; simp)) (EV.var bd (by decide) rfl) (Op2.add_list (by unfold sizeLine; simp; lia)) hr (by decide)) (bd.sto (by decide)) rfl) (EX.nil.post ?_)
    exact .cons_cons _ (.cons_cons _ (.cons_cons _ (.cons_cons _ (.cons _ (.cons _ .slnil)))))
  · have e3 : names.length - (List.range names.length).length = 0 := by simp
    rw [e3]
    refine EX.gives (EV.conv (EV.bin' (EV.list (.one (EV.var bd (by decide) rfl) rfl) (by unfold sizeLine; simp)) (EV.var bd (by decide) rfl) (Op2.add_list (by unfold sizeLine; simp; lia)) hr (by decide)) ?_)
    refine congrArg D.list ?_
    simp [pathOf, headOf]
end
end Mine
end
section
set_option Elab.async false
set_option tactic.hygienic false
set_option linter.unusedVariables false
namespace Mine
open PySem PySem.W PySem.Calls PyProof.Rows
section
variable {c : Cx} {ρ ρ' : Rho}
theorem EX1.try {body : List Stmt} {h₀ : ExceptHandler} {hs : List ExceptHandler} {pos : Pos} {o : Out} (h : EX c ρ body o) : EX1 c ρ (.Try body (h₀ :: hs) [] [] pos) o := fun sg B Y T s E y => by
  refine wpAny_Try_except (wpAny_mono (h sg B Y T s _ y) (fun f s₁ q => ?_) fun xx xx e => e)
  cases o with
  | next ρ => obtain ⟨rfl, q⟩ := q; exact wpAny_execs_nil ⟨rfl, q⟩
  | brk ρ => obtain ⟨rfl, q⟩ := q; exact ⟨rfl, q⟩
  | cont ρ => obtain ⟨rfl, q⟩ := q; exact ⟨rfl, q⟩
  | ret d => obtain ⟨v, rfl, q⟩ := q; exact ⟨v, rfl, q⟩
end
end Mine
end
section
open PySem PySem.W PyProof.Rows
set_option Elab.async false
set_option tactic.hygienic false
set_option maxRecDepth 100000
set_option maxHeartbeats 400000
set_option linter.unusedVariables false
namespace Mine
noncomputable def jstep (path b : List Nat) : List Nat := if b.head? = some 47 ∨ path = [] then b else if path.getLast? = some 47 then path ++ b else path ++ ([47] ++ b)
theorem jstep_length (p b : List Nat) : (jstep p b).length ≤ p.length + (b.length + 1) := by
  unfold jstep; split
  · lia
  · split <;> simp <;> lia
theorem jfold_length : ∀ (bs : List (List Nat)) (a : List Nat), (bs.foldl jstep a).length ≤ a.length + (bs.map fun b => b.length + 1).sum := by
  intro zz
  induction zz with
  | nil => intro a; simp
  | cons b r IH =>
    intro a
    have h1 := IH (jstep a b)
    have h2 := jstep_length a b
    simp only [List.foldl_cons, List.map_cons, List.sum_cons]
    lia
theorem jtake_length (bs : List (List Nat)) (a : List Nat) (i : Nat) : ((bs.take i).foldl jstep a).length ≤ a.length + (bs.map fun b => b.length + 1).sum := by
  have h1 := jfold_length (bs.take i) a
  have h2 : ((bs.take i).map fun b => b.length + 1).sum + ((bs.drop i).map fun b => b.length + 1).sum = (bs.map fun b => b.length + 1).sum := by
    rw [← List.sum_append, ← List.map_append, List.take_append_drop]
  lia
theorem mem_sum {b : List Nat} {bs : List (List Nat)} (h : b ∈ bs) : b.length + 1 ≤ (bs.map fun b => b.length + 1).sum := by
  induction bs with
  | nil => cases h
  | cons c r ih =>
    simp only [List.map_cons, List.sum_cons]
    cases h with
    | head => lia
    | tail _ h => have := ih h; lia
section
variable {g : Gx} {P : Params}
theorem f_join (X : Kx (Mine.hd.heap_1 P) g) {a : List Nat} {bs : List (List Nat)} (hl : a.length + (bs.map fun b => b.length + 1).sum ≤ 100000) (hc : bs.length ≤ 1000) : Fn g 2 (.ref 212) (dS a :: bs.map dS) (dS (bs.foldl jstep a)) := by
  refine Fn.ofVar (k := 1) (xa := "a") (xp := "p") X rfl rfl (fun v0 vs => by cases vs <;> rfl) (by unfold sizeLine; simp; lia) (by decide) (by decide) (by decide) (fun A L hr bd => ?_)
  refine EX.cons (EX1.set (EV.callF bd X (by decide) rfl rfl rfl (.one (EV.var bd (by decide) rfl) rfl) (f_fspath X) hr (by decide) rfl) (bd.sto (by decide)) rfl) ?_
  refine EX.cons (EX1.set (EV.callF bd X (by decide) rfl rfl rfl (.one (EV.var bd (by decide) rfl) rfl) (f_getsep X) hr (by decide) rfl) (bd.sto (by decide)) rfl) ?_
  refine EX.cons (EX1.set (EV.var bd (by decide) rfl) (bd.sto (by decide)) rfl) ?_
  refine EX.cons (ρ' := [("a", .val (dS a)), ("p", .val (.tuple (bs.map dS))), ("sep", .val (dS [47])), ("path", .val (dS ((bs.take bs.length).foldl jstep a)))]) (EX1.try ?_) ?_
  · refine EX.cons ?_ EX.nil
    refine EX1.forMap (xs := bs) (f := dS) (fun i => [("a", .val (dS a)), ("p", .val (.tuple (bs.map dS))), ("sep", .val (dS [47])), ("path", .val (dS ((bs.take i).foldl jstep a)))]) (IT.tuple (EV.var bd (by decide) rfl) hr) (fun i x hx => ⟨_, AT.var bd (by decide), ?_⟩) (fun xx => rfl)
    have ht : (bs.take (i + 1)).foldl jstep a = jstep ((bs.take i).foldl jstep a) x := by
      rw [List.take_add_one, hx]; simp
    rw [ht]
    have hb := mem_sum (List.mem_of_getElem? hx)
    have hpl := jtake_length bs a i
    generalize (bs.take i).foldl jstep a = path at hpl
    have hsz1 : path.length ≤ sizeLine := by unfold sizeLine; lia
    refine EX.cons (EX1.set (EV.callF bd X (by decide) rfl rfl rfl (.one (EV.var bd (by decide) rfl) rfl) (f_fspath X) hr (by decide) rfl) (bd.sto (by decide)) rfl) ?_
    refine EX.cons (EX1.ite (b := (x.head? == some 47) || path.isEmpty) (o := .next [("a", .val (dS a)), ("p", .val (.tuple (bs.map dS))), ("sep", .val (dS [47])), ("path", .val (dS (jstep path x)))]) ?_ (fun hb => ?_) (fun hb => ?_)) EX.nil
    · refine EB.conv (EB.or (EB.val (EV.meth (EV.var bd (by decide) rfl) (.one (EV.var bd (by decide) rfl) rfl) Fn.starts (hr.less (by decide)) rfl F.plainAttrs_str F.slot_str_startswith F.type_str_startswith ⟨rfl, rfl, by decide, rfl⟩) tru_bool (hr.less (by decide)) rfl) fun xx => EB.not (EB.val (EV.var bd (by decide) rfl) (Tru.str hsz1) (hr.less (by decide)) rfl)) ?_
      simp
    · have e : jstep path x = x := by
        unfold jstep; rw [if_pos]; simpa using hb
      rw [e]
      exact EX.cons (EX1.set (EV.var bd (by decide) rfl) (bd.sto (by decide)) rfl) (EX.nil.post (.cons_cons _ (.cons_cons _ (.cons_cons _ (.cons_cons _ (.cons _ .slnil))))))
    · have hb' : ¬ (x.head? = some 47 ∨ path = []) := by simpa using hb
      refine EX.cons (EX1.ite (b := path.getLast? == some 47) (o := .next [("a", .val (dS a)), ("p", .val (.tuple (bs.map dS))), ("sep", .val (dS [47])), ("path", .val (dS (jstep path x)))]) ?_ (fun hb2 => ?_) (fun hb2 => ?_)) EX.nil
      · exact EB.val (EV.meth (EV.var bd (by decide) rfl) (.one (EV.var bd (by decide) rfl) rfl) Fn.ends (hr.less (by decide)) rfl F.plainAttrs_str F.slot_str_endswith F.type_str_endswith ⟨rfl, rfl, by decide, rfl⟩) tru_bool (hr.less (by decide)) rfl
      · have e : jstep path x = path ++ x := by unfold jstep; rw [if_neg hb', if_pos (by simpa using hb2)]
        rw [e]
        exact EX.cons (EX1.augS (mem_look rfl) (EV.var bd (by decide) rfl) (Op2.iadd_str (by unfold sizeLine; lia)) (hr.less (by decide)) (bd.nameOk (by decide)) (bd.sto (by decide))) (EX.nil.post (.cons_cons _ (.cons_cons _ (.cons_cons _ (.cons_cons _ (.cons _ .slnil))))))
      · have e : jstep path x = path ++ ([47] ++ x) := by unfold jstep; rw [if_neg hb', if_neg (by simpa using hb2)]
        rw [e]
        exact EX.cons (EX1.augS (mem_look rfl) (EV.bin' (EV.var bd (by decide) rfl) (EV.var bd (by decide) rfl) (Op2.add_str (by unfold sizeLine; simp; lia)) hr (by decide)) (Op2.iadd_str (by unfold sizeLine; simp; lia)) (hr.less (by decide)) (bd.nameOk (by decide)) (bd.sto (by decide))) (EX.nil.post (.cons_cons _ (.cons_cons _ (.cons_cons _ (.cons_cons _ (.cons _ .slnil))))))
  · rw [List.take_length]
    exact EX.gives (EV.var bd (by decide) rfl)
end
end Mine
end
section
open PySem PySem.W PyProof.Rows
set_option Elab.async false
set_option tactic.hygienic false
set_option maxRecDepth 100000
set_option maxHeartbeats 400000
set_option linter.unusedVariables false
namespace Mine
noncomputable def rowStep (st : List Nat × Nat) (signs : List Nat) : List Nat × Nat := (signs.getD (st.2 % signs.length) 0 :: st.1, st.2 / signs.length)
noncomputable def rowName (row : List (List Nat)) (n : Nat) : List Nat × Nat := row.reverse.foldl rowStep ([], n)
noncomputable def pathStep (st : List (List Nat) × Nat) (row : List (List Nat)) : List (List Nat) × Nat := ((rowName row st.2).1 :: st.1, (rowName row st.2).2)
noncomputable def pathNames (rows : List (List (List Nat))) (n : Nat) : List (List Nat) := (rows.reverse.foldl pathStep ([], n)).1
theorem rowStep_length (l : List (List Nat)) : ∀ st : List Nat × Nat, (l.foldl rowStep st).1.length = st.1.length + l.length := by
  induction l with
  | nil => intro st; simp
  | cons s r ih => intro st; rw [List.foldl_cons, ih]; simp [rowStep]; lia
theorem rowName_length (row : List (List Nat)) (n : Nat) : (rowName row n).1.length = row.length := by
  unfold rowName; rw [rowStep_length]; simp
theorem pathStep_lengths (l : List (List (List Nat))) : ∀ st : List (List Nat) × Nat, (l.foldl pathStep st).1.map List.length = (l.reverse.map List.length) ++ st.1.map List.length := by
  induction l with
  | nil => intro st; simp
  | cons s r ih => intro st; rw [List.foldl_cons, ih]; simp [pathStep, rowName_length]
theorem pathNames_lengths (rows : List (List (List Nat))) (n : Nat) : (pathNames rows n).map List.length = rows.map List.length := by
  unfold pathNames; rw [pathStep_lengths]; simp
theorem pathNames_length (rows : List (List (List Nat))) (n : Nat) : (pathNames rows n).length = rows.length := by
  have := congrArg List.length (pathNames_lengths rows n); simpa using this
theorem EV_star {c : Cx} {ρ : Rho} {e : Expr} {p : Pos} {ds : List D} (h : EV c ρ e (.list ds)) (hsz : ds.length ≤ 1000) : EVs c ρ [.Starred e p] ds := by
  have := EVs.star (p := p) h EVs.nil hsz
  rwa [List.append_nil] at this
section
variable {g : Gx} {P : Params}
theorem f_path (X : Kx (Mine.hd.heap_1 P) g) {rows : List (List (List Nat))} {n : Nat} (h1 : rows.length ≤ 100) (h2 : ∀ row ∈ rows, row.length ≤ 100) (h3 : ∀ row ∈ rows, ∀ s ∈ row, 1 ≤ s.length ∧ s.length ≤ 1000) :
    Fn g 3 (.ref 264) [dRows rows, .int n] (dS ((pathNames rows n).foldl jstep [47])) := by
  refine Fn.of (k := 2) (xs := ["rows", "number"]) X rfl rfl (bind2 fun xx xx => rfl) (by decide) (by decide) (by decide) (fun A L hr bd => ?_)
  refine EX.cons (EX1.set (EV.var bd (by decide) rfl) (bd.sto (by decide)) rfl) ?_
  refine EX.cons (EX1.set (EV.list (ds := []) EVs.nil (by unfold sizeLine; simp)) (bd.sto (by decide)) rfl) ?_
  refine EX.cons (EX1.forMap (xs := rows.reverse) (f := dRow) (fun i => [("rows", .val (dRows rows)), ("number", .val (.int n)), ("left", .val (.int ((rows.reverse.take i).foldl pathStep ([], n)).2)), ("names", .val (dRow ((rows.reverse.take i).foldl pathStep ([], n)).1))])
    (IT.list (EV.conv (EV.sub (EV.var bd (by decide) rfl) (EV.slice (dl := .none) (du := .none) (ds := .int (-1)) rfl rfl (EV.un EV.int Op1.neg_int (hr.less (by decide)))) rfl F.slot_list_getitem.lookup (Op2.rev_list (by unfold sizeLine; simp; lia)) (hr.less (by decide))) (by rw [List.map_reverse])) hr) (fun i row hx => ⟨_, AT.var bd (by decide), ?_⟩) (fun xx => rfl)) ?_
  · have hrow : row ∈ rows := List.mem_reverse.mp (List.mem_of_getElem? hx)
    have ht : (rows.reverse.take (i + 1)).foldl pathStep ([], n) = pathStep ((rows.reverse.take i).foldl pathStep ([], n)) row := by
      rw [List.take_add_one, hx, List.foldl_append]; rfl
    have hnl : ((rows.reverse.take i).foldl pathStep ([], n)).1.length ≤ 100 := by
      have := congrArg List.length (pathStep_lengths (rows.reverse.take i) ([], n))
      simp at this; lia
    rw [ht]
    generalize (rows.reverse.take i).foldl pathStep ([], n) = st at hnl
    obtain ⟨names, left⟩ := st
    replace hnl : names.length ≤ 100 := hnl
    refine EX.cons (EX1.set (strS (l := []) rfl) (bd.sto (by decide)) rfl) ?_
    refine EX.cons (EX1.forMap (xs := row.reverse) (f := dS) (fun j => [("rows", .val (dRows rows)), ("number", .val (.int n)), ("left", .val (.int ((row.reverse.take j).foldl rowStep ([], left)).2)), ("names", .val (dRow names)), ("row", .val (dRow row)), ("name", .val (dS ((row.reverse.take j).foldl rowStep ([], left)).1))])
      (IT.list (EV.conv (EV.sub (EV.var bd (by decide) rfl) (EV.slice (dl := .none) (du := .none) (ds := .int (-1)) rfl rfl (EV.un EV.int Op1.neg_int (hr.less (by decide)))) rfl F.slot_list_getitem.lookup (Op2.rev_list (by have := h2 row hrow; unfold sizeLine; simp; lia)) (hr.less (by decide))) (by rw [List.map_reverse])) hr) (fun j signs hy => ⟨_, AT.var bd (by decide), ?_⟩) (fun xx => rfl)) ?_
    · have hsg := h3 row hrow signs (List.mem_reverse.mp (List.mem_of_getElem? hy))
      have ht : (row.reverse.take (j + 1)).foldl rowStep ([], left) = rowStep ((row.reverse.take j).foldl rowStep ([], left)) signs := by
        rw [List.take_add_one, hy, List.foldl_append]; rfl
      have hnl2 : ((row.reverse.take j).foldl rowStep ([], left)).1.length ≤ 100 := by
        have h5 := rowStep_length (row.reverse.take j) ([], left)
        have h6 := h2 row hrow
        rw [h5]; simp; lia
      rw [ht]
      generalize (row.reverse.take j).foldl rowStep ([], left) = st at hnl2
      obtain ⟨name, left'⟩ := st
      replace hnl2 : name.length ≤ 100 := hnl2
      have hlt : left' % signs.length < signs.length := Nat.mod_lt _ (by lia)
      have hmod : ((left' : Int).fmod (signs.length : Int)) = ((left' % signs.length : Nat) : Int) := by rw [Int.fmod_eq_emod_of_nonneg _ (by lia)]; simp
      have hdiv : ((left' : Int).fdiv (signs.length : Int)) = ((left' / signs.length : Nat) : Int) := by rw [Int.fdiv_eq_ediv_of_nonneg _ (by lia)]; simp
      have hz : ((signs.length : Nat) : Int) ≠ 0 := by lia
      refine EX.cons (EX1.set (d := dS (signs.getD (left' % signs.length) 0 :: name)) (EV.conv (EV.callF bd X (by decide) rfl rfl rfl (.two (EV.callF bd X (by decide) rfl rfl rfl (.two (EV.var bd (by decide) rfl) (EV.callF bd X (by decide) rfl rfl rfl (.two (EV.var bd (by decide) rfl) (EV.callB bd X (by decide) rfl rfl (by decide) (.inl ⟨_, rfl⟩) (.one (EV.var bd (by decide) rfl) rfl) (Fn.len_str (a := signs) (by lia)) hr (by decide) rfl) rfl) (f_mod X hz) hr (by decide) rfl) rfl) (f_getitem (a := signs) (j := left' % signs.length) (c := signs.getD (left' % signs.length) 0) X ?_ ?_ ?_ ?_) hr (by decide) rfl) (EV.var bd (by decide) rfl) rfl) (f_concat (b := name) X ?_) hr (by decide) rfl) ?_) (bd.sto (by decide)) rfl) ?_
      · rw [hmod]; unfold seqIndex?; simp; lia
      · rw [List.getD_eq_getElem?_getD, List.getElem?_eq_getElem hlt]; rfl
      · rw [hmod]; lia
      · rw [hmod]; lia
      · simp [sizeLine]; lia
      · rfl
      refine EX.cons (EX1.set (d := .int ((left' / signs.length : Nat) : Int)) (EV.conv (EV.callF bd X (by decide) rfl rfl rfl (.two (EV.var bd (by decide) rfl) (EV.callB bd X (by decide) rfl rfl (by decide) (.inl ⟨_, rfl⟩) (.one (EV.var bd (by decide) rfl) rfl) (Fn.len_str (a := signs) (by lia)) hr (by decide) rfl) rfl) (f_floordiv X hz (PyProof.noPylong_small (by lia))) hr (by decide) rfl) (by rw [hdiv])) (bd.sto (by decide)) rfl) (EX.nil.post ?_)
      exact .cons_cons _ (.cons_cons _ (.cons_cons _ (.cons_cons _ (.cons_cons _ (.cons_cons _ (.cons _ .slnil))))))
    · have e : row.reverse.take row.reverse.length = row.reverse := List.take_length
      rw [e]
      refine EX.cons (EX1.set (EV.bin' (EV.list (.one (EV.var bd (by decide) rfl) rfl) (by unfold sizeLine; simp)) (EV.var bd (by decide) rfl) (Op2.add_list (by unfold sizeLine; simp; lia)) hr (by decide)) (bd.sto (by decide)) rfl) (EX.nil.post ?_)
      exact .cons_cons _ (.cons_cons _ (.cons_cons _ (.cons_cons _ (.cons _ (.cons _ .slnil)))))
  · have e : rows.reverse.take rows.reverse.length = rows.reverse := List.take_length
    rw [e]
    have hln := pathNames_length rows n
    have hls := pathNames_lengths rows n
    have hsum : ((pathNames rows n).map fun b => b.length + 1).sum ≤ 100 * 101 := by
      have : ∀ l : List Nat, (∀ x ∈ l, x ≤ 100) → (l.map (· + 1)).sum ≤ l.length * 101 := fun l hl => by
        induction l with
        | nil => simp
        | cons a r ih =>
          have := ih fun x hx => hl x (.tail _ hx)
          have := hl a (.head _)
          simp; lia
      have h5 := this ((pathNames rows n).map List.length) (by rw [hls]; intro x hx; obtain ⟨r, hr, rfl⟩ := List.mem_map.mp hx; exact h2 r hr)
      rw [List.map_map] at h5
      simp only [List.length_map, hln] at h5
      have h6 : rows.length * 101 ≤ 100 * 101 := Nat.mul_le_mul_right _ h1
      exact Nat.le_trans h5 h6
    refine EX.gives (EV.call (ds := dS [47] :: (pathNames rows n).map dS) (EV.glob X (bd.outer (by decide)) rfl) ?_ (X.callee rfl rfl) (f_join (a := [47]) (bs := pathNames rows n) X ?_ ?_) (hr.less (by decide)) fun pos env y q => ?_)
    · refine EVs.cons (strS rfl) (EV_star ?_ ?_) fun xx => rfl
      · exact EV.var bd (by decide) rfl
      · simp [hln]; lia
    · simp; lia
    · lia
    · injection q with q1 q2; cases q2
end
end Mine
end
section
set_option Elab.async false
set_option tactic.hygienic false
set_option maxRecDepth 100000
set_option linter.unusedVariables false
namespace Mine
open PySem PySem.W PySem.Calls PyProof.Rows PySem.MeetsSeq PySem.MeetsSeq3
noncomputable def ltL : List (List Nat) → List (List Nat) → Bool
  | [], [] => false
  | [], _ :: _ => true
  | _ :: _, [] => false
  | x :: xs, y :: ys => if x = y then ltL xs ys else decide (x < y)
theorem ltL_cons {x y : List Nat} {xs ys : List (List Nat)} : ltL (x :: xs) (y :: ys) = if x = y then ltL xs ys else decide (x < y) := rfl
section
variable {Z : Mp}
theorem at_item {us : List Value} {xs : List (List Nat)} (h : RepL Z us (xs.map fun a => D.str (S a))) {i : Nat} (hi : i < us.toArray.size) : ∃ x t, xs.drop i = x :: xs.drop (i + 1) ∧ us.toArray[i] = .str (S x) t := by
  have l1 := h.length
  simp only [List.length_map] at l1
  simp only [List.size_toArray] at hi
  obtain ⟨d, hd, r⟩ := h.get' (List.getElem?_eq_getElem hi)
  rw [List.getElem?_map, Option.map_eq_some_iff] at hd
  obtain ⟨x, hx, rfl⟩ := hd
  obtain ⟨t, e⟩ := r.of_str
  obtain ⟨hlt, rfl⟩ := List.getElem?_eq_some_iff.mp hx
  exact ⟨_, t, List.drop_eq_getElem_cons hlt, by simpa using e⟩
theorem lt_loop (l b : Addr) (us ws : List Value) (n n2 : Nat) (xs ys : List (List Nat)) (h1 : RepL Z us (xs.map fun a => D.str (S a))) (h2 : RepL Z ws (ys.map fun a => D.str (S a))) (k : Nat) :
    ∀ i : Nat, us.length - i = k → i ≤ us.length → i ≤ ws.length → Meets (Builtin.«list.__eq__.loop» ⟨[.ref l, .ref b, rawInt i, rawInt 0], []⟩)
      (fun A R s => s.heap.get? l = some (lst us n) ∧ s.heap.get? b = some (lst ws n2) ∧ R (.ok (.ret (.bool (ltL (xs.drop i) (ys.drop i))))) s) := by
  have l1 := h1.length; have l2 := h2.length
  simp only [List.length_map] at l1 l2
  induction k with
  | zero =>
    intro i hk hiu hiw prog w A R s h
    obtain ⟨hp, g, d, tk, os⟩ := s; obtain ⟨hl, hb, h⟩ := h
    wp_walk using wpAny_loadPart' hl, wpAny_loadPart' hb
    have hi1 : us.toArray[((i : Nat) : Int).toNat]? = none := by simp; lia
    rw [hi1]
    have hx : xs.drop i = [] := List.drop_eq_nil_iff.mpr (by lia)
    wp_walk using wpAny_loadPart' hl, wpAny_loadPart' hb
    show R (.ok (.ret (.bool (decide (us.toArray.size < ws.toArray.size))))) _
    have e : ltL (xs.drop i) (ys.drop i) = decide (us.toArray.size < ws.toArray.size) := by
      rw [hx]
      simp only [List.size_toArray]
      cases hy : ys.drop i with
      | nil => have := List.drop_eq_nil_iff.mp hy; exact (decide_eq_false (by lia)).symm
      | cons y r =>
        have h5 : i < ys.length := by
          rcases Nat.lt_or_ge i ys.length with q | q
          · exact q
          · rw [List.drop_eq_nil_iff.mpr q] at hy; cases hy
        exact (decide_eq_true (by lia)).symm
    rw [← e]; exact h
  | succ k ih =>
    intro i hk hiu hiw prog w A R s h
    obtain ⟨hp, g, d, tk, os⟩ := s; obtain ⟨hl, hb, h⟩ := h
    have hi : i < us.toArray.size := by simp; lia
    have hi1 : us.toArray[((i : Nat) : Int).toNat]? = some us.toArray[i] := by simp [hi]
    obtain ⟨x, t, ex, eu⟩ := at_item h1 hi
    have hc : ((i : Int) + 1) = ((i + 1 : Nat) : Int) := by push_cast; rfl
    wp_walk using wpAny_loadPart' hl, wpAny_loadPart' hb
    rw [hi1]
    rw [ex] at h
    rcases Nat.lt_or_ge i ws.toArray.size with hj | hj
    · have hj1 : ws.toArray[((i : Nat) : Int).toNat]? = some ws.toArray[i] := by simp [hj]
      obtain ⟨y, t2, ey, ew⟩ := at_item h2 hj
      rw [hj1]
      rw [ey] at h
      have he := (EqKind.str (A := A.in1) (s := ⟨hp, g, d, tk, os⟩) (Z := Z)).eq (.str (S x) t) (.str (S y) t2) x y (.str _ _) (.str _ _)
      rw [eu, ew]
      refine wpAny_bind (he prog w _ _ ?_)
      by_cases hxy : x = y
      · have hl1 : ltL (x :: xs.drop (i + 1)) (y :: ys.drop (i + 1)) = ltL (xs.drop (i + 1)) (ys.drop (i + 1)) := by rw [ltL_cons, if_pos hxy]
        rw [hl1] at h
        rw [decide_eq_true hxy]
        wp_walk
        rw [hc]
        exact ⟨plainId_quiet plain_eq_loop _, codeAny_builtin entry_eq_loop (by
          rw [Around.under_plainId plain_eq_loop _]
          exact ih (i + 1) (by lia) (by simp at hi; lia) (by simp at hj; lia) prog w A R _ ⟨hl, hb, h⟩)⟩
      · have hl1 : ltL (x :: xs.drop (i + 1)) (y :: ys.drop (i + 1)) = decide (x < y) := by rw [ltL_cons, if_neg hxy]
        rw [hl1] at h
        rw [decide_eq_false hxy]
        wp_walk using wpAny_loadPart' hl, wpAny_loadPart' hb
        rw [hi1, hj1, eu, ew]
        refine wpAny_bind (show wpAny _ _ (compareOp .Lt _ _) _ _ _ from P.lt_str ?_)
        wp_walk
        exact h
    · have hj1 : ws.toArray[((i : Nat) : Int).toNat]? = none := by simp at hj ⊢; lia
      rw [hj1]
      wp_walk using wpAny_loadPart' hl, wpAny_loadPart' hb
      show R (.ok (.ret (.bool (decide (us.toArray.size < ws.toArray.size))))) _
      have e : ltL (x :: xs.drop (i + 1)) (ys.drop i) = decide (us.toArray.size < ws.toArray.size) := by
        simp only [List.size_toArray] at hi hj ⊢
        have hy : ys.drop i = [] := List.drop_eq_nil_iff.mpr (by lia)
        have hf : decide (us.length < ws.length) = false := decide_eq_false (by lia)
        rw [hy, hf]; rfl
      rw [← e]; exact h
theorem lt_list (l b : Addr) (us ws : List Value) (n n2 : Nat) (xs ys : List (List Nat)) (h1 : RepL Z us (xs.map fun a => D.str (S a))) (h2 : RepL Z ws (ys.map fun a => D.str (S a))) :
    Meets (Builtin.«list.__lt__» ⟨[.ref l, .ref b], []⟩)
      (fun A R s => s.heap.get? l = some (lst us n) ∧ s.heap.get? b = some (lst ws n2) ∧ R (.ok (.ret (.bool (ltL xs ys)))) s) := by
  intro prog w A R s h
  obtain ⟨hp, g, d, tk, os⟩ := s; obtain ⟨hl, hb, h⟩ := h
  have f3 := AutoSeq1.sub_list_list
  wp_walk using wpAny_loadPart' hl, wpAny_loadPart' hb
  exact ⟨plainId_quiet plain_eq_loop _, codeAny_builtin entry_eq_loop (by
    rw [Around.under_plainId plain_eq_loop _]
    exact lt_loop l b us ws n n2 xs ys h1 h2 _ 0 rfl (Nat.zero_le _) (Nat.zero_le _) prog w A R _ ⟨hl, hb, h⟩)⟩
end
section
variable {g : Gx}
theorem Op2.lt_list {xs ys : List (List Nat)} : Op2 g 0 (compareOp .Lt) (.list (xs.map fun a => .str (S a))) (.list (ys.map fun a => .str (S a))) (.bool (ltL xs ys)) := fun A s X v w hr ok ra rb E => by
  obtain ⟨a, us, n, rfl, e1, h1⟩ := ra.of_list
  obtain ⟨b, ws, m, rfl, e2, h2⟩ := rb.of_list
  have g1 := (Zof.get e1).1
  have g2 := (Zof.get e2).1
  have hu := hr.units
  show wpAny _ _ (richCompare .Lt _ _) _ _ _
  exact richCompare_meets_room (op := .Lt) ⟨_, g1, rfl⟩ ⟨_, g2, rfl⟩ F.slot_list_lt F.entry_list_lt (F.args_list_lt_2 _ _) (Mine.lt_list a b us ws n m xs ys h1 h2) ⟨g1, g2, (fun x => nomatch x), keeps_refl s, .bool _⟩ (by lia)
end
end Mine
end
section
set_option Elab.async false
set_option tactic.hygienic false
set_option maxRecDepth 100000
set_option linter.unusedVariables false
namespace Mine
open PySem PySem.W PySem.Calls PyProof.Rows PySem.MeetsSeq PySem.MeetsSeq3
section
variable {Z : Mp}
theorem gt_loop (l b : Addr) (us ws : List Value) (n n2 : Nat) (xs ys : List (List Nat)) (h1 : RepL Z us (xs.map fun a => D.str (S a))) (h2 : RepL Z ws (ys.map fun a => D.str (S a))) (k : Nat) :
    ∀ i : Nat, us.length - i = k → i ≤ us.length → i ≤ ws.length → Meets (Builtin.«list.__eq__.loop» ⟨[.ref l, .ref b, rawInt i, rawInt 4], []⟩)
      (fun A R s => s.heap.get? l = some (lst us n) ∧ s.heap.get? b = some (lst ws n2) ∧ R (.ok (.ret (.bool (ltL (ys.drop i) (xs.drop i))))) s) := by
  have l1 := h1.length; have l2 := h2.length
  simp only [List.length_map] at l1 l2
  induction k with
  | zero =>
    intro i hk hiu hiw prog w A R s h
    obtain ⟨hp, g, d, tk, os⟩ := s; obtain ⟨hl, hb, h⟩ := h
    wp_walk using wpAny_loadPart' hl, wpAny_loadPart' hb
    have hi1 : us.toArray[((i : Nat) : Int).toNat]? = none := by simp; lia
    rw [hi1]
    have hx : xs.drop i = [] := List.drop_eq_nil_iff.mpr (by lia)
    wp_walk using wpAny_loadPart' hl, wpAny_loadPart' hb
    show R (.ok (.ret (.bool (decide (us.toArray.size > ws.toArray.size))))) _
    have e : ltL (ys.drop i) (xs.drop i) = decide (us.toArray.size > ws.toArray.size) := by
      rw [hx]
      simp only [List.size_toArray]
      have hf : decide (us.length > ws.length) = false := decide_eq_false (by lia)
      rw [hf]
      cases hy : ys.drop i <;> rfl
    rw [← e]; exact h
  | succ k ih =>
    intro i hk hiu hiw prog w A R s h
    obtain ⟨hp, g, d, tk, os⟩ := s; obtain ⟨hl, hb, h⟩ := h
    have hi : i < us.toArray.size := by simp; lia
    have hi1 : us.toArray[((i : Nat) : Int).toNat]? = some us.toArray[i] := by simp [hi]
    refine cps fun PP kk => ?_
    obtain ⟨x, t, ex, eu⟩ := at_item h1 hi
    refine kk ?_
    clear kk PP
    have hc : ((i : Int) + 1) = ((i + 1 : Nat) : Int) := by push_cast; rfl
    wp_walk using wpAny_loadPart' hl, wpAny_loadPart' hb
    rw [hi1]
    rw [ex] at h
    rcases Nat.lt_or_ge i ws.toArray.size with hj | hj
    · have hj1 : ws.toArray[((i : Nat) : Int).toNat]? = some ws.toArray[i] := by simp [hj]
      refine cps fun PP kk => ?_
      obtain ⟨y, t2, ey, ew⟩ := at_item h2 hj
      refine kk ?_
      clear kk PP
      rw [hj1]
      rw [ey] at h
      have he := (EqKind.str (A := A.in1) (s := ⟨hp, g, d, tk, os⟩) (Z := Z)).eq (.str (S x) t) (.str (S y) t2) x y (.str _ _) (.str _ _)
      rw [eu, ew]
      refine wpAny_bind (he prog w _ _ ?_)
      by_cases hxy : x = y
      · have hl1 : ltL (y :: ys.drop (i + 1)) (x :: xs.drop (i + 1)) = ltL (ys.drop (i + 1)) (xs.drop (i + 1)) := by rw [ltL_cons, if_pos hxy.symm]
        rw [hl1] at h
        rw [decide_eq_true hxy]
        wp_walk
        rw [hc]
        exact ⟨plainId_quiet plain_eq_loop _, codeAny_builtin entry_eq_loop (by
          rw [Around.under_plainId plain_eq_loop _]
          exact ih (i + 1) (by lia) (by simp at hi; lia) (by simp at hj; lia) prog w A R _ ⟨hl, hb, h⟩)⟩
      · have hl1 : ltL (y :: ys.drop (i + 1)) (x :: xs.drop (i + 1)) = decide (y < x) := by rw [ltL_cons, if_neg (Ne.symm hxy)]
        rw [hl1] at h
        rw [decide_eq_false hxy]
        wp_walk using wpAny_loadPart' hl, wpAny_loadPart' hb
        rw [hi1, hj1, eu, ew]
        refine wpAny_bind (show wpAny _ _ (compareOp .Gt _ _) _ _ _ from P.gt_str ?_)
        wp_walk
        exact h
    · have hj1 : ws.toArray[((i : Nat) : Int).toNat]? = none := by simp at hj ⊢; lia
      rw [hj1]
      wp_walk using wpAny_loadPart' hl, wpAny_loadPart' hb
      show R (.ok (.ret (.bool (decide (us.toArray.size > ws.toArray.size))))) _
      have e : ltL (ys.drop i) (x :: xs.drop (i + 1)) = decide (us.toArray.size > ws.toArray.size) := by
        simp only [List.size_toArray] at hi hj ⊢
        have hy : ys.drop i = [] := List.drop_eq_nil_iff.mpr (by lia)
        have hf : decide (us.length > ws.length) = true := decide_eq_true (by lia)
        rw [hy, hf]; rfl
      rw [← e]; exact h
theorem gt_list (l b : Addr) (us ws : List Value) (n n2 : Nat) (xs ys : List (List Nat)) (h1 : RepL Z us (xs.map fun a => D.str (S a))) (h2 : RepL Z ws (ys.map fun a => D.str (S a))) :
    Meets (Builtin.«list.__gt__» ⟨[.ref l, .ref b], []⟩)
      (fun A R s => s.heap.get? l = some (lst us n) ∧ s.heap.get? b = some (lst ws n2) ∧ R (.ok (.ret (.bool (ltL ys xs)))) s) := by
  intro prog w A R s h
  obtain ⟨hp, g, d, tk, os⟩ := s; obtain ⟨hl, hb, h⟩ := h
  have f3 := AutoSeq1.sub_list_list
  wp_walk using wpAny_loadPart' hl, wpAny_loadPart' hb
  exact ⟨plainId_quiet plain_eq_loop _, codeAny_builtin entry_eq_loop (by
    rw [Around.under_plainId plain_eq_loop _]
    exact gt_loop l b us ws n n2 xs ys h1 h2 _ 0 rfl (Nat.zero_le _) (Nat.zero_le _) prog w A R _ ⟨hl, hb, h⟩)⟩
end
section
variable {prog : Program} {w : World} {A : Around} {R : Result → Shared → Prop} {s : Shared} {I a S : Addr} {items : Array Value} {i : Nat} {v vb : Value} {b : Bool} {c : Nat}
theorem max_step (hSI : S ≠ I) (haI : a ≠ I) (haS : a ≠ S) (hit : s.heap.IsListIter I a i) (hl : s.heap.IsList a items) (hv : items[i]? = some v) (hS : s.heap.get? S = some (lst [vb, vb] c))
    (cmp : ∀ h' (Q : Value → Shared → Prop) (E : Value → Shared → Prop), (∀ b o, b ≠ I → s.heap.get? b = some o → h'.get? b = some o) → Q (.bool b) { s with heap := h' } → wpAny (model prog w) A.in1 (richCompare .Gt v vb) Q E { s with heap := h' })
    (next : ∀ h' c, h'.IsListIter I a (i + 1) → (∀ b o, b ≠ I → b ≠ S → s.heap.get? b = some o → h'.get? b = some o) → h'.get? S = some (lst [if b then v else vb, if b then v else vb] c) → codeAny (model prog w) A (.builtin "max.loop" ⟨[.ref I, .none, .ref S], []⟩) R { s with heap := h' }) :
    codeAny (model prog w) A (.builtin "max.loop" ⟨[.ref I, .none, .ref S], []⟩) R s := by
  have hname : (toString "max" ++ toString ".loop" : String) = "max.loop" := by decide
  refine codeAny_builtin F.entry_max_loop ?_
  rw [Around.under_plainId F.plain_max_loop _]
  show wpAny _ A.in1 (seqItems? (.ref S) >>= _) _ _ s
  refine wpAny_bind (wpAny_seqItems hS rfl ?_)
  show wpAny _ A.in1 (tryCatch (pyNext (.ref I)) _ >>= _) _ _ s
  refine wpAny_bind (wpAny_tryCatch (wpAny_pyNext_list_item hit hl hv fun h' hit' hs' => ?_))
  have ext : ∀ b o, b ≠ I → s.heap.get? b = some o → h'.get? b = some o := fun b o hb e => hs'.extBut b o hb e
  have hS' := ext S _ hSI hS
  show wpAny _ A.in1 (tryCatch (holding [v, v] (richCompare .Gt v vb >>= _)) _ >>= _) _ _ _
  refine wpAny_bind (wpAny_tryCatch (wpAny_holding (wpAny_bind (cmp h' _ _ ext ?_))))
  refine wpAny_bind (wpAny_holding (wpAny_truthy_bool ?_))
  refine wpAny_bind (wpAny_letGo (wpAny_pure ?_))
  cases b with
  | true =>
    simp only [if_true] at next ⊢
    refine wpAny_bind ?_
    refine wpAny_updateSeq hS' rfl (wpAny_bind (wpAny_letGo ?_))
    rw [hname]
    exact wpAny_pure ⟨plainId_quiet F.plain_max_loop _, next _ _ (hit'.at fun o e => (Heap.get?_update_other _ _ hSI).trans e) (fun b o hbI hbS e => (Heap.get?_update_other _ _ (Ne.symm hbS)).trans (ext b o hbI e)) (Heap.get?_update_self _ hS' rfl)⟩
  | false =>
    simp only [Bool.false_eq_true, if_false] at next ⊢
    refine wpAny_bind (wpAny_letGo ?_)
    rw [hname]
    exact wpAny_pure ⟨plainId_quiet F.plain_max_loop _, next _ _ hit' (fun b o hbI hbS e => ext b o hbI e) hS'⟩
theorem max_first (hSI : S ≠ I) (haI : a ≠ I) (haS : a ≠ S) (hit : s.heap.IsListIter I a i) (hl : s.heap.IsList a items) (hv : items[i]? = some v) (hS : s.heap.get? S = some (lst [] c))
    (next : ∀ h' c, h'.IsListIter I a (i + 1) → (∀ b o, b ≠ I → b ≠ S → s.heap.get? b = some o → h'.get? b = some o) → h'.get? S = some (lst [v, v] c) → codeAny (model prog w) A (.builtin "max.loop" ⟨[.ref I, .none, .ref S], []⟩) R { s with heap := h' }) :
    codeAny (model prog w) A (.builtin "max.loop" ⟨[.ref I, .none, .ref S], []⟩) R s := by
  have hname : (toString "max" ++ toString ".loop" : String) = "max.loop" := by decide
  refine codeAny_builtin F.entry_max_loop ?_
  rw [Around.under_plainId F.plain_max_loop _]
  show wpAny _ A.in1 (seqItems? (.ref S) >>= _) _ _ s
  refine wpAny_bind (wpAny_seqItems hS rfl ?_)
  show wpAny _ A.in1 (tryCatch (pyNext (.ref I)) _ >>= _) _ _ s
  refine wpAny_bind (wpAny_tryCatch (wpAny_pyNext_list_item hit hl hv fun h' hit' hs' => ?_))
  have ext : ∀ b o, b ≠ I → s.heap.get? b = some o → h'.get? b = some o := fun b o hb e => hs'.extBut b o hb e
  have hS' := ext S _ hSI hS
  show wpAny _ A.in1 (updateSeq S (fun xx => #[v, v]) >>= _) _ _ _
  refine wpAny_bind ?_
  refine wpAny_updateSeq hS' rfl ?_
  rw [hname]
  exact wpAny_pure ⟨plainId_quiet F.plain_max_loop _, next _ _ (hit'.at fun o e => (Heap.get?_update_other _ _ hSI).trans e) (fun b o hbI hbS e => (Heap.get?_update_other _ _ (Ne.symm hbS)).trans (ext b o hbI e)) (Heap.get?_update_self _ hS' rfl)⟩
theorem max_last (hh : A.handled = none) (hSI : S ≠ I) (hit : s.heap.IsListIter I a i) (hl : s.heap.IsList a items) (hv : items[i]? = none) (hS : s.heap.get? S = some (lst [vb, vb] c))
    (hR : ∀ h', (∀ b o, b ≠ I → b ≠ S → s.heap.get? b = some o → h'.get? b = some o) → R (.ok (.ret vb)) { s with heap := h' }) :
    codeAny (model prog w) A (.builtin "max.loop" ⟨[.ref I, .none, .ref S], []⟩) R s := by
  refine codeAny_builtin F.entry_max_loop ?_
  rw [Around.under_plainId F.plain_max_loop _]
  show wpAny _ A.in1 (seqItems? (.ref S) >>= _) _ _ s
  refine wpAny_bind (wpAny_seqItems hS rfl ?_)
  show wpAny _ A.in1 (tryCatch (pyNext (.ref I)) _ >>= _) _ _ s
  refine wpAny_bind (wpAny_tryCatch (wpAny_pyNext_list_end hh hit hl hv fun h' hs' => ?_))
  have ext : ∀ b o, b ≠ I → s.heap.get? b = some o → h'.get? b = some o := fun b o hb e => hs' b o hb e
  have hS' := ext S _ hSI hS
  show wpAny _ A.in1 (updateSeq S (fun xx => #[]) >>= _) _ _ _
  refine wpAny_bind ?_
  refine wpAny_updateSeq hS' rfl (wpAny_bind (wpAny_letGo (wpAny_pure ?_)))
  exact hR _ fun b o hbI hbS e => (Heap.get?_update_other _ _ (Ne.symm hbS)).trans (ext b o hbI e)
end
section
variable {g : Gx}
theorem Fn.max2 {p q : List (List Nat)} : Fn g 1 (.builtin "max") [.list [.list (p.map fun a => .str (S a)), .list (q.map fun a => .str (S a))]] (.list ((if ltL p q then q else p).map fun a => .str (S a))) := fun A s X vs hr ok hv E => by
  refine cps fun PP kk => ?_
  obtain ⟨x, rfl, r⟩ := hv.one'
  obtain ⟨a, us, n, rfl, hz, hrl⟩ := r.of_list
  obtain ⟨v1, v2, rfl, r1, r2⟩ := hrl.two'
  obtain ⟨a1, u1, n1, rfl, z1, l1⟩ := r1.of_list
  obtain ⟨a2, u2, n2, rfl, z2, l2⟩ := r2.of_list
  refine kk ?_
  clear kk PP
  have ha := (Zof.get hz).1
  have hl : s.heap.IsList a #[.ref a1, .ref a2] := ⟨_, ha, rfl, n, rfl⟩
  have g1 := (Zof.get z1).1
  have g2 := (Zof.get z2).1
  have hu := hr.units
  have hname : (toString "max" ++ toString ".loop" : String) = "max.loop" := by decide
  refine call_function_tree F.kind_max F.plain_max F.entry_max (F.args_max1 _) ?_
  show wpAny _ A.in1 (Builtin.Builtins.bindParams "max" ["key", "default"] 0 ⟨[], []⟩ >>= _) _ _ s
  refine wpAny_bind (wpAny_of_eq (show Builtin.Builtins.bindParams "max" ["key", "default"] 0 ⟨[], []⟩ = pure [none, none] from rfl) ?_)
  refine wpAny_bind (wpAny_pure ?_)
  refine wpAny_bind (wpAny_pyIter_list hl ?_)
  refine wpAny_bind (wpAny_newObj_type ?_)
  rw [hname]
  have lt1 := Heap.lt_size ha
  have hsz : ∀ o : Obj, (s.heap.push o).objs.size = s.heap.objs.size + 1 := fun o => Heap.size_push ..
  have k1 : ∀ b o, s.heap.get? b = some o → b < s.heap.objs.size := fun b o e => Heap.lt_size e
  refine wpAny_pure ⟨plainId_quiet F.plain_max_loop _, ?_⟩
  have nI : s.heap.get? s.heap.objs.size = none := fresh_none
  have neI : ∀ {b o}, s.heap.get? b = some o → b ≠ s.heap.objs.size := fun e q => by rw [q, nI] at e; cases e
  have neS : ∀ {b o} {ob : Obj}, s.heap.get? b = some o → b ≠ (s.heap.push ob).objs.size := fun {b o ob} e q => by have h5 := k1 _ _ e; rw [q, hsz] at h5; exact Nat.lt_irrefl _ (Nat.lt_trans (Nat.lt_succ_self _) h5)
  have up : ∀ {b o} {o1 o2 : Obj}, s.heap.get? b = some o → ((s.heap.push o1).push o2).get? b = some o := fun e => Heap.get?_push_of_some _ (Heap.get?_push_of_some _ e)
  have hSI : ∀ ob : Obj, (s.heap.push ob).objs.size ≠ s.heap.objs.size := fun ob => by rw [hsz]; lia
  refine max_first (I := s.heap.objs.size) (a := a) (i := 0) (items := #[.ref a1, .ref a2]) (v := .ref a1) (c := 0) (hSI _) (neI ha) (neS ha) ⟨_, Heap.get?_push_of_some _ (Heap.get?_push_size _ rfl), rfl, rfl⟩ ((hl.push _).push _) rfl (Heap.get?_push_size _ rfl) fun h1 c1 it1 e1 s1 => ?_
  have w1 : ∀ {b o}, s.heap.get? b = some o → h1.get? b = some o := fun e => e1 _ _ (neI e) (neS e) (up e)
  refine max_step (I := s.heap.objs.size) (a := a) (i := 1) (items := #[.ref a1, .ref a2]) (v := .ref a2) (vb := .ref a1) (b := ltL p q) (c := c1) (hSI _) (neI ha) (neS ha) it1 ⟨_, w1 ha, rfl, n, rfl⟩ rfl s1 (fun h' Q E hk hQ => ?_) fun h2 c2 it2 e2 s2 => ?_
  · have w2 : ∀ {b o}, s.heap.get? b = some o → h'.get? b = some o := fun e => hk _ _ (neI e) (w1 e)
    exact richCompare_meets_room (op := .Gt) ⟨_, w2 g2, rfl⟩ ⟨_, w2 g1, rfl⟩ F.slot_list_gt F.entry_list_gt (F.args_list_gt_2 _ _) (Mine.gt_list a2 a1 u2 u1 n2 n1 q p l2 l1) ⟨w2 g2, w2 g1, (fun x => nomatch x), hQ⟩ (by show A.units + 1 < _; lia)
  have w3 : ∀ {b o}, s.heap.get? b = some o → h2.get? b = some o := fun e => e2 _ _ (neI e) (neS e) (w1 e)
  refine max_last (I := s.heap.objs.size) (a := a) (i := 2) (items := #[.ref a1, .ref a2]) (c := c2) hr.handled (hSI _) it2 ⟨_, w3 ha, rfl, n, rfl⟩ rfl s2 fun h3 e3 => ?_
  have w4 : ∀ b o, s.heap.get? b = some o → h3.get? b = some o := fun b o e => e3 _ _ (neI e) (neS e) (w3 e)
  refine ⟨keeps_heap' w4, ?_⟩
  have hz3 : Le (Zof s.heap X) (Zof h3 X) := Zof.le w4
  split
  · exact r2.mono hz3
  · exact r1.mono hz3
end
section
variable {prog : Program} {w : World} {A : Around} {R : Result → Shared → Prop} {s : Shared} {I a S : Addr} {items : Array Value} {i : Nat} {v vb : Value} {b : Bool} {c : Nat}
theorem min_step (hSI : S ≠ I) (haI : a ≠ I) (haS : a ≠ S) (hit : s.heap.IsListIter I a i) (hl : s.heap.IsList a items) (hv : items[i]? = some v) (hS : s.heap.get? S = some (lst [vb, vb] c))
    (cmp : ∀ h' (Q : Value → Shared → Prop) (E : Value → Shared → Prop), (∀ b o, b ≠ I → s.heap.get? b = some o → h'.get? b = some o) → Q (.bool b) { s with heap := h' } → wpAny (model prog w) A.in1 (richCompare .Lt v vb) Q E { s with heap := h' })
    (next : ∀ h' c, h'.IsListIter I a (i + 1) → (∀ b o, b ≠ I → b ≠ S → s.heap.get? b = some o → h'.get? b = some o) → h'.get? S = some (lst [if b then v else vb, if b then v else vb] c) → codeAny (model prog w) A (.builtin "min.loop" ⟨[.ref I, .none, .ref S], []⟩) R { s with heap := h' }) :
    codeAny (model prog w) A (.builtin "min.loop" ⟨[.ref I, .none, .ref S], []⟩) R s := by
  have hname : (toString "min" ++ toString ".loop" : String) = "min.loop" := by decide
  refine codeAny_builtin F.entry_min_loop ?_
  rw [Around.under_plainId F.plain_min_loop _]
  show wpAny _ A.in1 (seqItems? (.ref S) >>= _) _ _ s
  refine wpAny_bind (wpAny_seqItems hS rfl ?_)
  show wpAny _ A.in1 (tryCatch (pyNext (.ref I)) _ >>= _) _ _ s
  refine wpAny_bind (wpAny_tryCatch (wpAny_pyNext_list_item hit hl hv fun h' hit' hs' => ?_))
  have ext : ∀ b o, b ≠ I → s.heap.get? b = some o → h'.get? b = some o := fun b o hb e => hs'.extBut b o hb e
  have hS' := ext S _ hSI hS
  show wpAny _ A.in1 (tryCatch (holding [v, v] (richCompare .Lt v vb >>= _)) _ >>= _) _ _ _
  refine wpAny_bind (wpAny_tryCatch (wpAny_holding (wpAny_bind (cmp h' _ _ ext ?_))))
  refine wpAny_bind (wpAny_holding (wpAny_truthy_bool ?_))
  refine wpAny_bind (wpAny_letGo (wpAny_pure ?_))
  cases b with
  | true =>
    simp only [if_true] at next ⊢
    refine wpAny_bind ?_
    refine wpAny_updateSeq hS' rfl (wpAny_bind (wpAny_letGo ?_))
    rw [hname]
    exact wpAny_pure ⟨plainId_quiet F.plain_min_loop _, next _ _ (hit'.at fun o e => (Heap.get?_update_other _ _ hSI).trans e) (fun b o hbI hbS e => (Heap.get?_update_other _ _ (Ne.symm hbS)).trans (ext b o hbI e)) (Heap.get?_update_self _ hS' rfl)⟩
  | false =>
    simp only [Bool.false_eq_true, if_false] at next ⊢
    refine wpAny_bind (wpAny_letGo ?_)
    rw [hname]
    exact wpAny_pure ⟨plainId_quiet F.plain_min_loop _, next _ _ hit' (fun b o hbI hbS e => ext b o hbI e) hS'⟩
theorem min_first (hSI : S ≠ I) (haI : a ≠ I) (haS : a ≠ S) (hit : s.heap.IsListIter I a i) (hl : s.heap.IsList a items) (hv : items[i]? = some v) (hS : s.heap.get? S = some (lst [] c))
    (next : ∀ h' c, h'.IsListIter I a (i + 1) → (∀ b o, b ≠ I → b ≠ S → s.heap.get? b = some o → h'.get? b = some o) → h'.get? S = some (lst [v, v] c) → codeAny (model prog w) A (.builtin "min.loop" ⟨[.ref I, .none, .ref S], []⟩) R { s with heap := h' }) :
    codeAny (model prog w) A (.builtin "min.loop" ⟨[.ref I, .none, .ref S], []⟩) R s := by
  have hname : (toString "min" ++ toString ".loop" : String) = "min.loop" := by decide
  refine codeAny_builtin F.entry_min_loop ?_
  rw [Around.under_plainId F.plain_min_loop _]
  show wpAny _ A.in1 (seqItems? (.ref S) >>= _) _ _ s
  refine wpAny_bind (wpAny_seqItems hS rfl ?_)
  show wpAny _ A.in1 (tryCatch (pyNext (.ref I)) _ >>= _) _ _ s
  refine wpAny_bind (wpAny_tryCatch (wpAny_pyNext_list_item hit hl hv fun h' hit' hs' => ?_))
  have ext : ∀ b o, b ≠ I → s.heap.get? b = some o → h'.get? b = some o := fun b o hb e => hs'.extBut b o hb e
  have hS' := ext S _ hSI hS
  show wpAny _ A.in1 (updateSeq S (fun xx => #[v, v]) >>= _) _ _ _
  refine wpAny_bind ?_
  refine wpAny_updateSeq hS' rfl ?_
  rw [hname]
  exact wpAny_pure ⟨plainId_quiet F.plain_min_loop _, next _ _ (hit'.at fun o e => (Heap.get?_update_other _ _ hSI).trans e) (fun b o hbI hbS e => (Heap.get?_update_other _ _ (Ne.symm hbS)).trans (ext b o hbI e)) (Heap.get?_update_self _ hS' rfl)⟩
theorem min_last (hh : A.handled = none) (hSI : S ≠ I) (hit : s.heap.IsListIter I a i) (hl : s.heap.IsList a items) (hv : items[i]? = none) (hS : s.heap.get? S = some (lst [vb, vb] c))
    (hR : ∀ h', (∀ b o, b ≠ I → b ≠ S → s.heap.get? b = some o → h'.get? b = some o) → R (.ok (.ret vb)) { s with heap := h' }) :
    codeAny (model prog w) A (.builtin "min.loop" ⟨[.ref I, .none, .ref S], []⟩) R s := by
  refine codeAny_builtin F.entry_min_loop ?_
  rw [Around.under_plainId F.plain_min_loop _]
  show wpAny _ A.in1 (seqItems? (.ref S) >>= _) _ _ s
  refine wpAny_bind (wpAny_seqItems hS rfl ?_)
  show wpAny _ A.in1 (tryCatch (pyNext (.ref I)) _ >>= _) _ _ s
  refine wpAny_bind (wpAny_tryCatch (wpAny_pyNext_list_end hh hit hl hv fun h' hs' => ?_))
  have ext : ∀ b o, b ≠ I → s.heap.get? b = some o → h'.get? b = some o := fun b o hb e => hs' b o hb e
  have hS' := ext S _ hSI hS
  show wpAny _ A.in1 (updateSeq S (fun xx => #[]) >>= _) _ _ _
  refine wpAny_bind ?_
  refine wpAny_updateSeq hS' rfl (wpAny_bind (wpAny_letGo (wpAny_pure ?_)))
  exact hR _ fun b o hbI hbS e => (Heap.get?_update_other _ _ (Ne.symm hbS)).trans (ext b o hbI e)
end
section
variable {g : Gx}
theorem Fn.min2 {p q : List (List Nat)} : Fn g 1 (.builtin "min") [.list [.list (p.map fun a => .str (S a)), .list (q.map fun a => .str (S a))]] (.list ((if ltL q p then q else p).map fun a => .str (S a))) := fun A s X vs hr ok hv E => by
  refine cps fun PP kk => ?_
  obtain ⟨x, rfl, r⟩ := hv.one'
  obtain ⟨a, us, n, rfl, hz, hrl⟩ := r.of_list
  obtain ⟨v1, v2, rfl, r1, r2⟩ := hrl.two'
  obtain ⟨a1, u1, n1, rfl, z1, l1⟩ := r1.of_list
  obtain ⟨a2, u2, n2, rfl, z2, l2⟩ := r2.of_list
  refine kk ?_
  clear kk PP
  have ha := (Zof.get hz).1
  have hl : s.heap.IsList a #[.ref a1, .ref a2] := ⟨_, ha, rfl, n, rfl⟩
  have g1 := (Zof.get z1).1
  have g2 := (Zof.get z2).1
  have hu := hr.units
  have hname : (toString "min" ++ toString ".loop" : String) = "min.loop" := by decide
  refine call_function_tree F.kind_min F.plain_min F.entry_min (F.args_min1 _) ?_
  show wpAny _ A.in1 (Builtin.Builtins.bindParams "min" ["key", "default"] 0 ⟨[], []⟩ >>= _) _ _ s
  refine wpAny_bind (wpAny_of_eq (show Builtin.Builtins.bindParams "min" ["key", "default"] 0 ⟨[], []⟩ = pure [none, none] from rfl) ?_)
  refine wpAny_bind (wpAny_pure ?_)
  refine wpAny_bind (wpAny_pyIter_list hl ?_)
  refine wpAny_bind (wpAny_newObj_type ?_)
  rw [hname]
  have lt1 := Heap.lt_size ha
  have hsz : ∀ o : Obj, (s.heap.push o).objs.size = s.heap.objs.size + 1 := fun o => Heap.size_push ..
  have k1 : ∀ b o, s.heap.get? b = some o → b < s.heap.objs.size := fun b o e => Heap.lt_size e
  refine wpAny_pure ⟨plainId_quiet F.plain_min_loop _, ?_⟩
  have nI : s.heap.get? s.heap.objs.size = none := fresh_none
  have neI : ∀ {b o}, s.heap.get? b = some o → b ≠ s.heap.objs.size := fun e q => by rw [q, nI] at e; cases e
  have neS : ∀ {b o} {ob : Obj}, s.heap.get? b = some o → b ≠ (s.heap.push ob).objs.size := fun {b o ob} e q => by have h5 := k1 _ _ e; rw [q, hsz] at h5; exact Nat.lt_irrefl _ (Nat.lt_trans (Nat.lt_succ_self _) h5)
  have up : ∀ {b o} {o1 o2 : Obj}, s.heap.get? b = some o → ((s.heap.push o1).push o2).get? b = some o := fun e => Heap.get?_push_of_some _ (Heap.get?_push_of_some _ e)
  have hSI : ∀ ob : Obj, (s.heap.push ob).objs.size ≠ s.heap.objs.size := fun ob => by rw [hsz]; lia
  refine min_first (I := s.heap.objs.size) (a := a) (i := 0) (items := #[.ref a1, .ref a2]) (v := .ref a1) (c := 0) (hSI _) (neI ha) (neS ha) ⟨_, Heap.get?_push_of_some _ (Heap.get?_push_size _ rfl), rfl, rfl⟩ ((hl.push _).push _) rfl (Heap.get?_push_size _ rfl) fun h1 c1 it1 e1 s1 => ?_
  have w1 : ∀ {b o}, s.heap.get? b = some o → h1.get? b = some o := fun e => e1 _ _ (neI e) (neS e) (up e)
  refine min_step (I := s.heap.objs.size) (a := a) (i := 1) (items := #[.ref a1, .ref a2]) (v := .ref a2) (vb := .ref a1) (b := ltL q p) (c := c1) (hSI _) (neI ha) (neS ha) it1 ⟨_, w1 ha, rfl, n, rfl⟩ rfl s1 (fun h' Q E hk hQ => ?_) fun h2 c2 it2 e2 s2 => ?_
  · have w2 : ∀ {b o}, s.heap.get? b = some o → h'.get? b = some o := fun e => hk _ _ (neI e) (w1 e)
    exact richCompare_meets_room (op := .Lt) ⟨_, w2 g2, rfl⟩ ⟨_, w2 g1, rfl⟩ F.slot_list_lt F.entry_list_lt (F.args_list_lt_2 _ _) (Mine.lt_list a2 a1 u2 u1 n2 n1 q p l2 l1) ⟨w2 g2, w2 g1, (fun x => nomatch x), hQ⟩ (by show A.units + 1 < _; lia)
  have w3 : ∀ {b o}, s.heap.get? b = some o → h2.get? b = some o := fun e => e2 _ _ (neI e) (neS e) (w1 e)
  refine min_last (I := s.heap.objs.size) (a := a) (i := 2) (items := #[.ref a1, .ref a2]) (c := c2) hr.handled (hSI _) it2 ⟨_, w3 ha, rfl, n, rfl⟩ rfl s2 fun h3 e3 => ?_
  have w4 : ∀ b o, s.heap.get? b = some o → h3.get? b = some o := fun b o e => e3 _ _ (neI e) (neS e) (w3 e)
  refine ⟨keeps_heap' w4, ?_⟩
  have hz3 : Le (Zof s.heap X) (Zof h3 X) := Zof.le w4
  split
  · exact r2.mono hz3
  · exact r1.mono hz3
end
end Mine
end
section
set_option Elab.async false
set_option tactic.hygienic false
set_option maxRecDepth 100000
set_option linter.unusedVariables false
namespace Mine
open PySem PySem.W PySem.Calls PyProof.Rows

inductive Mv (wr : List Addr) (s s' : Shared) : Prop
  | intro (h' : Heap) (tk : Nat) (gs : _) (e : s' = { s with heap := h', toks := tk, gens := gs }) (k : ∀ b o, b ∉ wr → s.heap.get? b = some o → h'.get? b = some o) (t : s.toks ≤ tk) (g : AllBare s.gens → AllBare gs)
section
variable {wr wr' : List Addr} {s s' s'' : Shared}
theorem Mv.trans (x : Mv wr s s') (y : Mv wr s' s'') : Mv wr s s'' := by
  obtain ⟨h1, t1, g1, rfl, k1, n1, b1⟩ := x
  obtain ⟨h2, t2, g2, rfl, k2, n2, b2⟩ := y
  exact ⟨h2, t2, g2, rfl, fun b o hb e => k2 b o hb (k1 b o hb e), Nat.le_trans n1 n2, fun q => b2 (b1 q)⟩
theorem Mv.more (x : Mv wr s s') (h : ∀ b ∈ wr, b ∈ wr') : Mv wr' s s' := by
  obtain ⟨h1, t1, g1, rfl, k1, n1, b1⟩ := x
  exact ⟨h1, t1, g1, rfl, fun b o hb e => k1 b o (fun q => hb (h b q)) e, n1, b1⟩
theorem Mv.heap (x : Mv wr s s') {b : Addr} {o : Obj} (hb : b ∉ wr) (e : s.heap.get? b = some o) : s'.heap.get? b = some o := by
  obtain ⟨h1, t1, g1, rfl, k1, n1, b1⟩ := x; exact k1 b o hb e
theorem Mv.ofHeap {h' : Heap} {tk : Nat} (k : ∀ b o, b ∉ wr → s.heap.get? b = some o → h'.get? b = some o) (hn : s.toks ≤ tk) : Mv wr s { s with heap := h', toks := tk } := ⟨h', tk, s.gens, rfl, k, hn, id⟩
theorem Mv.le {X : List Addr} (x : Mv wr s s') : Le (Zof s.heap (wr ++ X)) (Zof s'.heap (wr ++ X)) := fun a o e => by
  obtain ⟨e1, e2⟩ := Zof.get e
  exact Zof.of (x.heap (fun q => e2 (List.mem_append.mpr (.inl q))) e1) e2
end

structure Ck (M : Model) (A : Around) (T : String) (I : Addr) (fp wr X : List Addr) (items : List D) (St : Nat → Shared → Prop) : Prop where
  sub : ∀ b ∈ wr, b ∈ fp
  mem : I ∈ fp
  ty : ∀ i s, St i s → s.TypeIs (.ref I) T
  frame : ∀ i (s : Shared) h' tk, St i s → s.toks ≤ tk → (∀ b ∈ fp, ∀ o, s.heap.get? b = some o → h'.get? b = some o) → (∀ a o, Zof s.heap (wr ++ X) a = some o → Zof h' (wr ++ X) a = some o) → (∀ a ∈ X, (∃ o, s.heap.get? a = some o) → ∃ o, h'.get? a = some o) → St i { s with heap := h', toks := tk }
  item : ∀ i (s : Shared) (Q : Option Value → Shared → Prop) (E : Value → Shared → Prop) d, items[i]? = some d → St i s →
    (∀ v s', Mv wr s s' → Rep (Zof s'.heap (wr ++ X)) v d → St (i + 1) s' → Q (some v) s') → wpAny M A (pyNext (.ref I)) Q E s
  done : ∀ (s : Shared) (Q : Option Value → Shared → Prop) (E : Value → Shared → Prop), St items.length s → (∀ s', Mv wr s s' → Q none s') → wpAny M A (pyNext (.ref I)) Q E s
  self : ∀ i (s : Shared) (Q : Value → Shared → Prop) (E : Value → Shared → Prop), St i s → Q (.ref I) s → wpAny M A (pyIter (.ref I)) Q E s

section
variable {prog : Program} {w : World} {A : Around} {R : Result → Shared → Prop} {T : String} {I S : Addr} {fp wr X : List Addr} {items : List D} {St : Nat → Shared → Prop} {E : Value → Shared → Prop}
theorem own_upd {s : Shared} {S : Addr} {f : Obj → Obj} (hSX : S ∈ X) : (∀ a o, Zof s.heap (wr ++ X) a = some o → Zof (s.heap.update S f) (wr ++ X) a = some o) := fun a o e => by
  obtain ⟨e1, e2⟩ := Zof.get e
  have hne : S ≠ a := fun q => e2 (List.mem_append.mpr (.inr (q ▸ hSX)))
  exact Zof.of ((Heap.get?_update_other _ _ hne).trans e1) e2
theorem alive_upd {s : Shared} {S : Addr} {f : Obj → Obj} {o' : Obj} (hS : (s.heap.update S f).get? S = some o') : ∀ a ∈ X, (∃ o, s.heap.get? a = some o) → ∃ o, (s.heap.update S f).get? a = some o := fun a _ hqz => by
  obtain ⟨o, e⟩ := hqz
  by_cases q : S = a
  · subst q; exact ⟨_, hS⟩
  · exact ⟨o, (Heap.get?_update_other _ _ q).trans e⟩
theorem extend_loop (W : Ck (model prog w) A.in1 T I fp wr X items St) (hn : items.length ≤ sizeLine) (hSf : S ∉ fp) (hSX : S ∈ X) (res : Value) :
    ∀ (k i : Nat) (s : Shared) (acc : List Value) (c : Nat), items.length - i = k → i ≤ items.length → St i s → s.heap.get? S = some (lst acc c) → RepL (Zof s.heap (wr ++ X)) acc (items.take i) →
    (∀ s' acc' c', Mv (S :: wr) s s' → s'.heap.get? S = some (lst acc' c') → RepL (Zof s'.heap (wr ++ X)) acc' items → R (.ok (.ret res)) s') →
    codeAny (model prog w) A (.builtin "list.extend.loop" ⟨[.ref S, .ref I, res], []⟩) R s := by
  have hSw : S ∉ wr := fun h => hSf (W.sub _ h)
  have hsub : ∀ b ∈ wr, b ∈ S :: wr := fun b hb => List.mem_cons_of_mem _ hb
  intro k
  induction k with
  | zero =>
    intro i s acc c hk hi hst hS hacc hR
    have hin : i = items.length := by lia
    subst hin
    refine codeAny_builtin F.entry_extend_loop ?_
    rw [Around.under_plainId F.plain_extend_loop _]
    show wpAny _ A.in1 (pyNext (.ref I) >>= _) _ _ s
    refine wpAny_bind (W.done s _ _ hst fun s' hm => ?_)
    rw [List.take_length] at hacc
    exact wpAny_pure (hR s' acc c (hm.more hsub) (hm.heap hSw hS) (hacc.mono hm.le))
  | succ k ih =>
    intro i s acc c hk hi hst hS hacc hR
    have hlt : i < items.length := by lia
    have hd : items[i]? = some items[i] := List.getElem?_eq_getElem hlt
    have hal : acc.length = i := by rw [hacc.length]; simp; lia
    refine codeAny_builtin F.entry_extend_loop ?_
    rw [Around.under_plainId F.plain_extend_loop _]
    show wpAny _ A.in1 (pyNext (.ref I) >>= _) _ _ s
    refine wpAny_bind (W.item i s _ _ _ hd hst fun v s' hm hr hst' => ?_)
    have hS' := hm.heap hSw hS
    have hS'' : (s'.heap.update S (Obj.mapSeq (·.push v))).get? S = some (lst (acc ++ [v]) (c + 1)) := by
      have := Heap.get?_update_self (Obj.mapSeq (·.push v)) hS' rfl
      rw [this]; simp [Obj.mapSeq, lst]
    show wpAny _ A.in1 (updateSeq S (·.push v) >>= _) _ _ _
    refine wpAny_bind ?_
    have hz := own_upd (wr := wr) (s := s') (f := Obj.mapSeq (·.push v)) hSX
    refine wpAny_updateSeq hS' rfl (wpAny_pure ⟨plainId_quiet F.plain_extend_loop _, ih (i + 1) _ (acc ++ [v]) _ (by lia) hlt (W.frame _ s' _ s'.toks hst' (Nat.le_refl _) (fun b hb o e => (Heap.get?_update_other _ _ (fun h : S = b => hSf (by rw [h]; exact hb))).trans e) hz (alive_upd hS'')) hS'' ?_ fun s'' acc' c' hm'' hS'' hacc' => ?_⟩)
      (by simp; lia) (by simp; lia)
    · rw [List.take_add_one, hd]
      exact ((hacc.mono hm.le).mono hz).append (.one (hr.mono hz))
    · refine hR s'' acc' c' (((hm.more hsub).trans (Mv.ofHeap (fun b o hb e => ?_) (Nat.le_refl _))).trans hm'') hS'' hacc'
      exact (Heap.get?_update_other _ _ (fun h : S = b => hb (by rw [h]; exact List.mem_cons_self))).trans e
theorem extend_with (W : Ck (model prog w) A.in1 T I fp wr X items St) (hlen : typeLookup (.type T) "__len__" = pure none) (hhint : typeLookup (.type T) "__length_hint__" = pure none) (ht1 : (Value.type T == Value.type "list") = false) (ht2 : (Value.type T == Value.type "tuple") = false)
    {s : Shared} {res : Value} {c₀ : Nat} {Q : Fin → Shared → Prop} {E' : Value → Shared → Prop} (hq : ∀ c' s', c'.quiet = true → codeAny (model prog w) A c' R s' → Q (.again c') s') (hn : items.length ≤ sizeLine) (hst : St 0 s) (hSf : S ∉ fp) (hSX : S ∈ X) (hS : s.heap.get? S = some (lst [] c₀))
    (hR : ∀ s' acc' c', Mv (S :: wr) s s' → s'.heap.get? S = some (lst acc' c') → RepL (Zof s'.heap (wr ++ X)) acc' items → R (.ok (.ret res)) s') :
    wpAny (model prog w) A.in1 (Builtin.List.listExtendWith (.ref S) (.ref I) res) Q E' s := by
  have hSI : S ≠ I := fun e => hSf (e ▸ W.mem)
  unfold Builtin.List.listExtendWith
  refine wpAny_bind (wpAny_typeOf (W.ty 0 _ hst) ?_)
  have h1 : Builtin.List.listSameRef (.ref S) (.ref I) = false := by simp [Builtin.List.listSameRef, hSI]
  simp only [h1, ht1, ht2, Bool.or_false, Bool.false_eq_true, if_false]
  refine wpAny_bind (W.self 0 _ _ _ hst ?_)
  refine wpAny_bind (wpAny_holding ?_)
  unfold Builtin.List.listLengthHint
  refine wpAny_bind (wpAny_specialOf (W.ty 0 _ hst) hlen ?_)
  show wpAny _ A.in1 (specialOf (Value.ref I) (Str.ofString "__length_hint__") >>= _) _ _ _
  refine wpAny_bind (wpAny_specialOf (W.ty 0 _ hst) hhint ?_)
  refine wpAny_pure ?_
  have hS₂ : (s.heap.update S (Obj.mapSeq (·.push Value.none))).get? S = some (lst [.none] (c₀ + 1)) := Heap.get?_update_self (Obj.mapSeq (·.push Value.none)) hS rfl
  have hS₃ : ((s.heap.update S (Obj.mapSeq (·.push Value.none))).update S (Obj.mapSeq (·.pop))).get? S = some (lst [] (c₀ + 1 + 1)) := Heap.get?_update_self (Obj.mapSeq (·.pop)) hS₂ rfl
  show wpAny _ A.in1 (rule "list.extend.makes-room" >>= fun xx => Builtin.List.listTouch (.ref S) >>= fun xx =>
    again (.builtin "list.extend.loop" ⟨[.ref S, .ref I, res], []⟩)) _ _ _
  refine wpAny_bind (wpAny_rule ?_)
  refine wpAny_bind ?_
  show wpAny _ A.in1 (updateSeq S (·.push .none) >>= fun xx => updateSeq S (·.pop)) _ _ _
  refine wpAny_bind (wpAny_updateSeq hS rfl ?_)
  refine wpAny_updateSeq (hz := by seq_fits) hS₂ rfl ?_
  have oth : ∀ b o, b ≠ S → s.heap.get? b = some o → ((s.heap.update S (Obj.mapSeq (·.push Value.none))).update S (Obj.mapSeq (·.pop))).get? b = some o :=
    fun b o hb e => (Heap.get?_update_other _ _ (Ne.symm hb)).trans ((Heap.get?_update_other _ _ (Ne.symm hb)).trans e)
  refine wpAny_pure (hq _ _ (plainId_quiet F.plain_extend_loop _) (extend_loop W hn hSf hSX res _ 0 _ [] _ rfl (Nat.zero_le _)
    (W.frame 0 s _ s.toks hst (Nat.le_refl _) (fun b hb o e => oth b o (fun h => hSf (h ▸ hb)) e) (fun a o e => ?_) fun a _ hqz => ?_) hS₃ .nil fun s' acc' c' hm hS' hacc => ?_))
  · obtain ⟨e1, e2⟩ := Zof.get e
    exact Zof.of (oth a o (fun q => e2 (List.mem_append.mpr (.inr (q ▸ hSX)))) e1) e2
  · by_cases q : a = S
    · subst q; exact ⟨_, hS₃⟩
    · exact hqz.elim fun o e => ⟨o, oth a o q e⟩
  · exact hR s' acc' c' ((Mv.ofHeap (fun b o hb e => oth b o (fun h => hb (h ▸ List.mem_cons_self)) e) (Nat.le_refl _)).trans hm) hS' hacc
theorem collect_ck {s : Shared} {Q : List Value → Shared → Prop} (hI : I < s.heap.objs.size) (W : Ck (model prog w) A.in1 T I fp wr (s.heap.objs.size :: X) items St) (hlen : typeLookup (.type T) "__len__" = pure none) (hhint : typeLookup (.type T) "__length_hint__" = pure none) (ht1 : (Value.type T == Value.type "list") = false) (ht2 : (Value.type T == Value.type "tuple") = false)
    (hn : items.length ≤ sizeLine) (hfp : ∀ b ∈ fp, b < s.heap.objs.size) (hst : St 0 { s with heap := s.heap.push { cls := .type "list", data := .seq ([] : List Value).toArray } })
    (hQ : ∀ s' acc, Mv wr s s' → RepL (Zof s'.heap (wr ++ s.heap.objs.size :: X)) acc items → Q acc s') : wpAny (model prog w) A (collect (.ref I)) Q E s := by
  have hSf : s.heap.objs.size ∉ fp := fun hm => Nat.lt_irrefl _ (hfp _ hm)
  unfold collect
  refine wpAny_bind (wpAny_runValue (codeAny_builtin F.entry_proto_collect ?_))
  rw [Around.under_plainId F.plain_proto_collect _]
  show wpAny _ A.in1 (newList [] >>= fun l => again (.builtin "list.__iadd__" ⟨[l, .ref I], []⟩)) _ _ s
  refine wpAny_bind (wpAny_newObj_type ?_)
  refine wpAny_pure ⟨plainId_quiet F.plain_list_iadd _, codeAny_builtin F.entry_list_iadd ?_⟩
  rw [Around.under_plainId F.plain_list_iadd _]
  show wpAny _ A.in1 (Builtin.List.listExtendWith (.ref s.heap.objs.size) (.ref I) (.ref s.heap.objs.size)) _ _ _
  refine extend_with (S := s.heap.objs.size) (X := s.heap.objs.size :: X) W hlen hhint ht1 ht2 (fun c' s' h1 h2 => ⟨h1, h2⟩) hn hst hSf (by simp) (Heap.get?_push_size _ rfl) fun s' acc' c' hm hS' hacc => ?_
  show wpAny _ A (load s.heap.objs.size >>= _) _ _ s'
  refine wpAny_bind (wpAny_load hS' ?_)
  have hm2 : Mv wr s s' := by
    obtain ⟨h1, t1, g1, rfl, k1, n1, b1⟩ := hm
    refine ⟨h1, t1, g1, rfl, fun b o hb e => k1 b o (fun q => ?_) (Heap.get?_push_of_some _ e), n1, b1⟩
    rcases List.mem_cons.mp q with q | q
    · exact Nat.lt_irrefl _ (q ▸ Heap.lt_size e)
    · exact hb q
  exact wpAny_pure (hQ s' _ hm2 (by simpa using hacc))
theorem call_list_ck {s : Shared} {Q : Value → Shared → Prop} (W : Ck (model prog w) A.in1.in1 T I fp wr (s.heap.objs.size :: X) items St) (hlen : typeLookup (.type T) "__len__" = pure none) (hhint : typeLookup (.type T) "__length_hint__" = pure none) (ht1 : (Value.type T == Value.type "list") = false) (ht2 : (Value.type T == Value.type "tuple") = false)
    (hn : items.length ≤ sizeLine) (hfp : ∀ b ∈ fp, b < s.heap.objs.size) (hst : St 0 { s with heap := s.heap.push { cls := .type "list", data := .seq #[] } })
    (hX : ∀ a ∈ X, a < s.heap.objs.size)
    (hQ : ∀ s' acc c', Mv (s.heap.objs.size :: wr) { s with heap := s.heap.push { cls := .type "list", data := .seq #[] } } s' → s'.heap.get? s.heap.objs.size = some (lst acc c') → RepL (Zof s'.heap (wr ++ s.heap.objs.size :: X)) acc items → Q (.ref s.heap.objs.size) s') :
    wpAny (model prog w) A (call (.type "list") [.ref I]) Q E s := by
  have hSf : s.heap.objs.size ∉ fp := fun hm => Nat.lt_irrefl _ (hfp _ hm)
  refine callType_codes (Q₁ := fun obj s₁ => obj = .ref s.heap.objs.size ∧ s₁ = { s with heap := s.heap.push { cls := .type "list", data := .seq #[] } }) F.called_list (F.typeCall_list_1 _) F.entry_list_init
    (code_list_new _ ⟨rfl, rfl⟩) fun obj s₁ h₁ => ?_
  obtain ⟨rfl, rfl⟩ := h₁
  have hS : (s.heap.push { cls := .type "list", data := .seq #[] }).get? s.heap.objs.size = some { cls := .type "list", data := .seq #[] } := Heap.get?_push_size _ rfl
  refine ⟨⟨_, hS, rfl⟩, F.args_list_init_2 _ _, ?_⟩
  show wpAny _ A.in1.in1 (do let old ← Builtin.List.listItems (.ref s.heap.objs.size); Builtin.List.listUpdate (.ref s.heap.objs.size) (fun xx => #[]); letGo old.toList.reverse; Builtin.List.listExtendWith (.ref s.heap.objs.size) (.ref I) .none) _ _ _
  refine wpAny_bind ?_
  unfold Builtin.List.listItems
  refine wpAny_bind (wpAny_seqItems hS rfl (wpAny_pure ?_))
  show wpAny _ A.in1.in1 (updateSeq s.heap.objs.size (fun xx => #[]) >>= fun xx => letGo (#[] : Array Value).toList.reverse >>= fun xx => Builtin.List.listExtendWith (.ref s.heap.objs.size) (.ref I) .none) _ _ _
  refine wpAny_bind (wpAny_updateSeq hS rfl ?_)
  have hS₂ := Heap.get?_update_self (Obj.mapSeq (fun xx => (#[] : Array Value))) hS rfl
  have oth : ∀ b o, b ≠ s.heap.objs.size → (s.heap.push { cls := .type "list", data := .seq #[] }).get? b = some o → ((s.heap.push { cls := .type "list", data := .seq #[] }).update s.heap.objs.size (Obj.mapSeq (fun xx => (#[] : Array Value)))).get? b = some o :=
    fun b o hb e => (Heap.get?_update_other _ _ (Ne.symm hb)).trans e
  refine wpAny_bind (wpAny_letGo ?_)
  have hst2 := W.frame 0 _ ((s.heap.push { cls := .type "list", data := .seq #[] }).update s.heap.objs.size (Obj.mapSeq (fun xx => (#[] : Array Value)))) s.toks hst (Nat.le_refl _) (fun b hb o e => oth b o (fun h => hSf (h ▸ hb)) e) (own_upd (s := { s with heap := s.heap.push { cls := .type "list", data := .seq #[] } }) (by simp)) (alive_upd (s := { s with heap := s.heap.push { cls := .type "list", data := .seq #[] } }) hS₂)
  refine extend_with (A := A.in1) (S := s.heap.objs.size) W hlen hhint ht1 ht2 (fun c' s' h1 h2 => ⟨h1, h2⟩) hn hst2 hSf (by simp) hS₂ fun s' acc' c' hm hS' hacc => ?_
  exact ⟨rfl, hQ s' acc' c' ((Mv.ofHeap (s := { s with heap := s.heap.push { cls := .type "list", data := .seq #[] } }) (fun b o hb e => oth b o (fun h => hb (h ▸ List.mem_cons_self)) e) (Nat.le_refl _)).trans hm) hS' hacc⟩
end
end Mine
end
section
set_option Elab.async false
set_option tactic.hygienic false
set_option maxRecDepth 100000
set_option linter.unusedVariables false
namespace Mine
open PySem PySem.W PySem.Calls PyProof.Rows
noncomputable abbrev IsZ (h : Heap) (z TI TO : Addr) (f0 f1 : Value) : Prop := h.get? z = some { cls := .type "zip", data := .fields #[f0, f1, .bool false, .ref TI, .ref TO] }
section
variable {prog : Program} {w : World} {A : Around} {E : Value → Shared → Prop} {s : Shared}
theorem wpAny_loadIfAlive {M : Model} {a : Addr} {o : Obj} {Q : Option Obj → Shared → Prop} (ho : s.heap.get? a = some o) (h : Q (some o) s) : wpAny M A (loadIfAlive a) Q E s := by
  intro H p hp
  unfold loadIfAlive
  rw [Sem.wp_loadIfAlive, ho]
  exact wpAny_pure (E := E) (Q := Q) h H p hp
variable {lf : Nat → D → D} {lo : Nat} {F : Mp} {z TI TO i1 i2 T : Addr} {fp1 fp2 : List Addr} {ds1 ds2 : List D} {St1 St2 : Nat → Heap → Prop} {b1 : Bool}
theorem wpAny_pyIter_zip2 {z TI TO : Addr} {f0 f1 : Value} {Q : Value → Shared → Prop} (hz : IsZ s.heap z TI TO f0 f1) (h : Q (.ref z) s) : wpAny (model prog w) A (pyIter (.ref z)) Q E s := by
  have hT : s.TypeIs (.ref z) "zip" := ⟨_, hz, rfl⟩
  refine wpAny_pyIter_slot hT PySem.F.slot_zip_iter (wpAny_call_entry PySem.F.slot_zip_iter hT PySem.F.entry_zip_iter ?_ (PySem.F.args_zip_iter_1 _))
  show wpAny _ _ (ret (.ref z)) _ _ s
  exact wpAny_pure ⟨_, rfl, "zip", _, hT, PySem.F.slot_zip_next.lookup, h⟩
theorem not_free {oT : Obj} {Q : Bool → Shared → Prop} (hz : IsZ s.heap z TI TO (rawInt T) (.bool b1)) (hT : s.heap.get? T = some oT)
    (hQ : ∀ h', IsZ h' z TI TO (rawInt T) (.bool true) → Heap.SameBut z s.heap h' → Q false { s with heap := h' }) : wpAny (model prog w) A (Builtin.SmallTypes.ownedTupleIsFree (.ref z)) Q E s := by
  unfold Builtin.SmallTypes.ownedTupleIsFree
  refine wpAny_bind (wpAny_field hz rfl (x := rawInt T) rfl ?_)
  show wpAny _ _ (loadIfAlive (Int.toNat (T : Int)) >>= _) _ _ _
  refine wpAny_bind (wpAny_loadIfAlive (o := oT) (by simpa using hT) ?_)
  refine wpAny_bind (wpAny_field hz rfl (x := .bool b1) rfl ?_)
  cases b1 with
  | true => exact wpAny_pure (hQ s.heap hz ⟨rfl, fun xx xx => rfl⟩)
  | false =>
    refine wpAny_bind (wpAny_setField_rec hz (by simp) fun h₁ hz₁ hs₁ => wpAny_pure (hQ h₁ hz₁ hs₁))
theorem zip_item2 {i : Nat} {d1 d2 : D} {oT : Obj} {Q : Value → Shared → Prop} (D1 : Dr L0 lo prog w F i1 fp1 ds1 St1) (D2 : Dr lf lo prog w F i2 fp2 ds2 St2) (D : ZAp z TI TO i1 i2 fp1 fp2)
    (hz : IsZ s.heap z TI TO (rawInt T) (.bool b1)) (hT : s.heap.get? T = some oT) (hTI : IsPair s.heap TI (.ref i1) (.ref i2)) (hlo : lo ≤ s.toks) (hpos : 0 < s.toks) (h1 : St1 i s.heap) (h2 : St2 i s.heap) (e1 : ds1[i]? = some d1) (e2 : ds2[i]? = some d2)
    (hQ : ∀ h' tk x y, s.toks ≤ tk → Rep F x d1 → Rep F y (lf tk d2) → IsZ h' z TI TO (rawInt T) (.bool true) → St1 (i + 1) h' → St2 (i + 1) h' → IsPair h' s.heap.objs.size x y →
      (∀ c o, c ≠ z → c ≠ i1 → c ≠ i2 → s.heap.get? c = some o → h'.get? c = some o) → Q (.ref s.heap.objs.size) { s with heap := h', toks := tk }) :
    wpAny (model prog w) A (Builtin.«zip.__next__» ⟨[.ref z], []⟩) (fun fin s' => ∃ v, fin = .done (.ret v) ∧ Q v s') E s := by
  have i1z := nin D1.mem D.z1
  have i2z := nin D2.mem D.z2
  have i12 : i1 ≠ i2 := (nin D2.mem D.i1).symm
  show wpAny _ _ (field (.ref z) 2 >>= _) _ _ _
  refine wpAny_bind (wpAny_field hz rfl (x := .bool false) rfl ?_)
  show wpAny _ _ (field (.ref z) 3 >>= _) _ _ _
  refine wpAny_bind (wpAny_field hz rfl (x := .ref TI) rfl ?_)
  refine wpAny_bind (wpAny_seqItems hTI rfl ?_)
  show wpAny _ _ (Builtin.SmallTypes.ownedTupleIsFree (.ref z) >>= _) _ _ _
  refine wpAny_bind (not_free hz hT fun h₁ hz₁ hs₁ => ?_)
  simp only [Bool.false_eq_true, if_false]
  rw [← Array.forIn_toList]
  rw [List.forIn_cons]
  refine wpAny_bind (wpAny_bind ?_)
  refine wpAny_bind (wpAny_holding ?_)
  show wpAny _ _ (Builtin.SmallTypes.nextOf (.ref i1) >>= _) _ _ _
  have st1₁ : St1 i h₁ := D1.frame _ _ _ h1 fun b hb o e => hs₁.extBut b o (nin hb D.z1) e
  have st2₁ : St2 i h₁ := D2.frame _ _ _ h2 fun b hb o e => hs₁.extBut b o (nin hb D.z2) e
  refine wpAny_bind (D1.item _ _ _ _ _ _ e1 hlo hpos st1₁ fun x h₂ tk₂ ht₂ rx st1₂ hs₂ => wpAny_pure ?_)
  replace hs₂ : Heap.SameBut i1 h₁ h₂ := hs₂
  refine wpAny_pure ?_
  dsimp only
  rw [List.forIn_cons]
  refine wpAny_bind ?_
  refine wpAny_bind (wpAny_holding ?_)
  show wpAny _ _ (Builtin.SmallTypes.nextOf (.ref i2) >>= _) _ _ _
  have st2₃ : St2 i h₂ := D2.frame _ _ _ st2₁ fun b hb o e => hs₂.extBut b o (nin hb D.i1) e
  refine wpAny_bind (D2.item _ _ _ _ _ _ e2 (Nat.le_trans hlo ht₂) (Nat.lt_of_lt_of_le hpos ht₂) st2₃ fun y h₄ tk₄ ht₄ ry st2₄ hs₄ => wpAny_pure ?_)
  replace hs₄ : Heap.SameBut i2 h₂ h₄ := hs₄
  refine wpAny_pure ?_
  refine wpAny_pure ?_
  have hsz : h₄.objs.size = s.heap.objs.size := by rw [hs₄.1, hs₂.1, hs₁.1]
  have hz₄ : IsZ h₄ z TI TO (rawInt T) (.bool true) := hs₄.extBut _ _ i2z.symm (hs₂.extBut _ _ i1z.symm hz₁)
  have hk₄ : ∀ c o, c ≠ z → c ≠ i1 → c ≠ i2 → s.heap.get? c = some o → h₄.get? c = some o := fun c o c1 c3 c4 e =>
    hs₄.extBut _ _ c4 (hs₂.extBut _ _ c3 (hs₁.extBut _ _ c1 e))
  have h1₄ : St1 (i + 1) h₄ := D1.frame _ _ _ st1₂ fun b hb o e => hs₄.extBut b o (nin hb D.i2) e
  refine wpAny_bind (wpAny_newTuple ?_ (by show ([x, y] : List Value).length ≤ sizeLine; unfold sizeLine; simp))
  refine wpAny_pure ⟨_, rfl, ?_⟩
  show Q (.ref h₄.objs.size) _
  rw [hsz]
  exact hQ _ tk₄ x y (Nat.le_trans ht₂ ht₄) rx ry (Heap.get?_push_of_some _ hz₄) (D1.frame _ _ _ h1₄ fun b hb o e => Heap.get?_push_of_some _ e) (D2.frame _ _ _ st2₄ fun b hb o e => Heap.get?_push_of_some _ e) (by have := Heap.get?_push_size h₄ (o := ({ cls := .type "tuple", data := .seq #[x, y] } : Obj)) rfl; rw [hsz] at this; exact this) fun c o c1 c3 c4 e => Heap.get?_push_of_some _ (hk₄ c o c1 c3 c4 e)
theorem zip_end2 {i : Nat} {oT : Obj} {Q : Fin → Shared → Prop} (hh : A.handled = none) (D1 : Dr L0 lo prog w F i1 fp1 ds1 St1) (D2 : Dr lf lo prog w F i2 fp2 ds2 St2) (D : ZAp z TI TO i1 i2 fp1 fp2)
    (hz : IsZ s.heap z TI TO (rawInt T) (.bool b1)) (hT : s.heap.get? T = some oT) (hTI : IsPair s.heap TI (.ref i1) (.ref i2)) (hlo : lo ≤ s.toks) (hpos : 0 < s.toks) (h1 : St1 i s.heap) (h2 : St2 i s.heap) (hend : ds1[i]? = none ∨ ds2[i]? = none) (hl1 : i ≤ ds1.length) (hl2 : i ≤ ds2.length)
    (hE : ∀ h' tk e, s.toks ≤ tk → (∀ c o, c ≠ z → c ≠ i1 → c ≠ i2 → s.heap.get? c = some o → h'.get? c = some o) → (∃ o, h'.get? e = some o ∧ o.cls = .type "StopIteration") → E (.ref e) { s with heap := h', toks := tk }) :
    wpAny (model prog w) A (Builtin.«zip.__next__» ⟨[.ref z], []⟩) Q E s := by
  have i1z := nin D1.mem D.z1
  have i2z := nin D2.mem D.z2
  show wpAny _ _ (field (.ref z) 2 >>= _) _ _ _
  refine wpAny_bind (wpAny_field hz rfl (x := .bool false) rfl ?_)
  show wpAny _ _ (field (.ref z) 3 >>= _) _ _ _
  refine wpAny_bind (wpAny_field hz rfl (x := .ref TI) rfl ?_)
  refine wpAny_bind (wpAny_seqItems hTI rfl ?_)
  show wpAny _ _ (Builtin.SmallTypes.ownedTupleIsFree (.ref z) >>= _) _ _ _
  refine wpAny_bind (not_free hz hT fun h₁ hz₁ hs₁ => ?_)
  simp only [Bool.false_eq_true, if_false]
  rw [← Array.forIn_toList]
  rw [List.forIn_cons]
  refine wpAny_bind (wpAny_bind ?_)
  refine wpAny_bind (wpAny_holding ?_)
  show wpAny _ _ (Builtin.SmallTypes.nextOf (.ref i1) >>= _) _ _ _
  have st1₁ : St1 i h₁ := D1.frame _ _ _ h1 fun b hb o e => hs₁.extBut b o (nin hb D.z1) e
  have st2₁ : St2 i h₁ := D2.frame _ _ _ h2 fun b hb o e => hs₁.extBut b o (nin hb D.z2) e
  cases e1 : ds1[i]? with
  | none =>
    refine wpAny_bind (D1.done _ _ _ _ _ hh e1 st1₁ hl1 fun h₂ e hs₂ he => ?_)
    exact hE h₂ _ e (Nat.le_refl _) (fun c o c1 c3 xx x => hs₂ _ _ c3 (hs₁.extBut _ _ c1 x)) he
  | some d1 =>
    have e2 : ds2[i]? = none := by rcases hend with h | h; rw [e1] at h; cases h; exact h
    refine wpAny_bind (D1.item _ _ _ _ _ _ e1 hlo hpos st1₁ fun x h₂ tk₂ ht₂ rx st1₂ hs₂ => wpAny_pure ?_)
    replace hs₂ : Heap.SameBut i1 h₁ h₂ := hs₂
    refine wpAny_pure ?_
    dsimp only
    rw [List.forIn_cons]
    refine wpAny_bind ?_
    refine wpAny_bind (wpAny_holding ?_)
    show wpAny _ _ (Builtin.SmallTypes.nextOf (.ref i2) >>= _) _ _ _
    have st2₃ : St2 i h₂ := D2.frame _ _ _ st2₁ fun b hb o e => hs₂.extBut b o (nin hb D.i1) e
    refine wpAny_bind (D2.done _ _ _ _ _ hh e2 st2₃ hl2 fun h₄ e hs₄ he => ?_)
    exact hE h₄ _ e ht₂ (fun c o c1 c3 c4 x => hs₄ _ _ c4 (hs₂.extBut _ _ c3 (hs₁.extBut _ _ c1 x))) he
inductive ZSt (z TI TO i1 i2 : Addr) (lo : Nat) (F : Mp) (St1 St2 : Nat → Heap → Prop) (X : List Addr) (i : Nat) (s : Shared) : Prop
  | intro (hz : IsZ s.heap z TI TO .none (.bool false) ∨ ∃ T b1 oT, T ∉ [z, TO, i1, i2] ++ X ∧ IsZ s.heap z TI TO (rawInt (T : Nat)) (.bool b1) ∧ s.heap.get? T = some oT) (hTI : IsPair s.heap TI (.ref i1) (.ref i2)) (hTO : ∃ a b, IsPair s.heap TO a b) (h1 : St1 i s.heap) (h2 : St2 i s.heap) (hlo : lo ≤ s.toks) (hpos : 0 < s.toks)
      (l3 : Le F (Zof s.heap ([z, TO, i1, i2] ++ X))) (l4 : ∀ a ∈ X, ∃ o, s.heap.get? a = some o)
theorem ZSt.free {X : List Addr} {i : Nat} (st : ZSt z TI TO i1 i2 lo F St1 St2 X i s) : IsZ s.heap z TI TO .none (.bool false) ∨ ∃ T b1 oT, T ∉ [z, TO, i1, i2] ++ X ∧ IsZ s.heap z TI TO (rawInt (T : Nat)) (.bool b1) ∧ s.heap.get? T = some oT := by
  obtain ⟨h, _, _, _, _, _, _, _, _⟩ := st; exact h
theorem ZSt.live {X : List Addr} {i : Nat} (D1 : Dr L0 lo prog w F i1 fp1 ds1 St1) (D2 : Dr lf lo prog w F i2 fp2 ds2 St2) (st : ZSt z TI TO i1 i2 lo F St1 St2 X i s) : ∀ a ∈ [z, TO, i1, i2] ++ X, ∃ o, s.heap.get? a = some o := fun a ha => by
  obtain ⟨hz, hTI, ⟨x, y, hTO⟩, h1, h2, _, _, _, hX⟩ := st
  rcases List.mem_append.mp ha with ha | ha
  · simp only [List.mem_cons, List.not_mem_nil, or_false] at ha
    rcases ha with rfl | rfl | rfl | rfl
    · rcases hz with hz | ⟨_, _, _, _, hz, _⟩ <;> exact ⟨_, hz⟩
    · exact ⟨_, hTO⟩
    · exact D1.live _ _ h1
    · exact D2.live _ _ h2
  · exact hX a ha
theorem Ck.zip {X : List Addr} (hh : A.handled = none) (D1 : Dr L0 lo prog w F i1 fp1 ds1 St1) (D2 : Dr L0 lo prog w F i2 fp2 ds2 St2) (D : ZAp z TI TO i1 i2 fp1 fp2) (hTI : TI ∉ X) :
    Ck (model prog w) A "zip" z (z :: TI :: TO :: (fp1 ++ fp2)) [z, TO, i1, i2] X (pairs ds1 ds2) (ZSt z TI TO i1 i2 lo F St1 St2 X) where
  sub := fun c hc => by
    simp only [List.mem_cons, List.not_mem_nil, or_false, List.mem_append] at hc ⊢
    rcases hc with rfl | rfl | rfl | rfl
    · exact .inl rfl
    · exact .inr (.inr (.inl rfl))
    · exact .inr (.inr (.inr (.inl D1.mem)))
    · exact .inr (.inr (.inr (.inr D2.mem)))
  mem := by simp
  ty := fun i s st => by rcases st.free with hz | ⟨_, _, _, _, hz, _⟩ <;> exact ⟨_, hz, rfl⟩
  frame := fun i s h' tk st htk hk hZ hX => by
    obtain ⟨hz, hTI, ⟨a, b, hTO⟩, h1, h2, l1, l2, l3, l4⟩ := st
    refine ⟨?_, hk TI (by simp) _ hTI, ⟨a, b, hk TO (by simp) _ hTO⟩, D1.frame _ _ _ h1 fun b hb o e => hk b (by simp [hb]) o e, D2.frame _ _ _ h2 fun b hb o e => hk b (by simp [hb]) o e, Nat.le_trans l1 htk, Nat.lt_of_lt_of_le l2 htk, l3.trans hZ, fun a ha => hX a ha (l4 a ha)⟩
    rcases hz with hz | ⟨T, b1, oT, hT1, hz, hT⟩
    · exact .inl (hk z (by simp) _ hz)
    · exact .inr ⟨T, b1, oT, hT1, hk z (by simp) _ hz, (Zof.get (hZ _ _ (Zof.of hT hT1))).1⟩
  item := fun i s Q E d hd st hQ => by
    have hal := st.live D1 D2
    obtain ⟨hz, hTI', ⟨a, b, hTO⟩, h1, h2, hlo, hpos, l3, l4⟩ := st
    obtain ⟨d1, d2, e1, e2, rfl⟩ : ∃ d1 d2, ds1[i]? = some d1 ∧ ds2[i]? = some d2 ∧ d = .tuple [d1, d2] := by
      simp only [pairs, List.getElem?_map, Option.map_eq_some_iff] at hd
      obtain ⟨⟨d1, d2⟩, e, rfl⟩ := hd
      rw [List.getElem?_zip_eq_some] at e
      exact ⟨d1, d2, e.1, e.2, rfl⟩
    have hfr : s.heap.get? s.heap.objs.size = none := fresh_none
    have hnew : s.heap.objs.size ∉ [z, TO, i1, i2] ++ X := fun q => by obtain ⟨o, e⟩ := hal _ q; rw [hfr] at e; cases e
    have hTIn : TI ∉ [z, TO, i1, i2] ++ X := fun q => by
      rcases List.mem_append.mp q with q | q
      · simp only [List.mem_cons, List.not_mem_nil, or_false] at q
        rcases q with q | q | q | q
        · exact D.TIz q
        · exact D.TITO q
        · exact D.TIi1 q
        · exact D.TIi2 q
      · exact hTI q
    unfold pyNext
    have fin : ∀ h' tk x y (f0 f1 : Value), s.toks ≤ tk → Rep F x d1 → Rep F y d2 → IsZ h' z TI TO f0 f1 → (∃ a b, IsPair h' TO a b) → St1 (i + 1) h' → St2 (i + 1) h' → IsPair h' s.heap.objs.size x y →
        (∀ c o, c ≠ z → c ≠ TO → c ≠ i1 → c ≠ i2 → s.heap.get? c = some o → h'.get? c = some o) → (∃ T b1 oT, f0 = rawInt (T : Nat) ∧ f1 = .bool b1 ∧ T ∉ [z, TO, i1, i2] ++ X ∧ h'.get? T = some oT) → Q (some (.ref s.heap.objs.size)) { s with heap := h', toks := tk } := fun h' tk x y f0 f1 ht rx ry a1 a2 a3 a4 a5 hk qq => by
      obtain ⟨T, b1, oT, q1, q2, q3, q4⟩ := qq
      subst q1 q2
      have hk' : ∀ b o, b ∉ [z, TO, i1, i2] → s.heap.get? b = some o → h'.get? b = some o := fun c o hc e => hk c o (fun x => hc (by simp [x])) (fun x => hc (by simp [x])) (fun x => hc (by simp [x])) (fun x => hc (by simp [x])) e
      have mv : Mv [z, TO, i1, i2] s { s with heap := h', toks := tk } := Mv.ofHeap hk' ht
      have hF : Le F (Zof h' ([z, TO, i1, i2] ++ X)) := l3.trans mv.le
      refine hQ _ _ mv (.tuple (vs := [x, y]) (n := 0) (Zof.of a5 hnew) (.cons (rx.mono hF) (.cons (ry.mono hF) .nil))) ⟨.inr ⟨T, b1, oT, q3, a1, q4⟩, hk' _ _ (fun q => hTIn (List.mem_append.mpr (.inl q))) hTI', a2, a3, a4, Nat.le_trans hlo ht, Nat.lt_of_lt_of_le hpos ht, hF, fun a ha => ?_⟩
      by_cases q : a ∈ [z, TO, i1, i2]
      · simp only [List.mem_cons, List.not_mem_nil, or_false] at q
        rcases q with rfl | rfl | rfl | rfl
        · exact ⟨_, a1⟩
        · obtain ⟨_, _, a2⟩ := a2; exact ⟨_, a2⟩
        · exact D1.live _ _ a3
        · exact D2.live _ _ a4
      · obtain ⟨o, e⟩ := l4 a ha; exact ⟨o, hk' _ _ q e⟩
    rcases hz with hz | ⟨T, b1, oT, hT1, hz, hT⟩
    · have hTy : s.TypeIs (.ref z) "zip" := ⟨_, hz, rfl⟩
      refine wpAny_bind (wpAny_attempt (wpAny_callSpecial?_slot (name := Str.ofString "__next__") hTy PySem.F.slot_zip_next (wpAny_call_entry PySem.F.slot_zip_next hTy PySem.F.entry_zip_next
        (zip_item D1 D2 D hz hTI' hTO hlo hpos h1 h2 e1 e2 fun h' tk x y ht rx ry a1 a2 a3 a4 a5 a6 hk => wpAny_pure ?_) (PySem.F.args_zip_next_1 _))))
      exact fin h' tk x y _ _ ht rx ry a1 ⟨_, _, a2⟩ a3 a4 a5 hk ⟨_, false, _, rfl, rfl, hnew, a5⟩
    · have hTy : s.TypeIs (.ref z) "zip" := ⟨_, hz, rfl⟩
      refine wpAny_bind (wpAny_attempt (wpAny_callSpecial?_slot (name := Str.ofString "__next__") hTy PySem.F.slot_zip_next (wpAny_call_entry PySem.F.slot_zip_next hTy PySem.F.entry_zip_next
        (zip_item2 D1 D2 D hz hT hTI' hlo hpos h1 h2 e1 e2 fun h' tk x y ht rx ry a1 a3 a4 a5 hk => wpAny_pure ?_) (PySem.F.args_zip_next_1 _))))
      refine fin h' tk x y _ _ ht rx ry a1 ⟨a, b, hk _ _ D.TOz (nin D1.mem D.O1).symm (nin D2.mem D.O2).symm hTO⟩ a3 a4 a5 (fun c o c1 xx c3 c4 e => hk c o c1 c3 c4 e) ⟨T, true, oT, rfl, rfl, hT1, ?_⟩
      simp only [List.mem_append, List.mem_cons, List.not_mem_nil, or_false, not_or] at hT1
      exact hk _ _ hT1.1.1 hT1.1.2.2.1 hT1.1.2.2.2 hT
  done := fun s Q E st hQ => by
    obtain ⟨hz, hTI', ⟨a, b, hTO⟩, h1, h2, hlo, hpos, l3, l4⟩ := st
    have hl : (pairs ds1 ds2).length = min ds1.length ds2.length := by simp [pairs]
    rw [hl] at h1 h2
    have hend : ds1[min ds1.length ds2.length]? = none ∨ ds2[min ds1.length ds2.length]? = none := by
      rcases Nat.le_total ds1.length ds2.length with h | h
      · exact .inl (by rw [Nat.min_eq_left h]; exact List.getElem?_eq_none (Nat.le_refl _))
      · exact .inr (by rw [Nat.min_eq_right h]; exact List.getElem?_eq_none (Nat.le_refl _))
    unfold pyNext
    rcases hz with hz | ⟨T, b1, oT, hT1, hz, hT⟩
    · have hTy : s.TypeIs (.ref z) "zip" := ⟨_, hz, rfl⟩
      refine wpAny_bind (wpAny_attempt (wpAny_callSpecial?_slot (name := Str.ofString "__next__") hTy PySem.F.slot_zip_next
        (wpAny_call_entry PySem.F.slot_zip_next hTy PySem.F.entry_zip_next (zip_end hh D1 D2 D hz hTI' hTO hlo hpos h1 h2 hend (Nat.min_le_left ..) (Nat.min_le_right ..) fun h' tk e ht hk he => ?_) (PySem.F.args_zip_next_1 _))))
      obtain ⟨o, ho, hc⟩ := he
      refine wpAny_bind (wpAny_isInstance (T := "StopIteration") (b := true) ⟨o, ho, hc⟩ isSubtype_stop ?_)
      exact wpAny_pure (hQ _ (Mv.ofHeap (fun c o hc e => hk c o (fun x => hc (by simp [x])) (fun x => hc (by simp [x])) (fun x => hc (by simp [x])) (fun x => hc (by simp [x])) e) ht))
    · have hTy : s.TypeIs (.ref z) "zip" := ⟨_, hz, rfl⟩
      refine wpAny_bind (wpAny_attempt (wpAny_callSpecial?_slot (name := Str.ofString "__next__") hTy PySem.F.slot_zip_next
        (wpAny_call_entry PySem.F.slot_zip_next hTy PySem.F.entry_zip_next (zip_end2 hh D1 D2 D hz hT hTI' hlo hpos h1 h2 hend (Nat.min_le_left ..) (Nat.min_le_right ..) fun h' tk e ht hk he => ?_) (PySem.F.args_zip_next_1 _))))
      obtain ⟨o, ho, hc⟩ := he
      refine wpAny_bind (wpAny_isInstance (T := "StopIteration") (b := true) ⟨o, ho, hc⟩ isSubtype_stop ?_)
      exact wpAny_pure (hQ _ (Mv.ofHeap (fun c o hc e => hk c o (fun x => hc (by simp [x])) (fun x => hc (by simp [x])) (fun x => hc (by simp [x])) e) ht))
  self := fun i s Q E st hQ => by
    rcases st.free with hz | ⟨_, _, _, _, hz, _⟩
    · exact wpAny_pyIter_zip hz hQ
    · exact wpAny_pyIter_zip2 hz hQ
end
end Mine
end
section
set_option Elab.async false
set_option tactic.hygienic false
set_option maxRecDepth 100000
set_option linter.unusedVariables false
namespace Mine
open PySem PySem.W PySem.Calls PyProof.Rows
theorem no_zip_len : typeLookup (.type "zip") "__len__" = pure none := by rw [typeLookup_type, builtinLookup_eq_fast]; kernel_rfl
theorem no_zip_hint : typeLookup (.type "zip") "__length_hint__" = pure none := by rw [typeLookup_type, builtinLookup_eq_fast]; kernel_rfl
section
variable {c : Cx} {ρ : Rho}
theorem zip_raw {s₁ : Shared} {H : List Addr} {v1 v2 : Value} {d1 d2 : D} {it1 it2 : List D} {E : Value → Shared → Prop} {Q : Value → Shared → Prop} (hH : ∀ a ∈ H, ∃ o, s₁.heap.get? a = some o) (x1 : Src c.lo L0 d1 it1) (x2 : Src c.lo L0 d2 it2) (r1 : Rep (Zof s₁.heap H) v1 d1) (r2 : Rep (Zof s₁.heap H) v2 d2)
    (hQ : ∀ z TI TO i1 i2 fp1 fp2 St1 St2 h', (∀ b o, s₁.heap.get? b = some o → h'.get? b = some o) → Dr L0 c.lo c.prog c.w (Zof s₁.heap H) i1 fp1 it1 St1 → Dr L0 c.lo c.prog c.w (Zof s₁.heap H) i2 fp2 it2 St2 → ZAp z TI TO i1 i2 fp1 fp2 → IsZ h' z TI TO .none (.bool false) → IsPair h' TI (.ref i1) (.ref i2) → IsPair h' TO .none .none → St1 0 h' → St2 0 h' →
      (∀ a ∈ [z, TI, TO, i1, i2], s₁.heap.get? a = none) → (∀ b ∈ z :: TI :: TO :: (fp1 ++ fp2), b < h'.objs.size) → Q (.ref z) { s₁ with heap := h' }) :
    wpAny c.M c.A (call (.type "zip") [v1, v2]) Q E s₁ := by
  obtain ⟨o1, I1, m1⟩ := x1.dr (prog := c.prog) (w := c.w) r1 (h := s₁.heap) fun a o e => (Zof.get e).1
  obtain ⟨o2, I2, m2⟩ := x2.dr (prog := c.prog) (w := c.w) r2 (h := s₁.heap) fun a o e => (Zof.get e).1
  refine call_zip I1 I2 fun h' hz hTI hTO g1 g2 hk' => ?_
  generalize hn : s₁.heap.objs.size = n at *
  have fr : ∀ a, n ≤ a → s₁.heap.get? a = none := fun a ha => by
    cases q : s₁.heap.get? a with
    | none => rfl
    | some o => exact absurd (Heap.lt_size q) (Nat.not_lt.mpr (hn ▸ ha))
  have frZ : ∀ a, n ≤ a → Zof s₁.heap H a = none := fun a ha => by
    cases q : Zof s₁.heap H a with
    | none => rfl
    | some o => have := (Zof.get q).1; rw [fr a ha] at this; cases this
  have hF : Le (Zof s₁.heap H) (Zof s₁.heap H) := Le.refl _
  obtain ⟨fp1, St1, D1, st1, hf1⟩ := m1 (Zof s₁.heap H) n h' hF (frZ n (Nat.le_refl _)) g1 fun a o e => hk' _ _ (Zof.get e).1
  obtain ⟨fp2, St2, D2, st2, hf2⟩ := m2 (Zof s₁.heap H) (n + 1) h' hF (frZ _ (by lia)) g2 fun a o e => hk' _ _ (Zof.get e).1
  have no : ∀ {fp : List Addr} {it a : Addr}, (∀ b ∈ fp, b = it ∨ ∃ o, Zof s₁.heap H b = some o) → a ≠ it → n ≤ a → a ∉ fp := fun h1 h2 h3 q => by
    rcases h1 _ q with r | ⟨o, r⟩
    · exact h2 r
    · rw [frZ _ h3] at r; cases r
  have ap : ZAp (n + 4) (n + 2) (n + 3) n (n + 1) fp1 fp2 := ⟨addr_ne (by lia), addr_ne (by lia), addr_ne (by lia), addr_ne (by lia), addr_ne (by lia), no hf1 (addr_ne (by lia)) (by lia), no hf2 (addr_ne (by lia)) (by lia), no hf1 (addr_ne (by lia)) (by lia), no hf2 (addr_ne (by lia)) (by lia), no hf2 (addr_ne (by lia)) (by lia), no hf1 (addr_ne (by lia)) (by lia)⟩
  refine hQ _ _ _ _ _ _ _ _ _ h' hk' D1 D2 ap hz hTI hTO st1 st2 (fun a ha => fr a ?_) fun b hb => ?_
  · have key : ∀ {m : Nat}, (m = n + 4 ∨ m = n + 2 ∨ m = n + 3 ∨ m = n ∨ m = n + 1) → n ≤ m := fun q => by lia
    simp only [List.mem_cons, List.not_mem_nil, or_false] at ha
    exact key ha
  · have old : ∀ {b : Addr}, (∃ o, Zof s₁.heap H b = some o) → b < h'.objs.size := fun hqe => hqe.elim fun o e => Heap.lt_size (hk' _ _ (Zof.get e).1)
    simp only [List.mem_cons, List.mem_append] at hb
    rcases hb with rfl | rfl | rfl | hb | hb
    · exact Heap.lt_size hz
    · exact Heap.lt_size hTI
    · exact Heap.lt_size hTO
    · rcases hf1 b hb with rfl | q
      · exact Heap.lt_size g1
      · exact old q
    · rcases hf2 b hb with rfl | q
      · exact Heap.lt_size g2
      · exact old q
theorem spliced_one {M : Model} {A : Around} {E : Value → Shared → Prop} {s : Shared} {pos : Pos} {e : Expr} {env : Env} {Q : List Value → Shared → Prop} (h : wpAny M A (eval e env) (fun v s' => Q [v] s') E s) (hn : noStar [e] = true) : wpAny M A (spliced (backTo pos (starEach [e] env))) Q E s :=
  spliced_more (wpAny_mono h (fun v s' q => spliced_none q) fun xx xx e => e) (starEach_cons_noStar hn)
theorem EV.listZip {k : Nat} {nl nz p pz : Pos} {e1 e2 : Expr} {d1 d2 : D} {it1 it2 : List D} (hl : EV c ρ (.Name "list" nl) (.raw (.type "list"))) (hzn : EV c ρ (.Name "zip" nz) (.raw (.type "zip"))) (h1 : EV c ρ e1 d1) (h2 : EV c ρ e2 d2) (hs : noStar [e1, e2] = true)
    (x1 : Src c.lo L0 d1 it1) (x2 : Src c.lo L0 d2 it2) (hsz : it1.length ≤ sizeLine) (hk : Rm c.A k) : EV c ρ (.Call (.Name "list" nl) [.Call (.Name "zip" nz) [e1, e2] [] pz] [] p) (.list (pairs it1 it2)) := fun H s h E => by
  refine wpAny_Call_ofName (wpAny_mono (hl H s h E) (fun v s₁ hqz0 => ?_) fun xx xx e => e)
  obtain ⟨k1, q⟩ := hqz0
  have e := q.of_raw
  subst e
  have hx := h.keeps k1
  refine callRaw0 (fd := []) (.inr (.inl ⟨_, rfl⟩)) (fun env x q => by
    have := starEach_noStar (es := [.Call (.Name "zip" nz) [e1, e2] [] pz]) (env := env) rfl p
    rw [q] at this; simp at this) (spliced_one ?_ rfl)
  refine wpAny_Call_ofName (wpAny_mono (hzn H s₁ hx E) (fun v s₂ hqz0 => ?_) fun xx xx e => e)
  obtain ⟨k2, q⟩ := hqz0
  have e := q.of_raw
  subst e
  have hns : noStar [e2] = true := noStar_tail hs
  refine callRaw (fd := []) (.inr (.inl ⟨_, rfl⟩)) (.cons h1 (.cons h2 .nil fun env => starEach_cons_noStar hns) fun env => starEach_cons_noStar hs) (fun env y q => by
    have := starEach_noStar (env := env) hs pz
    rw [q] at this; simp at this) (hx.keeps k2) fun vs s₃ k3 r => ?_
  obtain ⟨v1, v2, rfl⟩ : ∃ v1 v2, vs = [v1, v2] := len2 r.length
  have k123 := keeps_trans k1 (keeps_trans k2 k3)
  have ok3 := (h.keeps k123).ok
  refine zip_raw ok3.1 x1 x2 r.two.1 r.two.2 fun z TI TO i1 i2 fp1 fp2 St1 St2 h' hk' D1 D2 ap hz hTI hTO st1 st2 hfr hfp => ?_
  refine ⟨fun b o e => hk' _ _ ((ok3.2.1 b o e).1), ?_⟩
  have nH : ∀ a ∈ [z, TI, TO, i1, i2], a ∉ H := fun a ha q => by obtain ⟨o, e⟩ := ok3.1 a q; rw [hfr a ha] at e; cases e
  have hlen : (pairs it1 it2).length ≤ sizeLine := by
    have : (pairs it1 it2).length ≤ it1.length := by simp [pairs]; lia
    lia
  have hSnew : h'.get? h'.objs.size = Option.none := fresh_none
  have neS : ∀ {b o}, h'.get? b = some o → b ≠ h'.objs.size := fun e q => by rw [q, hSnew] at e; cases e
  have wrin : ∀ a ∈ [z, TO, i1, i2], a ∈ [z, TI, TO, i1, i2] := fun a ha => by simp only [List.mem_cons, List.not_mem_nil, or_false] at ha ⊢; rcases ha with h | h | h | h <;> simp [h]
  refine call_list_ck (X := H) (s := { s₃ with heap := h' }) (Ck.zip hk.handled D1 D2 ap fun q => ?_) no_zip_len no_zip_hint (by decide) (by decide) hlen hfp ?_ (fun a ha => ?_) fun s' acc c' hm hS hacc => ?_
  · rcases List.mem_cons.mp q with q | q
    · exact neS hTI q
    · exact nH TI (by simp) q
  · have up : ∀ b o, h'.get? b = some o → (h'.push { cls := .type "list", data := .seq #[] }).get? b = some o := fun b o e => Heap.get?_push_of_some _ e
    refine ⟨.inl (up _ _ hz), up _ _ hTI, ⟨_, _, up _ _ hTO⟩, D1.frame _ _ _ st1 fun b xx o e => up b o e, D2.frame _ _ _ st2 fun b xx o e => up b o e, ok3.2.2.1, ok3.2.2.2, fun a o e => ?_, fun a ha => ?_⟩
    · obtain ⟨e1, e2⟩ := Zof.get e
      refine Zof.of (up _ _ (hk' _ _ e1)) fun q => ?_
      rcases List.mem_append.mp q with q | q
      · rw [hfr a (wrin a q)] at e1; cases e1
      · rcases List.mem_cons.mp q with q | q
        · exact neS (hk' _ _ e1) q
        · exact e2 q
    · rcases List.mem_cons.mp ha with rfl | ha
      · exact ⟨_, Heap.get?_push_size _ rfl⟩
      · obtain ⟨o, e⟩ := ok3.1 a ha; exact ⟨o, up _ _ (hk' _ _ e)⟩
  · obtain ⟨o, e⟩ := ok3.1 a ha; exact Heap.lt_size (hk' _ _ e)
  · have kk : Keeps s₃ s' := by
      obtain ⟨h1, t1, g1, rfl, k1, n1, b1⟩ := hm
      refine ⟨h1, t1, g1, rfl, fun b o e => k1 b o (fun q => ?_) (Heap.get?_push_of_some _ (hk' _ _ e)), n1, b1⟩
      rcases List.mem_cons.mp q with q | q
      · exact neS (hk' _ _ e) q
      · rw [hfr b (wrin b q)] at e; cases e
    refine ⟨keeps_trans k123 kk, .list (Zof.of hS fun q => ?_) (hacc.mono (Zof.sub fun a ha => by simp [ha]))⟩
    obtain ⟨o, e⟩ := ok3.1 _ q
    exact neS (hk' _ _ e) rfl
end
end Mine
end
section
set_option Elab.async false
set_option tactic.hygienic false
set_option maxRecDepth 100000
set_option linter.unusedVariables false
namespace Mine
open PySem PySem.W PySem.Calls PyProof.Rows
structure CB (c : Cx) (scope : Scope) : Prop where
  is : c.env.scope = scope
  kind : scope.kind = .function
  cells : ∀ x, scope.names.lookup x = some .cell → ∃ a, c.env.cells.lookup x = some a
  globals : c.env.globals = mainGlobals
  builtins : c.env.builtins = builtinsNs
theorem Body.cb {c : Cx} {scope : Scope} (b : Body c scope) : CB c scope := ⟨b.is, b.kind, fun x e => (b.cells x e).elim fun a h => ⟨a, h.1⟩, b.globals, b.builtins⟩
noncomputable def relab (osc scope : Scope) : Scope := { scope with names := scope.names.map fun (n, k) => if (k == .free && osc.kind == .function && osc.names.lookup n == some .cell) then (n, .cell) else (n, k) }
section
variable {c : Cx} {scope osc : Scope} {ρ ρ₀ : Rho}
theorem CB.kindOf (b : CB c scope) (x : Str) : c.env.kindOf x = scope.names.lookup x := by unfold Env.kindOf; rw [b.is]
theorem CB.fk (b : CB c scope) : c.env.scope.kind = .function := b.is ▸ b.kind
theorem CB.nameOk (b : CB c scope) {x : Str} (h : isVar scope x = true) : NameOk c x := by
  obtain ⟨h1 | h1, hd⟩ := isVar_or h
  · exact ⟨b.fk, .inl ((b.kindOf x).trans h1), hd⟩
  · obtain ⟨a, ha⟩ := b.cells x h1
    exact ⟨b.fk, .inr ⟨(b.kindOf x).trans h1, a, ha⟩, hd⟩
theorem EV.varC (b : CB c scope) {x : Str} {p : Pos} {d : D} (h : isVar scope x = true) (hx : ρ.lookup x = some (Slot.val d)) : EV c ρ (.Name x p) d := let n := b.nameOk h; EV.name (mem_look hx) n.1 n.2.1 n.2.2
theorem CB.outer (b : CB c scope) {x : Str} (h : isGlob scope x = true) : Outer c x := by
  have h : scope.names.lookup x = some .globalImplicit ∧ (x == ("__debug__" : Str)) = false := by simpa [isGlob] using h
  exact ⟨b.fk, (b.kindOf x).trans h.1, b.globals, b.builtins, h.2⟩
noncomputable def isLoc (scope : Scope) (x : Str) : Bool := scope.names.lookup x == some .local
theorem AT.varC (b : CB c scope) {x : Str} {p : Pos} {d : D} (h : isLoc scope x = true) : AT c ρ (.Name x p) d (upd x (.val d) ρ) := AT.name b.fk ((b.kindOf x).trans (by simpa [isLoc] using h))
theorem EV.callBo {K : Frag} {j k : Nat} {x : Str} {np p : Pos} {f : Value} {es : List Expr} {ds : List D} {d : D} (o : Outer c x) (X : Kx K c.toGx) (e : nsIn K mainGlobals x = some Option.none) (hv : bootBuiltins x = some f) (hn : (x == ("__name__" : Str)) = false)
    (hf : (∃ id, f = .builtin id) ∨ ∃ T, f = .type T) (h2 : EVs c ρ es ds) (hfn : Fn c.toGx k f ds d) (hk : Rm c.A j) (hkj : k ≤ j) (hns : noStar es = true) : EV c ρ (.Call (.Name x np) es [] p) d :=
  EV.call (EV.built X o e hv (by simpa using hn)) h2 (hf.imp id .inl) hfn (hk.less hkj) fun pos env y q => by
    have := starEach_noStar (env := env) hns pos
    rw [q] at this; simp at this
theorem EV.callFo {K : Frag} {j k : Nat} {x : Str} {np p : Pos} {a : Addr} {ob : Obj} {fd : FuncData} {es : List Expr} {ds : List D} {d : D} (o : Outer c x) (X : Kx K c.toGx) (e : nsIn K mainGlobals x = some (some (.ref a))) (ho : K.lookup a = some ob) (hd : ob.data = .func fd)
    (h2 : EVs c ρ es ds) (hfn : Fn c.toGx k (.ref a) ds d) (hk : Rm c.A j) (hkj : k ≤ j) (hns : noStar es = true) : EV c ρ (.Call (.Name x np) es [] p) d :=
  EV.call (EV.glob X o e) h2 (X.callee ho hd) hfn (hk.less hkj) fun pos env y q => by
    have := starEach_noStar (env := env) hns pos
    rw [q] at this; simp at this
theorem relab_eq (b : CB c osc) (scope : Scope) : relabel scope c.env = relab osc scope := by
  unfold relabel relab Env.kindOf
  rw [b.is]
theorem clos_of (b : CB c osc) (f : Str × NameKind → List (Str × Addr) → Sem (ForInStep (List (Str × Addr)))) (hf : ∀ n k cs, f (n, k) cs = if k == .free then (do let a ← cellOf c.env n; pure (.yield ((n, a) :: cs))) else pure (.yield cs)) :
    ∀ (names : List (Str × NameKind)) (acc : List (Str × Addr)), (∀ p ∈ names, p.2 = .free → osc.names.lookup p.1 = some .cell) → (∀ p ∈ acc, c.env.cells.lookup p.1 = some p.2) →
      ∃ cl, forIn names acc f = pure cl ∧ (∀ p ∈ cl, c.env.cells.lookup p.1 = some p.2) ∧ (∀ p ∈ acc, p ∈ cl) ∧ ∀ p ∈ names, p.2 = .free → ∃ a, (p.1, a) ∈ cl := by
  intro names
  induction names with
  | nil => exact fun acc xx ha => ⟨acc, by rw [List.forIn_nil], ha, fun xx h => h, fun xx h => nomatch h⟩
  | cons p0 r ih =>
    intro acc h ha
    obtain ⟨n, k⟩ := p0
    rw [List.forIn_cons, hf]
    by_cases hk : k = .free
    · subst hk
      obtain ⟨a, e⟩ := b.cells n (h _ (.head _) rfl)
      have ec : cellOf c.env n = pure a := by unfold cellOf; rw [e]
      obtain ⟨cl, e1, e2, e3, e4⟩ := ih ((n, a) :: acc) (fun p hp => h p (.tail _ hp)) (fun p hp => by
        cases hp with
        | head => exact e
        | tail _ hp => exact ha p hp)
      refine ⟨cl, ?_, e2, fun p hp => e3 p (.tail _ hp), fun p hp hf => ?_⟩
      · simp only [beq_self_eq_true, if_true, ec, pure_bind]; exact e1
      · cases hp with
        | head => exact ⟨a, e3 _ (.head _)⟩
        | tail _ hp => exact e4 p hp hf
    · obtain ⟨cl, e1, e2, e3, e4⟩ := ih acc (fun p hp => h p (.tail _ hp)) ha
      have hkb : (k == NameKind.free) = false := by simpa using hk
      refine ⟨cl, ?_, e2, e3, fun p hp hf => ?_⟩
      · simp only [hkb, Bool.false_eq_true, if_false, pure_bind]; exact e1
      · cases hp with
        | head => exact absurd hf hk
        | tail _ hp => exact e4 p hp hf
theorem lookup_some_of_mem {α : Type} : ∀ {l : List (Str × α)} {x : Str} {a : α}, (x, a) ∈ l → ∃ b, l.lookup x = some b := by
  intro l
  induction l with
  | nil =>
    intro x a h
    cases h
  | cons p0 r ih =>
    intro x a h
    obtain ⟨y, b⟩ := p0
    simp only [List.lookup]
    split
    · exact ⟨b, rfl⟩
    · rename_i q
      cases h with
      | head => simp at q
      | tail _ h => exact ih h
noncomputable def freeOk (osc scope : Scope) : Bool := scope.names.all fun p => !(p.2 == .free) || osc.names.lookup p.1 == some .cell
noncomputable def compSc (scope : Scope) : Bool := scope.names.all fun p => (!(p.2 == .local) || scope.names.lookup p.1 == some .local) && !(p.2 == .cell)
theorem cl_of (b : CB c osc) {scope : Scope} (h : freeOk osc scope = true) : ∃ cl, closureFor scope c.env = pure cl ∧ (∀ x a, cl.lookup x = some a → c.env.cells.lookup x = some a) ∧ ∀ p ∈ scope.names, p.2 = .free → ∃ a, cl.lookup p.1 = some a := by
  have h' : ∀ p ∈ scope.names, p.2 = .free → osc.names.lookup p.1 = some .cell := fun p hp hf => by
    have := List.all_eq_true.mp h p hp
    simpa [hf] using this
  obtain ⟨cl, e1, e2, _, e4⟩ := clos_of b (fun x cs => match x with | (name, kind) => if (kind == NameKind.free) = true then do let a ← cellOf c.env name; pure (.yield ((name, a) :: cs)) else pure (.yield cs)) (fun n k cs => rfl) scope.names [] h' (fun p hp => nomatch hp)
  refine ⟨cl, ?_, fun x a e => e2 (x, a) (mem_of_lookup' e), fun p hp hf => (e4 p hp hf).elim fun a m => lookup_some_of_mem m⟩
  show (forIn scope.names ([] : List (Str × Addr)) (fun (x : Str × NameKind) cs => match x with | (name, kind) => if (kind == NameKind.free) = true then do let a ← cellOf c.env name; pure (ForInStep.yield ((name, a) :: cs)) else pure (ForInStep.yield cs)) >>= fun cs => pure cs : Sem (List (Str × Addr))) = _
  rw [e1]; rfl
theorem lookup_map_free {osc : Scope} (hk : osc.kind = .function) : ∀ {names : List (Str × NameKind)} {x : Str}, (names.map fun (n, k) => if (k == NameKind.free && osc.kind == .function && osc.names.lookup n == some .cell) then (n, NameKind.cell) else (n, k)).lookup x = some .cell → (∀ p ∈ names, p.2 ≠ .cell) → ∃ p ∈ names, p.1 = x ∧ p.2 = .free := by
  intro names
  induction names with
  | nil =>
    intro x h _
    cases h
  | cons p0 r ih =>
    intro x h hc
    obtain ⟨n, k⟩ := p0
    have key : ∀ {n k}, ((if (k == NameKind.free && osc.kind == .function && osc.names.lookup n == some .cell) then (n, NameKind.cell) else (n, k)) : Str × NameKind).1 = n := by intro n k; split <;> rfl
    simp only [List.map_cons, List.lookup] at h
    split at h
    · rename_i q
      rw [key] at q
      refine ⟨(n, k), .head _, (eq_of_beq q).symm, ?_⟩
      split at h
      · rename_i h1; simp at h1; exact h1.1.1
      · exact absurd (Option.some.inj h) (hc (n, k) (.head _))
    · obtain ⟨p, hp, e⟩ := ih h fun p hp => hc p (.tail _ hp)
      exact ⟨p, .tail _ hp, e⟩
theorem CB.comp (b : CB c osc) {scope : Scope} {cl : List (Str × Addr)} {C : Addr} (hs : compSc scope = true) (hk : scope.kind = .function) (hcl : ∀ p ∈ scope.names, p.2 = .free → ∃ a, cl.lookup p.1 = some a) : CB (c.inComp scope cl C) (relab osc scope) where
  is := relab_eq b scope
  kind := hk
  cells := fun x e => by
    obtain ⟨p, hp, rfl, hf⟩ := lookup_map_free b.kind e fun p hp q => by
      have := List.all_eq_true.mp hs p hp
      simp [q] at this
    exact hcl p hp hf
  globals := b.globals
  builtins := b.builtins
noncomputable def freeV (osc scope : Scope) (ρ₀ : Rho) : Bool := ρ₀.all fun p => !(osc.names.lookup p.1 == some .local) && !((relab osc scope).names.lookup p.1 == some .local)
theorem compOk (b : CB c osc) {scope : Scope} {cl : List (Str × Addr)} (hcl : closureFor scope c.env = pure cl) (h1 : ∀ x a, cl.lookup x = some a → c.env.cells.lookup x = some a) (hs : compSc scope = true) (hk : scope.kind = .function) (hf : freeV osc scope ρ₀ = true) (hv : ∀ p ∈ ρ₀, ∃ d, p.2 = .val d) (hsub : ρ₀.Sublist ρ) : CompOk c ρ scope cl ρ₀ where
  clos := hcl
  kind := hk
  names := fun y hy e => by
    have := List.all_eq_true.mp hs y hy
    simp [e] at this; exact this
  cell := fun y hy q => by
    have := List.all_eq_true.mp hs y hy
    simp [q] at this
  cells := h1
  free := fun p hp => by
    obtain ⟨d, e⟩ := hv p hp
    have := List.all_eq_true.mp hf p hp
    simp only [Bool.and_eq_true, Bool.not_eq_true', beq_eq_false_iff_ne] at this
    refine ⟨d, e, by rw [← e]; exact hsub.subset hp, by rw [b.kindOf]; exact this.1, by rw [relab_eq b]; exact this.2⟩
theorem EV.compC {tt : Bool} {elt target iter : Expr} {ifs : List Expr} {scope : Scope} {pos : Pos} {items : List D} (b : CB c osc) (g : D → Option D) (ρ₀ : Rho)
    (hit : IT tt L0 c ρ iter items) (hfo : freeOk osc scope = true) (hs : compSc scope = true) (hk : scope.kind = .function) (hf : freeV osc scope ρ₀ = true) (hv : ∀ p ∈ ρ₀, ∃ d, p.2 = .val d) (hsub : ρ₀.Sublist ρ)
    (hce : ∀ env, CB { c with env := env, oc := [] } (relab osc scope) → ∀ d ∈ items, CE { c with env := env, oc := [] } ρ₀ target ifs elt d (g d)) (hsz : items.length ≤ sizeLine) (hfold : ∀ x, foldedSetIterable iter c.env x = pure x) (htt : autoParam (TT tt target) rflTac) :
    EV c ρ (.ListComp elt [⟨target, iter, ifs, 0⟩] scope pos) (.list (items.filterMap g)) := by
  obtain ⟨cl, hcl, h1, h2⟩ := cl_of b hfo
  exact EV.comp g hit (compOk b hcl h1 hs hk hf hv hsub) (fun C d hd => hce _ (b.comp hs hk h2) d hd) hsz hfold htt
end
end Mine
end
section
open PySem PySem.W PyProof.Rows
set_option Elab.async false
set_option tactic.hygienic false
set_option maxRecDepth 100000
set_option maxHeartbeats 400000
set_option linter.unusedVariables false
namespace Mine
theorem pathOf_glue : ∀ names : List (List Nat), glue [47] ([] :: names) = pathOf names := by
  intro zz
  induction zz with
  | nil => exact rfl
  | cons n r IH =>
    have ih := IH
    have h : ∀ (n : List Nat) (r : List (List Nat)), glue [47] (n :: r) = n ++ pathOf r := by
      intro n r
      induction r generalizing n with
      | nil => simp [glue, pathOf]
      | cons m r ih =>
        rw [glue, ih]
        · simp [pathOf]
        · intro q; cases q
    rw [glue, h]
    · simp [pathOf]
    · intro q; cases q
theorem fm_map {α : Type} {f : α → D} {g : D → Option D} {h : α → D} (e : ∀ a, g (f a) = some (h a)) : ∀ xs : List α, (xs.map f).filterMap g = xs.map h := by
  intro zz
  induction zz with
  | nil => exact rfl
  | cons x r IH => rw [List.map_cons, List.filterMap_cons_some (e x), IH]; rfl
theorem name_le : ∀ {names : List (List Nat)} {n : List Nat}, n ∈ names → n.length + 1 ≤ (pathOf names).length
  | m :: r, n, h => by
    simp only [pathOf, List.flatMap_cons, List.length_append, List.length_cons]
    cases h with
    | head => lia
    | tail _ h => have := name_le h; simp only [pathOf] at this; lia
theorem pieces_path {names : List (List Nat)} (h : ∀ n ∈ names, NameOK n) : pieces 47 (pathOf names) = [] :: names := by
  rw [← pathOf_glue]
  exact pieces_glue (by simp) fun p hp => by
    cases hp with
    | head => simp
    | tail _ hp => exact (h p hp).free
theorem one_lt (c b : Nat) : decide ([c] < [b]) = decide (c < b) := by
  rw [Bool.eq_iff_iff, decide_eq_true_eq, decide_eq_true_eq, List.cons_lt_cons_iff]
  simp
theorem sub_one {ρ : Rho} {x : Str} {sl : Slot} (h : ρ.lookup x = some sl) : [(x, sl)].Sublist ρ := List.singleton_sublist.mpr (mem_look h)
noncomputable def aheadSign (st : Nat × Nat) (p : List Nat × Nat) : Nat × Nat := (st.1 + st.2 * (p.1.filter (· < p.2)).length, st.2 * p.1.length)
noncomputable def aheadRow (st : Nat × Nat) (p : List (List Nat) × List Nat) : Nat × Nat := (p.1.zip p.2).reverse.foldl aheadSign st
noncomputable def aheadOf (told : List (List (List Nat))) (names : List (List Nat)) : Nat := ((told.zip names).reverse.foldl aheadRow (0, 1)).1
noncomputable def gLen : D → Option D
  | .str x => some (.int x.length)
  | .list l => some (.int l.length)
  | _ => none
noncomputable def gLt (b : Nat) : D → Option D
  | .str x => if decide (x.cps.toList < [b]) then some (.str x) else none
  | _ => none
theorem gLt_len (signs : List Nat) (b : Nat) : ((chars (S signs)).filterMap (gLt b)).length = (signs.filter (· < b)).length := by
  rw [chars_S, List.filterMap_map]
  induction signs with
  | nil => rfl
  | cons c r ih =>
    have e : (gLt b ∘ fun c => D.str (S [c])) c = if decide (c < b) then some (dS [c]) else none := by
      show (if decide ([c] < [b]) then some (dS [c]) else none) = _
      rw [one_lt]
    by_cases h : c < b
    · rw [decide_eq_true h] at e
      rw [List.filterMap_cons_some e, List.filter_cons_of_pos (by simpa using h)]
      simp [ih]
    · rw [decide_eq_false h] at e
      rw [List.filterMap_cons_none e, List.filter_cons_of_neg (by simpa using h)]
      exact ih
section
variable {g : Gx} {P : Params}
theorem f_ahead (X : Kx (Mine.hd.heap_1 P) g) {told : List (List (List Nat))} {names : List (List Nat)} (hn : ∀ n ∈ names, NameOK n) (hl : (pathOf names).length ≤ 10000) (hc : names.length ≤ 1000) (hlen : names.map List.length = told.map List.length) (hrl : ∀ row ∈ told, row.length ≤ 1000)
    (h1 : ∀ p ∈ told.zip names, ∀ q ∈ p.1.zip p.2, q.1.length ≤ 1000 ∧ (∀ c ∈ q.1, c < 128) ∧ q.2 ∈ q.1) : Fn g 2 (.ref 283) [dRows told, dS (pathOf names)] (.int (aheadOf told names)) := by
  have htl : told.length = names.length := by have := congrArg List.length hlen; simpa using this.symm
  refine Fn.of (k := 1) (xs := ["told", "path"]) X rfl rfl (bind2 fun xx xx => rfl) (by decide) (by decide) (by decide) (fun A L hr bd => ?_)
  refine EX.cons (EX1.set (d := dRow ([] :: names)) (EV.conv (EV.meth (EV.var bd (by decide) rfl) (.one (strS rfl) rfl) (Fn.split (c := 47) (by lia)) (hr.less (by decide)) rfl F.plainAttrs_str F.slot_str_split F.type_str_split ⟨rfl, rfl, by decide, rfl⟩) (by rw [pieces_path hn])) (bd.sto (by decide)) rfl) ?_
  refine EX.cons (EX1.ite (b := false) (o := .next [("told", .val (dRows told)), ("path", .val (dS (pathOf names))), ("names", .val (dRow ([] :: names)))]) ?_ (fun hb => by cases hb) (fun xx => EX.nil)) ?_
  · refine EB.conv (EB.or (b1 := false) (b2 := false) (EB.conv (EB.cmp (EV.sub (EV.var bd (by decide) rfl) EV.int rfl F.slot_list_getitem.lookup (Op2.sub_list (j := 0) (d := dS []) ?_ rfl (by decide) (by decide)) (hr.less (by decide))) (strS (l := []) rfl) Op2.ne_str (hr.less (by decide)) rfl) rfl) fun xx => ?_) rfl
    · simp [seqIndex?]
    · refine EB.conv (EB.cmp (d1 := .list ((names.map fun n => (n.length : Int)).map D.int)) (d2 := .list ((told.map fun n => (n.length : Int)).map D.int)) ?_ ?_ (Op2.ne_list fun A s Z xx xx => EqKind.int) hr rfl) ?_
      · refine EV.conv (EV.compC bd.cb gLen [] (items := names.map dS) (IT.list (EV.conv (EV.sub (EV.var bd (by decide) rfl) (EV.slice (dl := .int ((1 : Nat) : Int)) (du := .none) (ds := .none) EV.int rfl rfl) rfl F.slot_list_getitem.lookup (Op2.from_list (by unfold sizeLine; simp; lia)) (hr.less (by decide))) (by simp)) hr) rfl rfl rfl rfl (fun xx h => nomatch h) (List.nil_sublist _) (fun env cb d hd => ?_) (by unfold sizeLine; simp; lia) fun xx => rfl) ?_
        · obtain ⟨n, hnn, rfl⟩ := List.mem_map.mp hd
          have hnl := name_le hnn
          refine CE.mk (AT.varC cb (by decide)) (List.nil_sublist _) (EV.conv (EV.callBo (cb.outer (by decide)) X rfl rfl (by decide) (.inl ⟨_, rfl⟩) (.one (EV.varC cb (by decide) rfl) rfl) (Fn.len_str (a := n) (by lia)) hr (by decide) rfl) rfl)
        · rw [fm_map (f := dS) (g := gLen) (h := fun n : List Nat => D.int n.length) (fun n => rfl), List.map_map]; rfl
      · refine EV.conv (EV.compC bd.cb gLen [] (items := told.map dRow) (IT.list (EV.var bd (by decide) rfl) hr) rfl rfl rfl rfl (fun xx h => nomatch h) (List.nil_sublist _) (fun env cb d hd => ?_) (by unfold sizeLine; simp; lia) fun xx => rfl) ?_
        · obtain ⟨row, hrow, rfl⟩ := List.mem_map.mp hd
          have hnl := hrl row hrow
          exact CE.mk (AT.varC cb (by decide)) (List.nil_sublist _) (EV.conv (EV.callBo (cb.outer (by decide)) X rfl rfl (by decide) (.inl ⟨_, rfl⟩) (.one (EV.varC cb (by decide) rfl) rfl) (Fn.len_list (ds := row.map dS) (by simp; lia)) hr (by decide) rfl) rfl)
        · rw [fm_map (f := dRow) (g := gLen) (h := fun n : List (List Nat) => D.int n.length) (fun n => congrArg (fun k : Nat => some (D.int (k : Int))) (List.length_map ..)), List.map_map]; rfl
      · have e : (names.map fun n => (n.length : Int)) = told.map fun n => (n.length : Int) := by
          have := congrArg (List.map fun n : Nat => (n : Int)) hlen
          rw [List.map_map, List.map_map] at this; exact this
        rw [e]; simp
  refine EX.cons (EX1.set EV.int (bd.sto (by decide)) rfl) ?_
  refine EX.cons (EX1.set EV.int (bd.sto (by decide)) rfl) ?_
  refine EX.cons (EX1.forFold' (tt := false) (xs := (told.zip names).reverse) (f := fun p => .tuple [dRow p.1, dS p.2]) (fun (t : Nat × Nat) => [("told", .val (dRows told)), ("path", .val (dS (pathOf names))), ("names", .val (dRow ([] :: names))), ("ahead", .val (.int t.1)), ("behind", .val (.int t.2))]) aheadRow (0, 1) (IT.list (EV.sub (EV.listZip (EV.built X (bd.outer (by decide)) rfl rfl (by decide)) (EV.built X (bd.outer (by decide)) rfl rfl (by decide)) (EV.var bd (by decide) rfl) (EV.conv (EV.sub (EV.var bd (by decide) rfl) (EV.slice (dl := .int ((1 : Nat) : Int)) (du := .none) (ds := .none) EV.int rfl rfl) rfl F.slot_list_getitem.lookup (Op2.from_list (by unfold sizeLine; simp; lia)) (hr.less (by decide))) (show _ = dRow names by simp)) rfl (.list _) (.list _) (by unfold sizeLine; simp; lia) hr) (EV.slice (dl := .none) (du := .none) (ds := .int (-1)) rfl rfl (EV.un EV.int Op1.neg_int (hr.less (by decide)))) rfl F.slot_list_getitem.lookup (Op2.rev_list (by unfold sizeLine; simp [pairs]; lia)) (hr.less (by decide))) hr) rfl (by rw [pairs_map, List.map_reverse]) (fun t p hp => ⟨_, AT.two (AT.var bd (by decide)) (AT.var bd (by decide)) hr fun xx => rfl, ?_⟩) (fun xx => rfl)) (EX.gives (EV.var bd (by decide) rfl))
  obtain ⟨row, name⟩ := p
  have hp' : (row, name) ∈ told.zip names := List.mem_reverse.mp hp
  have hname := hn name (List.of_mem_zip hp').2
  have hrow := hrl row (List.of_mem_zip hp').1
  refine EX.cons (EX1.forFold' (tt := false) (xs := (row.zip name).reverse) (f := fun q => .tuple [dS q.1, dS [q.2]]) (fun (t : Nat × Nat) => [("told", .val (dRows told)), ("path", .val (dS (pathOf names))), ("names", .val (dRow ([] :: names))), ("ahead", .val (.int t.1)), ("behind", .val (.int t.2)), ("row", .val (dRow row)), ("name", .val (dS name))]) aheadSign t (IT.list (EV.sub (EV.listZip (EV.built X (bd.outer (by decide)) rfl rfl (by decide)) (EV.built X (bd.outer (by decide)) rfl rfl (by decide)) (EV.var bd (by decide) rfl) (EV.var bd (by decide) rfl) rfl (.list _) (.str (ascii_of hname.ascii)) (by unfold sizeLine; simp; lia) hr) (EV.slice (dl := .none) (du := .none) (ds := .int (-1)) rfl rfl (EV.un EV.int Op1.neg_int (hr.less (by decide)))) rfl F.slot_list_getitem.lookup (Op2.rev_list (by unfold sizeLine; simp [pairs]; lia)) (hr.less (by decide))) hr) rfl (by rw [chars_S, pairs_map, List.map_reverse]) (fun t q hq => ⟨_, AT.two (AT.var bd (by decide)) (AT.var bd (by decide)) hr fun xx => rfl, ?_⟩) (fun xx => rfl)) (EX.nil.post ?_)
  · obtain ⟨signs, ch⟩ := q
    obtain ⟨hl2, hs, hm⟩ := h1 _ hp' (signs, ch) (List.mem_reverse.mp hq)
    obtain ⟨t1, t2⟩ := t
    replace hm : ch ∈ signs := hm
    replace hl2 : signs.length ≤ 1000 := hl2
    have hfl : (signs.filter (· < ch)).length ≤ 1000 := Nat.le_trans (List.length_filter_le _ _) hl2
    refine EX.cons (EX1.ite (b := false) (o := .next [("told", .val (dRows told)), ("path", .val (dS (pathOf names))), ("names", .val (dRow ([] :: names))), ("ahead", .val (.int t1)), ("behind", .val (.int t2)), ("row", .val (dRow row)), ("name", .val (dS name)), ("signs", .val (dS signs)), ("sign", .val (dS [ch]))]) (EB.conv (EB.cmp (EV.var bd (by decide) rfl) (EV.var bd (by decide) rfl) Op2.notin_one (hr.less (by decide)) rfl) (by simp [hm])) (fun hb => by cases hb) (fun xx => EX.nil)) ?_
    refine EX.cons (EX1.augS (d := .int ((t1 + t2 * (signs.filter (· < ch)).length : Nat) : Int)) (mem_look rfl) (d1 := .int ((t2 * (signs.filter (· < ch)).length : Nat) : Int)) (EV.conv (EV.bin' (EV.var bd (by decide) rfl) (EV.callB bd X (by decide) rfl rfl (by decide) (.inl ⟨_, rfl⟩) (.one (EV.compC bd.cb (gLt ch) [("sign", .val (dS [ch]))] (items := chars (S signs)) (IT.str (EV.var bd (by decide) rfl) (ascii_of hs) hr) rfl rfl rfl rfl (fun p hp => by simp at hp; subst hp; exact ⟨_, rfl⟩) (sub_one rfl) (fun env cb d hd => ?_) (by unfold sizeLine; simp [chars]; lia) fun xx => rfl) rfl) (Fn.len_list (by rw [gLt_len]; lia)) hr (by decide) rfl) (Op2.mul_int (by rw [gLt_len]; lia)) hr (by decide)) (by rw [gLt_len]; simp)) (by rw [Int.natCast_add]; exact Op2.iadd_int) (hr.less (by decide)) (bd.nameOk (by decide)) (bd.sto (by decide))) ?_
    · rw [chars_S] at hd
      obtain ⟨x, hx, rfl⟩ := List.mem_map.mp hd
      exact CE.test (AT.varC cb (by decide)) (.cons_cons _ (.cons _ .slnil)) (EB.cmp (EV.varC cb (by decide) rfl) (EV.varC cb (by decide) rfl) Op2.lt_str (hr.less (by decide)) rfl) fun xx => EV.varC cb (by decide) rfl
    refine EX.cons (EX1.augS (d := .int ((t2 * signs.length : Nat) : Int)) (mem_look rfl) (EV.callB bd X (by decide) rfl rfl (by decide) (.inl ⟨_, rfl⟩) (.one (EV.var bd (by decide) rfl) rfl) (Fn.len_str (a := signs) (by lia)) hr (by decide) rfl) (by rw [Int.natCast_mul]; exact Op2.imul_int (by lia)) (hr.less (by decide)) (bd.nameOk (by decide)) (bd.sto (by decide))) (EX.nil.post ?_)
    exact .cons_cons _ (.cons_cons _ (.cons_cons _ (.cons_cons _ (.cons_cons _ (.cons_cons _ (.cons_cons _ (.cons _ (.cons _ .slnil))))))))
  · exact .cons_cons _ (.cons_cons _ (.cons_cons _ (.cons_cons _ (.cons_cons _ (.cons _ (.cons _ .slnil))))))
end
end Mine
end
section
open PySem PySem.W PyProof.Rows
set_option Elab.async false
set_option tactic.hygienic false
set_option maxRecDepth 100000
set_option maxHeartbeats 400000
set_option linter.unusedVariables false
namespace Mine
noncomputable def rowSize (row : List (List Nat)) : Nat := (row.map List.length).foldr (· * ·) 1
noncomputable def size (rows : List (List (List Nat))) : Nat := (rows.map rowSize).foldr (· * ·) 1
theorem rowSize_cons (s : List Nat) (r : List (List Nat)) : rowSize (s :: r) = s.length * rowSize r := rfl
theorem size_cons (s : List (List Nat)) (r : List (List (List Nat))) : size (s :: r) = rowSize s * size r := rfl
theorem foldl_row (row : List (List Nat)) : ∀ t : Nat, row.foldl (fun t s => t * s.length) t = t * rowSize row := by
  induction row with
  | nil => intro t; simp [rowSize]
  | cons s r ih => intro t; rw [List.foldl_cons, ih, rowSize_cons, Nat.mul_assoc]
theorem total_size (rows : List (List (List Nat))) : total rows = size rows := by
  unfold total
  have : ∀ t : Nat, rows.foldl (fun t row => row.foldl (fun t s => t * s.length) t) t = t * size rows := by
    induction rows with
    | nil => intro t; simp [size]
    | cons s r ih => intro t; rw [List.foldl_cons, ih, foldl_row, size_cons, Nat.mul_assoc]
  rw [this, Nat.one_mul]
theorem rowSize_pos {row : List (List Nat)} (h : ∀ s ∈ row, 1 ≤ s.length) : 1 ≤ rowSize row := by
  induction row with
  | nil => exact Nat.le_refl _
  | cons s r ih => rw [rowSize_cons]; exact Nat.mul_pos (h s (by simp)) (ih fun s hs => h s (.tail _ hs))
theorem size_pos {rows : List (List (List Nat))} (h : ∀ row ∈ rows, ∀ s ∈ row, 1 ≤ s.length) : 1 ≤ size rows := by
  induction rows with
  | nil => exact Nat.le_refl _
  | cons s r ih => rw [size_cons]; exact Nat.mul_pos (rowSize_pos (h s (by simp))) (ih fun s hs => h s (.tail _ hs))
noncomputable def alikeN (told : List (List (List Nat))) (names : List (List Nat)) (one other : Nat) : Nat → List (List Nat)
  | 0 => []
  | i + 1 => alikeN told names one other i ++ if one / size (told.drop (i + 1)) = other / size (told.drop (i + 1)) then [names.getD i []] else []
theorem alikeN_succ {told : List (List (List Nat))} {names : List (List Nat)} {one other i : Nat} : alikeN told names one other (i + 1) = alikeN told names one other i ++ if one / size (told.drop (i + 1)) = other / size (told.drop (i + 1)) then [names.getD i []] else [] := rfl
theorem alikeN_length (told : List (List (List Nat))) (names : List (List Nat)) (one other : Nat) : ∀ i, (alikeN told names one other i).length ≤ i := by
  intro zz
  induction zz with
  | zero => exact Nat.le_refl _
  | succ i IH =>
    have := IH
    rw [alikeN_succ]
    split <;> simp <;> omega
theorem alikeN_mem {told : List (List (List Nat))} {names : List (List Nat)} {one other : Nat} : ∀ {i : Nat}, i ≤ names.length → ∀ n ∈ alikeN told names one other i, n ∈ names := by
  intro zz
  induction zz with
  | zero => intro _ n h; cases h
  | succ i IH =>
    intro hi n h
    rw [alikeN_succ] at h
    rcases List.mem_append.mp h with h | h
    · exact IH (by lia) n h
    · split at h
      · simp at h; subst h
        rw [List.getElem?_eq_getElem (by lia)]
        exact List.getElem_mem _
      · cases h
theorem IT.zipMap {α β : Type} {c : Cx} {ρ : Rho} {k : Nat} {x : Str} {np p : Pos} {e1 e2 : Expr} {f : α → D} {h : β → D} {xs : List α} {ys : List β} (hn : EV c ρ (.Name x np) (.raw (.type "zip"))) (h1 : EV c ρ e1 (.list (xs.map f))) (h2 : EV c ρ e2 (.list (ys.map h))) (hs : noStar [e1, e2] = true) (hk : Rm c.A k) :
    IT true L0 c ρ (.Call (.Name x np) [e1, e2] [] p) ((xs.zip ys).map fun q => .tuple [f q.1, h q.2]) := by
  have := IT.zip (p := p) hn h1 h2 hs (.list _) (.list _) hk
  rw [lfz_L0, pairs_map] at this
  exact this
section
variable {g : Gx} {P : Params}
theorem f_alike (X : Kx (Mine.hd.heap_1 P) g) {told : List (List (List Nat))} {names : List (List Nat)} {one other : Nat} (hn : ∀ n ∈ names, NameOK n) (hl : (pathOf names).length ≤ 10000) (hc : names.length ≤ 1000) (htl : told.length = names.length) (hs : ∀ row ∈ told, ∀ s ∈ row, 1 ≤ s.length ∧ s.length ≤ 1000)
    (hsz : size told < 2 ^ 29) : Fn g 2 (.ref 290) [dRows told, dS (pathOf names), .int one, .int other] (dS (47 :: glue [47] (alikeN told names one other names.length))) := by
  refine Fn.of (k := 1) (xs := ["told", "path", "one", "other"]) X rfl rfl (bind4 fun xx xx xx xx => rfl) (by decide) (by decide) (by decide) (fun A L hr bd => ?_)
  refine EX.cons (EX1.set (EV.int (i := 1)) (bd.sto (by decide)) rfl) ?_
  refine EX.cons (EX1.forFold (xs := told) (f := dRow) (fun (t : Nat) => [("told", .val (dRows told)), ("path", .val (dS (pathOf names))), ("one", .val (.int one)), ("other", .val (.int other)), ("behind", .val (.int t))]) (fun t row => row.foldl (fun t s => t * s.length) t) 1 (IT.list (EV.var bd (by decide) rfl) hr) (fun t row hrow => ⟨_, AT.var bd (by decide), ?_⟩) (fun xx => rfl)) ?_
  · refine EX.cons (EX1.forFold (xs := row) (f := dS) (fun (t : Nat) => [("told", .val (dRows told)), ("path", .val (dS (pathOf names))), ("one", .val (.int one)), ("other", .val (.int other)), ("behind", .val (.int t)), ("row", .val (dRow row))]) (fun t s => t * s.length) t (IT.list (EV.var bd (by decide) rfl) hr) (fun t s hsm => ⟨_, AT.var bd (by decide), ?_⟩) (fun xx => rfl)) (EX.nil.post ?_)
    · have h5 := (hs row hrow s hsm).2
      refine EX.cons (EX1.augS (d := .int ((t * s.length : Nat) : Int)) (mem_look rfl) (EV.callB bd X (by decide) rfl rfl (by decide) (.inl ⟨_, rfl⟩) (.one (EV.var bd (by decide) rfl) rfl) (Fn.len_str (a := s) (by lia)) hr (by decide) rfl) (by rw [Int.natCast_mul]; exact Op2.imul_int (by lia)) (hr.less (by decide)) (bd.nameOk (by decide)) (bd.sto (by decide))) (EX.nil.post ?_)
      exact .cons_cons _ (.cons_cons _ (.cons_cons _ (.cons_cons _ (.cons_cons _ (.cons_cons _ (.cons _ .slnil))))))
    · exact .cons_cons _ (.cons_cons _ (.cons_cons _ (.cons_cons _ (.cons_cons _ (.cons _ .slnil)))))
  have ht : told.foldl (fun t row => row.foldl (fun t s => t * s.length) t) 1 = size told := total_size told
  rw [ht]
  refine EX.cons (EX1.newList (bd.sto (by decide)) (bd.nameOk (by decide)) rfl) ?_
  refine EX.convρ (ρ' := [("told", .val (dRows told)), ("path", .val (dS (pathOf names))), ("one", .val (.int one)), ("other", .val (.int other)), ("behind", .val (.int (size (told.drop 0) : Nat))), ("names", .own ((alikeN told names one other 0).map dS))]) ?_ rfl
  refine EX.cons (EX1.forE (tt := true) (items := (told.zip names).map fun p => D.tuple [dRow p.1, dS p.2]) (fun i => [("told", .val (dRows told)), ("path", .val (dS (pathOf names))), ("one", .val (.int one)), ("other", .val (.int other)), ("behind", .val (.int (size (told.drop i) : Nat))), ("names", .own ((alikeN told names one other i).map dS))]) ?_ (fun i d hd => ?_) (fun xx => rfl)) ?_
  · exact IT.zipMap (f := dRow) (h := dS) (xs := told) (ys := names) (EV.built X (bd.outer (by decide)) rfl rfl (by decide)) (EV.var bd (by decide) rfl) (EV.conv (EV.sub (EV.meth (EV.var bd (by decide) rfl) (.one (strS rfl) rfl) (Fn.split (c := 47) (a := pathOf names) (by lia)) (hr.less (by decide)) rfl F.plainAttrs_str F.slot_str_split F.type_str_split ⟨rfl, rfl, by decide, rfl⟩) (EV.slice (dl := .int ((1 : Nat) : Int)) (du := .none) (ds := .none) EV.int rfl rfl) rfl F.slot_list_getitem.lookup (Op2.from_list (by rw [pieces_path hn]; unfold sizeLine; simp; lia)) (hr.less (by decide))) (by rw [pieces_path hn]; simp)) rfl hr
  · rw [List.getElem?_map, Option.map_eq_some_iff] at hd
    obtain ⟨⟨row, name⟩, e, rfl⟩ := hd
    rw [List.getElem?_zip_eq_some] at e
    obtain ⟨er, en⟩ := e
    replace er : told[i]? = some row := er
    replace en : names[i]? = some name := en
    obtain ⟨hit, _⟩ := List.getElem?_eq_some_iff.mp er
    have hrow : row ∈ told := List.mem_of_getElem? er
    have hdr : told.drop i = row :: told.drop (i + 1) := by rw [List.drop_eq_getElem_cons hit, (List.getElem?_eq_some_iff.mp er).2]
    have hpos : 1 ≤ size (told.drop (i + 1)) := size_pos fun r hr s h => (hs r (List.mem_of_mem_drop hr) s h).1
    have hle : size (told.drop (i + 1)) < 2 ^ 29 := by
      have : ∀ (l : List (List (List Nat))) (j : Nat), (∀ row ∈ l, ∀ s ∈ row, 1 ≤ s.length) → size (l.drop j) ≤ size l := fun l => by
        induction l with
        | nil => intro j _; simp
        | cons r l ih =>
          intro j h
          cases j with
          | zero => exact Nat.le_refl _
          | succ j =>
            rw [List.drop_succ_cons, size_cons]
            exact Nat.le_trans (ih j fun row hr => h row (.tail _ hr)) (Nat.le_mul_of_pos_left _ (rowSize_pos (h r (.head _))))
      exact Nat.lt_of_le_of_lt (this told _ fun row hr s h => (hs row hr s h).1) hsz
    have hgd : names.getD i [] = name := by rw [List.getD_eq_getElem?_getD, en]; rfl
    refine ⟨_, AT.two (AT.var bd (by decide)) (AT.var bd (by decide)) hr fun xx => rfl, ?_⟩
    rw [hdr, size_cons]
    generalize hm : size (told.drop (i + 1)) = m at hpos hle
    refine EX.convρ (ρ' := [("told", .val (dRows told)), ("path", .val (dS (pathOf names))), ("one", .val (.int one)), ("other", .val (.int other)), ("behind", .val (.int (rowSize (row.drop 0) * m : Nat))), ("names", .own ((alikeN told names one other i).map dS)), ("row", .val (dRow row)), ("name", .val (dS name))]) ?_ rfl
    refine EX.cons (EX1.forMap (xs := row) (f := dS) (fun j => [("told", .val (dRows told)), ("path", .val (dS (pathOf names))), ("one", .val (.int one)), ("other", .val (.int other)), ("behind", .val (.int (rowSize (row.drop j) * m : Nat))), ("names", .own ((alikeN told names one other i).map dS)), ("row", .val (dRow row)), ("name", .val (dS name))]) (IT.list (EV.var bd (by decide) rfl) hr) (fun j signs hj => ⟨_, AT.var bd (by decide), ?_⟩) (fun xx => rfl)) ?_
    · have hsg := hs row hrow signs (List.mem_of_getElem? hj)
      obtain ⟨hjl, hje⟩ := List.getElem?_eq_some_iff.mp hj
      have hdj : row.drop j = signs :: row.drop (j + 1) := by rw [List.drop_eq_getElem_cons hjl]; congr 1
      have hdiv : (((rowSize (row.drop j) * m : Nat) : Int).fdiv (signs.length : Int)) = ((rowSize (row.drop (j + 1)) * m : Nat) : Int) := by
        rw [Int.fdiv_eq_ediv_of_nonneg _ (by lia), ← Int.natCast_ediv, hdj, rowSize_cons, Nat.mul_assoc, Nat.mul_div_cancel_left _ hsg.1]
      refine EX.cons (EX1.augS (d := .int ((rowSize (row.drop (j + 1)) * m : Nat) : Int)) (mem_look rfl) (EV.callB bd X (by decide) rfl rfl (by decide) (.inl ⟨_, rfl⟩) (.one (EV.var bd (by decide) rfl) rfl) (Fn.len_str (a := signs) (by lia)) hr (by decide) rfl) (by rw [← hdiv]; exact Op2.ifloordiv_int (by lia) (PyProof.noPylong_small (by lia))) (hr.less (by decide)) (bd.nameOk (by decide)) (bd.sto (by decide))) (EX.nil.post ?_)
      exact .cons_cons _ (.cons_cons _ (.cons_cons _ (.cons_cons _ (.cons_cons _ (.cons_cons _ (.cons_cons _ (.cons_cons _ (.cons _ .slnil))))))))
    have e0 : rowSize (row.drop row.length) * m = m := by simp [rowSize]
    rw [e0]
    have hmz : ((m : Nat) : Int) ≠ 0 := by lia
    have hd1 : ∀ x : Nat, ((x : Int).fdiv (m : Int)) = ((x / m : Nat) : Int) := fun x => by rw [Int.fdiv_eq_ediv_of_nonneg _ (by lia)]; simp
    refine EX.cons (EX1.ite (b := decide (one / m = other / m)) (o := .next [("told", .val (dRows told)), ("path", .val (dS (pathOf names))), ("one", .val (.int one)), ("other", .val (.int other)), ("behind", .val (.int (m : Nat))), ("names", .own ((alikeN told names one other (i + 1)).map dS))]) (EB.conv (EB.cmp (EV.bin' (EV.var bd (by decide) rfl) (EV.var bd (by decide) rfl) (Op2.floordiv_int hmz (PyProof.noPylong_small (by lia))) hr (by decide)) (EV.bin' (EV.var bd (by decide) rfl) (EV.var bd (by decide) rfl) (Op2.floordiv_int hmz (PyProof.noPylong_small (by lia))) hr (by decide)) Op2.eq_int (hr.less (by decide)) rfl) ?_) (fun hb => ?_) (fun hb => ?_)) EX.nil
    · rw [hd1, hd1, Bool.eq_iff_iff]
      simp only [beq_iff_eq, decide_eq_true_eq]
      exact Int.ofNat_inj
    · have hb' := of_decide_eq_true hb
      have e1 : (alikeN told names one other (i + 1)).map dS = (alikeN told names one other i).map dS ++ [dS name] := by
        rw [alikeN_succ, hm, if_pos hb', hgd, List.map_append]; rfl
      rw [e1]
      refine EX.cons (EX1.append (x := "names") (.of_look rfl) (bd.nameOk (by decide)) (EV.var bd (by decide) rfl) ⟨rfl, rfl, by decide, rfl⟩ ?_ rfl rfl) (EX.nil.post ?_)
      · have := alikeN_length told names one other i; simp; lia
      · exact .cons_cons _ (.cons_cons _ (.cons_cons _ (.cons_cons _ (.cons_cons _ (.cons_cons _ (.cons _ (.cons _ .slnil)))))))
    · have hb' := of_decide_eq_false hb
      have e1 : (alikeN told names one other (i + 1)).map dS = (alikeN told names one other i).map dS := by
        rw [alikeN_succ, hm, if_neg hb', List.append_nil]
      rw [e1]
      exact EX.nil.post (.cons_cons _ (.cons_cons _ (.cons_cons _ (.cons_cons _ (.cons_cons _ (.cons_cons _ (.cons _ (.cons _ .slnil))))))))
  · have e2 : ((told.zip names).map fun p => D.tuple [dRow p.1, dS p.2]).length = names.length := by simp; lia
    rw [e2]
    have hal := alikeN_length told names one other names.length
    have hsum : ((alikeN told names one other names.length).map (·.length)).sum ≤ 10000 * 1000 := by
      have : ∀ l : List (List Nat), (∀ x ∈ l, x.length ≤ 10000) → (l.map (·.length)).sum ≤ 10000 * l.length := fun l hl => by
        induction l with
        | nil => simp
        | cons a r ih =>
          have := ih fun x hx => hl x (.tail _ hx)
          have := hl a (.head _)
          simp; lia
      have h5 := this (alikeN told names one other names.length) fun x hx => by
        have := name_le (alikeN_mem (Nat.le_refl _) x hx); lia
      lia
    refine EX.freeze (x := "names") (.of_look rfl) (EX.gives (EV.conv (EV.bin' (strS (l := [47]) rfl) (EV.meth (strS (l := [47]) rfl) (.one (EV.var bd (by decide) (d := .list ((alikeN told names one other names.length).map dS)) rfl) rfl) (Fn.join (sep := [47]) (ts := alikeN told names one other names.length) ?_) (hr.less (by decide)) rfl F.plainAttrs_str F.slot_str_join F.type_str_join ⟨rfl, rfl, by decide, rfl⟩) (Op2.add_str ?_) hr (by decide)) rfl))
    · simp; lia
    · have := glue_length [47] (alikeN told names one other names.length)
      unfold sizeLine; simp at this ⊢; lia
end
end Mine
end
section
set_option Elab.async false
set_option tactic.hygienic false
set_option maxRecDepth 100000
set_option linter.unusedVariables false
namespace Mine
open PySem PySem.W PySem.Calls PyProof.Rows
section
variable {c : Cx} {sg : Shared} {B : Mp} {Y : List Addr} {fs : List Addr} {m cm : Str → Option Value} {ρ ρ' : Rho} {T : List (Value × D)} {s s' : Shared}
theorem EX1.extend {x : Str} {np apos p pe : Pos} {e : Expr} {ds es : List D} (hx : HasSlot x (.own ds) ρ) (hn : NameOk c x) (h : EV c ρ e (.list es)) (k : MethOk c (.Name x np) "extend" [e] apos p) (hsz : ds.length + es.length ≤ 1000000)
    (hi : interactive c.env = false) (hs : swapsWith (.Call (.Attribute (.Name x np) "extend" apos) [e] [] p) none pe.line c.env = pure false) :
    EX1 c ρ (.Expr (.Call (.Attribute (.Name x np) "extend" apos) [e] [] p) pe) (.next (setSlot x (.own (ds ++ es)) ρ)) := fun sg B Y T s E hqz => by
  obtain ⟨fs, m, cm, y⟩ := hqz
  obtain ⟨v, gs, l, q, hsub⟩ := St.lookOwn y hx
  obtain ⟨a, vs, n, rfl, rfl, e1, r⟩ := q
  refine wpAny_Expr_any (wpAny_Call_method k.base k.form k.line F.plainAttrs_list F.slot_list_extend F.type_list_extend ?_) hi hs
  refine hn.eval y l ⟨⟨_, e1, rfl⟩, fun b eb => by cases eb; exact ⟨_, e1, rfl⟩, ?_⟩
  refine callRaw (.inl ⟨_, rfl⟩) (.cons h .nil (fun env => starEach_cons_noStar k.plain)) k.nostar y.rd fun us s₁ k1 q => ?_
  obtain ⟨u, rfl⟩ : ∃ u, us = [u] := len1 q.length
  obtain ⟨u', e', q⟩ := q.one'
  cases e'
  obtain ⟨b, ws, nb, rfl, hz, hr⟩ := q.of_list
  have y1 := y.keeps k1
  have e1' := keeps_heap k1 _ _ e1
  have r1 := r.mono (keeps_le k1)
  have l1 := r.length
  have l2 := hr.length
  have hs2 : vs.toArray.size + ws.toArray.size ≤ sizeLine + 1 := by simp [sizeLine]; lia
  have hc0 : ¬(!vs.toArray.isEmpty && Builtin.List.listTooLong (vs.toArray.size + ws.toArray.size)) = true := by
    have : Builtin.List.listTooLong (vs.toArray.size + ws.toArray.size) = false := by
      unfold Builtin.List.listTooLong
      exact decide_eq_false (by simp [sizeLine]; lia)
    rw [this]; simp
  have hm := AutoSeq1.list_extend_list_list_0 a vs.toArray n b ws.toArray nb hc0 (by simp [sizeLine]; lia) hs2
  have hself := Heap.get?_update_self (Obj.mapSeq fun x => x ++ ws.toArray) e1' rfl
  refine call_meets F.slot_list_extend ⟨_, e1', rfl⟩ F.entry_list_extend (F.args_list_extend_2 _ _) hm ⟨e1', (Zof.get hz).1, rfl, ?_⟩
  exact y1.relist hx l e1' r1 (fun b o hb e => (Heap.get?_update_other _ _ (Ne.symm hb)).trans e) (vs' := vs ++ ws) (by rw [hself]; simp [Obj.mapSeq, lst]; rfl) (r1.append hr)
end
end Mine
end
section
open PySem PySem.W PyProof.Rows
set_option Elab.async false
set_option tactic.hygienic false
set_option maxRecDepth 100000
set_option maxHeartbeats 400000
set_option linter.unusedVariables false
namespace Mine
noncomputable def numbersOf (start : List Int) (t : Nat) : List Nat := start.flatMap fun x => [(x.emod t).toNat, ((x + 1).emod t).toNat]
theorem numbersOf_length (start : List Int) (t : Nat) : (numbersOf start t).length = 2 * start.length := by
  induction start with
  | nil => rfl
  | cons x r ih => unfold numbersOf at ih ⊢; rw [List.flatMap_cons, List.length_append, ih]; simp; lia
section
variable {g : Gx} {P : Params}
theorem f_lt (X : Kx (Mine.hd.heap_1 P) g) {a b : List (List Nat)} : Fn g 1 (.ref 69) [dRow a, dRow b] (.bool (ltL a b)) := by
  refine Fn.of (k := 0) (xs := ["a", "b"]) X rfl rfl (bind2 fun xx xx => rfl) (by decide) (by decide) (by decide) (fun A L hr bd => ?_)
  exact EX.gives (EV.cmp (EV.var bd (by decide) rfl) (EV.var bd (by decide) rfl) Op2.lt_list hr rfl)
theorem f_numbers (X : Kx (Mine.hd.heap_1 P) g) {start : List Int} {t : Nat} (ht : 1 ≤ t) (hl : start.length ≤ 1000) : Fn g 2 (.ref 297) [.list (start.map D.int), .int t] (.list ((numbersOf start t).map fun n : Nat => D.int n)) := by
  refine Fn.of (k := 1) (xs := ["start", "total"]) X rfl rfl (bind2 fun xx xx => rfl) (by decide) (by decide) (by decide) (fun A L hr bd => ?_)
  have htz : (t : Int) ≠ 0 := by lia
  have hmod : ∀ x : Int, (x.fmod (t : Int)) = (((x.emod t).toNat : Nat) : Int) := fun x => by
    rw [Int.fmod_eq_emod_of_nonneg _ (by lia)]
    exact (Int.toNat_of_nonneg (Int.emod_nonneg _ htz)).symm
  refine EX.cons (EX1.newList (bd.sto (by decide)) (bd.nameOk (by decide)) rfl) ?_
  refine EX.cons (EX1.forMap (xs := start) (f := D.int) (fun i => [("start", .val (.list (start.map D.int))), ("total", .val (.int t)), ("numbers", .own ((numbersOf (start.take i) t).map fun n : Nat => D.int n))]) (IT.list (EV.var bd (by decide) rfl) hr) (fun i x hx => ⟨_, AT.var bd (by decide), ?_⟩) (fun xx => rfl)) ?_
  · have e : numbersOf (start.take (i + 1)) t = numbersOf (start.take i) t ++ [(x.emod t).toNat, ((x + 1).emod t).toNat] := by
      unfold numbersOf
      rw [List.take_add_one, hx]; simp
    have hln : (numbersOf (start.take i) t).length = 2 * (start.take i).length := numbersOf_length _ _
    have htk : (start.take i).length ≤ 1000 := by simp; lia
    rw [e]
    refine EX.cons (EX1.extend (x := "numbers") (es := [(.int ((x.emod t).toNat : Nat)), (.int (((x + 1).emod t).toNat : Nat))]) (.of_look rfl) (bd.nameOk (by decide)) (EV.list (.two (EV.conv (EV.callF bd X (by decide) rfl rfl rfl (.two (EV.var bd (by decide) rfl) (EV.var bd (by decide) rfl) rfl) (f_mod X htz) hr (by decide) rfl) (by rw [hmod])) (EV.conv (EV.callF bd X (by decide) rfl rfl rfl (.two (EV.callF bd X (by decide) rfl rfl rfl (.two (EV.var bd (by decide) rfl) EV.int rfl) (f_add X) hr (by decide) rfl) (EV.var bd (by decide) rfl) rfl) (f_mod X htz) hr (by decide) rfl) (by rw [hmod])) rfl) (by unfold sizeLine; simp)) ⟨rfl, rfl, by decide, rfl⟩ ?_ rfl rfl) (EX.nil.post ?_)
    · simp [hln]; lia
    · rw [List.map_append]
      exact .cons_cons _ (.cons_cons _ (.cons_cons _ (.cons _ .slnil)))
  · refine EX.freeze (x := "numbers") (.of_look rfl) (EX.gives (EV.conv (EV.var bd (by decide) rfl) ?_))
    simp [Slot.cold]
end
end Mine
end
section
set_option Elab.async false
set_option tactic.hygienic false
set_option maxRecDepth 100000
set_option linter.unusedVariables false
namespace Mine
open PySem PySem.W PySem.Calls PyProof.Rows PySem.SeqAt
theorem seq_at {j n : Nat} (h : j < n) : seqIndex? (j : Int) n = some j := by
  unfold seqIndex?
  have h0 : ¬ ((j : Int) < 0) := by omega
  simp only [h0, if_false]
  rw [if_pos (by simp; omega)]
  simp
theorem seq_last {n : Nat} : seqIndex? (-1) (n + 1) = some n := by
  unfold seqIndex?
  simp only [show ((-1 : Int) < 0) from by decide, if_true]
  rw [if_pos (by simp; lia)]
  congr 1; lia
theorem cut_mid (h x : Nat) (body : List Nat) : cut (h :: (body ++ [x])) (some 1) (some (-1)) = body := by
  have e1 : clipAt (h :: (body ++ [x])).length 1 = 1 := by
    have : clipAt (h :: (body ++ [x])).length ((1 : Nat) : Int) = 1 := by rw [clipAt_nat]; simp
    exact this
  have e2 : clipAt (h :: (body ++ [x])).length (-1) = body.length + 1 := by
    unfold clipAt; simp
    try lia
  unfold cut
  simp only [Option.elim, e1, e2]
  simp
section
variable {g : Gx}
theorem Op2.at_list {ds : List D} {d : D} {j : Nat} (hc : ds[j]? = some d) (hl : ds.length ≤ 100000000) : Op2 g 0 getItem (.list ds) (.int j) d := by
  have := (List.getElem?_eq_some_iff.mp hc).1
  exact Op2.sub_list (seq_at this) hc (by lia) (by lia)
theorem Op2.at_str {a : List Nat} {c j : Nat} (hc : a[j]? = some c) (hl : a.length ≤ 100000000) : Op2 g 0 getItem (.str (S a)) (.int j) (.str (S [c])) := by
  have := (List.getElem?_eq_some_iff.mp hc).1
  exact Op2.sub_str (seq_at this) hc (by lia) (by lia)
theorem Op2.last_str {a : List Nat} {c : Nat} : Op2 g 0 getItem (.str (S (a ++ [c]))) (.int (-1)) (.str (S [c])) :=
  Op2.sub_str (j := a.length) (by rw [List.length_append]; exact seq_last) (by simp) (by decide) (by decide)
theorem Op2.eq_pair {a b : List Nat} {p q : Bool} : Op2 g 1 (compareOp .Eq) (.tuple [.str (S a), .bool p]) (.tuple [.str (S b), .bool q]) (.bool (decide ((a, p) = (b, q)))) := fun A s X v w hr ok ra rb E => by
  refine cps fun PP kk => ?_
  obtain ⟨x, us, n, rfl, e1, h1⟩ := ra.of_tuple
  obtain ⟨y, ws, m, rfl, e2, h2⟩ := rb.of_tuple
  obtain ⟨u1, u2, rfl, r1, r2⟩ := h1.two'
  obtain ⟨w1, w2, rfl, r3, r4⟩ := h2.two'
  refine kk ?_
  clear kk PP
  have hu := hr.units
  have k1 := (EqKind.str (A := A.in1) (s := s) (Z := Zof s.heap X)).eq u1 w1 a b r1 r3
  have k2 := (EqKind.bool (A := A.in1) (s := s) (Z := Zof s.heap X)).eq u2 w2 p q r2 r4
  have hm := RcAt.tuples (A := A) (e := fun j => if j = 0 then decide (a = b) else decide (p = q)) (items := #[u1, u2]) (items2 := #[w1, w2]) ⟨_, (Zof.get e1).1, rfl, n, rfl⟩ ⟨_, (Zof.get e2).1, rfl, m, rfl⟩ (by lia) (fun j g1 g2 => by
    match j, g1, g2 with
    | 0, _, _ => exact k1
    | 1, _, _ => exact k2)
  have e : (((List.range (min (#[u1, u2] : Array Value).size (#[w1, w2] : Array Value).size)).all fun j => if j = 0 then decide (a = b) else decide (p = q)) && (#[u1, u2] : Array Value).size == (#[w1, w2] : Array Value).size) = decide ((a, p) = (b, q)) := by
    rw [Bool.eq_iff_iff]
    simp [List.range_succ]
  rw [e] at hm
  exact hm g.prog g.w E _ ⟨keeps_refl s, .bool _⟩
end
theorem glue_nil : ∀ l : List (List Nat), glue [] l = l.flatten
  | [] => rfl
  | [x] => (List.append_nil x).symm
  | x :: y :: r => by
    have ih := glue_nil (y :: r)
    rw [glue_cons, ih]; simp
theorem glue_singles (l : List Nat) : glue [] (l.map fun c => [c]) = l := by
  rw [glue_nil]
  induction l with
  | nil => rfl
  | cons c r ih => simp [ih]
end Mine
end
section
open PySem PySem.W PyProof.Rows
set_option Elab.async false
set_option tactic.hygienic false
set_option maxRecDepth 100000
set_option maxHeartbeats 2000000
set_option linter.unusedVariables false
namespace Mine
noncomputable def alpha : List Nat := [33, 45, 93, 97, 98, 99]
noncomputable def parse : List Nat → Option (List (Nat × Bool))
  | [] => some []
  | [c] => if c = 92 then none else some [(c, true)]
  | c :: d :: r => if c = 92 then (parse r).map ((d, false) :: ·) else (parse (d :: r)).map ((c, true) :: ·)
noncomputable def pick (lo hi : Nat) : List Nat := alpha.filter fun o => (!decide (o < lo)) && (!decide (hi < o))
noncomputable def ranges : List (Nat × Bool) → List Nat
  | [] => []
  | [a] => pick a.1 a.1
  | [a, b] => pick a.1 a.1 ++ ranges [b]
  | a :: b :: c :: r => if b = (45, true) then pick a.1 c.1 ++ ranges r else pick a.1 a.1 ++ ranges (b :: c :: r)
noncomputable def restOf (barred : Bool) (sg : List (Nat × Bool)) : List Nat := alpha.filter fun o => !(decide (o ∈ ranges sg) == barred)
noncomputable abbrev dPair (p : Nat × Bool) : D := .tuple [dS [p.1], .bool p.2]
theorem beq_one (a b : Nat) : ([a] == [b]) = (a == b) := by rw [Bool.eq_iff_iff]; simp
theorem parse_1 {c : Nat} : parse [c] = if c = 92 then none else some [(c, true)] := rfl
theorem parse_2 {c d : Nat} {r : List Nat} : parse (c :: d :: r) = if c = 92 then (parse r).map ((d, false) :: ·) else (parse (d :: r)).map ((c, true) :: ·) := rfl
theorem parse_esc {d : Nat} {r : List Nat} : parse (92 :: d :: r) = (parse r).map ((d, false) :: ·) := by rw [parse_2, if_pos rfl]
theorem parse_one {c : Nat} {r : List Nat} (h : c ≠ 92) : parse (c :: r) = (parse r).map ((c, true) :: ·) := by
  cases r with
  | nil => rw [parse_1, if_neg h]; rfl
  | cons d r => rw [parse_2, if_neg h]
noncomputable def gPick (lo hi : Nat) : D → Option D
  | .str x => if (!decide (x.cps.toList < [lo])) && (!decide ([hi] < x.cps.toList)) then some (.str x) else none
  | _ => none
noncomputable def gRest (t : List Nat) (b : Bool) : D → Option D
  | .str x => if !(decide (x.cps.toList.headD 0 ∈ t) == b) then some (.str x) else none
  | _ => none
theorem fm_filter {g : D → Option D} {q : Nat → Bool} (h : ∀ c, g (dS [c]) = if q c then some (dS [c]) else none) : ∀ l : List Nat, (l.map fun c => dS [c]).filterMap g = (l.filter q).map fun c => dS [c] := by
  intro zz
  induction zz with
  | nil => exact rfl
  | cons c r IH =>
    have ih := IH
    have e := h c
    cases hq : q c with
    | true => rw [hq] at e; rw [List.map_cons, List.filterMap_cons_some e, List.filter_cons_of_pos hq, List.map_cons, ih]
    | false => rw [hq] at e; rw [List.map_cons, List.filterMap_cons_none e, List.filter_cons_of_neg (by simp [hq]), ih]
theorem pick_fm (lo hi : Nat) : (chars (S alpha)).filterMap (gPick lo hi) = ((pick lo hi).map fun c => [c]).map dS := by
  rw [chars_S, List.map_map]
  exact fm_filter (q := fun o => (!decide (o < lo)) && (!decide (hi < o))) (fun c => by
    show (if (!decide ([c] < [lo])) && (!decide ([hi] < [c])) then some (dS [c]) else none) = _
    rw [one_lt, one_lt]) alpha
theorem rest_fm (sg : List (Nat × Bool)) (b : Bool) : (chars (S alpha)).filterMap (gRest (ranges sg) b) = ((restOf b sg).map fun c => [c]).map dS := by
  rw [chars_S, List.map_map]
  exact fm_filter (q := fun o => !(decide (o ∈ ranges sg) == b)) (fun c => rfl) alpha
theorem singles_sum (l : List Nat) : ((l.map fun c => [c]).map (·.length)).sum = l.length := by
  induction l with
  | nil => rfl
  | cons c r ih => simp only [List.map_cons, List.sum_cons, ih]; simp; lia
theorem pick_le (lo hi : Nat) : (pick lo hi).length ≤ 6 := List.length_filter_le _ _
noncomputable def endAt (sg : List (Nat × Bool)) (k : Nat) : Bool := decide (k + 2 < sg.length) && (sg[k + 1]? == some (45, true))
theorem ranges_step {sg : List (Nat × Bool)} {k : Nat} (hk : k < sg.length) : ∃ a e, sg[k]? = some a ∧ sg[if endAt sg k then k + 2 else k]? = some e ∧ (if endAt sg k then k + 2 else k) + 1 ≤ sg.length ∧ ranges (sg.drop k) = pick a.1 e.1 ++ ranges (sg.drop ((if endAt sg k then k + 2 else k) + 1)) := by
  have hd : sg.drop k = sg[k] :: sg.drop (k + 1) := List.drop_eq_getElem_cons hk
  refine ⟨sg[k], ?_⟩
  by_cases h2 : k + 2 < sg.length
  · have h1 : k + 1 < sg.length := by lia
    have hd1 : sg.drop (k + 1) = sg[k + 1] :: sg.drop (k + 2) := List.drop_eq_getElem_cons h1
    have hd2 : sg.drop (k + 2) = sg[k + 2] :: sg.drop (k + 3) := List.drop_eq_getElem_cons h2
    by_cases hb : sg[k + 1] = (45, true)
    · have e : endAt sg k = true := by unfold endAt; rw [List.getElem?_eq_getElem h1, hb]; simp [h2]
      simp only [e, if_true]
      refine ⟨sg[k + 2], List.getElem?_eq_getElem hk, List.getElem?_eq_getElem h2, by lia, ?_⟩
      rw [hd, hd1, hd2, ranges, if_pos hb]
    · have e : endAt sg k = false := by unfold endAt; rw [List.getElem?_eq_getElem h1]; simp [hb]
      simp only [e, Bool.false_eq_true, if_false]
      refine ⟨sg[k], List.getElem?_eq_getElem hk, List.getElem?_eq_getElem hk, by lia, ?_⟩
      rw [hd, hd1, hd2, ranges, if_neg hb]
  · have e : endAt sg k = false := by unfold endAt; simp [h2]
    simp only [e, Bool.false_eq_true, if_false]
    refine ⟨sg[k], List.getElem?_eq_getElem hk, List.getElem?_eq_getElem hk, by lia, ?_⟩
    rw [hd]
    by_cases h1 : k + 1 < sg.length
    · have hd1 : sg.drop (k + 1) = sg[k + 1] :: sg.drop (k + 2) := List.drop_eq_getElem_cons h1
      have hd2 : sg.drop (k + 2) = [] := List.drop_eq_nil_iff.mpr (by lia)
      rw [hd1, hd2]; exact (show ranges [sg[k], sg[k + 1]] = pick sg[k].1 sg[k].1 ++ ranges [sg[k + 1]] from rfl)
    · have hd1 : sg.drop (k + 1) = [] := List.drop_eq_nil_iff.mpr (by lia)
      rw [hd1]; exact (show ranges [sg[k]] = pick sg[k].1 sg[k].1 ++ ranges [] from (List.append_nil _).symm)
section
variable {g : Gx} {P : Params}
theorem f_read_dot (X : Kx (Mine.hd.heap_1 P) g) : Fn g 2 (.ref 243) [dS [46]] (dS alpha) := by
  refine Fn.of (k := 1) (xs := ["part"]) X rfl rfl (bind1 fun xx => rfl) (by decide) (by decide) (by decide) (fun A L hr bd => ?_)
  exact EX.ends (EX1.ite (b := true) (EB.conv (EB.cmp (EV.var bd (by decide) rfl) (strS (l := [46]) rfl) Op2.eq_str (hr.less (by decide)) rfl) (by decide)) (fun xx => EX.gives (strS rfl)) (fun q => by cases q))
theorem f_read_sign (X : Kx (Mine.hd.heap_1 P) g) {h c : Nat} {pre : List Nat} (hp : (pre ++ [c])[0]? = some h) (h91 : h ≠ 91) (h46 : pre ++ [c] ≠ [46]) (hl : pre.length ≤ 1000) : Fn g 2 (.ref 243) [dS (pre ++ [c])] (dS [c]) := by
  refine Fn.of (k := 1) (xs := ["part"]) X rfl rfl (bind1 fun xx => rfl) (by decide) (by decide) (by decide) (fun A L hr bd => ?_)
  refine EX.cons (EX1.ite (b := false) (EB.conv (EB.cmp (EV.var bd (by decide) rfl) (strS (l := [46]) rfl) Op2.eq_str (hr.less (by decide)) rfl) (by simpa using h46)) (fun q => by cases q) (fun xx => EX.nil)) ?_
  refine EX.ends (EX1.ite (b := true) (EB.conv (EB.cmp (EV.sub (EV.var bd (by decide) rfl) EV.int rfl F.slot_str_getitem.lookup (Op2.at_str (j := 0) hp (by simp; lia)) (hr.less (by decide))) (strS (l := [91]) rfl) Op2.ne_str (hr.less (by decide)) rfl) (by simpa using h91)) (fun xx => EX.gives (EV.sub (EV.var bd (by decide) rfl) (EV.un EV.int Op1.neg_int (hr.less (by decide))) rfl F.slot_str_getitem.lookup Op2.last_str (hr.less (by decide)))) (fun q => by cases q))
theorem f_read_set (X : Kx (Mine.hd.heap_1 P) g) {b0 x : Nat} {body : List Nat} {sg : List (Nat × Bool)} (hl : body.length ≤ 1000) (hsg : parse (if b0 = 94 then body else b0 :: body) = some sg) : Fn g 2 (.ref 243) [dS (91 :: ((b0 :: body) ++ [x]))] (dS (restOf (b0 == 94) sg)) := by
  refine Fn.of (k := 1) (xs := ["part"]) X rfl rfl (bind1 fun xx => rfl) (by decide) (by decide) (by decide) (fun A L hr bd => ?_)
  refine EX.cons (EX1.ite (b := false) (EB.conv (EB.cmp (EV.var bd (by decide) rfl) (strS (l := [46]) rfl) Op2.eq_str (hr.less (by decide)) rfl) (by simp)) (fun q => by cases q) (fun xx => EX.nil)) ?_
  refine EX.cons (EX1.ite (b := false) (EB.conv (EB.cmp (EV.sub (EV.var bd (by decide) rfl) EV.int rfl F.slot_str_getitem.lookup (Op2.at_str (j := 0) (c := 91) rfl (by simp; lia)) (hr.less (by decide))) (strS (l := [91]) rfl) Op2.ne_str (hr.less (by decide)) rfl) (by simp)) (fun q => by cases q) (fun xx => EX.nil)) ?_
  refine EX.cons (EX1.set (d := dS (b0 :: body)) (EV.conv (EV.sub (EV.var bd (by decide) rfl) (EV.slice (dl := .int 1) (du := .int (-1)) (ds := .none) EV.int (EV.un EV.int Op1.neg_int (hr.less (by decide))) rfl) rfl F.slot_str_getitem.lookup (Op2.slice_str (.int _) (.int _) (by unfold sizeLine; simp; lia)) (hr.less (by decide))) (by rw [cut_mid])) (bd.sto (by decide)) rfl) ?_
  refine EX.cons (EX1.set (d := .bool (b0 == 94)) (EV.conv (EV.cmp (EV.sub (EV.var bd (by decide) rfl) EV.int rfl F.slot_str_getitem.lookup (Op2.at_str (j := 0) (c := b0) rfl (by simp; lia)) (hr.less (by decide))) (strS (l := [94]) rfl) Op2.eq_str (hr.less (by decide)) rfl) (by rw [beq_one])) (bd.sto (by decide)) rfl) ?_
  generalize hpart : (91 :: ((b0 :: body) ++ [x])) = part
  refine EX.cons (EX1.ite (b := b0 == 94) (o := .next [("part", .val (dS part)), ("body", .val (dS (if b0 = 94 then body else b0 :: body))), ("barred", .val (.bool (b0 == 94)))]) (EB.val (EV.var bd (by decide) rfl) tru_bool (hr.less (by decide)) rfl) (fun hb => ?_) (fun hb => ?_)) ?_
  · have hb' : b0 = 94 := by simpa using hb
    rw [if_pos hb']
    refine EX.cons (EX1.set (d := dS body) (EV.conv (EV.sub (EV.var bd (by decide) rfl) (EV.slice (dl := .int ((1 : Nat) : Int)) (du := .none) (ds := .none) EV.int rfl rfl) rfl F.slot_str_getitem.lookup (Op2.slice_str (.int _) .none (by unfold sizeLine; simp; lia)) (hr.less (by decide))) (by rw [cut_from]; rfl)) (bd.sto (by decide)) rfl) (EX.nil.conv rfl)
  · have hb' : b0 ≠ 94 := by simpa using hb
    rw [if_neg hb']
    exact EX.nil.conv rfl
  have hlb : (if b0 = 94 then body else b0 :: body).length ≤ 1001 := by
    split
    · lia
    · simp; lia
  generalize (if b0 = 94 then body else b0 :: body) = bod at hsg hlb
  generalize (b0 == 94) = barred
  refine EX.cons (EX1.newList (bd.sto (by decide)) (bd.nameOk (by decide)) rfl) ?_
  refine EX.cons (EX1.set EV.int (bd.sto (by decide)) rfl) ?_
  refine EX.cons (ρ' := [("part", .val (dS part)), ("body", .val (dS bod)), ("barred", .val (.bool barred)), ("signs", .own (sg.map dPair)), ("k", .val (.int (bod.length : Nat)))]) (EX1.whlBy (fun (a : Nat × List (Nat × Bool)) => [("part", .val (dS part)), ("body", .val (dS bod)), ("barred", .val (.bool barred)), ("signs", .own (a.2.map dPair)), ("k", .val (.int (a.1 : Nat)))]) (fun a => a.1 ≤ bod.length ∧ a.2.length ≤ a.1 ∧ ∃ r, parse (bod.drop a.1) = some r ∧ a.2 ++ r = sg) (fun a => bod.length - a.1) _ (fun a ha => ?_) (0, []) ⟨Nat.zero_le _, Nat.le_refl _, sg, hsg, rfl⟩) ?_
  · obtain ⟨k, acc⟩ := a
    obtain ⟨h1, h2, r, h3, h4⟩ := ha
    replace h1 : k ≤ bod.length := h1
    replace h2 : acc.length ≤ k := h2
    replace h3 : parse (bod.drop k) = some r := h3
    by_cases hk : k < bod.length
    · refine .inl ⟨EB.conv (EB.cmp (EV.var bd (by decide) rfl) (EV.callB bd X (by decide) rfl rfl (by decide) (.inl ⟨_, rfl⟩) (.one (EV.var bd (by decide) rfl) rfl) (Fn.len_str (a := bod) (by lia)) hr (by decide) rfl) Op2.lt_int (hr.less (by decide)) rfl) (decide_eq_true (by lia)), ?_⟩
      have hd : bod.drop k = bod[k] :: bod.drop (k + 1) := List.drop_eq_getElem_cons hk
      have hg : bod[k]? = some bod[k] := List.getElem?_eq_getElem hk
      rw [hd] at h3
      generalize bod[k] = ch at hd hg h3
      by_cases hc : ch = 92
      · subst hc
        cases hr1 : bod.drop (k + 1) with
        | nil => rw [hr1, parse_1, if_pos rfl] at h3; cases h3
        | cons d r1 =>
          have hk1 : k + 1 < bod.length := by
            rcases Nat.lt_or_ge (k + 1) bod.length with q | q
            · exact q
            · rw [List.drop_eq_nil_iff.mpr q] at hr1; cases hr1
          have hg1 : bod[k + 1]? = some d := by
            have := List.drop_eq_getElem_cons hk1
            rw [hr1] at this
            rw [List.getElem?_eq_getElem hk1]; injection this with e1 e2; rw [e1]
          have hd2 : bod.drop (k + 2) = r1 := by
            have := List.drop_eq_getElem_cons hk1
            rw [hr1] at this
            injection this with e1 e2; exact e2.symm
          rw [hr1, parse_esc, Option.map_eq_some_iff] at h3
          obtain ⟨r2, h3, rfl⟩ := h3
          refine ⟨(k + 2, acc ++ [(d, false)]), EX.cons (EX1.ite (b := true) (o := .next [("part", .val (dS part)), ("body", .val (dS bod)), ("barred", .val (.bool barred)), ("signs", .own ((acc ++ [(d, false)]).map dPair)), ("k", .val (.int ((k + 2 : Nat) : Int)))]) (EB.conv (EB.cmp (EV.sub (EV.var bd (by decide) rfl) (EV.var bd (by decide) rfl) rfl F.slot_str_getitem.lookup (Op2.at_str hg (by lia)) (hr.less (by decide))) (strS (l := [92]) rfl) Op2.eq_str (hr.less (by decide)) rfl) (by decide)) (fun xx => ?_) (fun q => by cases q)) EX.nil, ⟨by show k + 2 ≤ _; lia, by show (acc ++ [(d, false)]).length ≤ k + 2; simp; lia, r2, by show parse (bod.drop (k + 2)) = _; rw [hd2]; exact h3, by simpa using h4⟩, by show bod.length - (k + 2) < bod.length - k; lia⟩
          refine EX.cons (EX1.append (x := "signs") (d := dPair (d, false)) (.of_look rfl) (bd.nameOk (by decide)) (EV.tuple (.two (EV.sub (EV.var bd (by decide) rfl) (EV.conv (EV.bin' (EV.var bd (by decide) rfl) EV.int Op2.add_int hr (by decide)) (show _ = D.int ((k + 1 : Nat) : Int) by simp)) rfl F.slot_str_getitem.lookup (Op2.at_str hg1 (by lia)) (hr.less (by decide))) EV.bool rfl) (by unfold sizeLine; simp)) ⟨rfl, rfl, by decide, rfl⟩ (by simp; lia) rfl rfl) ?_
          refine EX.cons (EX1.augS (d := .int ((k + 2 : Nat) : Int)) (mem_look rfl) (EV.int (i := 2)) (by rw [Int.natCast_add]; exact Op2.iadd_int) (hr.less (by decide)) (bd.nameOk (by decide)) (bd.sto (by decide))) (EX.nil.conv ?_)
          rw [List.map_append]; rfl
      · rw [parse_one hc, Option.map_eq_some_iff] at h3
        obtain ⟨r2, h3, rfl⟩ := h3
        refine ⟨(k + 1, acc ++ [(ch, true)]), EX.cons (EX1.ite (b := false) (o := .next [("part", .val (dS part)), ("body", .val (dS bod)), ("barred", .val (.bool barred)), ("signs", .own ((acc ++ [(ch, true)]).map dPair)), ("k", .val (.int ((k + 1 : Nat) : Int)))]) (EB.conv (EB.cmp (EV.sub (EV.var bd (by decide) rfl) (EV.var bd (by decide) rfl) rfl F.slot_str_getitem.lookup (Op2.at_str hg (by lia)) (hr.less (by decide))) (strS (l := [92]) rfl) Op2.eq_str (hr.less (by decide)) rfl) (by simpa using hc)) (fun q => by cases q) (fun xx => ?_)) EX.nil, ⟨by show k + 1 ≤ _; lia, by show (acc ++ [(ch, true)]).length ≤ k + 1; simp; lia, r2, h3, by simpa using h4⟩, by show bod.length - (k + 1) < bod.length - k; lia⟩
        refine EX.cons (EX1.append (x := "signs") (d := dPair (ch, true)) (.of_look rfl) (bd.nameOk (by decide)) (EV.tuple (.two (EV.sub (EV.var bd (by decide) rfl) (EV.var bd (by decide) rfl) rfl F.slot_str_getitem.lookup (Op2.at_str hg (by lia)) (hr.less (by decide))) EV.bool rfl) (by unfold sizeLine; simp)) ⟨rfl, rfl, by decide, rfl⟩ (by simp; lia) rfl rfl) ?_
        refine EX.cons (EX1.augS (d := .int ((k + 1 : Nat) : Int)) (mem_look rfl) (EV.int (i := 1)) (by rw [Int.natCast_add]; exact Op2.iadd_int) (hr.less (by decide)) (bd.nameOk (by decide)) (bd.sto (by decide))) (EX.nil.conv ?_)
        rw [List.map_append]; rfl
    · refine .inr ⟨EB.conv (EB.cmp (EV.var bd (by decide) rfl) (EV.callB bd X (by decide) rfl rfl (by decide) (.inl ⟨_, rfl⟩) (.one (EV.var bd (by decide) rfl) rfl) (Fn.len_str (a := bod) (by lia)) hr (by decide) rfl) Op2.lt_int (hr.less (by decide)) rfl) (decide_eq_false (by lia)), ?_⟩
      have hke : k = bod.length := by lia
      subst hke
      rw [List.drop_length, show parse [] = some [] from rfl] at h3
      cases h3
      rw [List.append_nil] at h4
      subst h4; rfl
  refine EX.freeze (x := "signs") (.of_look rfl) ?_
  refine EX.convρ (ρ' := [("part", .val (dS part)), ("body", .val (dS bod)), ("barred", .val (.bool barred)), ("signs", .val (.list (sg.map dPair))), ("k", .val (.int (bod.length : Nat)))]) ?_ rfl
  refine EX.cons (EX1.set (strS (l := []) rfl) (bd.sto (by decide)) rfl) ?_
  refine EX.cons (EX1.set EV.int (bd.sto (by decide)) rfl) ?_
  have hsgl : sg.length ≤ 1001 := by
    have : ∀ (n : Nat) (l : List Nat) (r : List (Nat × Bool)), l.length ≤ n → parse l = some r → r.length ≤ l.length := fun n => by
      induction n with
      | zero => intro l r h e; have : l = [] := List.length_eq_zero_iff.mp (by lia); subst this; cases e; simp
      | succ n ih =>
        intro l r h e
        match l with
        | [] => cases e; simp
        | c :: t =>
          by_cases hc : c = 92
          · subst hc
            cases t with
            | nil => rw [parse_1, if_pos rfl] at e; cases e
            | cons d t =>
              rw [parse_esc, Option.map_eq_some_iff] at e
              obtain ⟨r2, e, rfl⟩ := e
              have := ih t r2 (by simp at h; lia) e
              simp; lia
          · rw [parse_one hc, Option.map_eq_some_iff] at e
            obtain ⟨r2, e, rfl⟩ := e
            have := ih t r2 (by simpa using h) e
            simpa using this
    have := this _ bod sg (Nat.le_refl _) hsg
    lia
  refine EX.cons (ρ' := [("part", .val (dS part)), ("body", .val (dS bod)), ("barred", .val (.bool barred)), ("signs", .val (.list (sg.map dPair))), ("k", .val (.int (sg.length : Nat))), ("taken", .val (dS (ranges sg)))]) (EX1.whlBy (fun (a : Nat × List Nat) => [("part", .val (dS part)), ("body", .val (dS bod)), ("barred", .val (.bool barred)), ("signs", .val (.list (sg.map dPair))), ("k", .val (.int (a.1 : Nat))), ("taken", .val (dS a.2))]) (fun a => a.1 ≤ sg.length ∧ a.2.length ≤ 6 * a.1 ∧ a.2 ++ ranges (sg.drop a.1) = ranges sg) (fun a => sg.length - a.1) _ (fun a ha => ?_) (0, []) ⟨Nat.zero_le _, Nat.le_refl _, rfl⟩) ?_
  · obtain ⟨k, t⟩ := a
    obtain ⟨h1, h2, h3⟩ := ha
    replace h1 : k ≤ sg.length := h1
    replace h2 : t.length ≤ 6 * k := h2
    replace h3 : t ++ ranges (sg.drop k) = ranges sg := h3
    by_cases hk : k < sg.length
    · refine .inl ⟨EB.conv (EB.cmp (EV.var bd (by decide) rfl) (EV.callB bd X (by decide) rfl rfl (by decide) (.inl ⟨_, rfl⟩) (.one (EV.var bd (by decide) rfl) rfl) (Fn.len_list (by simp; lia)) hr (by decide) rfl) Op2.lt_int (hr.less (by decide)) rfl) (decide_eq_true (by simp; lia)), ?_⟩
      obtain ⟨lo, hi, e1, e2, e3, e4⟩ := ranges_step hk
      have hpk := pick_le lo.1 hi.1
      refine ⟨((if endAt sg k then k + 2 else k) + 1, t ++ pick lo.1 hi.1), ?_, ⟨e3, by show (t ++ pick lo.1 hi.1).length ≤ 6 * ((if endAt sg k then k + 2 else k) + 1); rw [List.length_append]; split <;> lia, by show (t ++ pick lo.1 hi.1) ++ ranges (sg.drop ((if endAt sg k then k + 2 else k) + 1)) = _; rw [List.append_assoc, ← e4]; exact h3⟩, by show sg.length - ((if endAt sg k then k + 2 else k) + 1) < sg.length - k; split <;> lia⟩
      refine EX.cons (EX1.set (EV.var bd (by decide) rfl) (bd.sto (by decide)) rfl) ?_
      refine EX.cons (EX1.ite (b := endAt sg k) (o := .next [("part", .val (dS part)), ("body", .val (dS bod)), ("barred", .val (.bool barred)), ("signs", .val (.list (sg.map dPair))), ("k", .val (.int (k : Nat))), ("taken", .val (dS t)), ("end", .val (.int ((if endAt sg k then k + 2 else k : Nat) : Int)))]) ?_ (fun hb => ?_) (fun hb => ?_)) ?_
      · by_cases h5 : k + 2 < sg.length
        · have hg1 : sg[k + 1]? = some sg[k + 1] := List.getElem?_eq_getElem (by lia)
          refine EB.conv (EB.and (b1 := true) (b2 := decide (([sg[k + 1].1], sg[k + 1].2) = ([45], true))) (EB.conv (EB.cmp (EV.conv (EV.bin' (EV.var bd (by decide) rfl) EV.int Op2.add_int hr (by decide)) (show _ = D.int ((k + 2 : Nat) : Int) by simp)) (EV.callB bd X (by decide) rfl rfl (by decide) (.inl ⟨_, rfl⟩) (.one (EV.var bd (by decide) rfl) rfl) (Fn.len_list (by simp; lia)) hr (by decide) rfl) Op2.lt_int (hr.less (by decide)) rfl) (decide_eq_true (by simp; lia))) fun xx => EB.cmp (EV.sub (EV.var bd (by decide) rfl) (EV.conv (EV.bin' (EV.var bd (by decide) rfl) EV.int Op2.add_int hr (by decide)) (show _ = D.int ((k + 1 : Nat) : Int) by simp)) rfl F.slot_list_getitem.lookup (Op2.at_list (d := dPair sg[k + 1]) (by rw [List.getElem?_map, hg1]; rfl) (by simp; lia)) (hr.less (by decide))) (EV.tuple (.two (strS (l := [45]) rfl) EV.bool rfl) (by unfold sizeLine; simp)) Op2.eq_pair hr rfl) ?_
          unfold endAt
          rw [hg1, decide_eq_true h5, Bool.eq_iff_iff]
          generalize sg[k + 1] = z
          obtain ⟨z1, z2⟩ := z
          simp
        · refine EB.conv (EB.and (b1 := false) (b2 := false) (EB.conv (EB.cmp (EV.conv (EV.bin' (EV.var bd (by decide) rfl) EV.int Op2.add_int hr (by decide)) (show _ = D.int ((k + 2 : Nat) : Int) by simp)) (EV.callB bd X (by decide) rfl rfl (by decide) (.inl ⟨_, rfl⟩) (.one (EV.var bd (by decide) rfl) rfl) (Fn.len_list (by simp; lia)) hr (by decide) rfl) Op2.lt_int (hr.less (by decide)) rfl) (decide_eq_false (by simp; lia))) fun q => by cases q) ?_
          unfold endAt; simp [h5]
      · rw [if_pos hb]
        exact EX.cons (EX1.set (EV.conv (EV.bin' (EV.var bd (by decide) rfl) EV.int Op2.add_int hr (by decide)) (show _ = D.int ((k + 2 : Nat) : Int) by simp)) (bd.sto (by decide)) rfl) (EX.nil.conv rfl)
      · rw [if_neg (by simp [hb])]
        exact EX.nil.conv rfl
      · generalize (if endAt sg k then k + 2 else k) = e at e2 e3
        refine EX.cons (EX1.augS (d := dS (t ++ pick lo.1 hi.1)) (mem_look rfl) (d1 := dS (pick lo.1 hi.1)) (EV.conv (EV.meth (strS (l := []) rfl) (.one (EV.conv (EV.compC bd.cb (gPick lo.1 hi.1) [("signs", .val (.list (sg.map dPair))), ("k", .val (.int (k : Nat))), ("end", .val (.int (e : Nat)))] (items := chars (S alpha)) (IT.str (strS rfl) (ascii_of (by decide)) hr) rfl rfl rfl rfl (fun p hp => by simp at hp; rcases hp with rfl | rfl | rfl <;> exact ⟨_, rfl⟩) (.cons _ (.cons _ (.cons _ (.cons_cons _ (.cons_cons _ (.cons _ (.cons_cons _ .slnil))))))) (fun env cb d hd => ?_) (by unfold sizeLine; simp [chars, alpha]) fun xx => rfl) (by rw [pick_fm])) rfl) (Fn.join (sep := []) (ts := (pick lo.1 hi.1).map fun c => [c]) ?_) (hr.less (by decide)) rfl F.plainAttrs_str F.slot_str_join F.type_str_join ⟨rfl, rfl, by decide, rfl⟩) (by rw [glue_singles])) (Op2.iadd_str ?_) (hr.less (by decide)) (bd.nameOk (by decide)) (bd.sto (by decide))) ?_
        · rw [chars_S] at hd
          obtain ⟨o, ho, rfl⟩ := List.mem_map.mp hd
          exact CE.test (AT.varC cb (by decide)) (.cons_cons _ (.cons_cons _ (.cons_cons _ (.cons _ .slnil)))) (EB.chain (EV.sub (EV.sub (EV.varC cb (by decide) rfl) (EV.varC cb (by decide) rfl) rfl F.slot_list_getitem.lookup (Op2.at_list (d := dPair lo) (by rw [List.getElem?_map, e1]; rfl) (by simp; lia)) (hr.less (by decide))) EV.int rfl F.slot_tuple_getitem.lookup (Op2.sub_tuple (j := 0) (d := dS [lo.1]) (by simp [seqIndex?]) rfl (by decide) (by decide)) (hr.less (by decide))) (EV.varC cb (by decide) rfl) (EV.sub (EV.sub (EV.varC cb (by decide) rfl) (EV.varC cb (by decide) rfl) rfl F.slot_list_getitem.lookup (Op2.at_list (d := dPair hi) (by rw [List.getElem?_map, e2]; rfl) (by simp; lia)) (hr.less (by decide))) EV.int rfl F.slot_tuple_getitem.lookup (Op2.sub_tuple (j := 0) (d := dS [hi.1]) (by simp [seqIndex?]) rfl (by decide) (by decide)) (hr.less (by decide))) Op2.le_str Op2.le_str (hr.less (by decide)) rfl) fun xx => EV.varC cb (by decide) rfl
        · rw [singles_sum]; simp; lia
        · unfold sizeLine; simp at h2 hpk ⊢; lia
        refine EX.cons (EX1.set (d := .int ((e + 1 : Nat) : Int)) (EV.conv (EV.bin' (EV.var bd (by decide) rfl) EV.int Op2.add_int hr (by decide)) (by simp)) (bd.sto (by decide)) rfl) (EX.nil.post ?_)
        exact .cons_cons _ (.cons_cons _ (.cons_cons _ (.cons_cons _ (.cons_cons _ (.cons_cons _ (.cons _ .slnil))))))
    · refine .inr ⟨EB.conv (EB.cmp (EV.var bd (by decide) rfl) (EV.callB bd X (by decide) rfl rfl (by decide) (.inl ⟨_, rfl⟩) (.one (EV.var bd (by decide) rfl) rfl) (Fn.len_list (by simp; lia)) hr (by decide) rfl) Op2.lt_int (hr.less (by decide)) rfl) (decide_eq_false (by simp; lia)), ?_⟩
      have hke : k = sg.length := by lia
      subst hke
      rw [List.drop_length, ranges, List.append_nil] at h3
      subst h3; rfl
  · have hlr : (restOf barred sg).length ≤ 6 := List.length_filter_le _ _
    refine EX.gives (EV.conv (EV.meth (strS (l := []) rfl) (.one (EV.conv (EV.compC bd.cb (gRest (ranges sg) barred) [("barred", .val (.bool barred)), ("taken", .val (dS (ranges sg)))] (items := chars (S alpha)) (IT.str (strS rfl) (ascii_of (by decide)) hr) rfl rfl rfl rfl (fun p hp => by simp at hp; rcases hp with rfl | rfl <;> exact ⟨_, rfl⟩) (.cons _ (.cons _ (.cons_cons _ (.cons _ (.cons _ (.cons_cons _ .slnil)))))) (fun env cb d hd => ?_) (by unfold sizeLine; simp [chars, alpha]) fun xx => rfl) (by rw [rest_fm])) rfl) (Fn.join (sep := []) (ts := (restOf barred sg).map fun c => [c]) ?_) (hr.less (by decide)) rfl F.plainAttrs_str F.slot_str_join F.type_str_join ⟨rfl, rfl, by decide, rfl⟩) (by rw [glue_singles]))
    · rw [chars_S] at hd
      obtain ⟨o, ho, rfl⟩ := List.mem_map.mp hd
      exact CE.test (AT.varC cb (by decide)) (.cons_cons _ (.cons_cons _ (.cons _ .slnil))) (EB.cmp (EV.cmp (EV.varC cb (by decide) rfl) (EV.varC cb (by decide) rfl) Op2.in_one (hr.less (by decide)) rfl) (EV.varC cb (by decide) rfl) Op2.ne_bool (hr.less (by decide)) rfl) fun xx => EV.varC cb (by decide) rfl
    · rw [singles_sum]; simp; lia
end
end Mine
end
section
open PySem PySem.W PyProof.Rows
set_option Elab.async false
set_option tactic.hygienic false
set_option maxRecDepth 100000
set_option maxHeartbeats 1000000
set_option linter.unusedVariables false
namespace Mine
noncomputable def rstep (sg : List Nat → List Nat) (rows : List (List (List Nat))) (part : List Nat) : List (List (List Nat)) := if part = [47] then rows ++ [[]] else addLast rows (sg part)
theorem addLast_len {α : Type} (a : α) {dss : List (List α)} (h : dss ≠ []) : (addLast dss a).length = dss.length := by
  obtain ⟨p, l, rfl⟩ := snoc_of_ne h
  rw [addLast_snoc]; simp
theorem rstep_small (sg : List Nat → List Nat) : ∀ (parts : List (List Nat)) (rows : List (List (List Nat))) (n : Nat), rows.length ≤ n → (∀ l ∈ rows, l.length ≤ n) → (parts.foldl (rstep sg) rows).length ≤ n + parts.length ∧ ∀ l ∈ parts.foldl (rstep sg) rows, l.length ≤ n + parts.length := by
  intro zz
  induction zz with
  | nil => intro rows n h1 h2; exact ⟨h1, h2⟩
  | cons x r IH =>
    intro rows n h1 h2
    have e : n + (r.length + 1) = n + 1 + r.length := by lia
    simp only [List.foldl_cons, List.length_cons]
    rw [e]
    refine IH (rstep sg rows x) (n + 1) ?_ ?_
    · unfold rstep
      split
      · simp; lia
      · cases rows with
        | nil => exact Nat.zero_le _
        | cons a b => rw [addLast_len _ (by simp)]; lia
    · unfold rstep
      split
      · intro l hl
        rcases List.mem_append.mp hl with h | h
        · have := h2 l h; lia
        · simp at h; subst h; simp
      · rcases List.eq_nil_or_concat rows with rfl | ⟨p, l, rfl⟩
        · intro l hl; cases hl
        · rw [List.concat_eq_append] at h2 ⊢
          rw [addLast_snoc]
          intro q hq
          rcases List.mem_append.mp hq with h | h
          · have := h2 q (List.mem_append.mpr (.inl h)); lia
          · simp at h; subst h
            have := h2 l (by simp)
            simp; lia
theorem rstep_ne (sg : List Nat → List Nat) : ∀ (parts : List (List Nat)) (rows : List (List (List Nat))), rows ≠ [] → parts.foldl (rstep sg) rows ≠ [] := by
  intro zz
  induction zz with
  | nil => intro rows h; exact h
  | cons x r IH =>
    intro rows h
    rw [List.foldl_cons]
    refine IH _ ?_
    unfold rstep
    split
    · simp
    · intro q
      have := addLast_len (sg x) h
      rw [q] at this
      exact h (List.length_eq_zero_iff.mp this.symm)
section
variable {g : Gx} {P : Params}
theorem f_rows (X : Kx (Mine.hd.heap_1 P) g) {rest : List (List Nat)} {sg : List Nat → List Nat} (hl : rest.length ≤ 1000) (h : ∀ p ∈ rest, p ≠ [47] → Fn g 2 (.ref 243) [dS p] (dS (sg p))) : Fn g 3 (.ref 250) [dRow ([47] :: rest)] (dRows (([47] :: rest).foldl (rstep sg) [])) := by
  refine Fn.of (k := 2) (xs := ["parts"]) X rfl rfl (bind1 fun xx => rfl) (by decide) (by decide) (by decide) (fun A L hr bd => ?_)
  refine EX.cons (EX1.newList (bd.sto (by decide)) (bd.nameOk (by decide)) rfl) ?_
  refine EX.to2 (x := "rows") (.of_look rfl) ?_
  refine EX.cons (EX1.forMap (xs := [47] :: rest) (f := dS) (fun i => [("parts", .val (dRow ([47] :: rest))), ("rows", .own2 (((([47] :: rest).take i).foldl (rstep sg) []).map fun r => r.map dS))]) (IT.list (EV.var bd (by decide) rfl) hr) (fun i x hx => ⟨_, AT.var bd (by decide), ?_⟩) (fun xx => rfl)) ?_
  · have e1 : (([47] :: rest).take (i + 1)).foldl (rstep sg) [] = rstep sg ((([47] :: rest).take i).foldl (rstep sg) []) x := by
      rw [List.take_add_one, hx, List.foldl_append]; rfl
    have hsm := rstep_small sg (([47] :: rest).take i) [] 0 (by simp) (by simp)
    have hti : (([47] :: rest).take i).length ≤ 1001 := by
      have : (([47] :: rest).take i).length ≤ ([47] :: rest).length := List.length_take_le' _ _
      simp at this ⊢; lia
    have hne : x ≠ [47] → (([47] :: rest).take i).foldl (rstep sg) [] ≠ [] := fun hx47 => by
      cases i with
      | zero => simp at hx; exact absurd hx.symm hx47
      | succ i =>
        rw [List.take_succ_cons, List.foldl_cons]
        exact rstep_ne sg _ _ (by unfold rstep; simp)
    have hrest : x ≠ [47] → x ∈ rest := fun hx47 => by
      have := List.mem_of_getElem? hx
      rcases List.mem_cons.mp this with q | q
      · exact absurd q hx47
      · exact q
    simp only [e1]
    generalize (([47] :: rest).take i).foldl (rstep sg) [] = dss at *
    refine EX.cons (EX1.ite (b := x == [47]) (o := .next [("parts", .val (dRow ([47] :: rest))), ("rows", .own2 ((rstep sg dss x).map fun r => r.map dS)), ("part", .val (dS x))]) (EB.cmp (EV.var bd (by decide) rfl) (strS (l := [47]) rfl) Op2.eq_str (hr.less (by decide)) rfl) (fun hb => ?_) (fun hb => ?_)) (EX.nil.post (.cons_cons _ (.cons_cons _ (.cons _ .slnil))))
    · have hb' : x = [47] := by simpa using hb
      refine EX.cons (EX1.append2 (x := "rows") (.of_look rfl) (bd.nameOk (by decide)) ⟨rfl, rfl, by decide, rfl⟩ (by simp; lia) rfl rfl) (EX.nil.conv ?_)
      unfold rstep
      rw [if_pos hb', map_snoc]; rfl
    · have hb' : x ≠ [47] := by simpa using hb
      obtain ⟨pre, l, rfl⟩ := snoc_of_ne (hne hb')
      have hlen : l.length ≤ 1001 := by have := hsm.2 l (by simp); lia
      unfold rstep
      rw [if_neg hb', addLast_snoc, map_snoc, map_snoc]
      refine EX.cons (EX1.appendLast (x := "rows") (pre := pre.map fun r => r.map dS) (l := l.map dS) (d := dS (sg x)) (.of_look rfl) (bd.nameOk (by decide)) (EV.un EV.int Op1.neg_int (hr.less (by decide))) (EV.callF bd X (by decide) rfl rfl rfl (.one (EV.var bd (by decide) rfl) rfl) (h x (hrest hb') hb') hr (by decide) rfl) ⟨rfl, rfl, by decide, rfl⟩ (by simp; lia) rfl rfl) (EX.nil.conv ?_)
      rw [map_snoc]; rfl
  · refine EX.freeze (x := "rows") (.of_look rfl) (EX.gives (.conv (EV.var bd (by decide) rfl) ?_))
    rw [List.take_length]
    refine congrArg D.list ?_
    simp
end
end Mine
end
section
set_option Elab.async false
set_option tactic.hygienic false
set_option maxRecDepth 100000
set_option linter.unusedVariables false
namespace Mine
open PySem PySem.W PySem.Calls PyProof.Rows
theorem owner_map : Manifest.owners.lookup (String.ofList ['p', 'a', 'm'].reverse) = some Manifest.sig_map := by kernel_rfl
theorem slot_map_init : PySem.Slot "map" "__init__" "object.__init__" :=
  .of (owner := "object") (n := "__init__") (by rw [typeLookup_type, builtinLookup_eq_fast]; kernel_rfl) (by decide +kernel) (by decide +kernel) (by decide +kernel)
    (by first | exact .inl (by decide +kernel) | exact .inr (by decide +kernel)) (by rw [isSubtype_type]; kernel_rfl)
theorem slot_map_iter : PySem.Slot "map" "__iter__" "map.__iter__" :=
  .of (owner := "map") (n := "__iter__") (by rw [typeLookup_type, builtinLookup_eq_fast]; kernel_rfl) (by decide +kernel) (by decide +kernel) (by decide +kernel)
    (by first | exact .inl (by decide +kernel) | exact .inr (by decide +kernel)) (by rw [isSubtype_type]; kernel_rfl)
theorem args_map_iter_1 (a : Value) : argsOk "map.__iter__" ⟨[a], []⟩ := by
  unfold argsOk; rw [signature?_of (id := "map.__iter__") (n := ['_', '_', 'r', 'e', 't', 'i', '_', '_']) (o := ['p', 'a', 'm']) (by kernel_rfl) owner_map]; kernel_rfl
theorem slot_map_next : PySem.Slot "map" "__next__" "map.__next__" :=
  .of (owner := "map") (n := "__next__") (by rw [typeLookup_type, builtinLookup_eq_fast]; kernel_rfl) (by decide +kernel) (by decide +kernel) (by decide +kernel)
    (by first | exact .inl (by decide +kernel) | exact .inr (by decide +kernel)) (by rw [isSubtype_type]; kernel_rfl)
theorem entry_map_next : entryFor table "map.__next__" = some Builtin.«map.__next__» := entryFor_of_tree (by kernel_rfl)
theorem args_map_next_1 (a : Value) : argsOk "map.__next__" ⟨[a], []⟩ := by
  unfold argsOk; rw [signature?_of (id := "map.__next__") (n := ['_', '_', 't', 'x', 'e', 'n', '_', '_']) (o := ['p', 'a', 'm']) (by kernel_rfl) owner_map]; kernel_rfl
theorem entry_map_iter : entryFor table "map.__iter__" = some Builtin.«dict_keyiterator.__iter__» :=
  entryFor_alias (id' := "dict_keyiterator.__iter__") (by kernel_rfl) (by first | rfl | decide +kernel | (unfold String.splitOn; simp +decide [String.splitOnAux])) (by decide +kernel) (by kernel_rfl)
theorem mro_map : mroOf (.type "map") = pure [.type "map", .type "object"] := by rw [mroOf_type]; kernel_rfl
theorem lookup_map_new : typeLookup (.type "map") "__new__" = pure (some (.builtin "map.__new__")) := by rw [typeLookup_type, builtinLookup_eq_fast]; kernel_rfl
theorem called_map : TypeCalled "map" "map.__new__" "object.__init__" :=
  ⟨by decide +kernel, by decide +kernel, ⟨_, _, mro_map⟩, madeBy_type mro_map lookup_map_new (by decide +kernel), by decide +kernel, by rw [isSubtype_type]; kernel_rfl, slot_map_init⟩
theorem typeCall_map_2 (a b : Value) : checkTypeCall "map" ⟨[a, b], []⟩ = pure () := by kernel_rfl
theorem newCall_map_2 (a b : Value) : checkBuiltinCall "map.__new__" ⟨[.type "map", a, b], []⟩ = pure () := by kernel_rfl
theorem entry_map_new : entryFor table "map.__new__" = some Builtin.«map.__new__» := entryFor_of_tree (by kernel_rfl)
theorem sub_map : isSubtype (.type "map") (.type "map") = pure true := by rw [isSubtype_type]; kernel_rfl
theorem no_map_len : typeLookup (.type "map") "__len__" = pure none := by rw [typeLookup_type, builtinLookup_eq_fast]; kernel_rfl
theorem no_map_hint : typeLookup (.type "map") "__length_hint__" = pure none := by rw [typeLookup_type, builtinLookup_eq_fast]; kernel_rfl

noncomputable abbrev IsMap (h : Heap) (z TI : Addr) (f : Value) : Prop := h.get? z = some { cls := .type "map", data := .fields #[.ref TI, f] }
noncomputable abbrev IsOne (h : Heap) (T : Addr) (a : Value) : Prop := h.get? T = some { cls := .type "tuple", data := .seq #[a] }
section
variable {prog : Program} {w : World} {A : Around} {E : Value → Shared → Prop} {s : Shared}
theorem call_map {l : Addr} {f : Value} {items : Array Value} {Q : Value → Shared → Prop} (hl : s.heap.IsList l items)
    (h : ∀ h', IsMap h' (s.heap.objs.size + 2) (s.heap.objs.size + 1) f → IsOne h' (s.heap.objs.size + 1) (.ref s.heap.objs.size) → h'.IsListIter s.heap.objs.size l 0 →
      (∀ c o, s.heap.get? c = some o → h'.get? c = some o) → Q (.ref (s.heap.objs.size + 2)) { s with heap := h' }) :
    wpAny (model prog w) A (call (.type "map") [f, .ref l]) Q E s := by
  have hsz : ∀ (h : Heap) (o : Obj), (h.push o).objs.size = h.objs.size + 1 := fun h o => Heap.size_push ..
  have meets : MeetsIn prog w (Builtin.«map.__new__» ⟨[.type "map", f, .ref l], []⟩) (fun xx R s' => s' = s ∧ R (.ok (.ret (.ref (((s.heap.push { cls := .type "list_iterator", data := .fields #[.ref l, .int 0 0] }).push { cls := .type "tuple", data := .seq #[.ref s.heap.objs.size] }).objs.size)))) { s with heap := (((s.heap.push { cls := .type "list_iterator", data := .fields #[.ref l, .int 0 0] }).push { cls := .type "tuple", data := .seq #[.ref s.heap.objs.size] }).push { cls := .type "map", data := .fields #[.ref (s.heap.push { cls := .type "list_iterator", data := .fields #[.ref l, .int 0 0] }).objs.size, f] }) }) :=
    .of_wp fun A R s' h => by
      obtain ⟨rfl, h⟩ := h
      obtain ⟨hp, g, d, tk, os⟩ := s'
      have hsub := sub_map
      wp_walk using wpAny_pyIter_list hl
      exact ⟨_, rfl, h⟩
  refine callType_newIn called_map (by decide) (typeCall_map_2 _ _) (newCall_map_2 _ _) (fun obj => PySem.F.args_object_init_3 obj _ _) entry_map_new meets ⟨rfl, ?_⟩
  have z1 : (s.heap.push { cls := .type "list_iterator", data := .fields #[.ref l, .int 0 0] }).objs.size = s.heap.objs.size + 1 := hsz _ _
  have z2 : ((s.heap.push { cls := .type "list_iterator", data := .fields #[.ref l, .int 0 0] }).push { cls := .type "tuple", data := .seq #[.ref s.heap.objs.size] }).objs.size = s.heap.objs.size + 2 := by rw [hsz, z1]
  have g3 : (((s.heap.push { cls := .type "list_iterator", data := .fields #[.ref l, .int 0 0] }).push { cls := .type "tuple", data := .seq #[.ref s.heap.objs.size] }).push { cls := .type "map", data := .fields #[.ref (s.heap.push { cls := .type "list_iterator", data := .fields #[.ref l, .int 0 0] }).objs.size, f] }).get? ((s.heap.push { cls := .type "list_iterator", data := .fields #[.ref l, .int 0 0] }).push { cls := .type "tuple", data := .seq #[.ref s.heap.objs.size] }).objs.size = some _ := Heap.get?_push_size _ rfl
  have g2 : (((s.heap.push { cls := .type "list_iterator", data := .fields #[.ref l, .int 0 0] }).push { cls := .type "tuple", data := .seq #[.ref s.heap.objs.size] }).push { cls := .type "map", data := .fields #[.ref (s.heap.push { cls := .type "list_iterator", data := .fields #[.ref l, .int 0 0] }).objs.size, f] }).get? (s.heap.push { cls := .type "list_iterator", data := .fields #[.ref l, .int 0 0] }).objs.size = some _ := Heap.get?_push_of_some _ (Heap.get?_push_size _ rfl)
  have g1 : (((s.heap.push { cls := .type "list_iterator", data := .fields #[.ref l, .int 0 0] }).push { cls := .type "tuple", data := .seq #[.ref s.heap.objs.size] }).push { cls := .type "map", data := .fields #[.ref (s.heap.push { cls := .type "list_iterator", data := .fields #[.ref l, .int 0 0] }).objs.size, f] }).get? s.heap.objs.size = some _ := Heap.get?_push_of_some _ (Heap.get?_push_of_some _ (Heap.get?_push_size _ rfl))
  show _ ∧ _
  rw [z2] at g3 ⊢
  rw [z1] at g1 g2 g3 ⊢
  refine ⟨⟨_, g3, rfl⟩, h _ g3 g2 ⟨_, g1, rfl, rfl⟩ fun c o x => Heap.get?_push_of_some _ (Heap.get?_push_of_some _ (Heap.get?_push_of_some _ x))⟩
end
inductive MSt (g : Gx) (z TI i1 l : Addr) (f : Value) (vs : List Value) (ds : List D) (X : List Addr) (i : Nat) (s : Shared) : Prop
  | intro (h1 : IsMap s.heap z TI f) (h2 : IsOne s.heap TI (.ref i1)) (h3 : s.heap.IsListIter i1 l i) (h4 : s.heap.IsList l vs.toArray) (h5 : RepL (Zof s.heap ([i1] ++ X)) vs ds) (h6 : Ok g s ([i1] ++ X))
theorem MSt.one {g : Gx} {z TI i1 l : Addr} {f : Value} {vs : List Value} {ds : List D} {X : List Addr} {i : Nat} {s : Shared} (st : MSt g z TI i1 l f vs ds X i s) : IsMap s.heap z TI f := by
  obtain ⟨h, _, _, _, _, _⟩ := st; exact h
section
variable {g : Gx} {A : Around} {E : Value → Shared → Prop} {s : Shared} {z TI i1 l : Addr} {f : Value} {vs : List Value} {ds es : List D} {X : List Addr} {k : Nat}
theorem Ck.map (hk : Rm A (k + 1)) (hz : z ≠ i1) (hT : TI ≠ i1) (hl : l ≠ i1) (hlen : es.length = ds.length) (hfn : ∀ (j : Nat) (d e : D), ds[j]? = some d → es[j]? = some e → Fn g k f [d] e) :
    Ck (model g.prog g.w) A "map" z [z, TI, i1, l] [i1] X es (MSt g z TI i1 l f vs ds X) where
  sub := fun b hb => by simp at hb; simp [hb]
  mem := by simp
  ty := fun i s st => ⟨_, st.one, rfl⟩
  frame := fun i s h' tk st0 htk hkp hZ hX => by
    obtain ⟨h1, h2, h3, h4, h5, h6⟩ := st0
    refine ⟨hkp z (by simp) _ h1, hkp TI (by simp) _ h2, h3.at fun o e => hkp i1 (by simp) o e, h4.at fun o e => hkp l (by simp) o e, h5.mono hZ, fun a ha => ?_, fun b o e => ?_, Nat.le_trans h6.2.2.1 htk, Nat.lt_of_lt_of_le h6.2.2.2 htk⟩
    · rcases List.mem_append.mp ha with q | q
      · simp at q; subst q; obtain ⟨o, e, _⟩ := h3; exact ⟨o, hkp a (by simp) _ e⟩
      · exact hX a q (h6.1 a ha)
    · obtain ⟨q1, q2⟩ := h6.2.1 b o e
      exact ⟨(Zof.get (hZ b o (Zof.of q1 q2))).1, q2⟩
  item := fun i s Q E e he st0 hQ => by
    obtain ⟨h1, h2, h3, h4, h5, h6⟩ := st0
    have hil : i < ds.length := by have := (List.getElem?_eq_some_iff.mp he).1; lia
    have hd : ds[i]? = some ds[i] := List.getElem?_eq_getElem hil
    obtain ⟨v, hv, rv⟩ := h5.get hd
    have hTy : s.TypeIs (.ref z) "map" := ⟨_, h1, rfl⟩
    unfold pyNext
    refine wpAny_bind (wpAny_attempt (wpAny_callSpecial?_slot (name := Str.ofString "__next__") hTy slot_map_next (wpAny_call_entry slot_map_next hTy entry_map_next ?_ (args_map_next_1 _))))
    show wpAny _ _ (field (.ref z) 0 >>= _) _ _ _
    refine wpAny_bind (wpAny_field h1 rfl (x := .ref TI) rfl ?_)
    refine wpAny_bind (wpAny_seqItems h2 rfl ?_)
    dsimp only
    rw [← Array.forIn_toList]
    simp only [List.forIn_cons, List.forIn_nil]
    refine wpAny_bind (wpAny_bind ?_)
    refine wpAny_bind (wpAny_holding ?_)
    refine wpAny_nextOf_list_item h3 h4 (x := v) (by simpa using hv) fun h' hit' hs' => ?_
    refine wpAny_pure (wpAny_pure ?_)
    have ext : ∀ b o, b ≠ i1 → s.heap.get? b = some o → h'.get? b = some o := fun b o hb e => hs'.extBut b o hb e
    have mv : Mv [i1] s { s with heap := h' } := Mv.ofHeap (fun b o hb e => ext b o (by simpa using hb) e) (Nat.le_refl _)
    have ok' : Ok g { s with heap := h' } ([i1] ++ X) := by
      refine ⟨fun a ha => ?_, fun b o e => ?_, h6.2.2⟩
      · by_cases q : a = i1
        · subst q; obtain ⟨o, e, _⟩ := hit'; exact ⟨o, e⟩
        · obtain ⟨o, e⟩ := h6.1 a ha; exact ⟨o, ext a o q e⟩
      · obtain ⟨q1, q2⟩ := h6.2.1 b o e
        exact ⟨ext b o (fun q => q2 (by simp [q])) q1, q2⟩
    have hz' : IsMap h' z TI f := ext _ _ hz h1
    show wpAny _ _ (field (.ref z) 1 >>= _) _ _ _
    refine wpAny_bind (wpAny_field hz' rfl (x := f) rfl ?_)
    refine wpAny_bind (wpAny_holding ?_)
    refine wpAny_mono (hfn i _ _ hd he _ _ ([i1] ++ X) [v] ?_ ok' (.one (rv.mono mv.le)) _) (fun r s₂ hqz => ?_) fun xx xx e => e
    · exact ⟨hk.handled, by have := hk.depth; show A.depth + k < _; lia, by have := hk.units; show A.units + 1 + 20 * k < _; lia⟩
    obtain ⟨k2, rr⟩ := hqz
    refine wpAny_bind (wpAny_letGo (wpAny_pure ⟨_, rfl, wpAny_pure ?_⟩))
    have mv2 : Mv [i1] s s₂ := by
      obtain ⟨ha, ta, ga, rfl, ka, na, ba⟩ := k2
      exact ⟨ha, ta, ga, rfl, fun b o hb e => ka b o (ext b o (by simpa using hb) e), na, ba⟩
    refine hQ r s₂ mv2 rr ⟨mv2.heap (by simpa using hz) h1, mv2.heap (by simpa using hT) h2, hit'.at fun o e => keeps_heap k2 _ _ e, h4.at fun o e => mv2.heap (by simpa using hl) e, h5.mono mv2.le, ok'.keeps k2⟩
  done := fun s Q E st0 hQ => by
    obtain ⟨h1, h2, h3, h4, h5, h6⟩ := st0
    have hTy : s.TypeIs (.ref z) "map" := ⟨_, h1, rfl⟩
    unfold pyNext
    refine wpAny_bind (wpAny_attempt (wpAny_callSpecial?_slot (name := Str.ofString "__next__") hTy slot_map_next (wpAny_call_entry slot_map_next hTy entry_map_next ?_ (args_map_next_1 _))))
    show wpAny _ _ (field (.ref z) 0 >>= _) _ _ _
    refine wpAny_bind (wpAny_field h1 rfl (x := .ref TI) rfl ?_)
    refine wpAny_bind (wpAny_seqItems h2 rfl ?_)
    dsimp only
    rw [← Array.forIn_toList]
    simp only [List.forIn_cons, List.forIn_nil]
    refine wpAny_bind (wpAny_bind ?_)
    refine wpAny_bind (wpAny_holding ?_)
    have hnone : vs.toArray[es.length]? = Option.none := by have := h5.length; simp; lia
    refine wpAny_nextOf_list_end hk.handled h3 h4 hnone fun h' e hs' he => ?_
    obtain ⟨o, ho, hc⟩ := he
    refine wpAny_bind (wpAny_isInstance (T := "StopIteration") (b := true) ⟨o, ho, hc⟩ isSubtype_stop ?_)
    exact wpAny_pure (hQ _ (Mv.ofHeap (fun b o hb e => hs' b o (by simpa using hb) e) (Nat.le_refl _)))
  self := fun i s Q E st hQ => by
    have hTy : s.TypeIs (.ref z) "map" := ⟨_, st.one, rfl⟩
    refine wpAny_pyIter_slot hTy slot_map_iter (wpAny_call_entry slot_map_iter hTy entry_map_iter ?_ (args_map_iter_1 _))
    show wpAny _ _ (ret (.ref z)) _ _ s
    exact wpAny_pure ⟨_, rfl, "map", _, hTy, slot_map_next.lookup, hQ⟩
end
end Mine
end
section
set_option Elab.async false
set_option tactic.hygienic false
set_option maxRecDepth 100000
set_option linter.unusedVariables false
namespace Mine
open PySem PySem.W PySem.Calls PyProof.Rows
section
variable {prog : Program} {w : World} {A : Around} {E : Value → Shared → Prop} {s : Shared} {T : String} {I : Addr} {fp wr X : List Addr} {items : List D} {St : Nat → Shared → Prop}
theorem code_tuple_ck {Q₁ : Value → Shared → Prop} (hT : s.TypeIs (.ref I) T) (hne : (Value.type T == Value.type "tuple") = false)
    (hc : ∀ (Q : List Value → Shared → Prop) (E : Value → Shared → Prop), (∀ s' acc, Mv wr s s' → RepL (Zof s'.heap (wr ++ s.heap.objs.size :: X)) acc items → Q acc s') → wpAny (model prog w) A.in1 (collect (.ref I)) Q E s) (hsz : items.length ≤ sizeLine)
    (h : ∀ s' acc, Mv wr s s' → RepL (Zof s'.heap (wr ++ s.heap.objs.size :: X)) acc items → Q₁ (.ref s'.heap.objs.size) { s' with heap := s'.heap.push (tup acc 0) }) :
    codeAny (model prog w) A (.call (.builtin "tuple.__new__") ⟨[.type "tuple", .ref I], []⟩) (wants Q₁ E) s := by
  refine codeAny_of_tree ?_
  show wpAny _ A.in1 (do checkBuiltinCall "tuple.__new__" ⟨[.type "tuple", .ref I], []⟩; again (.builtin "tuple.__new__" ⟨[.type "tuple", .ref I], []⟩)) _ _ s
  refine wpAny_bind (wpAny_of_eq (F.newCall_tuple_1 _) (wpAny_pure ⟨plainId_quiet F.plain_tuple_new _, codeAny_builtin F.entry_tuple_new ?_⟩))
  rw [Around.under_plainId F.plain_tuple_new _]
  have hsub := sub_tuple_self
  have hinit := init_tuple_lookup
  have hmh := madeHere_tuple
  have hex : ∀ (Q : Bool → Shared → Prop) (E : Value → Shared → Prop), Q false s → wpAny (model prog w) A.in1 (Builtin.Tuple.tupleIsExact (.ref I)) Q E s := fun Q E hq => by
    unfold Builtin.Tuple.tupleIsExact
    refine wpAny_bind (wpAny_typeOf hT ?_)
    first | exact wpAny_pure (by rw [hne]; exact hq) | exact wpAny_pure hq
  wp_walk using hex, hc
  intro s' acc hm hacc
  show wpAny _ _ (Builtin.Tuple.tupleExact acc.toArray >>= fun v => ret v) _ _ _
  unfold Builtin.Tuple.tupleExact
  refine wpAny_bind (wpAny_newObj_type ?_ (by show acc.toArray.size ≤ sizeLine; rw [List.size_toArray, hacc.length]; exact hsz))
  exact wpAny_pure (h s' acc hm hacc)
theorem call_tuple_ck {Q : Value → Shared → Prop} (hT : s.TypeIs (.ref I) T) (hne : (Value.type T == Value.type "tuple") = false)
    (hc : ∀ (Q : List Value → Shared → Prop) (E : Value → Shared → Prop), (∀ s' acc, Mv wr s s' → RepL (Zof s'.heap (wr ++ s.heap.objs.size :: X)) acc items → Q acc s') → wpAny (model prog w) A.in1.in1 (collect (.ref I)) Q E s) (hsz : items.length ≤ sizeLine)
    (hQ : ∀ s' acc, Mv wr s s' → RepL (Zof s'.heap (wr ++ s.heap.objs.size :: X)) acc items → Q (.ref s'.heap.objs.size) { s' with heap := s'.heap.push (tup acc 0) }) :
    wpAny (model prog w) A (call (.type "tuple") [.ref I]) Q E s := by
  refine callType_codes (Q₁ := fun obj s₁ => s₁.TypeIs obj "tuple" ∧ Q obj s₁) F.called_tuple (F.typeCall_tuple_1 _) F.entry_object_init
    (code_tuple_ck hT hne hc hsz fun s' acc hm hacc => ⟨⟨_, Heap.get?_push_size _ rfl, rfl⟩, hQ s' acc hm hacc⟩) fun obj s₁ h₁ => ?_
  exact ⟨h₁.1, F.args_object_init_2 obj _, object_init_meets F.called_tuple.init.lookup F.called_tuple.made (by decide) prog w A.in1 _ s₁ ⟨h₁.1, rfl, h₁.2⟩⟩
end
section
variable {c : Cx} {ρ : Rho}
theorem EV.tupleMap {k : Nat} {nt nm p pm : Pos} {e1 e2 : Expr} {fv : Value} {ds es : List D} (ht : EV c ρ (.Name "tuple" nt) (.raw (.type "tuple"))) (hm : EV c ρ (.Name "map" nm) (.raw (.type "map"))) (h1 : EV c ρ e1 (.raw fv)) (h2 : EV c ρ e2 (.list ds)) (hs : noStar [e1, e2] = true)
    (hlen : es.length = ds.length) (hfn : ∀ (j : Nat) (d e : D), ds[j]? = some d → es[j]? = some e → Fn c.toGx k fv [d] e) (hsz : es.length ≤ sizeLine) (hk : Rm c.A (k + 2)) : EV c ρ (.Call (.Name "tuple" nt) [.Call (.Name "map" nm) [e1, e2] [] pm] [] p) (.tuple es) := fun H s h E => by
  refine wpAny_Call_ofName (wpAny_mono (ht H s h E) (fun v s₁ hqz0 => ?_) fun xx xx e => e)
  obtain ⟨k1, q⟩ := hqz0
  have e := q.of_raw
  subst e
  have hx := h.keeps k1
  refine callRaw0 (fd := []) (.inr (.inl ⟨_, rfl⟩)) (fun env x q => by
    have := starEach_noStar (es := [.Call (.Name "map" nm) [e1, e2] [] pm]) (env := env) rfl p
    rw [q] at this; simp at this) (spliced_one ?_ rfl)
  refine wpAny_Call_ofName (wpAny_mono (hm H s₁ hx E) (fun v s₂ hqz0 => ?_) fun xx xx e => e)
  obtain ⟨k2, q⟩ := hqz0
  have e := q.of_raw
  subst e
  have hns : noStar [e2] = true := noStar_tail hs
  refine callRaw (fd := []) (.inr (.inl ⟨_, rfl⟩)) (.cons h1 (.cons h2 .nil fun env => starEach_cons_noStar hns) fun env => starEach_cons_noStar hs) (fun env y q => by
    have := starEach_noStar (env := env) hs pm
    rw [q] at this; simp at this) (hx.keeps k2) fun vs s₃ k3 r => ?_
  obtain ⟨v1, v2, rfl, q1, q2⟩ := r.two'
  have e := q1.of_raw
  subst e
  obtain ⟨l, us, n, rfl, hz, hr⟩ := q2.of_list
  have k123 := keeps_trans k1 (keeps_trans k2 k3)
  have ok3 := (h.keeps k123).ok
  have hg := (Zof.get hz).1
  have hl : s₃.heap.IsList l us.toArray := ⟨_, hg, rfl, n, rfl⟩
  refine call_map hl fun h' hzm hT hit hk' => ?_
  refine ⟨fun b o e => hk' _ _ ((ok3.2.1 b o e).1), ?_⟩
  generalize hN : s₃.heap.objs.size = N at *
  have fr : ∀ a, N ≤ a → s₃.heap.get? a = Option.none := fun a ha => by
    cases q : s₃.heap.get? a with
    | none => rfl
    | some o => exact absurd (Heap.lt_size q) (Nat.not_lt.mpr (hN ▸ ha))
  have frH : ∀ a, N ≤ a → a ∉ H := fun a ha q => by obtain ⟨o, e⟩ := ok3.1 a q; rw [fr a ha] at e; cases e
  have hSnew : h'.get? h'.objs.size = Option.none := fresh_none
  have neS : ∀ {b o}, h'.get? b = some o → b ≠ h'.objs.size := fun e q => by rw [q, hSnew] at e; cases e
  have hlN : l ≠ N := fun q => by rw [q, fr N (Nat.le_refl _)] at hg; cases hg
  have ck : ∀ A' : Around, Rm A' (k + 1) → Ck (model c.prog c.w) A' "map" (N + 2) [N + 2, N + 1, N, l] [N] (h'.objs.size :: H) es (MSt c.toGx (N + 2) (N + 1) N l v1 us ds (h'.objs.size :: H)) := fun A' hA => Ck.map (g := c.toGx) hA (addr_ne (by lia)) (addr_ne (by lia)) hlN hlen hfn
  have hIn : Rm c.A.in1.in1.in1 (k + 1) := ⟨hk.handled, by have := hk.depth; show c.A.depth + (k + 1) < _; lia, by have := hk.units; show c.A.units + 1 + 1 + 1 + 20 * (k + 1) < _; lia⟩
  have up : ∀ b o (ob : Obj), h'.get? b = some o → (h'.push ob).get? b = some o := fun b o ob e => Heap.get?_push_of_some _ e
  refine call_tuple_ck (s := { s₃ with heap := h' }) (T := "map") (I := N + 2) (wr := [N]) (X := H) (items := es) ⟨_, hzm, rfl⟩ (by decide) (fun Q E' hQ => ?_) hsz fun s' acc hmv hacc => ?_
  · refine collect_ck (s := { s₃ with heap := h' }) (Heap.lt_size hzm) (ck _ hIn) no_map_len no_map_hint (by decide) (by decide) hsz (fun b hb => ?_) ?_ hQ
    · simp only [List.mem_cons, List.not_mem_nil, or_false] at hb
      rcases hb with rfl | rfl | rfl | rfl
      · exact Heap.lt_size hzm
      · exact Heap.lt_size hT
      · obtain ⟨o, e, _⟩ := hit; exact Heap.lt_size e
      · exact Heap.lt_size (hk' _ _ hg)
    · refine ⟨up _ _ _ hzm, up _ _ _ hT, hit.at fun o e => up _ _ _ e, hl.at fun o e => up _ _ _ (hk' _ _ e), hr.mono fun a o e => ?_, fun a ha => ?_, fun b o e => ⟨up _ _ _ (hk' _ _ (ok3.2.1 b o e).1), fun q => ?_⟩, ok3.2.2⟩
      · obtain ⟨e1, e2⟩ := Zof.get e
        refine Zof.of (up _ _ _ (hk' _ _ e1)) fun q => ?_
        simp only [List.mem_append, List.mem_cons, List.not_mem_nil, or_false] at q
        rcases q with q | q | q
        · rw [q, fr N (Nat.le_refl _)] at e1; cases e1
        · exact neS (hk' _ _ e1) q
        · exact e2 q
      · simp only [List.mem_append, List.mem_cons, List.not_mem_nil, or_false] at ha
        rcases ha with rfl | rfl | ha
        · obtain ⟨o, e, _⟩ := hit; exact ⟨o, up _ _ _ e⟩
        · exact ⟨_, Heap.get?_push_size _ rfl⟩
        · obtain ⟨o, e⟩ := ok3.1 a ha; exact ⟨o, up _ _ _ (hk' _ _ e)⟩
      · have hb := ok3.2.1 b o e
        simp only [List.mem_append, List.mem_cons, List.not_mem_nil, or_false] at q
        rcases q with q | q | q
        · rw [q, fr N (Nat.le_refl _)] at hb; cases hb.1
        · exact neS (hk' _ _ hb.1) q
        · exact hb.2 q
  · have kk : Keeps s₃ s' := by
      obtain ⟨h1, t1, g1, rfl, k1, n1, b1⟩ := hmv
      refine ⟨h1, t1, g1, rfl, fun b o e => k1 b o (fun q => ?_) (hk' _ _ e), n1, b1⟩
      simp only [List.mem_cons, List.not_mem_nil, or_false] at q
      rw [q, fr N (Nat.le_refl _)] at e; cases e
    have kp := keeps_push s' (tup acc 0)
    have ok' := ok3.keeps kk
    refine ⟨keeps_trans k123 (keeps_trans kk kp), .tuple (n := 0) (vs := acc) (Zof.of (Heap.get?_push_size _ rfl) ok'.fresh) ((hacc.mono (Zof.sub fun a ha => by simp [ha])).mono (keeps_le kp))⟩
end
end Mine
end
section
set_option Elab.async false
set_option tactic.hygienic false
set_option maxRecDepth 100000
set_option linter.unusedVariables false
namespace Mine
open PySem PySem.W PySem.Calls PyProof.Rows
noncomputable def ledOf (w : World) : Bool := !w.params.followText "set-order"
noncomputable abbrev emptySet (led : Bool) : Obj := { cls := .type "set", dict := none, data := .set #[] 0 (.fresh 0 0 led) }
section
variable {prog : Program} {w : World} {A : Around} {E : Value → Shared → Prop} {R : Result → Shared → Prop} {s : Shared}
theorem by_text {Q : Bool → Shared → Prop} (h : Q (w.params.followText "set-order") s) : wpAny (model prog w) A setsByText Q E s := wpAny_bind (wpAny_askSetting (wpAny_pure h))
theorem new_set {Q : Value → Shared → Prop} (h : Q (.ref s.heap.objs.size) { s with heap := s.heap.push (emptySet (ledOf w)) }) : wpAny (model prog w) A (newSet (.type "set")) Q E s := by
  unfold newSet
  refine wpAny_bind (by_text ?_)
  exact wpAny_newObj_type h
theorem hash_true {Q : Int → Shared → Prop} (h : Q 1 { s with toks := s.toks + 1 }) : wpAny (model prog w) A (pyHash (.bool true)) Q E s := by
  have hT : s.TypeIs (.bool true) "bool" := rfl
  unfold pyHash
  have hv : [Value.bool true].any Value.onHeap = false := rfl
  refine wpAny_bind ?_
  rw [cRoomFor, if_neg (by rw [hv]; exact Bool.false_ne_true)]; refine wpAny_pure ?_
  refine wpAny_bind (wpAny_specialOf hT F.slot_bool_hash.lookup ?_)
  show wpAny _ _ (if (some (Value.builtin "int.__hash__") == some Value.none) = true then _ else _) Q E s
  rw [if_neg (by rw [beq_builtin_none]; exact Bool.false_ne_true)]
  refine wpAny_bind (wpAny_specialOf hT F.slot_bool_hash.lookup ?_)
  show wpAny _ _ (callSpecialIfBoundUnlessNone? (.bool true) "__hash__" _ >>= _) Q E s
  refine wpAny_bind (wpAny_callSpecialIfBoundUnlessNone?_slot hT F.slot_bool_hash
    (wpAny_call_entry F.slot_bool_hash hT entry_int_hash
      (show wpAny _ _ (do ret (← mkInt (rawHash 1))) _ _ s from wpAny_ret_mkInt ?_) (args_int_hash _)))
  have e1 : rawHash 1 = 1 := by decide +kernel
  rw [e1]
  show wpAny _ _ (if (decide (-(2 : Int) ^ 63 ≤ (1 : Int)) && decide ((1 : Int) < 2 ^ 63)) = true then _ else _) Q E _
  rw [if_pos (by decide)]
  have e2 : reduceHash 1 = 1 := by decide +kernel
  first | exact wpAny_pure h | exact wpAny_pure (by rw [e2]; exact h)
theorem eq_true {Q : Bool → Shared → Prop} (h : Q true s) : wpAny (model prog w) A (eqBool (.bool true) (.bool true)) Q E s := by
  unfold eqBool
  refine wpAny_holding ?_
  rw [if_pos (by decide)]
  exact wpAny_bind (wpAny_rule (wpAny_pure h))
theorem add_true {a : Addr} {i : Nat} {led : Bool} {Q : Value → Shared → Prop} (hS : s.heap.get? a = some (if i = 0 then emptySet led else setObj led))
    (h : ∀ h' tk, s.toks ≤ tk → h'.get? a = some (setObj led) → Heap.SameBut a s.heap h' → Q .none { s with heap := h', toks := tk }) :
    wpAny (model prog w) A (call (.builtin "set.add") [.ref a, .bool true]) Q E s := by
  have hT : s.TypeIs (.ref a) "set" := by split at hS <;> exact ⟨_, hS, rfl⟩
  refine wpAny_call_entry F.slot_set_add hT F.entry_set_add ?_ (F.args_set_add_2 _ _)
  unfold Builtin.«set.add» Builtin.Frozenset.oneOther
  simp only [List.isEmpty_nil, bind_assoc]
  unfold Builtin.Frozenset.addrOf setAdd
  refine wpAny_bind (wpAny_pure ?_)
  try dsimp only
  refine wpAny_bind (wpAny_pure ?_)
  try dsimp only
  refine wpAny_bind ?_
  refine wpAny_holding ?_
  refine wpAny_bind (hash_true ?_)
  unfold setAddHashed setAddHashedIn
  split at hS
  · refine wpAny_holding (wpAny_bind (wpAny_setState_of (s := { s with toks := s.toks + 1 }) hS rfl rfl ?_))
    dsimp only
    rw [if_pos (by decide +kernel)]
    unfold setAddByScan
    refine wpAny_bind ?_
    refine wpAny_bind (wpAny_rule ?_)
    refine wpAny_bind (show wpAny _ _ (pure ScanMet.absent) _ _ _ from wpAny_pure ?_)
    dsimp only
    have hL : layNew (.fresh 0 0 led) #[] 1 (.bool true) = (#[(1, .bool true)], { mask := 7, place := #[1], dummies := #[], finger := 0, led := led, moves := 0, plain := true }, false, false) := by cases led <;> decide +kernel
    rw [hL]
    dsimp only
    refine wpAny_bind (show wpAny _ _ (pure ()) _ _ _ from wpAny_pure ?_)
    rw [if_pos rfl]
    refine wpAny_bind (show wpAny _ _ (pure true) _ _ _ from wpAny_pure ?_)
    refine wpAny_bind (wpAny_storeSet_of (s := { s with toks := s.toks + 1 }) hS rfl ?_ (by unfold sizeLine; simp))
    have hT2 : (!false && ({ mask := 7, place := #[1], dummies := #[], finger := 0, led := led, moves := 0, plain := true } : SetTable).tooFull) = false := by cases led <;> decide +kernel
    have hg : (s.heap.update a (Obj.putSet #[(1, .bool true)] { mask := 7, place := #[1], dummies := #[], finger := 0, led := led, moves := 0, plain := true })).get? a = some (setObj led) := by
      rw [Heap.get?_update_self _ hS (by rw [putSet_of _ _ rfl]; rfl), putSet_of _ _ rfl]
    have fin := h _ (s.toks + 1) (Nat.le_succ _) hg (Heap.SameBut.update ..)
    rw [if_neg (by rw [if_pos rfl, hT2]; decide)]
    refine wpAny_pure (wpAny_pure ?_)
    exact wpAny_pure ⟨_, rfl, fin⟩
  · refine wpAny_holding (wpAny_bind (wpAny_setState_of (s := { s with toks := s.toks + 1 }) hS rfl rfl ?_))
    dsimp only
    rw [if_pos (by decide +kernel)]
    unfold setAddByScan
    refine wpAny_bind ?_
    refine wpAny_bind (wpAny_rule ?_)
    refine wpAny_bind ?_
    show wpAny _ _ (setScanFrom a (.bool true) 1 true [(1, .bool true)] 0) _ _ _
    unfold setScanFrom
    rw [if_pos (by decide)]
    refine wpAny_bind (wpAny_setEpoch_of (s := { s with toks := s.toks + 1 }) hS rfl rfl ?_)
    refine wpAny_bind (eq_true ?_)
    rw [if_pos (by decide)]
    refine wpAny_pure ?_
    refine wpAny_pure (wpAny_pure ?_)
    exact wpAny_pure ⟨_, rfl, h s.heap (s.toks + 1) (Nat.le_succ _) hS ⟨rfl, fun xx xx => rfl⟩⟩
theorem compTurn_set (elt target iter : Expr) (scope : Scope) (pos : Pos) (it acc : Value) (env : Env) :
    compTurn (.SetComp elt [⟨target, iter, [], 0⟩] scope pos) 0 it acc env = (standAt iter.pos >>= fun xx => pyNext it >>= fun r => match r with
      | none => pure (.done .next)
      | some v => letOwnedTupleGo target it v >>= fun xx => assign target env v >>= fun xx =>
        (eval elt env >>= fun x => standAt elt.pos >>= fun xx => call (.builtin "set.add") [acc, x] >>= fun xx => pure ()) >>= fun xx =>
          again (.compLoop (.SetComp elt [⟨target, iter, [], 0⟩] scope pos) 0 it acc env)) := by rfl
theorem setLoop_any {elt target iter : Expr} {scope : Scope} {pos : Pos} {it acc : Value} {env : Env} (I : Nat → Shared → Prop)
    (turn : ∀ n s, I n s → wpAny (model prog w) A (pyNext it) (fun r s₁ => match r with
      | none => R (.ok .next) s₁
      | some v => wpAny (model prog w) A (letOwnedTupleGo target it v) (fun xx s₁' => wpAny (model prog w) A (assign target env v) (fun xx s₂ =>
          wpAny (model prog w) A (eval elt env) (fun x s₄ => wpAny (model prog w) A (standAt elt.pos) (fun xx s₄ =>
              wpAny (model prog w) A (call (.builtin "set.add") [acc, x]) (fun xx s₅ => ∃ m, m < n ∧ I m s₅) (notedBy (model prog w) A env fun e s' => R (.error e) s') s₄) (notedBy (model prog w) A env fun e s' => R (.error e) s') s₄) (notedBy (model prog w) A env fun e s' => R (.error e) s') s₂) (notedBy (model prog w) A env fun e s' => R (.error e) s') s₁') (notedBy (model prog w) A env fun e s' => R (.error e) s') s₁) (notedBy (model prog w) A env fun e s' => R (.error e) s') s)
    (n : Nat) (h : I n s) :
    codeAny (model prog w) A (.compLoop (.SetComp elt [⟨target, iter, [], 0⟩] scope pos) 0 it acc env) R s := by
  refine codeAny_loop rfl I (fun n s hI => ?_) n h
  show wpAny _ A ((compTurn (.SetComp elt [⟨target, iter, [], 0⟩] scope pos) 0 it acc env).onRaise (fun x => do noteFrame x env; theTreesLotGoes x)) _ _ s
  refine wpAny_noted ?_
  rw [compTurn_set]
  refine wpAny_bind (wpAny_standAt (wpAny_bind (wpAny_mono (turn n s hI) (fun r s₁ h₁ => ?_) fun xx xx h' => h')))
  cases r with
  | none => exact wpAny_pure h₁
  | some v =>
    refine wpAny_bind (wpAny_mono h₁ (fun xx s₁' h₁ => ?_) fun xx xx h' => h')
    refine wpAny_bind (wpAny_mono h₁ (fun xx s₂ h₂ => wpAny_bind ?_) fun xx xx h' => h')
    refine wpAny_bind (wpAny_mono h₂ (fun x s₄ h₄ => wpAny_bind (wpAny_mono h₄ (fun xx s₄' h₄ => wpAny_bind (wpAny_mono h₄ (fun xx s₅ h₅ => wpAny_pure (wpAny_pure ⟨rfl, h₅⟩)) fun xx xx h' => h')) fun xx xx h' => h')) fun xx xx h' => h')
theorem compStart_set {elt target iter : Expr} {scope : Scope} {pos : Pos} {it acc : Value} {env : Env}
    (h0 : codeAny (model prog w) A (.compLoop (.SetComp elt (⟨target, iter, [], 0⟩ :: []) scope pos) 0 it acc env) R s)
    (h : wpAny (model prog w) A (pyIter it) (fun it' s' => codeAny (model prog w) A (.compLoop (.SetComp elt (⟨target, iter, [], 0⟩ :: []) scope pos) 0 it' acc env) R s')
      (notedBy (model prog w) A env fun x s' => R (.error x) s') s) :
    codeAny (model prog w) A (.compStart (.SetComp elt (⟨target, iter, [], 0⟩ :: []) scope pos) 0 it acc env) R s := by
  refine codeAny_of_tree ?_
  show wpAny _ _ ((compStart (.SetComp elt (⟨target, iter, [], 0⟩ :: []) scope pos) 0 it acc env).onRaise (fun x => do noteFrame x env; standAt theWindowsPlace)) _ _ s
  refine wpAny_notedAt ?_
  unfold compStart
  show wpAny _ _ (ask >>= _) _ _ s
  refine wpAny_bind (wpAny_askSetting (wpAny_ite ?_))
  split
  · first
      | exact wpAny_bind (wpAny_pure (wpAny_pure (And.intro rfl h0)))
      | exact wpAny_pure (And.intro rfl h0)
  · first
      | exact wpAny_bind (wpAny_rule (wpAny_bind (wpAny_standAt (wpAny_bind (wpAny_mono h (fun it' s' h' => wpAny_pure (And.intro rfl h')) fun xx xx x => x)))))
      | (refine wpAny_bind (wpAny_rule ?_); show wpAny _ _ (standAt iter.pos >>= _) _ _ s; exact wpAny_bind (wpAny_standAt (wpAny_bind (wpAny_mono h (fun it' s' h' => wpAny_pure (And.intro rfl h')) fun xx xx x => x))))
end
section
variable {tt : Bool} {c : Cx} {sg : Shared} {B : Mp} {Y : List Addr} {fs : List Addr} {m cm : Str → Option Value} {ρ ρ₀ ρ' : Rho} {T : List (Value × D)} {s s' : Shared}
theorem set_core {H : List Addr} {s₂ : Shared} {elt target iter : Expr} {scope : Scope} {pos : Pos} {cl : List (Str × Addr)} {items : List D} {it : Value} {E : Value → Shared → Prop} {RR : Value → Addr → Result → Shared → Prop}
    (hrd : Rd c H ρ s) (htt : TT tt target) (hit : IterAt tt L0 c.lo c.M c.A H items it s s₂) (K : CompOk c ρ scope cl ρ₀) (hce : ∀ C d, d ∈ items → ∃ ρt, AT (c.inComp scope cl C) ρ₀ target d ρt ∧ ρ₀.Sublist ρt ∧ EV (c.inComp scope cl C) ρt elt (.bool true)) (hne : 0 < items.length)
    (hRR : ∀ D' C s₅ m', Keeps s s₅ → Rep (Zof s₅.heap (C :: H)) (.ref D') (.sett (ledOf c.w)) → s.heap.get? C = none → s₅.heap.Ns C m' → RR (.ref D') C (.ok .next) s₅) :
    wpAny c.M c.A (newSet (.type "set")) (fun acc s₃ => wpAny c.M c.A (newFunctionEnv scope c.env.globals cl [] c.env.qual none .none (some c.env)) (fun cenv s₄ =>
      codeAny c.M c.A (.compStart (.SetComp elt [⟨target, iter, [], 0⟩] scope pos) 0 it acc { cenv with scope := relabel scope c.env }) (RR acc cenv.locals) s₄) E s₃) E s₂ := by
  refine new_set (wpAny_newFunctionEnv K.cell (by intro y hy; simp at hy) (fun h₁ hns₁ hsb₁ => ?_) K.kind)
  dsimp only at hns₁ hsb₁ ⊢
  obtain ⟨k2, hin⟩ := comp_in hrd hit K hns₁ hsb₁ (tk := s₂.toks + ([] : List (Str × Value)).length) (Nat.le_refl _)
  clear hrd hit hns₁ hsb₁ K
  generalize (s₂.heap.push (emptySet (ledOf c.w))).objs.size = C at hin ⊢
  generalize s₂.heap.objs.size = D' at hin ⊢
  generalize ({ s₂ with heap := h₁, toks := s₂.toks + ([] : List (Str × Value)).length } : Shared) = s₁ at hin ⊢
  obtain ⟨wr, fp, P, Mid, F, W, hw1, hw, hDw, hDB, hDfp, hDF, hDH, hCs, acc, hd⟩ := hin
  have loop : codeAny c.M c.A (.compLoop (.SetComp elt [⟨target, iter, [], 0⟩] scope pos) 0 it (.ref D') (compEnvC scope cl C c.env)) (RR (.ref D') C) s₁ := by
    refine setLoop_any (Turn items.length fun i s' => HeadAt (c.inComp scope cl C) s₂ (Bx s₂.heap wr) (D' :: H) [] wr fp P F i ρ₀ s' ∧ s'.heap.get? D' = some (if i = 0 then emptySet (ledOf c.w) else setObj (ledOf c.w))) (fun n s' q => ?_) (items.length - 0) ⟨0, Nat.zero_le _, rfl, hd, acc⟩
    obtain ⟨i, hi, hn, y, hpl⟩ := q
    by_cases h : i < items.length
    · refine y.took W hw1 htt (List.getElem?_eq_getElem h) (fun v s₁ h => h) fun v n' s1 q => ?_
      obtain ⟨B', _, _, x1, _, back, keep⟩ := q
      obtain ⟨ρt, hat, hsub, hel⟩ := hce C items[i] (List.getElem_mem h)
      refine wpAny_mono (hat s₂ _ _ _ _ v _ x1) (fun xx s2 q2 => ?_) fun xx xx e => e
      obtain ⟨g2, m2, cm2, z2⟩ := q2
      refine z2.ev hel fun uv s4 k4 q4 => ?_
      cases (q4.temps (uv, .bool true) (.head _)).of_bool
      have z4 := (show St _ _ _ _ _ _ _ from ⟨_, _, _, q4⟩).weaken hsub
      refine wpAny_standAt (add_true (keep z4 _ (.head _) hDw _ hpl) fun h5 tk5 htk5 hl5 hs5 => ?_)
      exact Turn.next h hn ⟨((back z4).put W.frame (.head _) hDB hDfp hDF htk5 ⟨_, hl5⟩ hs5.extBut).temps_sub fun p hp => (nomatch hp), by simpa using hl5⟩
    · cases Turn.last hi h
      rw [if_neg (Nat.ne_of_gt hne)] at hpl
      obtain ⟨gs, m', cm', y, hPi, _, _⟩ := y
      refine W.done s' _ _ y.mono.2.1 y.mono.2.2 hPi fun h5 tk5 htk5 hk5 => ?_
      have en := comp_end k2 hw y htk5 hk5
      exact hRR D' C _ m' en.1 (.sett (Zof.of (hk5 _ _ hDw hpl) hDH)) hCs en.2.1
  exact compStart_set loop (W.self 0 _ _ _ hd.pos loop)

end
end Mine
end
section
set_option Elab.async false
set_option tactic.hygienic false
set_option maxRecDepth 100000
set_option linter.unusedVariables false
namespace Mine
open PySem PySem.W PySem.Calls PyProof.Rows
theorem owner_set_iterator : Manifest.owners.lookup (String.ofList ['r', 'o', 't', 'a', 'r', 'e', 't', 'i', '_', 't', 'e', 's'].reverse) = some Manifest.sig_set_iterator := by kernel_rfl
theorem slot_seti_next : PySem.Slot "set_iterator" "__next__" "set_iterator.__next__" :=
  .of (owner := "set_iterator") (n := "__next__") (by rw [typeLookup_type, builtinLookup_eq_fast]; kernel_rfl) (by decide +kernel) (by decide +kernel) (by decide +kernel)
    (by first | exact .inl (by decide +kernel) | exact .inr (by decide +kernel)) (by rw [isSubtype_type]; kernel_rfl)
theorem entry_seti_next : entryFor table "set_iterator.__next__" = some Builtin.«set_iterator.__next__» := entryFor_of_tree (by kernel_rfl)
theorem args_seti_next_1 (a : Value) : argsOk "set_iterator.__next__" ⟨[a], []⟩ := by
  unfold argsOk; rw [signature?_of (id := "set_iterator.__next__") (n := ['_', '_', 't', 'x', 'e', 'n', '_', '_']) (o := ['r', 'o', 't', 'a', 'r', 'e', 't', 'i', '_', 't', 'e', 's']) (by kernel_rfl) owner_set_iterator]; kernel_rfl
theorem entry_set_iter : entryFor table "set.__iter__" = some Builtin.«frozenset.__iter__» :=
  entryFor_alias (id' := "frozenset.__iter__") (by kernel_rfl) rfl (by decide +kernel) (by kernel_rfl)
noncomputable abbrev setIt (slot i a : Nat) : Obj := { cls := .type "set_iterator", data := .fields #[rawInt slot, rawInt i, .ref a, rawInt 1, rawInt 1] }
section
variable {prog : Program} {w : World} {A : Around} {E : Value → Shared → Prop} {s : Shared} {a I : Addr} {led : Bool}
theorem set_iter {Q : Value → Shared → Prop} (ha : s.heap.get? a = some (setObj led)) (h : Q (.ref s.heap.objs.size) { s with heap := s.heap.push (setIt 0 0 a) }) : wpAny (model prog w) A (pyIter (.ref a)) Q E s := by
  have hT : s.TypeIs (.ref a) "set" := ⟨_, ha, rfl⟩
  refine wpAny_pyIter_slot hT F.slot_set_iter (wpAny_call_entry F.slot_set_iter hT entry_set_iter ?_ (F.args_set_iter_1 _))
  unfold Builtin.«frozenset.__iter__» Builtin.Frozenset.slot0 slotArgs
  simp only [List.isEmpty_nil, Bool.not_true, Bool.false_eq_true, ↓reduceIte, bind_assoc, List.length_nil, bne_self_eq_false]
  unfold Builtin.Frozenset.addrOf Builtin.Frozenset.sizeOf
  refine wpAny_bind (wpAny_pure ?_)
  refine wpAny_bind (wpAny_pure ?_)
  refine wpAny_bind (wpAny_bind (wpAny_setEntries_of ha rfl rfl (wpAny_pure ?_)))
  refine wpAny_bind ?_
  unfold setDrawn
  refine wpAny_bind (wpAny_setState_of ha rfl rfl ?_)
  refine wpAny_bind (by_text (wpAny_pure ?_))
  rw [if_neg (fun q => by rw [Bool.and_eq_true] at q; exact absurd q.2 (by cases led <;> decide))]
  refine wpAny_bind (wpAny_pure ?_)
  refine wpAny_bind (wpAny_setEpoch_of ha rfl rfl ?_)
  refine wpAny_bind (wpAny_newObj_type ?_)
  refine wpAny_pure ⟨_, rfl, "set_iterator", _, ⟨_, Heap.get?_push_size _ rfl, rfl⟩, slot_seti_next.lookup, h⟩
noncomputable def slotOf (w : World) : Nat := if w.params.followText "set-order" then 0 else 2
theorem set_walk {Q : Array (Int × Value) → Shared → Prop} (hb : w.params.followText "set-order" = true) {led : Bool} (ha : s.heap.get? a = some (setObj led)) (h : Q #[(1, .bool true)] s) : wpAny (model prog w) A (setWalk a) Q E s := by
  unfold setWalk
  refine wpAny_bind (wpAny_setState_of ha rfl rfl ?_)
  refine wpAny_bind (by_text ?_)
  rw [hb, if_pos rfl]
  refine wpAny_bind (wpAny_askSetting (wpAny_pure ?_))
  have e : ∀ f : Nat → Nat, pickOrder f (#[(1, Value.bool true)] : Array (Int × Value)) = #[(1, .bool true)] := fun f => by
    unfold pickOrder
    show pickOrder.go f 1 0 [(1, Value.bool true)] #[] = _
    unfold pickOrder.go
    simp only [List.length_singleton, Nat.mod_one]
    rfl
  rw [e]; exact h
theorem next_code0 {Q : Option (Value × Nat) → Shared → Prop} (ha : s.heap.get? a = some (setObj (ledOf w))) (h : Q (some (.bool true, slotOf w)) s) : wpAny (model prog w) A (setNext a 0 0 1) Q E s := by
  unfold setNext
  refine wpAny_bind (wpAny_setState_of ha rfl rfl ?_)
  refine wpAny_bind (by_text ?_)
  unfold slotOf at h
  cases hb : w.params.followText "set-order" with
  | true =>
    rw [hb] at h
    rw [if_pos rfl, if_neg (by decide)]
    refine wpAny_bind (set_walk hb ha (wpAny_pure ?_))
    exact h
  | false =>
    have hl : ledOf w = true := by unfold ledOf; rw [hb]; rfl
    rw [hb] at h
    rw [hl, if_neg Bool.false_ne_true]
    rw [if_neg (by decide)]
    refine wpAny_bind (show wpAny _ _ (pure ()) _ _ _ from wpAny_pure ?_)
    refine wpAny_pure ?_
    exact h
theorem next_code1 {Q : Option (Value × Nat) → Shared → Prop} (ha : s.heap.get? a = some (setObj (ledOf w))) (h : Q none s) : wpAny (model prog w) A (setNext a (slotOf w) 1 1) Q E s := by
  unfold setNext
  refine wpAny_bind (wpAny_setState_of ha rfl rfl ?_)
  refine wpAny_bind (by_text ?_)
  unfold slotOf
  cases hb : w.params.followText "set-order" with
  | true =>
    rw [if_pos rfl, if_neg (by decide)]
    refine wpAny_bind (set_walk hb ha (wpAny_pure ?_))
    exact h
  | false =>
    have hl : ledOf w = true := by unfold ledOf; rw [hb]; rfl
    rw [hl, if_neg Bool.false_ne_true]
    rw [if_neg (by decide)]
    refine wpAny_bind (show wpAny _ _ (pure ()) _ _ _ from wpAny_pure ?_)
    refine wpAny_pure ?_
    exact h
theorem set_next0 {Q : Option Value → Shared → Prop} (ha : s.heap.get? a = some (setObj (ledOf w))) (hI : s.heap.get? I = some (setIt 0 0 a)) (hne : a ≠ I)
    (h : ∀ h', h'.get? I = some (setIt (slotOf w) 1 a) → Heap.SameBut I s.heap h' → Q (some (.bool true)) { s with heap := h' }) : wpAny (model prog w) A (pyNext (.ref I)) Q E s := by
  have hT : s.TypeIs (.ref I) "set_iterator" := ⟨_, hI, rfl⟩
  unfold pyNext
  refine wpAny_bind (wpAny_attempt (wpAny_callSpecial?_slot (name := Str.ofString "__next__") hT slot_seti_next (wpAny_call_entry slot_seti_next hT entry_seti_next ?_ (args_seti_next_1 _))))
  show wpAny _ _ (fieldsOf (.ref I) >>= _) _ _ _
  refine wpAny_bind (wpAny_fieldsOf hI rfl ?_)
  show wpAny _ _ (setEntries a >>= _) _ _ _
  refine wpAny_bind (wpAny_setEntries_of ha rfl rfl ?_)
  dsimp only
  rw [if_neg (by decide)]
  show wpAny _ _ (setNext a 0 0 1 >>= _) _ _ _
  refine wpAny_bind (next_code0 ha ?_)
  dsimp only
  refine wpAny_bind (wpAny_setField_rec hI (by simp) fun h₁ hI₁ hs₁ => ?_)
  refine wpAny_bind (wpAny_setField_rec hI₁ (by simp) fun h₂ hI₂ hs₂ => ?_)
  exact wpAny_pure ⟨_, rfl, wpAny_pure (h h₂ hI₂ (hs₁.trans hs₂))⟩
theorem set_next1 {Q : Option Value → Shared → Prop} (hh : A.handled = none) (ha : s.heap.get? a = some (setObj (ledOf w))) (hI : s.heap.get? I = some (setIt (slotOf w) 1 a)) (hne : a ≠ I)
    (h : ∀ h', (∀ b o, b ≠ I → s.heap.get? b = some o → h'.get? b = some o) → Q none { s with heap := h' }) : wpAny (model prog w) A (pyNext (.ref I)) Q E s := by
  have hT : s.TypeIs (.ref I) "set_iterator" := ⟨_, hI, rfl⟩
  unfold pyNext
  refine wpAny_bind (wpAny_attempt (wpAny_callSpecial?_slot (name := Str.ofString "__next__") hT slot_seti_next (wpAny_call_entry slot_seti_next hT entry_seti_next ?_ (args_seti_next_1 _))))
  show wpAny _ _ (fieldsOf (.ref I) >>= _) _ _ _
  refine wpAny_bind (wpAny_fieldsOf hI rfl ?_)
  show wpAny _ _ (setEntries a >>= _) _ _ _
  refine wpAny_bind (wpAny_setEntries_of ha rfl rfl ?_)
  dsimp only
  rw [if_neg (by decide)]
  show wpAny _ _ (setNext a (Int.toNat (slotOf w : Int)) 1 1 >>= _) _ _ _
  rw [Int.toNat_natCast]
  refine wpAny_bind (next_code1 ha ?_)
  dsimp only
  refine wpAny_bind (wpAny_setField_rec hI (by simp) fun h₁ hI₁ hs₁ => ?_)
  show wpAny _ _ (newExc (.type "StopIteration") [] >>= _) _ _ _
  refine wpAny_bind ?_
  simp only [newExc, newTuple]
  refine wpAny_bind (wpAny_newObj_type ?_ (by size_fits))
  refine wpAny_bind (m := firstArgMember _ _) (wpAny_of_eq (a := Value.none) (by first | rfl | (simp only [firstArgMember]; rfl)) ?_)
  refine wpAny_newObj_type ?_ (by size_fits)
  delta raiseNew
  refine wpAny_bind (wpAny_handled ?_)
  rw [show A.in1.handled = none from hh]
  refine wpAny_bind (wpAny_pure (wpAny_throw ?_))
  refine wpAny_bind (wpAny_isInstance (T := "StopIteration") (b := true) ⟨_, Heap.get?_push_size _ rfl, rfl⟩ isSubtype_stop ?_)
  exact wpAny_pure (h _ (((hs₁.extBut).push _).push _))
end
section
variable {c : Cx} {ρ ρ1 : Rho}
theorem AT.oneSet {t1 : Expr} {k : Nat} {p : Pos} {j : Nat} (h1 : AT c ρ t1 (.bool true) ρ1) (hk : Rm c.A j) (hs : ∀ env, assignEach [t1] env = [(false, assign t1 env)]) : AT c ρ (.Tuple [t1] k p) (.sett (ledOf c.w)) ρ1 := fun sg B Y T s v E h => by
  obtain ⟨fs, m, cm, x⟩ := h
  have hr := x.temps (v, .sett (ledOf c.w)) (by simp)
  cases hr with
  | @sett a _ hz =>
  have ha := (Zof.get hz).1
  rw [arm_assign_Tuple]
  refine wpAny_bind (wpAny_standAt ?_)
  rw [hs]
  show wpAny _ _ (holding [.ref a] (unpackItems (.ref a) 1 none) >>= fun xs => assignInOrder [assign t1 c.env] xs) _ _ _
  refine wpAny_bind (wpAny_holding ?_)
  unfold unpackItems notIterableAtAll
  refine wpAny_bind (wpAny_bind (wpAny_specialOf (T := "set") ⟨_, ha, rfl⟩ F.slot_set_iter.lookup ?_))
  show wpAny _ _ (pure false) _ _ _
  refine wpAny_pure ?_
  first | refine wpAny_ite_false rfl ?_ | simp only [Bool.false_eq_true, if_false]
  refine wpAny_bind (wpAny_holding (set_iter ha ?_))
  have ha1 : (s.heap.push (setIt 0 0 a)).get? a = some (setObj (ledOf c.w)) := Heap.get?_push_of_some _ ha
  have hne : a ≠ s.heap.objs.size := Nat.ne_of_lt (Heap.lt_size ha)
  refine wpAny_bind (wpAny_holding ?_)
  show wpAny _ _ (pyNext (.ref s.heap.objs.size) >>= _) _ _ _
  refine wpAny_bind (set_next0 (s := { s with heap := s.heap.push (setIt 0 0 a) }) ha1 (Heap.get?_push_size _ rfl) hne fun h2 hI2 hs2 => ?_)
  refine wpAny_bind (wpAny_holding (wpAny_pure (wpAny_pure ?_)))
  simp only [List.length_singleton, Nat.lt_irrefl, if_false]
  refine wpAny_bind (wpAny_holding (set_next1 (s := { s with heap := h2 }) hk.handled (hs2.extBut _ _ hne ha1) hI2 hne fun h3 hs3 => ?_))
  simp only [Option.isSome_none, Bool.false_eq_true, if_false]
  refine wpAny_pure ?_
  have kp : Keeps s { s with heap := h3 } := keeps_heap' fun b o e => hs3 b o (Nat.ne_of_lt (Heap.lt_size e)) (hs2.extBut b o (Nat.ne_of_lt (Heap.lt_size e)) (Heap.get?_push_of_some _ e))
  refine wpAny_assignInOrder_more (wpAny_mono (h1 sg B Y _ _ (.bool true) E ⟨fs, m, cm, ((x.keeps kp).temps_sub (T' := T) fun p hp => .tail _ hp).temp (.bool true)⟩) (fun xx s₁ q => ?_) fun xx xx e => e)
  exact wpAny_assignInOrder_none q
end
end Mine
end
section
set_option Elab.async false
set_option tactic.hygienic false
set_option maxRecDepth 100000
set_option linter.unusedVariables false
namespace Mine
open PySem PySem.W PySem.Calls PyProof.Rows
section
variable {g : Gx}
theorem Tru.tuple {ds : List D} (h : ds.length ≤ sizeLine) : Tru g 0 (.tuple ds) (!ds.isEmpty) := fun A s X v E hr ok ra => by
  obtain ⟨a, vs, n, rfl, hz, hr'⟩ := ra.of_tuple
  have h' : ds.length ≤ 16777216 := h
  refine PyProof.Rows.truthy_tuple (t := a) (items := vs.toArray) ⟨_, (Zof.get hz).1, rfl, n, rfl⟩ (by rw [List.size_toArray, hr'.length]; lia) ⟨keeps_next2 s, ?_⟩
  have := hr'.length
  cases vs <;> cases ds <;> simp_all
theorem enums_get {ds : List D} {i : Nat} {d : D} (h : (enums ds)[i]? = some d) : ∃ e, ds[i]? = some e ∧ d = .tuple [.int i, e] := by
  simp only [enums, List.getElem?_map, Option.map_eq_some_iff, List.getElem?_zipIdx] at h
  obtain ⟨⟨d1, j⟩, ⟨d2, e, e2⟩, rfl⟩ := h
  cases e2
  exact ⟨_, e, by simp⟩
end
section
variable {c : Cx} {scope outer : Scope} {ρ ρ₀ : Rho}
theorem EX1.assignCompC {tt : Bool} {y : Str} {py spos : Pos} {elt target iter : Expr} {ifs : List Expr} {scope : Scope} {pos : Pos} {items : List D} {osc : Scope} (b : CB c osc) (g : D → Option D) (ρ₀ : Rho)
    (hit : IT tt L0 c ρ iter items) (hfo : freeOk osc scope = true) (hs : compSc scope = true) (hk : scope.kind = .function) (hf : freeV osc scope ρ₀ = true) (hv : ∀ p ∈ ρ₀, ∃ d, p.2 = .val d) (hsub : ρ₀.Sublist ρ)
    (hce : ∀ env, CB { c with env := env, oc := [] } (relab osc scope) → ∀ d ∈ items, CE { c with env := env, oc := [] } ρ₀ target ifs elt d (g d)) (hsz : items.length ≤ sizeLine) (hfold : ∀ x, foldedSetIterable iter c.env x = pure x)
    (hsw : swapsWith (.ListComp elt [⟨target, iter, ifs, 0⟩] scope pos) (some (.Name y py)) spos.line c.env = pure true) (hy : isLoc osc y = true) (htt : autoParam (TT tt target) rflTac) :
    EX1 c ρ (.Assign [.Name y py] (.ListComp elt [⟨target, iter, ifs, 0⟩] scope pos) spos) (.next (upd y (.val (.list (items.filterMap g))) ρ)) := by
  obtain ⟨cl, hcl, h1, h2⟩ := cl_of b hfo
  exact EX1.assignComp g hit (compOk b hcl h1 hs hk hf hv hsub) (fun C d hd => hce _ (b.comp hs hk h2) d hd) hsz hfold hsw b.fk ((b.kindOf y).trans (by simpa [isLoc] using hy)) htt
theorem EV.setC {tt : Bool} {elt target iter : Expr} {scope : Scope} {pos : Pos} {items : List D} {osc : Scope} (b : CB c osc) (ρ₀ : Rho)
    (hit : IT tt L0 c ρ iter items) (hfo : freeOk osc scope = true) (hs : compSc scope = true) (hk : scope.kind = .function) (hf : freeV osc scope ρ₀ = true) (hv : ∀ p ∈ ρ₀, ∃ d, p.2 = .val d) (hsub : ρ₀.Sublist ρ)
    (hce : ∀ env, CB { c with env := env, oc := [] } (relab osc scope) → ∀ d ∈ items, ∃ ρt, AT { c with env := env, oc := [] } ρ₀ target d ρt ∧ ρ₀.Sublist ρt ∧ EV { c with env := env, oc := [] } ρt elt (.bool true)) (hne : 0 < items.length) (hfold : ∀ x, foldedSetIterable iter c.env x = pure x) (htt : autoParam (TT tt target) rflTac) :
    EV c ρ (.SetComp elt [⟨target, iter, [], 0⟩] scope pos) (.sett (ledOf c.w)) := fun H s h E => by
  obtain ⟨cl, hcl, h1, h2⟩ := cl_of b hfo
  have K := compOk (ρ := ρ) b hcl h1 hs hk hf hv hsub
  rw [arm_eval_SetComp]
  refine wpAny_comprehension_free (use := Option.none) rfl hfold K.clos K.kind K.names (wpAny_mono (hit H s E h) (fun v s₁ q => wpAny_mono q (fun it s₂ q => set_core (RR := fun acc C => compPost c.M c.A E Option.none _ acc C) h htt q K (fun C d hd => hce _ (b.comp hs hk h2) d hd) hne ?_) fun xx xx e => e) fun xx xx e => e)
  intro D' C s₅ m' k r hC hn
  refine ⟨m', hn, fun h'' hs'' => ?_⟩
  obtain ⟨h5, t5, g5, rfl, hk, ht5, hb5⟩ := k
  have ne : ∀ b o, s.heap.get? b = some o → b ≠ C := fun b o e q => by subst q; rw [hC] at e; cases e
  refine ⟨⟨h'', t5, g5, rfl, fun b o e => hs''.extBut b o (ne b o e) (hk b o e), ht5, hb5⟩, r.mono fun a o e => ?_⟩
  obtain ⟨e1, e2⟩ := Zof.get e
  exact Zof.of (hs''.extBut a o (fun q => e2 (by simp [q])) e1) fun q => e2 (.tail _ q)
end
end Mine
end
section
open PySem PySem.W PyProof.Rows
set_option Elab.async false
set_option tactic.hygienic false
set_option maxRecDepth 100000
set_option maxHeartbeats 2000000
set_option linter.unusedVariables false
namespace Mine
noncomputable def lcp : List (List Nat) → List (List Nat) → List (List Nat)
  | x :: xs, y :: ys => if x = y then x :: lcp xs ys else []
  | _, _ => []
theorem lcp_cons {x y : List Nat} {xs ys : List (List Nat)} : lcp (x :: xs) (y :: ys) = if x = y then x :: lcp xs ys else [] := rfl
theorem lcp_comm : ∀ a b : List (List Nat), lcp a b = lcp b a := by
  intro a
  induction a with
  | nil => intro b; cases b <;> rfl
  | cons x xs IH =>
    intro b
    cases b with
    | nil => rfl
    | cons y ys =>
    rw [lcp_cons, lcp_cons]
    by_cases h : x = y
    · rw [if_pos h, if_pos h.symm, h, IH ys]
    · rw [if_neg h, if_neg (Ne.symm h)]
theorem lcp_sub : ∀ (a b : List (List Nat)), ∀ x ∈ lcp a b, x ∈ a := by
  intro a
  induction a with
  | nil => intro _ x h; cases (show x ∈ ([] : List (List Nat)) from h)
  | cons y ys IH =>
    intro b x h
    cases b with
    | nil => cases (show x ∈ ([] : List (List Nat)) from h)
    | cons z zs =>
    rw [lcp_cons] at h
    split at h
    · cases h with
      | head => exact .head _
      | tail _ h => exact .tail _ (IH zs x h)
    · cases h
theorem lcp_length : ∀ (a b : List (List Nat)), (lcp a b).length ≤ a.length := by
  intro a
  induction a with
  | nil => intro b; exact Nat.zero_le _
  | cons y ys IH =>
    intro b
    cases b with
    | nil => exact Nat.zero_le _
    | cons z zs =>
    rw [lcp_cons]
    split
    · have := IH zs; simp; lia
    · simp
theorem lcp_first : ∀ (a b : List (List Nat)), a.length = b.length → (a = b ∧ lcp a b = a) ∨ ∃ k, k < a.length ∧ (∀ i, i < k → a[i]? = b[i]?) ∧ a[k]? ≠ b[k]? ∧ lcp a b = a.take k := by
  intro a
  induction a with
  | nil =>
    intro b h
    cases b with
    | nil => exact .inl ⟨rfl, rfl⟩
    | cons _ _ => simp at h
  | cons x xs IH =>
    intro b h
    cases b with
    | nil => simp at h
    | cons y ys =>
    by_cases hxy : x = y
    · subst hxy
      rcases IH ys (by simpa using h) with ⟨e1, e2⟩ | ⟨k, h1, h2, h3, h4⟩
      · exact .inl ⟨by rw [e1], by rw [lcp_cons, if_pos rfl, e2]⟩
      · refine .inr ⟨k + 1, by simpa using h1, fun i hi => ?_, by simpa using h3, by rw [lcp_cons, if_pos rfl, h4, List.take_succ_cons]⟩
        cases i with
        | zero => rfl
        | succ i => simpa using h2 i (by lia)
    · exact .inr ⟨0, by simp, fun i hi => absurd hi (Nat.not_lt_zero _), by simpa using hxy, by rw [lcp_cons, if_neg hxy]; rfl⟩
noncomputable def gSplit : D → Option D
  | .str x => some (.list ((pieces 47 x.cps.toList).map dS))
  | _ => none
noncomputable def gKeep : D → Option D
  | .str x => if !x.cps.toList.isEmpty && (x.cps.toList != [46]) then some (.str x) else none
  | _ => none
noncomputable def gAll : D → Option D
  | .list l => some (.list (l.filterMap gKeep))
  | _ => none
theorem keep_names {names : List (List Nat)} (h : ∀ n ∈ names, NameOK n ∧ n ≠ [46]) : (([] :: names).map dS).filterMap gKeep = names.map dS := by
  rw [List.map_cons, List.filterMap_cons_none (by rfl)]
  induction names with
  | nil => rfl
  | cons n r ih =>
    have hn := h n (.head _)
    have e : gKeep (dS n) = some (dS n) := by
      show (if !n.isEmpty && (n != [46]) then some (dS n) else none) = _
      rw [if_pos]
      have h1 := hn.1.ne
      have h2 := hn.2
      simp [h1, h2]
    rw [List.map_cons, List.filterMap_cons_some e, ih fun m hm => h m (.tail _ hm)]
theorem ltL_asymm : ∀ a b : List (List Nat), ltL a b = true → ltL b a = false := by
  intro a
  induction a with
  | nil =>
    intro b h
    cases b with
    | nil => cases h
    | cons _ _ => rfl
  | cons x xs IH =>
    intro b h
    cases b with
    | nil => cases h
    | cons y ys =>
    rw [ltL_cons] at h ⊢
    by_cases hxy : x = y
    · rw [if_pos hxy] at h
      rw [if_pos hxy.symm]
      exact IH ys h
    · rw [if_neg hxy] at h
      rw [if_neg (Ne.symm hxy)]
      exact decide_eq_false (List.lt_asymm (of_decide_eq_true h))
theorem ltL_tri : ∀ a b : List (List Nat), ltL a b = false → ltL b a = false → a = b := by
  intro a
  induction a with
  | nil =>
    intro b h1 h2
    cases b with
    | nil => rfl
    | cons _ _ => cases h1
  | cons x xs IH =>
    intro b h1 h2
    cases b with
    | nil => cases h2
    | cons y ys =>
    rw [ltL_cons] at h1 h2
    by_cases hxy : x = y
    · rw [if_pos hxy] at h1
      rw [if_pos hxy.symm] at h2
      rw [hxy, IH ys h1 h2]
    · rw [if_neg hxy] at h1
      rw [if_neg (Ne.symm hxy)] at h2
      exact absurd (List.le_antisymm (of_decide_eq_false h2) (of_decide_eq_false h1)) hxy
theorem lcp_minmax (n1 n2 : List (List Nat)) : lcp (if ltL n2 n1 then n2 else n1) (if ltL n1 n2 then n2 else n1) = lcp n1 n2 := by
  cases h1 : ltL n2 n1 with
  | true => rw [ltL_asymm _ _ h1]; simp only [if_true, Bool.false_eq_true, if_false]; exact lcp_comm _ _
  | false =>
    cases h2 : ltL n1 n2 with
    | true => simp
    | false => rw [ltL_tri n1 n2 h2 h1]; simp
section
variable {g : Gx} {P : Params}
theorem f_commonpath (X : Kx (Mine.hd.heap_1 P) g) {n1 n2 : List (List Nat)} (h1 : ∀ n ∈ n1, NameOK n ∧ n ≠ [46]) (h2 : ∀ n ∈ n2, NameOK n ∧ n ≠ [46]) (hl1 : (pathOf n1).length ≤ 10000) (hl2 : (pathOf n2).length ≤ 10000) (hlen : n1.length = n2.length) (hc : n1.length ≤ 1000) (hne1 : n1 ≠ []) : Fn g 4 (.ref 224) [.list [dS (pathOf n1), dS (pathOf n2)]] (dS (47 :: glue [47] (lcp n1 n2))) := by
  refine Fn.of (k := 3) (xs := ["paths"]) X rfl rfl (bind1 fun xx => rfl) (by decide) (by decide) (by decide) (fun A L hr bd => ?_)
  refine EX.cons (EX1.set (d := .tuple [dS (pathOf n1), dS (pathOf n2)]) (EV.tupleMap (k := 1) (EV.built X (bd.outer (by decide)) rfl rfl (by decide)) (EV.built X (bd.outer (by decide)) rfl rfl (by decide)) (EV.glob X (bd.outer (by decide)) rfl) (EV.var bd (by decide) rfl) rfl rfl (fun j d e hd he => ?_) (by unfold sizeLine; simp) hr) (bd.sto (by decide)) rfl) ?_
  · rw [hd] at he; cases he
    match j, hd with
    | 0, hd => cases hd; exact f_fspath X
    | 1, hd => cases hd; exact f_fspath X
  refine EX.cons (EX1.ite (b := false) (EB.not (b := true) (EB.val (EV.var bd (by decide) rfl) (Tru.tuple (by unfold sizeLine; simp)) (hr.less (by decide)) rfl)) (fun q => by cases q) (fun xx => EX.nil)) ?_
  refine EX.cons (EX1.ite (b := false) (o := .next [("paths", .val (.tuple [dS (pathOf n1), dS (pathOf n2)])), ("sep", .val (dS [47])), ("curdir", .val (dS [46]))]) (EB.val (EV.callB bd X (by decide) rfl rfl (by decide) (.inl ⟨_, rfl⟩) (.two (EV.sub (EV.var bd (by decide) rfl) EV.int rfl F.slot_tuple_getitem.lookup (Op2.sub_tuple (j := 0) (d := dS (pathOf n1)) (by simp [seqIndex?]) rfl (by decide) (by decide)) (hr.less (by decide))) (EV.built X (bd.outer (by decide)) rfl rfl (by decide)) rfl) Fn.isbytes hr (by decide) rfl) tru_bool (hr.less (by decide)) rfl) (fun q => by cases q) (fun xx => EX.cons (EX1.set (strS (l := [47]) rfl) (bd.sto (by decide)) rfl) (EX.cons (EX1.set (strS (l := [46]) rfl) (bd.sto (by decide)) rfl) (EX.nil.conv rfl)))) ?_
  refine EX.ends (EX1.try ?_)
  have hn1 := pieces_path fun n hn => (h1 n hn).1
  have hn2 := pieces_path fun n hn => (h2 n hn).1
  have hpl : ∀ d ∈ [dS (pathOf n1), dS (pathOf n2)], ∃ ns : List (List Nat), d = dS (pathOf ns) ∧ (pathOf ns).length ≤ 10000 ∧ ns ≠ [] := fun d hd => by
    simp only [List.mem_cons, List.not_mem_nil, or_false] at hd
    rcases hd with rfl | rfl
    · exact ⟨n1, rfl, hl1, hne1⟩
    · exact ⟨n2, rfl, hl2, fun q => hne1 (by rw [q] at hlen; exact List.length_eq_zero_iff.mp hlen)⟩
  refine EX.cons (EX1.assignCompC bd.cb gSplit [("sep", .val (dS [47]))] (items := [dS (pathOf n1), dS (pathOf n2)]) (IT.tuple (EV.var bd (by decide) rfl) hr) rfl rfl rfl rfl (fun p hp => by simp at hp; subst hp; exact ⟨_, rfl⟩) (sub_one rfl) (fun env cb d hd => ?_) (by unfold sizeLine; simp) (fun xx => rfl) rfl rfl) ?_
  · obtain ⟨ns, rfl, hl, _⟩ := hpl d hd
    exact CE.mk (AT.varC cb (by decide)) (.cons_cons _ (.cons _ .slnil)) (EV.conv (EV.meth (EV.varC cb (by decide) rfl) (.one (EV.varC cb (by decide) rfl) rfl) (Fn.split (c := 47) (by lia)) (hr.less (by decide)) rfl F.plainAttrs_str F.slot_str_split F.type_str_split ⟨rfl, rfl, by decide, rfl⟩) rfl)
  have esp : [dS (pathOf n1), dS (pathOf n2)].filterMap gSplit = [.list (([] :: n1).map dS), .list (([] :: n2).map dS)] := by
    show [D.list ((pieces 47 (pathOf n1)).map dS), D.list ((pieces 47 (pathOf n2)).map dS)] = _
    rw [hn1, hn2]
  rw [esp]
  refine EX.cons (ρ' := [("paths", .val (.tuple [dS (pathOf n1), dS (pathOf n2)])), ("sep", .val (dS [47])), ("curdir", .val (dS [46])), ("split_paths", .val (.list [.list (([] :: n1).map dS), .list (([] :: n2).map dS)])), ("isabs", .val (.bool true))]) (EX1.try ?_) ?_
  · refine EX.cons (EX1.assignT (EV.setC bd.cb [("sep", .val (dS [47]))] (items := [dS (pathOf n1), dS (pathOf n2)]) (IT.tuple (EV.var bd (by decide) rfl) hr) rfl rfl rfl rfl (fun p hp => by simp at hp; subst hp; exact ⟨_, rfl⟩) (sub_one rfl) (fun env cb d hd => ?_) (by simp) (fun xx => rfl)) (AT.oneSet (AT.var bd (by decide)) hr fun xx => rfl) rfl rfl) (EX.nil.conv rfl)
    obtain ⟨ns, rfl, hl, hne⟩ := hpl d hd
    refine ⟨_, AT.varC cb (by decide), .cons_cons _ (.cons _ .slnil), EV.conv (EV.meth (EV.varC cb (by decide) rfl) (.one (EV.varC cb (by decide) rfl) rfl) (Fn.starts (c := 47)) (hr.less (by decide)) rfl F.plainAttrs_str F.slot_str_startswith F.type_str_startswith ⟨rfl, rfl, by decide, rfl⟩) ?_⟩
    cases ns with
    | nil => exact absurd rfl hne
    | cons a b => simp [pathOf]
  refine EX.cons (EX1.assignCompC bd.cb gAll [("curdir", .val (dS [46]))] (items := [.list (([] :: n1).map dS), .list (([] :: n2).map dS)]) (IT.list (EV.var bd (by decide) rfl) hr) rfl rfl rfl rfl (fun p hp => by simp at hp; subst hp; exact ⟨_, rfl⟩) (sub_one rfl) (fun env cb d hd => ?_) (by unfold sizeLine; simp) (fun xx => rfl) rfl rfl) ?_
  · obtain ⟨ns, rfl, hnl⟩ : ∃ ns : List (List Nat), d = .list (ns.map dS) ∧ ns.length ≤ 1001 ∧ ∀ n ∈ ns, n.length ≤ 10000 := by
      simp only [List.mem_cons, List.not_mem_nil, or_false] at hd
      rcases hd with rfl | rfl
      · exact ⟨[] :: n1, rfl, by simp; lia, fun n hn => by
          cases hn with
          | head => simp
          | tail _ hn => have := name_le hn; lia⟩
      · exact ⟨[] :: n2, rfl, by simp; lia, fun n hn => by
          cases hn with
          | head => simp
          | tail _ hn => have := name_le hn; lia⟩
    refine CE.mk (AT.varC cb (by decide)) (.cons_cons _ (.cons _ .slnil)) (EV.compC cb gKeep [("curdir", .val (dS [46]))] (items := ns.map dS) (IT.list (EV.varC cb (by decide) rfl) hr) rfl rfl rfl rfl (fun p hp => by simp at hp; subst hp; exact ⟨_, rfl⟩) (sub_one rfl) (fun env' cb' d hd => ?_) (by unfold sizeLine; simp; lia) fun xx => rfl)
    obtain ⟨n, hn, rfl⟩ := List.mem_map.mp hd
    have hnn := hnl.2 n hn
    refine CE.test (AT.varC cb' (by decide)) (.cons_cons _ (.cons _ .slnil)) (EB.and (b1 := !n.isEmpty) (EB.val (EV.varC cb' (by decide) rfl) (Tru.str (by unfold sizeLine; lia)) (hr.less (by decide)) rfl) fun xx => EB.cmp (EV.varC cb' (by decide) rfl) (EV.varC cb' (by decide) rfl) Op2.ne_str (hr.less (by decide)) rfl) fun xx => EV.varC cb' (by decide) rfl
  have ekp : [D.list (([] :: n1).map dS), D.list (([] :: n2).map dS)].filterMap gAll = [.list (n1.map dS), .list (n2.map dS)] := by
    show [D.list ((([] :: n1).map dS).filterMap gKeep), D.list ((([] :: n2).map dS).filterMap gKeep)] = _
    rw [keep_names h1, keep_names h2]
  rw [ekp]
  have hmin : (if ltL n2 n1 then n2 else n1).length = n1.length := by split <;> lia
  have hmax : (if ltL n1 n2 then n2 else n1).length = n1.length := by split <;> lia
  have hmem : ∀ n ∈ (if ltL n2 n1 then n2 else n1), n.length ≤ 10000 := fun n hn => by
    split at hn
    · have := name_le hn; lia
    · have := name_le hn; lia
  refine EX.cons (EX1.set (EV.callB bd X (by decide) rfl rfl (by decide) (.inl ⟨_, rfl⟩) (.one (EV.var bd (by decide) rfl) rfl) (Fn.min2 (p := n1) (q := n2)) hr (by decide) rfl) (bd.sto (by decide)) rfl) ?_
  refine EX.cons (EX1.set (EV.callB bd X (by decide) rfl rfl (by decide) (.inl ⟨_, rfl⟩) (.one (EV.var bd (by decide) rfl) rfl) (Fn.max2 (p := n1) (q := n2)) hr (by decide) rfl) (bd.sto (by decide)) rfl) ?_
  rw [← lcp_minmax]
  generalize (if ltL n2 n1 then n2 else n1) = a at hmin hmem
  generalize (if ltL n1 n2 then n2 else n1) = b at hmax
  have hsum : ((lcp a b).map (·.length)).sum ≤ 10000 * 1000 := by
    have : ∀ l : List (List Nat), (∀ x ∈ l, x.length ≤ 10000) → (l.map (·.length)).sum ≤ 10000 * l.length := fun l hl => by
      induction l with
      | nil => simp
      | cons a r ih =>
        have := ih fun x hx => hl x (.tail _ hx)
        have := hl a (.head _)
        simp; lia
    have h5 := this (lcp a b) fun x hx => hmem x (lcp_sub a b x hx)
    have h6 := lcp_length a b
    lia
  have hll := lcp_length a b
  refine EX.cons (EX1.set (EV.var bd (by decide) rfl) (bd.sto (by decide)) rfl) ?_
  refine EX.cons (ρ' := [("paths", .val (.tuple [dS (pathOf n1), dS (pathOf n2)])), ("sep", .val (dS [47])), ("curdir", .val (dS [46])), ("split_paths", .val (.list [.list (n1.map dS), .list (n2.map dS)])), ("isabs", .val (.bool true)), ("s1", .val (.list (a.map dS))), ("s2", .val (.list (b.map dS))), ("common", .val (.list ((lcp a b).map dS)))]) ?_ ?_
  · rcases lcp_first a b (by lia) with ⟨e1, e2⟩ | ⟨k, hk, hbe, hat, e2⟩
    · rw [e2]
      refine EX1.conv (EX1.forE (tt := true) (items := enums (a.map dS)) (fun xx => [("paths", .val (.tuple [dS (pathOf n1), dS (pathOf n2)])), ("sep", .val (dS [47])), ("curdir", .val (dS [46])), ("split_paths", .val (.list [.list (n1.map dS), .list (n2.map dS)])), ("isabs", .val (.bool true)), ("s1", .val (.list (a.map dS))), ("s2", .val (.list (b.map dS))), ("common", .val (.list (a.map dS)))]) (IT.enum (EV.built X (bd.outer (by decide)) rfl rfl (by decide)) (EV.var bd (by decide) rfl) rfl (.list _) hr) (fun i d hd => ?_) (fun xx => rfl)) rfl
      obtain ⟨e, he, rfl⟩ := enums_get hd
      rw [List.getElem?_map, Option.map_eq_some_iff] at he
      obtain ⟨x, hx, rfl⟩ := he
      refine ⟨_, AT.two (AT.var bd (by decide)) (AT.var bd (by decide)) hr fun xx => rfl, ?_⟩
      refine EX.cons (EX1.ite (b := false) (EB.conv (EB.cmp (EV.var bd (by decide) rfl) (EV.sub (EV.var bd (by decide) rfl) (EV.var bd (by decide) rfl) rfl F.slot_list_getitem.lookup (Op2.at_list (d := dS x) (by rw [← e1, List.getElem?_map, hx]; rfl) (by simp; lia)) (hr.less (by decide))) Op2.ne_str (hr.less (by decide)) rfl) (by simp)) (fun q => by cases q) (fun xx => EX.nil)) (EX.nil.post ?_)
      exact .cons_cons _ (.cons_cons _ (.cons_cons _ (.cons_cons _ (.cons_cons _ (.cons_cons _ (.cons_cons _ (.cons_cons _ (.cons _ (.cons _ .slnil)))))))))
    · rw [e2]
      refine EX1.forBrk (tt := true) (items := enums (a.map dS)) k ?_ (fun xx => [("paths", .val (.tuple [dS (pathOf n1), dS (pathOf n2)])), ("sep", .val (dS [47])), ("curdir", .val (dS [46])), ("split_paths", .val (.list [.list (n1.map dS), .list (n2.map dS)])), ("isabs", .val (.bool true)), ("s1", .val (.list (a.map dS))), ("s2", .val (.list (b.map dS))), ("common", .val (.list (a.map dS)))]) (fun i => [("paths", .val (.tuple [dS (pathOf n1), dS (pathOf n2)])), ("sep", .val (dS [47])), ("curdir", .val (dS [46])), ("split_paths", .val (.list [.list (n1.map dS), .list (n2.map dS)])), ("isabs", .val (.bool true)), ("s1", .val (.list (a.map dS))), ("s2", .val (.list (b.map dS))), ("common", .val (.list (a.map dS))), ("i", .val (.int i)), ("c", .val (dS (a.getD i [])))]) (IT.enum (EV.built X (bd.outer (by decide)) rfl rfl (by decide)) (EV.var bd (by decide) rfl) rfl (.list _) hr) (fun i d hi hd => ?_) (fun i d hi hd => ?_) (fun d hd => ?_) (fun xx => rfl)
      · simp [enums]; exact hk
      · obtain ⟨e, he, rfl⟩ := enums_get hd
        rw [List.getElem?_map, Option.map_eq_some_iff] at he
        obtain ⟨x, hx, rfl⟩ := he
        rw [List.getD_eq_getElem?_getD, hx]
        exact AT.two (AT.var bd (by decide)) (AT.var bd (by decide)) hr fun xx => rfl
      · have hia : i < a.length := by lia
        have hx : a[i]? = some (a.getD i []) := by rw [List.getD_eq_getElem?_getD, List.getElem?_eq_getElem hia]; rfl
        have hy := (hbe i hi).symm.trans hx
        generalize a.getD i [] = x at hx hy
        refine EX.cons (EX1.ite (b := false) (EB.conv (EB.cmp (EV.var bd (by decide) rfl) (EV.sub (EV.var bd (by decide) rfl) (EV.var bd (by decide) rfl) rfl F.slot_list_getitem.lookup (Op2.at_list (d := dS x) (by rw [List.getElem?_map, hy]; rfl) (by simp; lia)) (hr.less (by decide))) Op2.ne_str (hr.less (by decide)) rfl) (by simp)) (fun q => by cases q) (fun xx => EX.nil)) (EX.nil.post ?_)
        exact .cons_cons _ (.cons_cons _ (.cons_cons _ (.cons_cons _ (.cons_cons _ (.cons_cons _ (.cons_cons _ (.cons_cons _ (.cons _ (.cons _ .slnil)))))))))
      · have hx : a[k]? = some (a.getD k []) := by rw [List.getD_eq_getElem?_getD, List.getElem?_eq_getElem hk]; rfl
        have hy : b[k]? = some (b.getD k []) := by rw [List.getD_eq_getElem?_getD, List.getElem?_eq_getElem (by lia)]; rfl
        have hne : a.getD k [] ≠ b.getD k [] := fun q => hat (by rw [hx, hy, q])
        generalize a.getD k [] = x at hx hne
        generalize b.getD k [] = y at hy hne
        refine EX.stop (EX1.ite (b := true) (EB.conv (EB.cmp (EV.var bd (by decide) rfl) (EV.sub (EV.var bd (by decide) rfl) (EV.var bd (by decide) rfl) rfl F.slot_list_getitem.lookup (Op2.at_list (d := dS y) (by rw [List.getElem?_map, hy]; rfl) (by simp; lia)) (hr.less (by decide))) Op2.ne_str (hr.less (by decide)) rfl) (by simpa using hne)) (fun xx => ?_) (fun q => by cases q)) (fun ρ q => nomatch q)
        refine EX.cons (EX1.set (d := .list ((a.take k).map dS)) (EV.conv (EV.sub (EV.var bd (by decide) rfl) (EV.slice (dl := .none) (du := .int (k : Nat)) (ds := .none) rfl (EV.var bd (by decide) rfl) rfl) rfl F.slot_list_getitem.lookup (Op2.upto_list (by unfold sizeLine; simp; lia)) (hr.less (by decide))) (by rw [List.map_take])) (bd.sto (by decide)) rfl) ?_
        refine EX.pre (ρ' := [("paths", .val (.tuple [dS (pathOf n1), dS (pathOf n2)])), ("sep", .val (dS [47])), ("curdir", .val (dS [46])), ("split_paths", .val (.list [.list (n1.map dS), .list (n2.map dS)])), ("isabs", .val (.bool true)), ("s1", .val (.list (a.map dS))), ("s2", .val (.list (b.map dS))), ("common", .val (.list ((a.take k).map dS)))]) ?_ (EX.stop EX1.brk (fun ρ q => nomatch q))
        exact .cons_cons _ (.cons_cons _ (.cons_cons _ (.cons_cons _ (.cons_cons _ (.cons_cons _ (.cons_cons _ (.cons_cons _ (.cons _ (.cons _ .slnil)))))))))
  refine EX.cons (EX1.set (EV.ite (b := true) (EB.val (EV.var bd (by decide) rfl) tru_bool (hr.less (by decide)) rfl) (fun xx => EV.var bd (by decide) rfl) (fun q => by cases q)) (bd.sto (by decide)) rfl) ?_
  refine EX.gives (EV.conv (EV.bin' (EV.var bd (by decide) rfl) (EV.meth (EV.var bd (by decide) rfl) (.one (EV.var bd (by decide) (d := .list ((lcp a b).map dS)) rfl) rfl) (Fn.join (sep := [47]) (ts := lcp a b) ?_) (hr.less (by decide)) rfl F.plainAttrs_str F.slot_str_join F.type_str_join ⟨rfl, rfl, by decide, rfl⟩) (Op2.add_str ?_) hr (by decide)) rfl)
  · simp; lia
  · have := glue_length [47] (lcp a b)
    unfold sizeLine; simp at this ⊢; lia
end
end Mine
end
section
open PySem PySem.W PyProof.Rows
set_option Elab.async false
set_option tactic.hygienic false
set_option maxRecDepth 100000
set_option linter.unusedVariables false
namespace Mine
noncomputable def nm : List (List Nat) → Nat → List Nat
  | [], _ => []
  | s :: r, n => s.getD (n / rowSize r % s.length) 0 :: nm r n
noncomputable def pn : List (List (List Nat)) → Nat → List (List Nat)
  | [], _ => []
  | row :: rest, n => nm row (n / size rest) :: pn rest n
theorem rowName_eq : ∀ (row : List (List Nat)) (n : Nat), rowName row n = (nm row n, n / rowSize row) := by
  intro zz
  induction zz with
  | nil => intro n; simp [rowName, nm, rowSize]
  | cons s r IH =>
    intro n
    have ih := IH n
    unfold rowName at ih ⊢
    rw [List.reverse_cons, List.foldl_append, ih]
    simp only [List.foldl_cons, List.foldl_nil, rowStep, nm, rowSize_cons]
    rw [Nat.div_div_eq_div_mul, Nat.mul_comm]
theorem pathNames_eq (rows : List (List (List Nat))) (n : Nat) : pathNames rows n = pn rows n := by
  have h : ∀ rows : List (List (List Nat)), rows.reverse.foldl pathStep ([], n) = (pn rows n, n / size rows) := by
    intro rows
    induction rows with
    | nil => simp [pn, size]
    | cons row rest ih =>
      rw [List.reverse_cons, List.foldl_append, ih]
      simp only [List.foldl_cons, List.foldl_nil, pathStep, rowName_eq, pn, size_cons]
      rw [Nat.div_div_eq_div_mul, Nat.mul_comm]
  unfold pathNames
  rw [h]
theorem nm_length : ∀ (row : List (List Nat)) (n : Nat), (nm row n).length = row.length := by
  intro zz
  induction zz with
  | nil => intro _; exact rfl
  | cons s r IH => intro n; simp [nm, IH n]
theorem pn_length : ∀ (rows : List (List (List Nat))) (n : Nat), (pn rows n).length = rows.length := by
  intro zz
  induction zz with
  | nil => intro _; exact rfl
  | cons s r IH => intro n; simp [pn, IH n]
structure SignsOk (s : List Nat) : Prop where
  ne : 1 ≤ s.length
  le : s.length ≤ 6
  sorted : s.Pairwise (· < ·)
  small : ∀ c ∈ s, c = 33 ∨ c = 45 ∨ c = 93 ∨ c = 97 ∨ c = 98 ∨ c = 99
noncomputable def RowsOk (rows : List (List (List Nat))) : Prop := ∀ row ∈ rows, ∀ s ∈ row, SignsOk s
theorem RowsOk.pos {rows : List (List (List Nat))} (h : RowsOk rows) : 1 ≤ size rows := size_pos fun row hr s hs => (h row hr s hs).ne
theorem getD_get {s : List Nat} {d : Nat} (h : d < s.length) : s.getD d 0 = s[d] := by simp [List.getD, h]
theorem idxOf_sorted : ∀ {s : List Nat} {d : Nat}, s.Pairwise (· < ·) → (h : d < s.length) → s.idxOf s[d] = d := by
  intro s
  induction s with
  | nil => intro d hs h; cases h
  | cons a r IH =>
   intro d hs h
   cases d with
   | zero => simp
   | succ d =>
    have h' : d < r.length := by simpa using h
    rw [List.pairwise_cons] at hs
    have hne : a ≠ r[d] := Nat.ne_of_lt (hs.1 _ (List.getElem_mem h'))
    simp only [List.getElem_cons_succ]
    rw [List.idxOf_cons, show (a == r[d]) = false by simpa using hne, cond_false, IH hs.2 h']
theorem below_sorted : ∀ {s : List Nat} {d : Nat}, s.Pairwise (· < ·) → (h : d < s.length) → (s.filter (· < s[d])).length = d := by
  intro s
  induction s with
  | nil => intro d hs h; cases h
  | cons a r IH =>
   intro d hs h
   cases d with
   | zero =>
    rw [List.pairwise_cons] at hs
    simp only [List.getElem_cons_zero, List.length_eq_zero_iff, List.filter_eq_nil_iff]
    intro x hx
    cases hx with
    | head => simp
    | tail _ hx => have := hs.1 x hx; simp; lia
   | succ d =>
    have h' : d < r.length := by simpa using h
    rw [List.pairwise_cons] at hs
    have hlt : a < r[d] := hs.1 _ (List.getElem_mem h')
    simp only [List.getElem_cons_succ]
    rw [List.filter_cons_of_pos (by simpa using hlt), List.length_cons, IH hs.2 h']
theorem sorted_lt {s : List Nat} (hs : s.Pairwise (· < ·)) {d e : Nat} (hd : d < s.length) (he : e < s.length) : s[d] < s[e] ↔ d < e := by
  constructor
  · intro h
    rcases Nat.lt_trichotomy d e with q | q | q
    · exact q
    · subst q; exact absurd h (Nat.lt_irrefl _)
    · have := List.pairwise_iff_getElem.mp hs e d he hd q; lia
  · intro h
    exact List.pairwise_iff_getElem.mp hs d e hd he h
theorem sorted_eq {s : List Nat} (hs : s.Pairwise (· < ·)) {d e : Nat} (hd : d < s.length) (he : e < s.length) : s[d] = s[e] ↔ d = e := by
  constructor
  · intro h
    rcases Nat.lt_trichotomy d e with q | q | q
    · have := (sorted_lt hs hd he).mpr q; lia
    · exact q
    · have := (sorted_lt hs he hd).mpr q; lia
  · rintro rfl; rfl
theorem mod_two (n R k : Nat) : n % (k * R) = n / R % k * R + n % R := by
  rw [Nat.mul_comm k R, Nat.mod_mul, Nat.mul_comm R, Nat.add_comm]
theorem digit_lt {s : List Nat} (h : SignsOk s) (n : Nat) : n % s.length < s.length := Nat.mod_lt _ h.ne
theorem numRow_nm : ∀ {row : List (List Nat)}, (∀ s ∈ row, SignsOk s) → ∀ t n : Nat, numRow t (row, nm row n) = t * rowSize row + n % rowSize row := by
  intro zz
  induction zz with
  | nil => intro _ t n; simp [numRow, nm, rowSize, Nat.mod_one]
  | cons s r IH =>
    intro h t n
    have ih := IH (fun x hx => h x (.tail _ hx))
    have hs := h s (.head _)
    have hd := digit_lt hs (n / rowSize r)
    unfold numRow at ih ⊢
    simp only [nm, List.zip_cons_cons, List.foldl_cons] at ih ⊢
    rw [ih, getD_get hd, idxOf_sorted hs.sorted hd, rowSize_cons, mod_two, Nat.add_mul, Nat.mul_assoc, Nat.add_assoc]
theorem numOf_pn : ∀ {rows : List (List (List Nat))}, RowsOk rows → ∀ t n : Nat, (rows.zip (pn rows n)).foldl numRow t = t * size rows + n % size rows := by
  intro zz
  induction zz with
  | nil => intro _ t n; simp [pn, size, Nat.mod_one]
  | cons row rest IH =>
    intro h t n
    have ih := IH (fun x hx => h x (.tail _ hx))
    simp only [pn, List.zip_cons_cons, List.foldl_cons]
    rw [numRow_nm (h row (.head _)), ih, size_cons, mod_two, Nat.add_mul, Nat.mul_assoc, Nat.add_assoc]
theorem number_back {rows : List (List (List Nat))} (h : RowsOk rows) {n : Nat} (hn : n < size rows) : numOf rows (pn rows n) = n := by
  unfold numOf
  rw [numOf_pn h, Nat.mod_eq_of_lt hn]; simp
theorem aheadRow_nm : ∀ {row : List (List Nat)}, (∀ s ∈ row, SignsOk s) → ∀ (a b n : Nat), aheadRow (a, b) (row, nm row n) = (a + b * (n % rowSize row), b * rowSize row) := by
  intro zz
  induction zz with
  | nil => intro _ a b n; simp [aheadRow, nm, rowSize, Nat.mod_one]
  | cons s r IH =>
    intro h a b n
    have ih := IH (fun x hx => h x (.tail _ hx)) a b n
    have hs := h s (.head _)
    have hd := digit_lt hs (n / rowSize r)
    unfold aheadRow at ih ⊢
    simp only [nm, List.zip_cons_cons, List.reverse_cons, List.foldl_append, List.foldl_cons, List.foldl_nil] at ih ⊢
    rw [ih]
    simp only [aheadSign]
    rw [getD_get hd, below_sorted hs.sorted hd, rowSize_cons, mod_two]
    refine Prod.ext ?_ ?_
    · show a + b * (n % rowSize r) + b * rowSize r * (n / rowSize r % s.length) = a + b * (n / rowSize r % s.length * rowSize r + n % rowSize r)
      rw [Nat.mul_add, Nat.mul_comm (n / rowSize r % s.length), ← Nat.mul_assoc]
      lia
    · show b * rowSize r * s.length = b * (s.length * rowSize r)
      rw [Nat.mul_assoc, Nat.mul_comm s.length]
theorem ahead_pn : ∀ {rows : List (List (List Nat))}, RowsOk rows → ∀ (n : Nat), (rows.zip (pn rows n)).reverse.foldl aheadRow (0, 1) = (n % size rows, size rows) := by
  intro zz
  induction zz with
  | nil => intro _ n; simp [pn, size, Nat.mod_one]
  | cons row rest IH =>
    intro h n
    have ih := IH (fun x hx => h x (.tail _ hx)) n
    simp only [pn, List.zip_cons_cons, List.reverse_cons, List.foldl_append, List.foldl_cons, List.foldl_nil]
    rw [ih, aheadRow_nm (h row (.head _)), size_cons, mod_two]
    refine Prod.ext ?_ ?_
    · show n % size rest + size rest * (n / size rest % rowSize row) = n / size rest % rowSize row * size rest + n % size rest
      rw [Nat.mul_comm (size rest), Nat.add_comm]
    · exact Nat.mul_comm _ _
theorem ahead_back {rows : List (List (List Nat))} (h : RowsOk rows) {n : Nat} (hn : n < size rows) : aheadOf rows (pn rows n) = n := by
  unfold aheadOf
  rw [ahead_pn h]
  exact Nat.mod_eq_of_lt hn
theorem two_lt {x y u v R : Nat} (l1 : u < R) (l2 : v < R) : (x < y ∨ x = y ∧ u < v) ↔ x * R + u < y * R + v := by
  constructor
  · rintro (h | ⟨rfl, h⟩)
    · have := Nat.mul_le_mul_right R (show x + 1 ≤ y from h)
      rw [Nat.add_mul] at this
      lia
    · lia
  · intro h
    rcases Nat.lt_trichotomy x y with q | q | q
    · exact .inl q
    · subst q; exact .inr ⟨rfl, by lia⟩
    · have := Nat.mul_le_mul_right R (show y + 1 ≤ x from q)
      rw [Nat.add_mul] at this
      lia
theorem nm_eq : ∀ {row : List (List Nat)}, (∀ s ∈ row, SignsOk s) → ∀ a b : Nat, nm row a = nm row b ↔ a % rowSize row = b % rowSize row := by
  intro zz
  induction zz with
  | nil => intro _ a b; simp [nm, rowSize, Nat.mod_one]
  | cons s r IH =>
    intro h a b
    have ih := IH (fun x hx => h x (.tail _ hx)) a b
    have hs := h s (.head _)
    have ha := digit_lt hs (a / rowSize r)
    have hb := digit_lt hs (b / rowSize r)
    simp only [nm, List.cons.injEq]
    rw [getD_get ha, getD_get hb, sorted_eq hs.sorted ha hb, ih, rowSize_cons, mod_two, mod_two]
    have p : 1 ≤ rowSize r := rowSize_pos fun t ht => (h t (.tail _ ht)).ne
    have l1 : a % rowSize r < rowSize r := Nat.mod_lt _ p
    have l2 : b % rowSize r < rowSize r := Nat.mod_lt _ p
    constructor
    · rintro ⟨h1, h2⟩; rw [h1, h2]
    · intro h1
      have e : (a / rowSize r % s.length * rowSize r + a % rowSize r) / rowSize r = (b / rowSize r % s.length * rowSize r + b % rowSize r) / rowSize r := by rw [h1]
      rw [Nat.mul_comm, Nat.mul_comm (b / rowSize r % s.length), Nat.mul_add_div p, Nat.mul_add_div p, Nat.div_eq_of_lt l1, Nat.div_eq_of_lt l2] at e
      simp only [Nat.add_zero] at e
      refine ⟨e, ?_⟩
      rw [e] at h1
      lia
theorem nm_lt : ∀ {row : List (List Nat)}, (∀ s ∈ row, SignsOk s) → ∀ a b : Nat, nm row a < nm row b ↔ a % rowSize row < b % rowSize row := by
  intro zz
  induction zz with
  | nil => intro _ a b; simp [nm, rowSize, Nat.mod_one]
  | cons s r IH =>
    intro h a b
    have ih := IH (fun x hx => h x (.tail _ hx)) a b
    have hs := h s (.head _)
    have ha := digit_lt hs (a / rowSize r)
    have hb := digit_lt hs (b / rowSize r)
    simp only [nm]
    rw [List.cons_lt_cons_iff, getD_get ha, getD_get hb, sorted_lt hs.sorted ha hb, sorted_eq hs.sorted ha hb, ih, rowSize_cons, mod_two, mod_two]
    have p : 1 ≤ rowSize r := rowSize_pos fun t ht => (h t (.tail _ ht)).ne
    have l1 : a % rowSize r < rowSize r := Nat.mod_lt _ p
    have l2 : b % rowSize r < rowSize r := Nat.mod_lt _ p
    exact two_lt l1 l2
theorem pn_lt : ∀ {rows : List (List (List Nat))}, RowsOk rows → ∀ m n : Nat, ltL (pn rows m) (pn rows n) = decide (m % size rows < n % size rows) := by
  intro zz
  induction zz with
  | nil => intro _ m n; simp [pn, ltL, size, Nat.mod_one]
  | cons row rest IH =>
    intro h m n
    have ih := IH (fun x hx => h x (.tail _ hx)) m n
    have hr := h row (.head _)
    have p : 1 ≤ size rest := RowsOk.pos fun x hx => h x (.tail _ hx)
    have l1 : m % size rest < size rest := Nat.mod_lt _ p
    have l2 : n % size rest < size rest := Nat.mod_lt _ p
    have key := two_lt (x := m / size rest % rowSize row) (y := n / size rest % rowSize row) l1 l2
    simp only [pn, ltL]
    rw [ih, size_cons, mod_two, mod_two]
    by_cases e : nm row (m / size rest) = nm row (n / size rest)
    · rw [if_pos e]
      have e' := (nm_eq hr _ _).mp e
      rw [Bool.eq_iff_iff, decide_eq_true_eq, decide_eq_true_eq, ← key]
      constructor
      · intro q; exact .inr ⟨e', q⟩
      · rintro (q | ⟨_, q⟩)
        · lia
        · exact q
    · rw [if_neg e]
      have e' := fun q => e ((nm_eq hr _ _).mpr q)
      rw [Bool.eq_iff_iff, decide_eq_true_eq, decide_eq_true_eq, ← key, nm_lt hr]
      constructor
      · intro q; exact .inl q
      · rintro (q | ⟨q, _⟩)
        · exact q
        · exact absurd q e'
theorem order_back {rows : List (List (List Nat))} (h : RowsOk rows) {m n : Nat} (hm : m < size rows) (hn : n < size rows) (x : List Nat) : ltL (x :: pn rows m) (x :: pn rows n) = decide (m < n) := by
  rw [ltL, if_pos rfl, pn_lt h, Nat.mod_eq_of_lt hm, Nat.mod_eq_of_lt hn]
noncomputable def alF : List (List (List Nat)) → List (List Nat) → Nat → Nat → List (List Nat)
  | row :: rest, x :: xs, m, n => (if m / size rest = n / size rest then [x] else []) ++ alF rest xs m n
  | _, _, _, _ => []
theorem alF_cons {row : List (List Nat)} {rest : List (List (List Nat))} {x : List Nat} {xs : List (List Nat)} {m n : Nat} : alF (row :: rest) (x :: xs) m n = (if m / size rest = n / size rest then [x] else []) ++ alF rest xs m n := rfl
theorem alF_nil {rows : List (List (List Nat))} {xs : List (List Nat)} {m n : Nat} (h : rows = [] ∨ xs = []) : alF rows xs m n = [] := by
  rcases h with rfl | rfl
  · cases xs <;> rfl
  · cases rows <;> rfl
theorem alF_none : ∀ {rows : List (List (List Nat))} {xs : List (List Nat)} {m n : Nat}, m / size rows ≠ n / size rows → alF rows xs m n = [] := by
  intro rows
  induction rows with
  | nil => intro xs m n h; exact alF_nil (.inl rfl)
  | cons row rest IH =>
    intro xs m n h
    cases xs with
    | nil => exact alF_nil (.inr rfl)
    | cons x xs =>
    have hne : m / size rest ≠ n / size rest := fun q => h (by rw [size_cons, Nat.mul_comm, ← Nat.div_div_eq_div_mul, ← Nat.div_div_eq_div_mul, q])
    rw [alF_cons, if_neg hne, IH hne]; rfl
theorem lcp_alF : ∀ {rows : List (List (List Nat))}, RowsOk rows → ∀ {m n : Nat}, m / size rows = n / size rows → lcp (pn rows m) (pn rows n) = alF rows (pn rows n) m n := by
  intro zz
  induction zz with
  | nil => intro _ m n _; exact (alF_nil (.inl rfl)).symm
  | cons row rest IH =>
    intro h m n he
    have hr := h row (.head _)
    have hrest : RowsOk rest := fun x hx => h x (.tail _ hx)
    simp only [pn, lcp_cons, alF_cons]
    by_cases e : m / size rest = n / size rest
    · rw [if_pos (by rw [e]), if_pos e, IH hrest e, e]; rfl
    · have e2 : nm row (m / size rest) ≠ nm row (n / size rest) := fun q => by
        have q1 := (nm_eq hr _ _).mp q
        rw [size_cons, Nat.mul_comm, ← Nat.div_div_eq_div_mul, ← Nat.div_div_eq_div_mul] at he
        apply e
        rw [← Nat.div_add_mod (m / size rest) (rowSize row), ← Nat.div_add_mod (n / size rest) (rowSize row), q1, he]
      rw [if_neg e2, if_neg e, alF_none e]; rfl
theorem alikeN_range (told : List (List (List Nat))) (names : List (List Nat)) (one other : Nat) : ∀ i, alikeN told names one other i = (List.range i).flatMap fun i => if one / size (told.drop (i + 1)) = other / size (told.drop (i + 1)) then [names.getD i []] else [] := by
  intro zz
  induction zz with
  | zero => exact rfl
  | succ i IH => rw [alikeN_succ, IH, List.range_succ, List.flatMap_append]; simp
theorem alF_range : ∀ (rows : List (List (List Nat))) (names : List (List Nat)) (m n : Nat), rows.length = names.length → alF rows names m n = (List.range names.length).flatMap fun i => if m / size (rows.drop (i + 1)) = n / size (rows.drop (i + 1)) then [names.getD i []] else [] := by
  intro rows
  induction rows with
  | nil =>
    intro names m n h
    cases names with
    | nil => rfl
    | cons _ _ => simp at h
  | cons row rest IH =>
    intro names m n h
    cases names with
    | nil => simp at h
    | cons x xs =>
    have ih := IH xs m n (by simpa using h)
    rw [alF_cons, ih, List.length_cons, List.range_succ_eq_map, List.flatMap_cons, List.flatMap_map]
    rfl
theorem alike_back {rows : List (List (List Nat))} (h : RowsOk rows) {m n : Nat} (hm : m < size rows) (hn : n < size rows) : lcp (pn rows m) (pn rows n) = alikeN rows (pn rows n) m n (pn rows n).length := by
  rw [lcp_alF h (by rw [Nat.div_eq_of_lt hm, Nat.div_eq_of_lt hn]), alikeN_range, alF_range _ _ _ _ (pn_length _ _).symm]
end Mine
end
section
set_option Elab.async false
set_option tactic.hygienic false
set_option linter.unusedVariables false
set_option maxRecDepth 100000
namespace Mine
open PySem PySem.W PySem.Calls PyProof.Rows PySem.SeqAt
set_option maxHeartbeats 400000
theorem slot_md_get : PySem.Slot "method_descriptor" "__get__" "method_descriptor.__get__" :=
  .of (owner := "method_descriptor") (n := "__get__") (by rw [typeLookup_type, builtinLookup_eq_fast]; kernel_rfl) (by decide +kernel) (by decide +kernel) (by decide +kernel)
    (by first | exact .inl (by decide +kernel) | exact .inr (by decide +kernel)) (by rw [isSubtype_type]; kernel_rfl)
theorem entry_md_get : entryFor table "method_descriptor.__get__" = some Builtin.«method_descriptor.__get__» := entryFor_of_tree (by kernel_rfl)
theorem args_md_get (a b c : Value) : argsOk "method_descriptor.__get__" ⟨[a, b, c], []⟩ := by unfold argsOk; kernel_rfl
theorem owner_append : (".".intercalate ("list.append".cutAt '.').dropLast) = "list" := by
  have e0 : "list.append".cutAt '.' = ["list", "append"] := by first | rfl | decide +kernel
  rw [e0]; decide +kernel
theorem sub_owner_append : isSubtype (.type "list") (.type (".".intercalate ("list.append".cutAt '.').dropLast)) = pure true := by rw [owner_append, isSubtype_type]; kernel_rfl
theorem not_told : Manifest.toldItsClass.contains "list.append" = false := by decide +kernel
section
variable {prog : Program} {w : World} {A : Around} {E : Value → Shared → Prop} {h : Heap} {g : Array GenState} {d : Drawn} {t : Nat} {os : OsState} {r : Addr} {vs : List Value} {n : Nat}
theorem md_get_append {R : Result → Shared → Prop} (hl : h.get? r = some (lst vs n)) (hq : R (.ok (.ret (.ref h.objs.size))) ⟨h.push (bndObj r), g, d, t, os⟩) :
    codeAny (model prog w) A (.call (.builtin "method_descriptor.__get__") ⟨[.builtin "list.append", .ref r, .type "list"], []⟩) R ⟨h, g, d, t, os⟩ := by
  have hT : (⟨h, g, d, t, os⟩ : Shared).TypeIs (.ref r) "list" := ⟨_, hl, rfl⟩
  have hT5 : (⟨h, g, d, t, os⟩ : Shared).TypeIs (.builtin "list.append") "method_descriptor" := F.type_list_append
  refine codeAny_call_builtin slot_md_get.plain entry_md_get (slot_md_get.check _ _ _ _ _ _ _ _ hT5 (args_md_get _ _ _) ?_)
  have f8 := sub_owner_append
  have f9 := not_told
  repeat (any_goals (first | assumption | wp_step))
theorem has_entry_append {tk : Tok} {Q : Fin → Shared → Prop} (hl : h.get? r = some (lst vs n)) (hq : Q (.done (.ret (.ref h.objs.size))) ⟨h.push (bndObj r), g, d, t, os⟩) :
    wpAny (model prog w) A (Builtin.«object.__getattribute__» ⟨[.ref r, .str "append" tk], []⟩) Q E ⟨h, g, d, t, os⟩ := by
  have hT : (⟨h, g, d, t, os⟩ : Shared).TypeIs (.ref r) "list" := ⟨_, hl, rfl⟩
  have hT5 : (⟨h, g, d, t, os⟩ : Shared).TypeIs (.builtin "list.append") "method_descriptor" := F.type_list_append
  have f4 := F.slot_list_append.lookup
  have f5 := F.type_list_append
  have f6 := slot_md_get.lookup
  have f7 : typeLookup (.type "method_descriptor") "__set__" = pure none := by rw [typeLookup_type, builtinLookup_eq_fast]; kernel_rfl
  have f9 : typeLookup (.type "method_descriptor") "__delete__" = pure none := by rw [typeLookup_type, builtinLookup_eq_fast]; kernel_rfl
  repeat (any_goals (first | assumption | wp_step))
  exact md_get_append hl (wpAny_pure hq)
theorem entry_la : entryFor table "list.__getattribute__" = some Builtin.«object.__getattribute__» :=
  entryFor_alias (id' := "object.__getattribute__") (by kernel_rfl) (by decide +kernel) (by decide +kernel) (by kernel_rfl)
theorem has_call_append {tk : Tok} {R : Result → Shared → Prop} (hl : h.get? r = some (lst vs n)) (hq : R (.ok (.ret (.ref h.objs.size))) ⟨h.push (bndObj r), g, d, t, os⟩) :
    codeAny (model prog w) A (.call (.builtin "list.__getattribute__") ⟨[.ref r, .str "append" tk], []⟩) R ⟨h, g, d, t, os⟩ :=
  codeAny_call_builtin F.slot_list_getattribute.plain entry_la (F.slot_list_getattribute.check _ _ _ _ _ _ _ _ (show (⟨h, g, d, t, os⟩ : Shared).TypeIs (.ref r) "list" from ⟨_, hl, rfl⟩) (F.args_list_getattribute_2 _ _) (has_entry_append hl hq))
theorem get_append {Q : Value → Shared → Prop} (hl : h.get? r = some (lst vs n)) (hq : Q (.ref h.objs.size) ⟨h.push (bndObj r), g, d, t + 1, os⟩) : wpAny (model prog w) A (getAttr (.ref r) "append" true) Q E ⟨h, g, d, t, os⟩ := by
  have hT : (⟨h, g, d, t + 1, os⟩ : Shared).TypeIs (.ref r) "list" := ⟨_, hl, rfl⟩
  have f2 := F.slot_list_getattribute.lookup
  have f3 := F.slot_list_getattribute.bind (.ref r)
  unfold getAttr
  refine wpAny_bind (wpAny_mkText ?_)
  repeat (any_goals (first | assumption | wp_step))
  exact has_call_append hl (wpAny_pure hq)
end
section
variable {prog : Program} {w : World} {A : Around} {E : Value → Shared → Prop} {s : Shared} {r ab : Addr} {vs : List Value} {n : Nat} {x : Value}
theorem not_module : isSubtype (.type "list") (.type "module") = pure false := by rw [isSubtype_type]; kernel_rfl
theorem kind_append : builtinKind "list.append" = some .method := by kernel_rfl
theorem sig_append : Manifest.signature? "list.append" = some ⟨.oneArg, "list.append", "append", .self, [⟨"object", .posOnly, true⟩]⟩ := by
  rw [signature?_of (id := "list.append") (n := ['d', 'n', 'e', 'p', 'p', 'a']) (o := ['t', 's', 'i', 'l']) (by kernel_rfl) F.owner_list]; kernel_rfl
theorem check_append {Q : Unit → Shared → Prop} (hl : s.heap.get? r = some (lst vs n)) (h : Q () s) : wpAny (model prog w) A (checkBoundCall "list.append" ⟨[.ref r, x], []⟩) Q E s := by
  have hT : s.TypeIs (.ref r) "list" := ⟨_, hl, rfl⟩
  unfold checkBoundCall
  rw [sig_append, kind_append]
  dsimp only
  rw [if_neg (by decide)]
  refine wpAny_bind (wpAny_isInstance hT not_module ?_)
  rw [if_neg (by decide +kernel)]
  refine wpAny_bind ?_
  unfold isType
  refine wpAny_bind (wpAny_loadPart hl ?_)
  refine wpAny_pure ?_
  rw [if_neg Bool.false_ne_true]
  refine wpAny_bind (wpAny_typeOf hT ?_)
  exact wpAny_of_eq (a := ()) (by kernel_rfl) h
theorem call_bound {Q : Value → Shared → Prop} (hb : s.heap.get? ab = some (bndObj r)) (hl : s.heap.get? r = some (lst vs n)) (hsz : vs.length ≤ 1000000)
    (h : ∀ h', h'.get? r = some (lst (vs ++ [x]) (n + 1)) → Heap.SameBut r s.heap h' → Q .none { s with heap := h' }) : wpAny (model prog w) A (call (.ref ab) [x]) Q E s := by
  refine wpAny_call (codeAny_of_tree ?_)
  show wpAny _ _ (callAny (.ref ab) ⟨[x], []⟩) _ _ _
  unfold callAny
  refine wpAny_bind (wpAny_load hb ?_)
  dsimp only
  rw [if_pos (by decide)]
  show wpAny _ _ (if (Value.type "builtin_function_or_method" != Value.type "method") = true then _ else _) _ _ _
  rw [if_pos (by decide)]
  refine wpAny_bind (check_append hl ?_)
  refine wpAny_pure ⟨plainId_quiet F.slot_list_append.plain _, codeAny_builtin F.entry_list_append ?_⟩
  show wpAny _ _ (updateSeq r (·.push x) >>= fun xx => ret .none) _ _ _
  refine wpAny_bind ?_
  have hs1 : vs.toArray.size ≤ sizeLine := by simp [sizeLine]; lia
  refine wpAny_updateSeq hl rfl (hz := hs1) (wpAny_pure (h _ ?_ (Heap.SameBut.update ..))) (by simp [sizeLine]; lia)
  rw [Heap.get?_update_self _ hl (by rw [Obj.mapSeq_push_plain]; rfl), Obj.mapSeq_push_plain]
  simp [lst]
end
end Mine
end
section
set_option Elab.async false
set_option tactic.hygienic false
set_option linter.unusedVariables false
set_option maxRecDepth 100000
namespace Mine
open PySem PySem.W PySem.Calls PyProof.Rows
section
variable {c : Cx} {sg : Shared} {B : Mp} {Y : List Addr} {fs : List Addr} {m cm : Str → Option Value} {ρ ρ' : Rho} {T : List (Value × D)} {s s' : Shared} {H : List Addr}
theorem NameOk.evalX {x : Str} {np : Pos} {v : Value} {Q : Value → Shared → Prop} {E : Value → Shared → Prop} (hn : NameOk c x) (h : StX c H fs m cm ρ s) (hv : lookIn c.env m cm x = some v) (hQ : Q v s) : wpAny c.M c.A (PySem.eval (Expr.Name x np) c.env) Q E s := by
  obtain ⟨hk, hl, hd⟩ := hn
  refine wpAny_Name ?_ hd
  rcases hl with hl | ⟨hl, a, ha⟩
  · unfold lookIn at hv; rw [if_pos hl] at hv
    exact wpAny_loadName_local hk hl h.ns hv hQ
  · unfold lookIn at hv; rw [if_neg (by rw [hl]; simp)] at hv
    exact wpAny_loadName_cell hk hl ha (hv ▸ h.cells x a ha) hQ
theorem VarsIs.memSlot {Z : Mp} {h : Heap} {lk : Str → Option Value} {x : Str} {sl : Slot} : ∀ {ρ : Rho} {fs : List Addr}, VarsIs Z h lk ρ fs → (x, sl) ∈ ρ → ∃ v f, lk x = some v ∧ SlotIs Z h v sl f ∧ ∀ a ∈ f, a ∈ fs := by
  intro ρ
  induction ρ with
  | nil => intro _ _ hm; cases hm
  | cons p r ih =>
    intro fs hx hm
    obtain ⟨y, t⟩ := p
    obtain ⟨v, f1, f2, e, l, q, z⟩ := hx
    cases hm with
    | head => exact ⟨v, f1, l, q, fun a ha => e ▸ List.mem_append.mpr (.inl ha)⟩
    | tail _ hm =>
      obtain ⟨v', f', l', q', h'⟩ := ih z hm
      exact ⟨v', f', l', q', fun a ha => e ▸ List.mem_append.mpr (.inr (h' a ha))⟩
theorem EV.bound {x : Str} {np ap : Pos} {r : Addr} {ds : List D} (hx : (x, Slot.ownAt r ds) ∈ ρ) (hn : NameOk c x) (hbase : attributeBase (.Name x np) "append" c.env (eval (.Name x np) c.env) = eval (.Name x np) c.env) : EV c ρ (.Attribute (.Name x np) "append" ap) (.bnd r) := fun H s hqz E => by
  obtain ⟨fs, m, cm, y⟩ := hqz
  refine cps fun PP kk => ?_
  obtain ⟨v, f, l, q, _⟩ := y.vars.memSlot hx
  obtain ⟨vs, n, rfl, rfl, e1, _⟩ := q
  refine kk ?_
  clear kk PP
  rw [arm_eval_Attribute, hbase]
  refine wpAny_bind (hn.evalX y l ?_)
  refine wpAny_bind (wpAny_standAt ?_)
  refine wpAny_bind (wpAny_holding ?_)
  refine cps fun PP kk => ?_
  obtain ⟨hp, g, d, t, os⟩ := s
  refine kk ?_
  clear kk PP
  refine get_append e1 ?_
  refine wpAny_bind (wpAny_letTemporaryGo (wpAny_pure ?_))
  have kp : Keeps ⟨hp, g, d, t, os⟩ ⟨hp.push (bndObj r), g, d, t + 1, os⟩ := ⟨_, _, _, rfl, fun xx xx e => Heap.get?_push_of_some _ e, Nat.le_succ _, id⟩
  exact ⟨kp, .bnd (Zof.of (Heap.get?_push_size _ rfl) y.ok.fresh)⟩
theorem EX.known {x : Str} {ds : List D} {ss : List Stmt} {o : Out} (hx : HasSlot x (.own ds) ρ) (h : ∀ r, EX c (setSlot x (.ownAt r ds) ρ) ss o) : EX c ρ ss o := fun sg B Y T s E hqz => by
  obtain ⟨fs, m, cm, y⟩ := hqz
  refine cps fun PP kk => ?_
  obtain ⟨v, gs, l, q, hsub⟩ := St.lookOwn y hx
  obtain ⟨a, vs, n, rfl, rfl, e1, r⟩ := id q
  have ndf : fs.Nodup := by have := y.nd; rw [List.nodup_cons, List.nodup_append] at this; exact this.2.2.1
  obtain ⟨f1, f2, ef, hv⟩ := VarsIs.turn (sl' := .ownAt a ds) (gs' := [a]) (Le.refl _) (fun v' lv q' => by
    rw [l] at lv; cases lv
    exact ⟨vs, n, rfl, rfl, e1, r⟩) y.vars hx (fun b xx xx o e => e) ndf (fun v' f lv q' => by rw [l] at lv; cases lv; exact q'.uniq q)
  refine kk ?_
  clear kk PP
  rw [← ef] at hv
  exact h a sg B Y T s E ⟨fs, m, cm, y.nd, y.own, y.hid, y.keep, y.base, y.ns, y.cells, hv, y.temps, y.same, y.mono⟩
theorem callWith_bound {M : Model} {A : Around} {E : Value → Shared → Prop} {pos : Pos} {u r : Addr} {args : List (Bool × Sem Value)} {Q : Value → Shared → Prop} (hplain : args.any (·.1) = false)
    (h : wpAny M A (evalArgs (.ref u) true args []) (fun x s₁ => s₁.heap.get? u = some (bndObj r) ∧ wpAny M A (call (.ref u) ([] ++ x.pos) x.kw) Q E s₁) E s) : wpAny M A (callWith pos (.ref u) [] args []) Q E s := by
  unfold callWith
  refine wpAny_bind (wpAny_holding (wpAny_mono h (fun x s₁ h₁ => wpAny_bind (wpAny_standAt ?_)) fun xx xx x => x))
  obtain ⟨ho, hcall⟩ := h₁
  rw [hplain]
  refine wpAny_bind (m := keeperOf (.ref u)) ?_
  unfold keeperOf
  refine wpAny_bind (wpAny_load ho ?_)
  refine wpAny_ite_true (show decide ((Value.type "builtin_function_or_method" != Value.type "method") = true) = true by decide) ?_
  refine wpAny_pure ?_
  rw [if_pos (show (Value.type "builtin_function_or_method" == Value.type "builtin_function_or_method" || Value.type "builtin_function_or_method" == Value.type "method-wrapper") = true by decide)]
  exact wpAny_bind (wpAny_mono hcall (fun r s₂ hr => wpAny_bind (wpAny_holding (wpAny_point (wpAny_pure hr)))) fun xx xx x => x)
theorem EX1.addTo {x y : Str} {np p pe : Pos} {e : Expr} {r : Addr} {ds : List D} {d : D} (hx : HasSlot x (.ownAt r ds) ρ) (hadd : (y, Slot.val (.bnd r)) ∈ ρ) (hn : NameOk c y) (h : EV c ρ e d) (hsz : ds.length ≤ 100000) (hns : noStar [e] = true)
    (hi : interactive c.env = false) (hs : swapsWith (.Call (.Name y np) [e] [] p) none pe.line c.env = pure false) :
    EX1 c ρ (.Expr (.Call (.Name y np) [e] [] p) pe) (.next (setSlot x (.ownAt r (ds ++ [d])) ρ)) := fun sg B Y T s E hqz => by
  obtain ⟨fs, m, cm, z⟩ := hqz
  have hcx : ∀ x b, c.env.cells.lookup x = some b → b ∈ c.oc ∨ (b ∈ Y ∧ ∃ o, B b = some o) := fun x b e => (z.cells x b e).2
  refine cps fun PP kk => ?_
  obtain ⟨v, gs, l, q, hsub⟩ := St.lookOwn z hx
  obtain ⟨vs, n, rfl, rfl, e1, rr⟩ := id q
  obtain ⟨v2, l2, r2⟩ := z.vars.mem hadd
  obtain ⟨ab, rfl, eb⟩ := r2.of_bnd
  refine kk ?_
  clear kk PP
  refine wpAny_Expr_any (wpAny_Call_ofName ?_) hi hs
  have hev : EV c ρ (.Name y np) (.bnd r) := EV.name hadd hn.1 hn.2.1 hn.2.2
  refine hn.evalX (np := np) (show StX c (c.env.locals :: (c.oc ++ fs) ++ Y) fs m cm ρ s from ⟨z.ok, z.ns, fun x a e => (z.cells x a e).1, fun x a e => List.mem_append.mpr ((z.cells x a e).2.imp (fun r => .tail _ (List.mem_append.mpr (.inl r))) fun r => r.1), z.vars⟩) l2 ?_
  have hany := starEach_noStar (env := c.env) hns p
  refine callWith_bound (r := r) hany (evalArgs_gen (fun x q => by rw [q] at hany; simp at hany) ?_)
  refine wpAny_mono (EVs.one h hns p _ s E z.rd) (fun us s₁ hqz0 => ?_) fun xx xx e => e
  obtain ⟨k1, q1⟩ := hqz0
  refine cps fun PP kk => ?_
  obtain ⟨u, rfl, qu⟩ := q1.one'
  refine kk ?_
  clear kk PP
  have eb' := keeps_heap k1 _ _ (Zof.get eb).1
  refine ⟨eb', ?_⟩
  have z1 := z.keeps k1
  have e1' := keeps_heap k1 _ _ e1
  have lr := rr.length
  refine call_bound eb' e1' (by lia) fun h5 hl5 hs5 => ⟨rfl, ?_⟩
  exact z1.relistAt hx l e1' (rr.mono (keeps_le k1)) hs5.extBut hl5 ((rr.mono (keeps_le k1)).append (.one qu))
end
end Mine
end
section
set_option Elab.async false
set_option tactic.hygienic false
set_option linter.unusedVariables false
set_option maxRecDepth 100000
namespace Mine
open PySem PySem.W PySem.Calls PyProof.Rows
theorem RepL.set {Z : Mp} {v : Value} {d : D} (hv : Rep Z v d) : ∀ {vs : List Value} {ds : List D} (j : Nat), RepL Z vs ds → RepL Z (vs.set j v) (ds.set j d) := by
  intro vs
  induction vs with
  | nil => intro ds j h; cases h; exact .nil
  | cons u us IH =>
    intro ds j h
    cases h with
    | cons h r =>
      cases j with
      | zero => exact .cons hv r
      | succ j => exact .cons h (IH j r)
theorem RepL.eraseIdx {Z : Mp} : ∀ {vs : List Value} {ds : List D} (j : Nat), RepL Z vs ds → RepL Z (vs.eraseIdx j) (ds.eraseIdx j) := by
  intro vs
  induction vs with
  | nil => intro ds j h; cases h; exact .nil
  | cons u us IH =>
    intro ds j h
    cases h with
    | cons h r =>
      cases j with
      | zero => exact r
      | succ j => exact .cons h (IH j r)
noncomputable def IdxAt (k : Int) (n j : Nat) : Prop := (k = (j : Int) ∧ j < n) ∨ (k = -1 ∧ j + 1 = n)
theorem IdxAt.lt {k : Int} {n j : Nat} (h : IdxAt k n j) : j < n := by rcases h with ⟨_, h⟩ | ⟨_, h⟩ <;> omega
theorem IdxAt.seq {k : Int} {n j : Nat} (h : IdxAt k n j) : seqIndex? k n = some j := by
  rcases h with ⟨rfl, h⟩ | ⟨rfl, h⟩
  · exact seq_at h
  · rw [← h]; exact seq_last
section
variable {prog : Program} {w : World} {A : Around} {E : Value → Shared → Prop} {s : Shared} {l : Addr} {vs : List Value} {n j : Nat} {k : Int} {t : Tok} {v : Value}
theorem fits_idx (h : IdxAt k vs.length j) (hsz : vs.length ≤ 1000000) : Builtin.List.listFitsIndex k = true := by
  unfold Builtin.List.listFitsIndex
  have : -(2 ^ 63 : Int) ≤ k ∧ k < 2 ^ 63 := by rcases h with ⟨rfl, h⟩ | ⟨rfl, h⟩ <;> lia
  simp only [Bool.and_eq_true, decide_eq_true_eq]
  exact this
theorem setItem_at {Q : Unit → Shared → Prop} (hl : s.heap.get? l = some (lst vs n)) (hj : IdxAt k vs.length j) (hsz : vs.length ≤ 1000000)
    (hQ : ∀ h' m, h'.get? l = some (lst (vs.set j v) m) → Heap.SameBut l s.heap h' → Q () { s with heap := h' }) : wpAny (model prog w) A (setItem (.ref l) (.int k t) v) Q E s := by
  have hlt := hj.lt
  have hx : vs.toArray[j]? = some vs[j] := by simp [hlt]
  have hT : s.TypeIs (.ref l) "list" := ⟨_, hl, rfl⟩
  unfold setItem
  try with_reducible refine wpAny_holding ?_
  refine wpAny_bind (wpAny_sequenceKey hT (by decide) ?_)
  refine wpAny_bind (wpAny_callSpecial?_slot (name := Str.ofString "__setitem__") hT PySem.slot_list_setitem
    (wpAny_call_entry PySem.slot_list_setitem hT PySem.entry_list_setitem ?_ (args_list_setitem _ _ _)))
  show wpAny _ _ (Builtin.List.listSubscript? (.int k t) >>= _) _ _ s
  refine wpAny_bind (wpAny_listSubscript_int (fits_idx hj hsz) ?_)
  have fin : wpAny (model prog w) A.in1 (setSeqItemAt l j v >>= fun xx => ret .none) (fun fin s' => ∃ r, fin = .done (.ret r) ∧ wpAny (model prog w) A (pure ()) Q E s') E s := by
    refine wpAny_bind (wpAny_setSeqItemAt hl rfl (wpAny_pure ⟨.none, rfl, wpAny_pure ?_⟩))
    obtain ⟨m, hself⟩ : ∃ m, (s.heap.update l (Obj.mapSeq (·.setIfInBounds j v))).get? l = some { cls := .type "list", data := .seq (vs.toArray.setIfInBounds j v) m } := ⟨_, IsL.update (n := n) hl (·.setIfInBounds j v)⟩
    exact hQ _ m (by rw [hself]; simp [lst]) (Heap.SameBut.update ..)
  rcases hj with ⟨rfl, h⟩ | ⟨rfl, h⟩
  · show wpAny _ _ ((seqItemAt l j >>= fun r => pure (r.map (j, ·))) >>= _) _ _ s
    refine wpAny_bind (wpAny_bind (wpAny_seqItemAt hl rfl (wpAny_pure ?_)))
    rw [hx]
    exact fin
  · show wpAny _ _ ((Builtin.List.listItems (.ref l) >>= fun xs => pure ((seqIndex? (-1) xs.size).bind fun j => xs[j]?.map (j, ·))) >>= _) _ _ s
    unfold Builtin.List.listItems
    refine wpAny_bind (wpAny_bind (wpAny_bind (wpAny_seqItems hl rfl (wpAny_pure (wpAny_pure ?_)))))
    have e : seqIndex? (-1) vs.toArray.size = some j := by rw [List.size_toArray, ← h]; exact seq_last
    dsimp only
    rw [e]
    show wpAny _ _ _ _ _ _
    simp only [Option.bind_some, hx, Option.map_some]
    exact fin
end
section
variable {c : Cx} {sg : Shared} {B : Mp} {Y : List Addr} {fs : List Addr} {m cm : Str → Option Value} {ρ ρ' : Rho} {T : List (Value × D)} {s s' : Shared} {H : List Addr}
theorem EV.subOwn {x : Str} {np sp : Pos} {i : Expr} {ds : List D} {d : D} {k : Int} {j : Nat} (hx : (x, Slot.own ds) ∈ ρ) (hn : NameOk c x) (hi : EV c ρ i (.int k)) (hj : IdxAt k ds.length j) (hd : ds[j]? = some d) (hsz : ds.length ≤ 1000000) : EV c ρ (.Subscript (.Name x np) i sp) d := fun H s hqz E => by
  obtain ⟨fs, m, cm, y⟩ := hqz
  refine cps fun PP kk => ?_
  obtain ⟨v, f, l, q, _⟩ := y.vars.memSlot hx
  obtain ⟨a, vs, n, rfl, rfl, e1, r⟩ := q
  refine kk ?_
  clear kk PP
  refine Subscript_ (hn.evalX y l ?_)
  refine wpAny_mono (hi H s ⟨fs, m, cm, y⟩ E) (fun iv s₁ hqz0 => ?_) fun xx xx e => e
  obtain ⟨k1, qi⟩ := hqz0
  refine cps fun PP kk => ?_
  obtain ⟨u, rfl⟩ := qi.of_int
  have e1' := keeps_heap k1 _ _ e1
  have r' := r.mono (keeps_le (X := H) k1)
  obtain ⟨w, hw, rw'⟩ := r'.get hd
  refine kk ?_
  clear kk PP
  have hlen := r.length
  have hl : s₁.heap.IsList a vs.toArray := ⟨_, e1', rfl, n, rfl⟩
  refine sub_tail hl.typeIs F.slot_list_getitem.lookup ?_
  rcases hj with ⟨rfl, h⟩ | ⟨rfl, h⟩
  · exact wpAny_getItem_list hl (by lia) (by lia) (x := w) (by simpa using hw) ⟨k1, rw'⟩
  · refine wpAny_getItem_list_neg hl (by decide) (by simp; lia) (by lia) (x := w) ?_ ⟨k1, rw'⟩
    have e : ((-1 : Int) + (vs.toArray.size : Int)).toNat = j := by simp; lia
    first | (rw [e]; simpa using hw) | (simp only [e]; simpa using hw)
theorem EV.lenOwn {K : Frag} {x : Str} {np p nl : Pos} {ds : List D} (ho : Outer c "len") (X : Kx K c.toGx) (e : nsIn K mainGlobals "len" = some Option.none) (hx : (x, Slot.own ds) ∈ ρ) (hn : NameOk c x) (hsz : ds.length ≤ 1000000) : EV c ρ (.Call (.Name "len" nl) [.Name x np] [] p) (.int ds.length) := fun H s hqz E => by
  obtain ⟨fs, m, cm, y⟩ := hqz
  refine cps fun PP kk => ?_
  obtain ⟨v, f, l, q, _⟩ := y.vars.memSlot hx
  obtain ⟨a, vs, n, rfl, rfl, e1, r⟩ := q
  refine kk ?_
  clear kk PP
  have hb : bootBuiltins "len" = some (.builtin "len") := rfl
  refine wpAny_Call_ofName (wpAny_mono (EV.built X ho e hb (by decide) H s ⟨fs, m, cm, y⟩ E) (fun fv s₁ hqz0 => ?_) fun xx xx e => e)
  obtain ⟨k1, q⟩ := hqz0
  have ef := q.of_raw
  subst ef
  refine callRaw0 (fd := []) (.inl ⟨_, rfl⟩) (fun env z q => by
    have := starEach_noStar (es := [.Name x np]) (env := env) rfl p
    rw [q] at this; simp at this) (spliced_one (hn.evalX (y.keeps k1) l ?_) rfl)
  refine ⟨fun b o e => ((y.keeps k1).ok.2.1 b o e).1, ?_⟩
  have hl : s₁.heap.IsList a vs.toArray := ⟨_, keeps_heap k1 _ _ e1, rfl, n, rfl⟩
  have hlen := r.length
  exact call_len_list hl (by rw [List.size_toArray]; lia) ⟨keeps_trans k1 (keeps_next2 s₁), by rw [List.size_toArray, hlen]; exact .int _ _⟩
theorem EX1.setOwn {x : Str} {np sp p : Pos} {i e : Expr} {ds : List D} {d : D} {k : Int} {j : Nat} (hx : HasSlot x (.own ds) ρ) (hn : NameOk c x) (h : EV c ρ e d) (hi : EV c ρ i (.int k)) (hj : IdxAt k ds.length j) (hsz : ds.length ≤ 1000000)
    (hs : swapsWith e (some (.Subscript (.Name x np) i sp)) p.line c.env = pure false) : EX1 c ρ (.Assign [.Subscript (.Name x np) i sp] e p) (.next (setSlot x (.own (ds.set j d)) ρ)) := fun sg B Y T s E hqz => by
  obtain ⟨fs, m, cm, y⟩ := hqz
  have hcx : ∀ x b, c.env.cells.lookup x = some b → b ∈ c.oc ∨ (b ∈ Y ∧ ∃ o, B b = some o) := fun x b e => (y.cells x b e).2
  refine wpAny_Assign_Subscript (y.ev h fun v s₁ k1 y1 => ?_) hs
  refine cps fun PP kk => ?_
  obtain ⟨lv, gs, l, q, hsub⟩ := St.lookOwn y1 hx
  obtain ⟨a, vs, n, rfl, rfl, e1, r⟩ := q
  refine kk ?_
  clear kk PP
  refine hn.eval y1 l ?_
  refine y1.ev hi fun iv s₂ k2 y2 => ?_
  obtain ⟨u, rfl⟩ := (y2.temps (iv, .int k) (by simp)).of_int
  have rv := y2.temps (v, d) (by simp)
  have e2 := keeps_heap k2 _ _ e1
  have r2 := r.mono (keeps_le k2)
  have hlen := r.length
  refine setItem_at e2 (by rw [hlen]; exact hj) (by lia) fun h5 m5 hl5 hs5 => ⟨rfl, ?_⟩
  exact (y2.relist hx l e2 r2 hs5.extBut hl5 (RepL.set rv j r2)).temps_sub fun p hp => .tail _ (.tail _ hp)
theorem EX1.delOwn {x : Str} {np sp p : Pos} {i : Expr} {ds : List D} {k : Int} {j : Nat} (hx : HasSlot x (.own ds) ρ) (hn : NameOk c x) (hi : EV c ρ i (.int k)) (hj : IdxAt k ds.length j) (hsz : ds.length ≤ 1000000) : EX1 c ρ (.Delete [.Subscript (.Name x np) i sp] p) (.next (setSlot x (.own (ds.eraseIdx j)) ρ)) := fun sg B Y T s E hqz => by
  obtain ⟨fs, m, cm, y⟩ := hqz
  have hcx : ∀ x b, c.env.cells.lookup x = some b → b ∈ c.oc ∨ (b ∈ Y ∧ ∃ o, B b = some o) := fun x b e => (y.cells x b e).2
  refine cps fun PP kk => ?_
  obtain ⟨lv, gs, l, q, hsub⟩ := St.lookOwn y hx
  obtain ⟨a, vs, n, rfl, rfl, e1, r⟩ := q
  refine kk ?_
  clear kk PP
  refine wpAny_Delete (wpAny_deleteEach_cons ?_)
  rw [arm_delete_Subscript]
  refine wpAny_bind (hn.eval y l ?_)
  refine wpAny_bind (wpAny_holding (y.ev hi fun iv s₂ k2 y2 => ?_))
  obtain ⟨u, rfl⟩ := (y2.temps (iv, .int k) (by simp)).of_int
  have e2 := keeps_heap k2 _ _ e1
  have r2 := r.mono (keeps_le (X := c.env.locals :: (c.oc ++ fs) ++ Y) k2)
  have hlen := r.length
  refine wpAny_bind (wpAny_standAt ?_)
  have hj' : IdxAt k vs.length j := by rw [hlen]; exact hj
  refine wpAny_bind (wpAny_holding (P.delItem_list (n := n) (items := vs.toArray) e2 (fits_idx hj' (by lia)) (k := j) (by rw [List.size_toArray]; exact hj'.seq) ?_ (by simp [sizeLine]; lia)))
  obtain ⟨m5, hl5⟩ : ∃ m, (s₂.heap.update a (Obj.mapSeq fun xs => xs.eraseIdxIfInBounds j)).get? a = some { cls := .type "list", data := .seq (vs.toArray.eraseIdxIfInBounds j) m } := ⟨_, IsL.update (n := n) e2 (fun xs => xs.eraseIdxIfInBounds j)⟩
  have e5 : vs.toArray.eraseIdxIfInBounds j = (vs.eraseIdx j).toArray := by simp
  exact wpAny_release (wpAny_deleteEach_nil ⟨rfl, (y2.relist hx l e2 r2 (fun b o hb e => (Heap.get?_update_other _ _ (Ne.symm hb)).trans e) (vs' := vs.eraseIdx j) (by rw [hl5, e5]) (RepL.eraseIdx j r2)).temps_sub fun p hp => .tail _ hp⟩)
theorem EX1.augOwn {x : Str} {np sp p : Pos} {i e : Expr} {op : Operator} {ds : List D} {d0 d1 d : D} {k : Int} {j kk : Nat} (hx : HasSlot x (.own ds) ρ) (hn : NameOk c x) (h : EV c ρ e d1) (hi : EV c ρ i (.int k)) (hj : IdxAt k ds.length j) (hd0 : ds[j]? = some d0) (o : Op2 c.toGx kk (inplaceOp op) d0 d1 d) (hr : Rm c.A kk) (hsz : ds.length ≤ 1000000)
    (ha : ∀ ov iv new, augStore i ov iv new = (do holding [new, ov, iv] (setItem ov iv new); release [new, ov, iv] []; pure .next)) : EX1 c ρ (.AugAssign (.Subscript (.Name x np) i sp) op e p) (.next (setSlot x (.own (ds.set j d)) ρ)) := fun sg B Y T s E hqz => by
  obtain ⟨fs, m, cm, y⟩ := hqz
  have hcx : ∀ x b, c.env.cells.lookup x = some b → b ∈ c.oc ∨ (b ∈ Y ∧ ∃ o, B b = some o) := fun x b e => (y.cells x b e).2
  refine cps fun PP kk => ?_
  obtain ⟨lv, gs, l, q, hsub⟩ := St.lookOwn y hx
  obtain ⟨a, vs, n, rfl, rfl, e1, r⟩ := q
  refine kk ?_
  clear kk PP
  have hlen := r.length
  refine wpAny_AugAssign_SubscriptAny (hn.eval y l ?_) ha
  refine y.ev hi fun iv s₂ k2 y2 => ?_
  refine cps fun PP kk => ?_
  obtain ⟨u, rfl⟩ := (y2.temps (iv, .int k) (by simp)).of_int
  have e2 := keeps_heap k2 _ _ e1
  have r2 := r.mono (keeps_le (X := c.env.locals :: (c.oc ++ fs) ++ Y) k2)
  obtain ⟨w, hw, rw'⟩ := r2.get hd0
  refine kk ?_
  clear kk PP
  have hl : s₂.heap.IsList a vs.toArray := ⟨_, e2, rfl, n, rfl⟩
  have key : wpAny c.M c.A (eval e c.env) (fun v s₄ => wpAny c.M c.A (inplaceOp op w v) (fun new s₅ => wpAny c.M c.A (setItem (.ref a) (.int k u) new) (fun xx => OutIs c sg B Y T (.next (setSlot x (.own (ds.set j d)) ρ)) .next) E s₅) E s₄) E s₂ := by
    refine (y2.temp rw').ev h fun v s₄ k4 y4 => ?_
    have rv := y4.temps (v, d1) (by simp)
    have rw4 := y4.temps (w, d0) (by simp)
    refine wpAny_mono (o c.A s₄ _ w v hr y4.ok rw4 rv E) (fun new s₅ hqz0 => ?_) fun xx xx e => e
    obtain ⟨k5, qn⟩ := hqz0
    have y5 := y4.keeps k5
    have k45 := keeps_trans k4 k5
    have e5 := keeps_heap k45 _ _ e2
    have r5 := r2.mono (keeps_le (X := c.env.locals :: (c.oc ++ fs) ++ Y) k45)
    refine setItem_at e5 (by rw [hlen]; exact hj) (by lia) fun h6 m6 hl6 hs6 => ⟨rfl, ?_⟩
    exact (y5.relist hx l e5 r5 hs6.extBut hl6 (RepL.set qn j r5)).temps_sub fun p hp => .tail _ (.tail _ (.tail _ hp))
  rcases hj with ⟨rfl, h⟩ | ⟨rfl, h⟩
  · exact wpAny_getItem_list hl (by lia) (by lia) (x := w) (by simpa using hw) key
  · refine wpAny_getItem_list_neg hl (by decide) (by simp; lia) (by lia) (x := w) ?_ key
    have e : ((-1 : Int) + (vs.toArray.size : Int)).toNat = j := by simp; lia
    first | (rw [e]; simpa using hw) | (simp only [e]; simpa using hw)
end
end Mine
end
section
set_option Elab.async false
set_option tactic.hygienic false
set_option linter.unusedVariables false
set_option maxRecDepth 100000
namespace Mine
open PySem PySem.W PySem.Calls PyProof.Rows PySem.Builtin PySem.Builtin.Str
section
variable {prog : Program} {w : World} {A : Around} {E : Value → Shared → Prop} {s : Shared} {d : Addr} {f : Int → Option Value} {c : Nat}
theorem sub_key_lookup : isSubtype (.type "KeyError") (.type "LookupError") = pure true := by rw [isSubtype_type]; kernel_rfl
theorem look_miss {Q : Mapped → Shared → Prop} (hh : A.handled = none) (hm : s.heap.MapOf (intKind prog w) d f) (hd : (d == sysModules) = false) (hf : f (c : Int) = none) (hQ : ∀ s', Keeps s s' → Q .keep s') : wpAny (model prog w) A (tableLookup (.ref d) c) Q E s := by
  unfold tableLookup
  refine wpAny_bind (wpAny_attempt ?_)
  refine wpAny_bind (wpAny_mkInt ?_)
  refine wpAny_getItem_missing_of (knd := intKind prog w) (k := (c : Int)) (f := f) (show Value.isInt (c : Int) (.int (c : Int) s.toks) = true by simp [Value.isInt]) hd hh ?_ hf fun h' e x => ?_
  · exact hm
  · obtain ⟨ob, t, e1, e2, e3⟩ := x.there
    refine wpAny_bind (wpAny_isInstance (T := "KeyError") ⟨ob, e1, by rw [e2]⟩ sub_key_lookup ?_)
    simp only [if_true]
    refine wpAny_bind (wpAny_rule (wpAny_pure (hQ _ ?_)))
    exact ⟨_, _, _, rfl, x.keeps, by show s.toks ≤ s.toks + 1 + 1; lia, id⟩
theorem look_hit {Q : Mapped → Shared → Prop} {t : Str} {u : Tok} (hm : s.heap.IntMap d f) (hf : f (c : Int) = some (.str t u)) (hQ : ∀ s', Keeps s s' → Q (.text t) s') : wpAny (model prog w) A (tableLookup (.ref d) c) Q E s := by
  unfold tableLookup
  refine wpAny_bind (wpAny_attempt ?_)
  refine wpAny_bind (wpAny_mkInt ?_)
  refine wpAny_getItem_intMap hm hf ?_
  refine wpAny_bind (wpAny_pure ?_)
  refine wpAny_bind (wpAny_pure ?_)
  exact wpAny_pure (hQ _ ⟨_, _, _, rfl, fun xx xx e => e, by show s.toks ≤ s.toks + 1 + 1; lia, id⟩)
theorem wp_forIn_one {M : Model} {A : Around} {β : Type} {c : Nat} {b : β} {f : Nat → β → Sem (ForInStep β)} {Q : β → Shared → Prop} {E : Value → Shared → Prop} {s : Shared}
    (h : wpAny M A (f c b) (fun r s => Q (match r with | .done b => b | .yield b => b) s) E s) : wpAny M A (forIn (#[c] : Array Nat) b f) Q E s := by
  rw [← Array.forIn_toList]
  show wpAny _ _ (forIn [c] _ _) _ _ _
  rw [List.forIn_cons]
  refine wpAny_bind (wpAny_mono h (fun r s q => ?_) fun xx xx e => e)
  cases r <;> exact wpAny_pure q
theorem text_not_char {o : List Nat} (h : o.length = 2) : (if ((S o).length == 1 && o.toArray.all fun x => decide (x < 128)) = true then some o.toArray[0]? else none) = (none : Option (Option Nat)) := by
  rw [S_length, h]; rfl
theorem translate_one {u : Tok} {o : List Nat} {Q : Fin → Shared → Prop} (hh : A.handled = none) (hm : s.heap.IntMap d f) (hm' : s.heap.MapOf (intKind prog w) d f) (hd : (d == sysModules) = false) (hc : c < 128) (h : (f (c : Int) = none ∧ o = [c]) ∨ ∃ v, f (c : Int) = some (.str (S o) v) ∧ o.length = 2)
    (hQ : ∀ t s', Keeps s s' → Q (.done (.ret (.str (S o) t))) s') : wpAny (model prog w) A («str.translate» ⟨[.str (S [c]) u, .ref d], []⟩) Q E s := by
  unfold «str.translate»
  refine wpAny_bind (m := strOneArg "translate" _) (wpAny_bind (wpAny_pure (wpAny_bind (wpAny_pure (wpAny_pure ?_)))))
  dsimp only
  refine wpAny_ite_false (show decide (((S [c]).length == 0) = true) = false by simp [Str.length]) ?_
  have ec : (#[c].all fun x => decide (x < 128)) = true := by simp [hc]
  refine wpAny_bind (wp_forIn_one (wpAny_ite_false (show decide (tooLong 0 = true) = false by decide) (wpAny_ite_true (by rw [ec]; rfl) ?_)))
  rcases h with ⟨h, rfl⟩ | ⟨v, h, ho⟩
  · refine wpAny_bind (look_miss hh hm' hd h fun s' k => ?_)
    refine wpAny_bind (wpAny_pure ?_)
    refine wpAny_pure ?_
    refine wpAny_ite_false (show decide (tooLong (0 + 1) = true) = false by decide) ?_
    refine wpAny_bind ?_
    refine wpAny_mkStr ?_ (by unfold sizeLine; simp [Str.length])
    exact wpAny_pure (hQ _ _ (keeps_trans k (keeps_next s')))
  · refine wpAny_bind (look_hit hm h fun s' k => ?_)
    dsimp only
    rw [text_not_char ho]
    refine wpAny_bind (wpAny_pure (wpAny_bind (wpAny_rule ?_)))
    refine wpAny_ite_false (by rfl) ?_
    have im' : s'.heap.IntMap d f := by
      obtain ⟨o1, es, ep, x1, x2⟩ := hm
      exact ⟨o1, es, ep, keeps_heap k _ _ x1, x2⟩
    refine wpAny_bind (look_hit (s := s') (f := f) im' h fun s₂ k2 => wpAny_pure ?_)
    refine wpAny_ite_false ?_ ?_
    · show decide (tooLong (0 + (S o).length) = true) = false
      rw [S_length, ho]; rfl
    refine wpAny_bind ?_
    refine wpAny_mkStr ?_ (by unfold sizeLine; simp [Str.length, S, ho])
    refine wpAny_pure ?_
    have := hQ s₂.toks _ (keeps_trans k (keeps_trans k2 (keeps_next s₂)))
    simpa [S] using this
theorem Fn.translate {g : Gx} {c : Nat} {o : List Nat} {d : Addr} {f : Int → Option Value} (hm : ∃ ob es ep, g.G.get? d = some ob ∧ ob.cls = .type "dict" ∧ ob.data = .dict es ep ∧ IntKeys es ∧ (∀ k, findBy Value.isInt es k = f k) ∧ ob.dict = none ∧ ob.slots = #[]) (hd : (d == sysModules) = false) (hc : c < 128) (h : (f (c : Int) = none ∧ o = [c]) ∨ ∃ v, f (c : Int) = some (.str (S o) v) ∧ o.length = 2) :
    Fn g 0 (.builtin "str.translate") [.str (S [c]), .raw (.ref d)] (.str (S o)) := fun A s X vs hr ok hv E => by
  obtain ⟨v, w, rfl, r1, r2⟩ := hv.two'
  obtain ⟨t, rfl⟩ := r1.of_str
  have e := r2.of_raw
  subst e
  obtain ⟨ob, es, ep, h1, h2, h3, h4, h5, h6, h7⟩ := hm
  have h1' := (ok.2.1 _ _ h1).1
  have im : s.heap.IntMap d f := ⟨ob, es, ep, h1', h2, h3, h4, h5⟩
  refine wpAny_call_entry F.slot_str_translate (typeIs_str _ _ _) F.entry_str_translate (translate_one hr.handled im (im.mapOf fun o' e => by rw [h1'] at e; cases e; exact ⟨h6, h7⟩) hd hc h fun t s' k => ⟨_, rfl, k, .str _ _⟩) (F.args_str_translate_2 _ _)
end
end Mine
end
section
open PySem PySem.W PyProof.Rows
set_option Elab.async false
set_option tactic.hygienic false
set_option maxRecDepth 100000
set_option maxHeartbeats 2000000
set_option linter.unusedVariables false
namespace Mine
noncomputable def esc (c : Nat) : List Nat := if c = 93 then [92, 93] else [c]
section
variable {g : Gx} {P : Params}
theorem Fn.isstr {x : Str} : Fn g 0 (.builtin "isinstance") [.str x, .raw (.type "str")] (.bool true) := fun A s X vs hr ok hv E => by
  obtain ⟨v, w, rfl, r1, r2⟩ := hv.two'
  obtain ⟨t, rfl⟩ := r1.of_str
  have e := r2.of_raw
  subst e
  exact call_isinstance_yes (typeIs_str _ _ _) (by show typeOf _ = _; kernel_rfl) (by rw [isSubtype_type]; kernel_rfl) ⟨keeps_refl s, .bool _⟩
theorem f_escape (X : Kx (Mine.hd.heap_1 P) g) {c : Nat} (hc : c = 47 ∨ c = 97 ∨ c = 33 ∨ c = 93) : Fn g 2 (.ref 55) [dS [c]] (dS (esc c)) := by
  refine Fn.of (k := 1) (xs := ["pattern"]) X rfl rfl (bind1 fun xx => rfl) (by decide) (by decide) (by decide) (fun A L hr bd => ?_)
  refine EX.ends (EX1.ite (b := true) (EB.val (EV.callB bd X (by decide) rfl rfl (by decide) (.inl ⟨_, rfl⟩) (.two (EV.var bd (by decide) rfl) (EV.built X (bd.outer (by decide)) rfl rfl (by decide)) rfl) Fn.isstr hr (by decide) rfl) tru_bool (hr.less (by decide)) rfl) (fun xx => EX.gives ?_) (fun q => by cases q))
  refine EV.meth (k := 0) (EV.var bd (by decide) rfl) (.one (EV.glob X (bd.outer (by decide)) rfl) rfl) (Fn.translate (d := 45) (f := fun k => _) ⟨_, _, _, X.inn _ _ rfl, rfl, rfl, ?_, fun xx => rfl, rfl, rfl⟩ (by decide) ?_ ?_) (hr.less (by decide)) rfl F.plainAttrs_str F.slot_str_translate F.type_str_translate ⟨rfl, rfl, by decide, rfl⟩
  · intro e he
    simp at he
    rcases he with rfl | rfl | rfl | rfl | rfl | rfl | rfl | rfl | rfl | rfl | rfl | rfl | rfl | rfl | rfl | rfl | rfl | rfl | rfl | rfl | rfl | rfl | rfl | rfl <;> exact ⟨_, _, rfl, by decide⟩
  · lia
  · rcases hc with rfl | rfl | rfl | rfl
    · exact .inl ⟨rfl, rfl⟩
    · exact .inl ⟨rfl, rfl⟩
    · exact .inl ⟨rfl, rfl⟩
    · exact .inr ⟨352, rfl, rfl⟩
end
end Mine
end
section
set_option Elab.async false
set_option tactic.hygienic false
set_option linter.unusedVariables false
set_option maxRecDepth 100000
set_option maxHeartbeats 1000000
namespace Mine
open PySem PySem.W PySem.Calls PyProof.Rows PySem.Builtin PySem.Builtin.Str PySem.Builtin.Re
noncomputable def drv : Nat → Sre.M → Option Sre.M
  | 0, _ => none
  | n + 1, m => let m' := m.runFor reTurnSteps; if m'.outcome.isSome then some m' else drv n m'
noncomputable def isF : Option Sre.Outcome → Bool
  | some .failed => true
  | _ => false
theorem isF_elim {o : Option Sre.Outcome} (h : isF o = true) : o = some .failed := by
  cases o with
  | none => exact Bool.noConfusion h
  | some x => cases x <;> first | rfl | exact Bool.noConfusion h
noncomputable def isFailed : Option Sre.M → Bool
  | some m => isF m.outcome
  | none => false
theorem slot_sub : PySem.Slot "re.Pattern" "sub" "re.Pattern.sub" :=
  .of (owner := "re.Pattern") (n := "sub") (by rw [typeLookup_type, builtinLookup_eq_fast]; kernel_rfl) (by decide +kernel) (by decide +kernel) (by decide +kernel)
    (by first | exact .inl (by decide +kernel) | exact .inr (by decide +kernel)) (by rw [isSubtype_type]; kernel_rfl)
theorem entry_sub : entryFor table "re.Pattern.sub" = some Builtin.«re.Pattern.sub» := entryFor_of_tree (by kernel_rfl)
theorem entry_sub_loop : entryFor table "re.Pattern.sub.loop" = some Builtin.«re.Pattern.sub.loop» := entryFor_of_tree (by kernel_rfl)
theorem args_sub (a b c : Value) : argsOk "re.Pattern.sub" ⟨[a, b, c], []⟩ := by unfold argsOk; kernel_rfl
theorem type_sub : typeOf (.builtin "re.Pattern.sub") = pure (.type "method_descriptor") := by show builtinType _ = _; rw [builtinType_eq_fast]; kernel_rfl
theorem plain_pattern : PlainAttrs "re.Pattern" :=
  ⟨⟨"object.__getattribute__", by rw [typeLookup_type, builtinLookup_eq_fast]; kernel_rfl, by decide +kernel⟩, by rw [typeLookup_type, builtinLookup_eq_fast]; kernel_rfl⟩
theorem quiet_sub_loop (args : Args) : (Code.builtin "re.Pattern.sub.loop" args).quiet = true := plainId_quiet (by decide +kernel) args
theorem special_call_fn : typeLookup (.type "function") "__call__" = pure (some (.builtin "function.__call__")) := by rw [typeLookup_type, builtinLookup_eq_fast]; kernel_rfl
theorem str_not_bytearray : isSubtype (.type "str") (.type "bytearray") = pure false := by rw [isSubtype_type]; kernel_rfl
section
variable {prog : Program} {w : World} {A : Around} {E : Value → Shared → Prop} {s : Shared}
theorem drive_of {M : Model} {m' : Sre.M} {Q : Sre.M → Shared → Prop} (hQ : Q m' s) : ∀ (k : Nat) (m : Sre.M) (n : Nat), k ≤ n → drv k m = some m' → wpAny M A (reDrive n m) Q E s
  | 0, m, n, _, h => by cases h
  | k + 1, m, 0, hn, h => absurd hn (by lia)
  | k + 1, m, n + 1, hn, h => by
    unfold drv at h
    unfold reDrive
    dsimp only at h ⊢
    split at h
    · rename_i e
      cases h
      rw [if_pos e]
      exact wpAny_pure hQ
    · rename_i e
      rw [if_neg e]
      exact wpAny_bind (wpAny_rule (drive_of hQ k _ n (by lia) h))
theorem rules_of {M : Model} (b : Nat → Bool) (f : Nat → String) {Q : PUnit → Shared → Prop} (hQ : Q ⟨⟩ s) : ∀ l : List Nat, wpAny M A (forIn l (⟨⟩ : PUnit) fun i xx => (if b i = true then (rule (f i) >>= fun xx => pure (ForInStep.yield (⟨⟩ : PUnit))) else pure (ForInStep.yield (⟨⟩ : PUnit)) : Sem (ForInStep PUnit))) Q E s := by
  intro zz
  induction zz with
  | nil => rw [List.forIn_nil]; exact wpAny_pure hQ
  | cons i r IH =>
    rw [List.forIn_cons]
    refine wpAny_bind ?_
    cases hb : b i with
    | true => simp only [if_true]; exact wpAny_bind (wpAny_rule (wpAny_pure (IH)))
    | false => simp only [Bool.false_eq_true, if_false]; exact wpAny_pure (IH)
theorem end_failed {M : Model} {m : Sre.M} {Q : Option Sre.M → Shared → Prop} (h : isFailed (drv 1000 m) = true) (hQ : Q none s) : wpAny M A (reRunToEnd m) Q E s := by
  unfold reRunToEnd
  cases hd : drv 1000 m with
  | none => rw [hd] at h; cases h
  | some m' =>
    rw [hd] at h
    refine wpAny_bind (drive_of ?_ 1000 m _ (by decide) hd)
    refine wpAny_bind (rules_of _ _ ?_ _)
    rw [isF_elim (show isF m'.outcome = true from h)]
    exact wpAny_pure hQ
structure PatAt (h : Heap) (p q : Addr) (code : List Int) : Prop where
  pat : ∃ a b c d o, h.get? p = some o ∧ o.cls = .type "re.Pattern" ∧ o.data = .fields #[a, b, .int 1 c, .none, .none, .ref q, .int 0 d]
  code : ∃ o, h.get? q = some o ∧ ∃ n, o.data = .seq (code.map fun i => Value.int i 0).toArray n
theorem whole_of {p q : Addr} {code : List Int} {l : List Nat} {u : Tok} {Q : ReTarget → Shared → Prop} (hp : PatAt s.heap p q code)
    (hQ : Q { pattern := .ref p, string := .str (S l) u, code := (code.map (·.toNat)).toArray, text := l.toArray, kind := 0, groups := 1, pos := 0, lim := l.length } s) : wpAny (model prog w) A (reWholeTarget (.ref p) (.str (S l) u)) Q E s := by
  obtain ⟨⟨a, b, c, d, o, h1, h2, h3⟩, o2, h4, n, h5⟩ := hp
  unfold reWholeTarget
  refine wpAny_bind (wpAny_fieldsOf h1 h3 ?_)
  refine wpAny_bind (m := reTextOf _) (wpAny_bind (wpAny_pure (wpAny_pure ?_)))
  dsimp only
  refine wpAny_bind (m := reNoCollectionInside _ _) (wpAny_pure ?_)
  refine wpAny_bind (m := reRawItems _) (wpAny_bind (wpAny_seqItems h4 h5 (wpAny_pure ?_)))
  refine wpAny_pure ?_
  have e1 : (((some (code.map fun i => Value.int i 0).toArray).getD #[]).map reRawOf).map (·.toNat) = (code.map (·.toNat)).toArray := by
    simp [reRawOf, Function.comp_def]
  have e2 : (S l).cps = l.toArray := rfl
  simp only [e1, e2]
  exact hQ
theorem sub_none {p q f : Addr} {code : List Int} {l : List Nat} {u : Tok} {Q : Value → Shared → Prop} (hh : A.handled = none) (hp : PatAt s.heap p q code) (hf : s.TypeIs (.ref f) "function") (h0 : l ≠ []) (hl : l.length ≤ 1000) (hfail : isFailed (drv 1000 (Sre.forSearch (code.map (·.toNat)).toArray l.toArray 1 0 l.length false)) = true)
    (hQ : ∀ t s', Keeps s s' → Q (.str (S l) t) s') : wpAny (model prog w) A (call (.builtin "re.Pattern.sub") [.ref p, .ref f, .str (S l) u]) Q E s := by
  refine wpAny_call (codeAny_call_builtin slot_sub.plain entry_sub (slot_sub.check _ _ _ _ _ _ _ _ ?_ (args_sub _ _ _) ?_))
  · obtain ⟨⟨a, b, c, d, o, h1, h2, h3⟩, _⟩ := hp
    exact ⟨o, h1, by rw [h2]⟩
  unfold Builtin.«re.Pattern.sub» reSubstitute
  dsimp only
  refine wpAny_bind (m := reNamed _ _ _ _ _ _) (wpAny_of_eq (show _ = pure [some (.ref f), some (.str (S l) u), none] from rfl) ?_)
  dsimp only
  refine wpAny_bind (wpAny_pure ?_)
  refine wpAny_bind (m := specialOf _ _) (wpAny_bind (wpAny_typeOf hf (wpAny_of_eq special_call_fn ?_)))
  first | refine wpAny_ite_true rfl ?_ | refine wpAny_bind (wpAny_ite_true rfl ?_) | (trace "A"; simp only [Option.isSome_some, if_true])
  refine wpAny_bind (wpAny_pure ?_)
  refine wpAny_bind (wpAny_pure ?_)
  dsimp only
  refine wpAny_bind (wpAny_holding (whole_of hp ?_))
  first | refine wpAny_ite_true rfl ?_ | refine wpAny_bind (wpAny_ite_true rfl ?_) | (trace "B"; simp only [show ((1 : Int) == 1) = true by decide, if_true])
  refine wpAny_bind (m := reNotHeld _ _) ?_
  · unfold reNotHeld
    refine wpAny_bind (wpAny_isInstance (typeIs_str _ _ _) str_not_bytearray ?_)
    first | refine wpAny_ite_false rfl ?_ | refine (if_neg Bool.false_ne_true).mpr ?_ | simp only [Bool.false_eq_true, if_false]
    refine wpAny_pure ?_
    refine wpAny_bind (wpAny_newList ?_ (by unfold sizeLine; simp))
    refine wpAny_pure ⟨quiet_sub_loop _, codeAny_builtin entry_sub_loop ?_⟩
    rw [Around.under_plainId (id := "re.Pattern.sub.loop") (by decide +kernel) _]
    unfold Builtin.«re.Pattern.sub.loop»
    dsimp only [rawInt]
    have hp' : PatAt (s.heap.push { cls := .type "list", data := .seq ([] : List Value).toArray }) p q code := by
      obtain ⟨⟨a, b, c, d, o, h1, h2⟩, o2, h4, h5⟩ := hp
      exact ⟨⟨a, b, c, d, o, Heap.get?_push_of_some _ h1, h2⟩, o2, Heap.get?_push_of_some _ h4, h5⟩
    refine wpAny_bind (whole_of hp' ?_)
    first | refine wpAny_ite_false rfl (wpAny_ite_false rfl ?_) | refine wpAny_ite_false rfl ?_ | refine wpAny_bind (wpAny_ite_false rfl ?_) | (trace "C"; simp only [show ((1 : Int) == 0) = false by decide, show ((0 : Int) != 0) = false by decide, Bool.false_and, Bool.false_eq_true, if_false])
    refine wpAny_bind (m := reNextFound _ _ _) (end_failed hfail ?_)
    dsimp only
    have hpos : (0 : Int).toNat < l.length := by
      cases l with
      | nil => exact absurd rfl h0
      | cons a r => simp
    rw [if_pos hpos]
    have ex : (⟨l.toArray.extract (0 : Int).toNat l.length⟩ : Str) = S l := by
      show (⟨_⟩ : Str) = ⟨_⟩
      congr 1
      simp
    refine wpAny_bind (m := reSlice _ _ _ _) (wpAny_mkStr ?_ (by rw [ex, S_length]; show _ ≤ 16777216; lia))
    rw [ex]
    have e1 := Heap.get?_push_size s.heap (o := lst [] 0) rfl
    refine wpAny_bind (wpAny_updateSeq e1 rfl ?_ (by unfold sizeLine; simp) (by unfold sizeLine; simp))
    obtain ⟨m, hl5⟩ : ∃ m, ((s.heap.push (lst [] 0)).update s.heap.objs.size (Obj.mapSeq fun x => x.push (.str (S l) s.toks))).get? s.heap.objs.size = some { cls := .type "list", data := .seq (([] : List Value).toArray.push (.str (S l) s.toks)) m } := ⟨_, IsL.update (n := 0) e1 (fun x => x.push _)⟩
    have hs5 : Heap.SameBut s.heap.objs.size (s.heap.push (lst [] 0)) ((s.heap.push (lst [] 0)).update s.heap.objs.size (Obj.mapSeq fun x => x.push (.str (S l) s.toks))) := Heap.SameBut.update ..
    generalize ((s.heap.push (lst [] 0)).update s.heap.objs.size (Obj.mapSeq fun x => x.push (.str (S l) s.toks))) = h5 at hl5 hs5
    have kp : ∀ b o, s.heap.get? b = some o → h5.get? b = some o := fun b o e => hs5.extBut b o (Nat.ne_of_lt (Heap.lt_size e)) (Heap.get?_push_of_some _ e)
    refine wpAny_bind (m := reSlice _ _ _ _) (wpAny_mkStr ?_ (by unfold sizeLine; simp [Str.length]))
    refine wpAny_bind (wpAny_seqItems hl5 rfl ?_)
    rw [if_neg (by simp)]
    have ej : (⟨l.toArray.extract 0 0⟩ : Str) = S [] := by
      show (⟨_⟩ : Str) = ⟨_⟩
      congr 1
      simp
    rw [ej]
    have hok : tooLong ((([(S l, s.toks)] : List (Str × Tok)).map (·.1)).toArray.foldl (· + ·.length + (S []).length) 0) = false := by
      have := StrLaws.joinTotal (S []) (([(S l, s.toks)] : List (Str × Tok)).map (·.1))
      rw [this, S_length]
      simp only [List.map_cons, List.map_nil, List.sum_cons, List.sum_nil, List.length_cons, List.length_nil, S_length]
      exact decide_eq_false (by show ¬ _ > 16777216; lia)
    refine wpAny_bind ?_
    simp only [show ((0 : Nat) == 0) = true by decide, if_true]
    refine call_meets F.slot_str_join (typeIs_str _ _ _) F.entry_str_join (F.args_str_join_2 _ _) (meets_str_join_list (S []) _ s.heap.objs.size [(S l, s.toks)] hok) ⟨⟨_, hl5, rfl, m, by simp [strValues]⟩, ?_⟩
    exact wpAny_pure (hQ s.toks _ ⟨_, _, _, rfl, kp, by show s.toks ≤ s.toks + 1 + 1; lia, id⟩)
end
end Mine
end
section
set_option Elab.async false
set_option tactic.hygienic false
set_option linter.unusedVariables false
set_option maxRecDepth 100000
set_option maxHeartbeats 1000000
namespace Mine
open PySem PySem.W PySem.Calls PyProof.Rows
noncomputable def gProto (F : Nat → Value → Prop) (C I l n : Nat) : Protocol := fun m s₀ v s kap =>
  F (n - 1 - m) v ∧ GenSince C [I] s₀ s ∧ 0 < s.toks ∧ ∀ s'' : Shared, 0 < s''.toks → (∀ b, b = C ∨ b = I ∨ b = l → ∀ o, s.heap.get? b = some o → s''.heap.get? b = some o) → kap (.send .none) s''
noncomputable abbrev gEnd (C I : Addr) : GenEnd := fun n s₀ r s₁ => r = .ok .next ∧ (n = 0 ∧ GenSince C [I] s₀ s₁)
structure EltOk (prog : Program) (w : World) (cenv : Env) (x : Str) (elt : Expr) (items : Array Value) (F : Nat → Value → Prop) : Prop where
  elt : ∀ (A' : Around) E' i v (s₂ : Shared) m₂, A'.handled = none → items[i]? = some v → 0 < s₂.toks → s₂.heap.Ns cenv.locals m₂ → m₂ x = some v → wpAny (model prog w) A' (eval elt cenv) (fun y s₃ => F i y ∧ PySem.Keeps s₂ s₃) E' s₂
section
variable {prog : Program} {w : World} {A : Around} {elt iter : Expr} {x : Str} {px : Pos} {scope : Scope} {pos : Pos} {I l : Addr} {items : Array Value} {cenv : Env} {F : Nat → Value → Prop}
theorem seg_n (hh : A.handled = none) (hIl : l ≠ I) (hCI : cenv.locals ≠ I) (hCl : cenv.locals ≠ l) (hx : cenv.kindOf x = some .local) (hp : (cenv.scope.kind == .class || (cenv.scope.kind == .module && cenv.locals != cenv.globals)) = false) (hco : cenv.scope.isCoroutine = false) (q : EltOk prog w cenv x elt items F) :
    ∀ (k i : Nat) (s₀ s : Shared) (m : Str → Option Value), items.size - i = k → i ≤ items.size → s.heap.IsListIter I l i ∧ s.heap.IsList l items → s.heap.Ns cenv.locals m → GenSince cenv.locals [I] s₀ s → 0 < s.toks →
      Seg (model prog w) A (gEnd cenv.locals I) (gProto F cenv.locals I l items.size) (items.size - i) s₀ (.compLoop (.GeneratorExp elt [⟨.Name x px, iter, [], 0⟩] scope pos) 0 (.ref I) .none cenv)
        ((model prog w).den (.compLoop (.GeneratorExp elt [⟨.Name x px, iter, [], 0⟩] scope pos) 0 (.ref I) .none cenv)) [] s := by
  have W : ∀ A' : Around, A'.handled = none → Walks prog w A' I [I, l] [I] items.size _ _ := fun A' h => Walks.list h I l hIl items
  have hh' : (A.over (.compLoop (.GeneratorExp elt [⟨.Name x px, iter, [], 0⟩] scope pos) 0 (.ref I) .none cenv) []).handled = none := hh
  have open_ : ∀ {n : Nat} {s₀ s : Shared}, Seg (model prog w) A (gEnd cenv.locals I) (gProto F cenv.locals I l items.size) n s₀ (.compLoop (.GeneratorExp elt [⟨.Name x px, iter, [], 0⟩] scope pos) 0 (.ref I) .none cenv) ((compTurn (.GeneratorExp elt [⟨.Name x px, iter, [], 0⟩] scope pos) 0 (.ref I) .none cenv).onRaise (leaving cenv)) [] s → Seg (model prog w) A (gEnd cenv.locals I) (gProto F cenv.locals I l items.size) n s₀ (.compLoop (.GeneratorExp elt [⟨.Name x px, iter, [], 0⟩] scope pos) 0 (.ref I) .none cenv) ((model prog w).den (.compLoop (.GeneratorExp elt [⟨.Name x px, iter, [], 0⟩] scope pos) 0 (.ref I) .none cenv)) [] s := fun h => h
  intro k
  induction k with
  | zero =>
    intro i s₀ s m hk hi hst hn hsince ht
    have hin : i = items.size := by lia
    subst hin
    refine open_ ?_
    rw [compTurn_gen, Sem.onRaise_eq_wrap]
    refine seg_bind_wrap (wpAny_standAt ?_)
    refine seg_bind_wrap ((W _ hh').done s _ _ hst fun h' tk hk' => ?_)
    exact seg_end (.ok .next) ⟨rfl, by lia, hsince.step fun b o xx hw e => hk' b o hw e⟩
  | succ k ih =>
    intro i s₀ s m hk hi hst hn hsince ht
    have hlt : i < items.size := by lia
    refine open_ ?_
    rw [compTurn_gen, Sem.onRaise_eq_wrap]
    refine seg_bind_wrap (wpAny_standAt ?_)
    refine seg_bind_wrap (wpAny_with_toks (n := s.toks) (Nat.le_refl _) ((W _ hh').item i s _ _ hlt hst fun v h₁ tk₁ hPv hst₁ hk₁ htk₁ => ?_))
    have ht₁ : 0 < tk₁ := Nat.lt_of_lt_of_le ht htk₁
    refine seg_bind_wrap (wpAny_of_eq (rfl : letOwnedTupleGo (.Name x px) (.ref I) v = pure ()) ?_)
    refine seg_bind_wrap (wpAny_assign_Name (wpAny_storeName_local hx (hn.at' fun o e => hk₁ _ o (by simpa using hCI) e) (fun h₂ hn₂ hs₂ => ?_) hp))
    have up₂ : ∀ b o, b ≠ cenv.locals → b ∉ [I] → s.heap.get? b = some o → h₂.get? b = some o := fun b o hbC hbw e => hs₂.extBut b o hbC (hk₁ b o hbw e)
    have hst₂ := (W A hh).frame _ _ h₂ hst₁ fun b hb o e => hs₂.extBut b o (fun h => by subst h; simp at hb; rcases hb with hb | hb; exact hCI hb; exact hCl hb) e
    have hy : ∀ v, yieldOut cenv v = yieldValue v := fun v => by simp only [yieldOut, hco, Bool.false_eq_true, if_false]
    simp only [List.forIn_nil, hy]
    refine seg_bind_wrap (wpAny_pure ?_)
    first | refine wpAny_ite_true rfl ?_ | refine (if_pos rfl).mpr ?_ | simp only [if_true]
    rw [Sem.bind_eq_wrap', Sem.bind_eq_wrap', Sem.wrap_wrap, Sem.wrap_wrap]
    refine seg_wrap (wpAny_with_toks (n := 1) (show 1 ≤ tk₁ + 1 by lia) (wpAny_mono (q.elt _ _ i v _ _ hh' hPv (show 0 < tk₁ + 1 by lia) hn₂ (by simp)) (fun y s₄ h₄ ht₄ => ?_) fun xx xx e xx => e))
    obtain ⟨hFy, h₄, tk₄, rfl, hk₄⟩ := h₄
    have hidx : items.size - 1 - (items.size - i - 1) = i := by lia
    have en : items.size - i = (items.size - (i + 1)) + 1 := by lia
    rw [en]
    have hs4 : GenSince cenv.locals [I] s₀ { s with heap := h₄, toks := tk₄ } := hsince.step fun b o hbC hbw e => hk₄ b o (up₂ b o hbC hbw e)
    refine seg_at (seg_yield rfl rfl rfl ⟨?_, hs4, ht₄, fun s'' ht'' hal => ?_⟩)
    · have e : items.size - 1 - (items.size - (i + 1)) = i := by lia
      rw [e]; exact hFy
    · refine seg_again rfl (ih (i + 1) s'' s'' _ (by lia) hlt ((W A hh).frame _ _ _ hst₂ fun b hb o e => hal b (by simp at hb; rcases hb with hb | hb; exact .inr (.inl hb); exact .inr (.inr hb)) o (hk₄ b o e))
        ((hn₂.keeps hk₄).at' fun o e => hal _ (.inl rfl) o e) (GenSince.refl _ _ _) ht'')
theorem seg_s (hh : A.handled = none) (hIl : l ≠ I) (hCI : cenv.locals ≠ I) (hCl : cenv.locals ≠ l) (hx : cenv.kindOf x = some .local) (hp : (cenv.scope.kind == .class || (cenv.scope.kind == .module && cenv.locals != cenv.globals)) = false) (hco : cenv.scope.isCoroutine = false) (q : EltOk prog w cenv x elt items F)
    (s : Shared) (m : Str → Option Value) (hst : s.heap.IsListIter I l 0 ∧ s.heap.IsList l items) (hn : s.heap.Ns cenv.locals m) (ht : 0 < s.toks) :
      Seg (model prog w) A (gEnd cenv.locals I) (gProto F cenv.locals I l items.size) items.size s (.compStart (.GeneratorExp elt [⟨.Name x px, iter, [], 0⟩] scope pos) 0 (.ref I) .none cenv)
        ((model prog w).den (.compStart (.GeneratorExp elt [⟨.Name x px, iter, [], 0⟩] scope pos) 0 (.ref I) .none cenv)) [] s := by
  have hh' : (A.over (.compStart (.GeneratorExp elt [⟨.Name x px, iter, [], 0⟩] scope pos) 0 (.ref I) .none cenv) []).handled = none := hh
  have lp := seg_n (iter := iter) (px := px) (scope := scope) (pos := pos) hh hIl hCI hCl hx hp hco q items.size 0 s s m (Nat.sub_zero _) (Nat.zero_le _) hst hn (GenSince.refl _ _ _) ht
  rw [Nat.sub_zero] at lp
  show Seg _ A _ _ _ s _ ((compStart (.GeneratorExp elt [⟨.Name x px, iter, [], 0⟩] scope pos) 0 (.ref I) .none cenv).onRaise (leaving cenv)) [] s
  unfold compStart
  rw [Sem.onRaise_eq_wrap]
  show Seg _ A _ _ _ s _ ((ask >>= _).wrap _ _ _ _) [] s
  have W := Walks.list (prog := prog) (w := w) hh' I l hIl items
  refine seg_bind_wrap (wpAny_askSetting ?_)
  split
  · exact seg_again rfl lp
  · first
      | exact seg_bind_wrap (wpAny_rule (seg_bind_wrap (wpAny_standAt (seg_bind_wrap (W.self 0 s _ _ hst (seg_again rfl lp))))))
      | (refine seg_bind_wrap (wpAny_rule ?_); show Seg _ A _ _ _ s _ ((standAt iter.pos >>= _).wrap _ _ _ _) [] s; exact seg_bind_wrap (wpAny_standAt (seg_bind_wrap (W.self 0 s _ _ hst (seg_again rfl lp)))))
noncomputable def GenN (prog : Program) (w : World) (A : Around) (a C I l n : Nat) (g : Nat) (F : Nat → Value → Prop) (j : Nat) (s : Shared) : Prop :=
  s.heap.IsGen a g ∧ s.heap.NoLimit ∧ 0 < s.toks ∧ ∃ gs, s.gens[g]? = some gs ∧ ∀ s'' : Shared, 0 < s''.toks → (∀ b, b = C ∨ b = I ∨ b = l → ∀ o, s.heap.get? b = some o → s''.heap.get? b = some o) →
    gs.Goes (model prog w) A.in1 (gEnd C I) (gProto F C I l n) (n - j) (.send .none) s''
theorem walksN {a C n : Nat} {g : Nat} (hh : A.handled = none) (hroom : A.depth < recursionLimit) (haC : a ≠ C) (haI : a ≠ I) (hcC : cStatics ≠ C) (hcI : cStatics ≠ I) :
    WalksS prog w A a [a, C, I, l, cStatics] [C, I] (GenOnlyQ g) n F (GenN prog w A a C I l n g F) where
  sub := fun b hb => by simp at hb; rcases hb with rfl | rfl <;> simp
  grefl := fun xx => .inl rfl
  gtrans := fun xx xx xx x y => x.trans y
  frame := fun j s h' tk st htk hk => by
    obtain ⟨⟨o, nm, qn, ho, r⟩, ⟨mc, hns, hnn⟩, ht, gs, hgs, hgo⟩ := st
    exact ⟨⟨o, nm, qn, hk a (by simp) o ho, r⟩, ⟨mc, hns.at' fun o e => hk cStatics (by simp) o e, hnn⟩, Nat.lt_of_lt_of_le ht htk, gs, hgs, fun s'' ht'' hal => hgo s'' ht'' fun b hb o e => hal b hb o (hk b (by simp; rcases hb with rfl | rfl | rfl <;> simp) o e)⟩
  item := fun j s Q E hj st hQ => by
    obtain ⟨hg, hl, ht, gs, hgs, hgo⟩ := st
    obtain ⟨m, hm⟩ : ∃ m, n - j = m + 1 := ⟨n - j - 1, by lia⟩
    rw [hm] at hgo
    refine wpAny_with_toks (Nat.le_refl s.toks) ?_
    refine wpAny_pyNext_genexpQ (P := fun n s₀ s₁ => n = 0 ∧ GenSince C [I] s₀ s₁) hh hl hroom hg hgs (hgo _ ht fun xx xx xx e => e) (fun v s₁ gs' hb hv => ?_) (fun s₁ hp h' hk => ?_)
    · obtain ⟨hF, ⟨h₁, tk₁, rfl, hk₁⟩, ht₁, hkap⟩ := hv
      have hidx : n - 1 - (m + 1 - 1) = j := by lia
      rw [hidx] at hF
      intro htk
      obtain ⟨o, nm, qn, ho, r⟩ := hg
      obtain ⟨mc, hns, hnn⟩ := hl
      refine hQ v _ hF ⟨⟨o, nm, qn, hk₁ a o haC (by simpa using haI) ho, r⟩, ⟨mc, hns.at' fun o e => hk₁ cStatics o hcC (by simpa using hcI) e, hnn⟩, ht₁, gs', setGen_self (gs := .running) (setGen_self hgs), fun s'' ht'' hal => ?_⟩
        ⟨fun b o hb e => hk₁ b o (fun h => hb (by simp [h])) (fun h => hb (by simp at h; simp [h])) e, GenOnlyQ.of ((GenOnly.setGen s g .running).trans (GenOnly.setGen _ g gs')) (setGen_self (gs := .running) (setGen_self hgs)) hb, rfl, rfl, htk⟩
      have e : n - (j + 1) = m := by lia
      rw [e]
      exact hkap s'' ht'' hal
    · exact absurd hp.1 (Nat.succ_ne_zero m)
  done := fun s Q E st hQ => by
    obtain ⟨hg, hl, ht, gs, hgs, hgo⟩ := st
    rw [Nat.sub_self] at hgo
    refine wpAny_with_toks (Nat.le_refl s.toks) ?_
    refine wpAny_pyNext_genexpQ (P := fun n s₀ s₁ => n = 0 ∧ GenSince C [I] s₀ s₁) hh hl hroom hg hgs (hgo _ ht fun xx xx xx e => e) (fun v s₁ gs' hb hv => ?_) (fun s₁ hp h' hk => ?_)
    · obtain ⟨_, _, ht₁, hkap⟩ := hv
      exact False.elim (hkap s₁ ht₁ fun xx xx xx e => e)
    · obtain ⟨_, h₁, tk₁, rfl, hk₁⟩ := hp
      intro htk
      exact hQ _ ⟨fun b o hb e => hk b o (hk₁ b o (fun h => hb (by simp [h])) (fun h => hb (by simp at h; simp [h])) e), GenOnlyQ.of ((GenOnly.setGen s g .running).trans (GenOnly.setGen _ g .finished)) (setGen_self (gs := .running) (setGen_self hgs)) rfl, rfl, rfl, htk⟩
  self := fun xx xx xx xx st hQ => wpAny_pyIter_gen st.1 hQ
end
end Mine
end
section
set_option Elab.async false
set_option tactic.hygienic false
set_option linter.unusedVariables false
set_option maxRecDepth 100000
set_option maxHeartbeats 1000000
namespace Mine
open PySem PySem.W PySem.Calls PyProof.Rows
inductive TabStep (P : Addr) (s s' : Shared) : Prop
  | intro (h' : Heap) (tk : Nat) (gs : _) (e : s' = { s with heap := h', toks := tk, gens := gs }) (k : ∀ b o, b ≠ P → s.heap.get? b = some o → h'.get? b = some o) (tb : ∃ ps, h'.get? P = some (tabObj ps) ∧ TriplesOk ps.toList) (t : s.toks ≤ tk) (g : AllBare s.gens → AllBare gs)
structure TabEnv (G : Heap) (cd P : Addr) : Prop where
  hd : CodeHd G cd P
  bm : ∃ mg bm ob, G.Ns mainGlobals mg ∧ mg "__builtins__" = some (.ref bm) ∧ bm ≠ builtinsNs ∧ bm ≠ mainGlobals ∧ G.get? bm = some ob ∧ ob.cls = .type "module" ∧ ob.dict = some builtinsNs ∧ ob.data = .plain
  off : G.get? P = none
  lim : G.NoLimit
theorem Ns_ne {h : Heap} {a P : Addr} {m : Str → Option Value} {ps : Array Value} (x : h.Ns a m) (e : h.get? P = some (tabObj ps)) : a ≠ P := fun q => by
  obtain ⟨o, es, ep, ho, hd, _⟩ := x
  rw [q, e] at ho; cases ho; cases hd
section
variable {prog : Program} {w : World} {A : Around} {s : Shared} {G : Heap} {cd P : Addr} {ps : Array Value}
inductive TabAt (h : Heap) (cd P : Addr) (ps : Array Value) : Prop
  | intro (mg : _) (bm : Addr) (ob : Obj) (B : BMod h mainGlobals mg bm ob) (hbg : bm ≠ mainGlobals) (hbP : bm ≠ P) (hgP : mainGlobals ≠ P) (ic : h.IsCode cd P ps) (ta : h.TableAt cd P ps) (hd : CodeHd h cd P) (lim : h.NoLimit) (hcP : cStatics ≠ P)
theorem Keeps.eqv {s s' : Shared} (k : Keeps s s') (h : Heap) (t : Nat) (g : _) : ({ s' with heap := h, toks := t, gens := g } : Shared) = { s with heap := h, toks := t, gens := g } := by
  obtain ⟨_, _, _, rfl, _⟩ := k; rfl
theorem Keeps.bare {s s' : Shared} (k : Keeps s s') : AllBare s.gens → AllBare s'.gens := by
  obtain ⟨_, _, _, rfl, _, _, b⟩ := k; exact b
theorem shared_eq {s s' : Shared} {k : Nat} (h1 : s'.drawn = s.drawn) (h2 : s'.os = s.os) : ({ s' with toks := k } : Shared) = { s with heap := s'.heap, toks := k, gens := s'.gens } := by
  cases s'; cases h1; cases h2; rfl
theorem TabEnv.at (T : TabEnv G cd P) {h : Heap} (up : ∀ b o, G.get? b = some o → h.get? b = some o) (hP : h.get? P = some (tabObj ps)) (ht : TriplesOk ps.toList) : TabAt h cd P ps := by
  obtain ⟨mg, bm, ob, b0, b1, b2, b3, b4, b5, b6, b7⟩ := T.bm
  have hd := T.hd.keeps up
  have tb := hd.tab hP
  have B : BMod h mainGlobals mg bm ob := ⟨b0.keeps up, b1, b2, up _ _ b4, b5, b6, b7⟩
  have ap := B.apart tb
  have lim := T.lim.keeps up
  refine ⟨mg, bm, ob, B, b3, ap.2, ap.1, hd.code hP ht, tb, hd, lim, ?_⟩
  obtain ⟨mc, hn, _⟩ := lim
  exact Ns_ne hn hP
theorem code_triples {h : Heap} {c P : Addr} {ps : Array Value} (x : h.IsCode c P ps) : TriplesOk ps.toList := by
  obtain ⟨_, _, _, _, _, _, _, _, _, op, _, _, _, _, _, _, _, x1, x2, x3, _⟩ := x
  exact x3
theorem gen_names {ts l' : List (Str × Tok)} {f : Str → Str} (h1 : l'.length = ts.length) (h2 : ∀ (j : Nat) (v : Value), (strValues l').toArray[j]? = some v → ∃ p u, ts[j]? = some p ∧ v = .str (f p.1) u) : l'.map (·.1) = ts.map fun p => f p.1 := by
  apply List.ext_getElem?
  intro j
  by_cases hj : j < ts.length
  · have hj' : j < l'.length := by lia
    obtain ⟨p, u, hp, hv⟩ := h2 j (.str l'[j].1 l'[j].2) (by simp [strValues, List.getElem?_eq_getElem hj'])
    injection hv with h1 _
    simp [List.getElem?_eq_getElem hj', hp, h1]
  · rw [List.getElem?_eq_none (by simp; lia), List.getElem?_eq_none (by simp; lia)]
theorem gen_make {env : Env} {elt iter : Expr} {x : Str} {px pos : Pos} {scope : Scope} {E : Value → Shared → Prop} {f : Str → Str} (T : TabEnv G cd P) (hh : A.handled = none) (hroom : A.depth < recursionLimit) (hcode : env.code = .ref cd) (hge : env.globals = mainGlobals)
    (hco : scope.isCoroutine = false) (hclos : closureFor scope env = pure []) (hcell : ∀ y ∈ scope.names, y.2 ≠ .cell) (h0 : scope.names.lookup (".0" : Str) = some NameKind.local)
    (hx : scope.names.lookup x = some .local) (hkind : scope.kind = .function) (hs : ∀ x, genFold iter env x = pure x)
    (helt : ∀ (C : Addr) (code : Value) (A' : Around) E' (s₂ : Shared) m₂ v t, A'.handled = none → 0 < s₂.toks → s₂.heap.Ns C m₂ → m₂ x = some (.str v t) → v.length ≤ 1000 → wpAny (model prog w) A' (eval elt (genEnv scope [] C code builtinsNs env)) (fun y s₃ => (∃ u, y = .str (f v) u) ∧ PySem.Keeps s₂ s₃) E' s₂)
    (up : ∀ b o, G.get? b = some o → s.heap.get? b = some o) (hP : s.heap.get? P = some (tabObj ps)) (ht : TriplesOk ps.toList) (hpos : 0 < s.toks) {ts : List (Str × Tok)} {l : Addr} {n : Nat} (hsz : ∀ p ∈ ts, p.1.length ≤ 1000) (hlen : ts.length ≤ 1000)
    (hit : ∀ Q, (∀ s₁, Keeps s s₁ → s₁.heap.get? l = some (lst (strValues ts) n) → Q (.ref l) s₁) → wpAny (model prog w) A (eval iter env) Q E s) :
    wpAny (model prog w) A (eval (.GeneratorExp elt [⟨.Name x px, iter, [], 0⟩] scope pos) env) (fun v s₅ => TabStep P s s₅ ∧ ∃ a, v = .ref a ∧
      ∀ (sep : Str) (t : Tok) (Q : Value → Shared → Prop) E', JoinOk sep (ts.map fun p => f p.1) = true → (∀ t' s₆, TabStep P s s₆ → Q (.str (Txt.join sep (ts.map fun p => f p.1)) t') s₆) → wpAny (model prog w) A (call (.builtin "str.join") [.str sep t, .ref a]) Q E' s₅) E s := by
  refine wpAny_GeneratorExp_make hco hclos hcell h0 hkind hroom (hit _ fun s₁ k1 e1 => ?_) hs
  have hl : s₁.heap.IsList l (strValues ts).toArray := ⟨_, e1, rfl, n, rfl⟩
  refine wpAny_pyIter_list hl ?_
  have k12 : Keeps s { s₁ with heap := s₁.heap.push { cls := .type "list_iterator", data := .fields #[.ref l, .int 0 0] } } := keeps_trans k1 (keeps_push s₁ _)
  have up2 : ∀ b o, G.get? b = some o → (s₁.heap.push { cls := .type "list_iterator", data := .fields #[.ref l, .int 0 0] }).get? b = some o := fun b o e => keeps_heap k12 _ _ (up _ _ e)
  have hP2 := keeps_heap k12 _ _ hP
  obtain ⟨mg, bm, ob, B, hbg, hbP, hgP, ic, ta, hd, lim, hcP⟩ := T.at up2 hP2 ht
  refine ⟨lim, ?_⟩
  have hI : (s₁.heap.push { cls := .type "list_iterator", data := .fields #[.ref l, .int 0 0] }).get? s₁.heap.objs.size = some { cls := .type "list_iterator", data := .fields #[.ref l, .int 0 0] } := Heap.get?_push_size _ rfl
  have hl2 := Heap.get?_push_of_some { cls := .type "list_iterator", data := .fields #[.ref l, .int 0 0] } e1
  have hIl : l ≠ s₁.heap.objs.size := Nat.ne_of_lt (Heap.lt_size e1)
  have hIP : s₁.heap.objs.size ≠ P := Nat.ne_of_gt (Heap.lt_size (keeps_heap k1 _ _ hP))
  have hlP : l ≠ P := fun q => by rw [q] at e1; have := keeps_heap k1 _ _ hP; rw [this] at e1; cases e1
  have hcI : cStatics ≠ s₁.heap.objs.size := by
    obtain ⟨mc, hn, _⟩ := T.lim.keeps up
    exact Nat.ne_of_lt (hn.keeps (keeps_heap k1)).lt
  have tk12 := keeps_toks k12
  have gb12 := k1.bare
  have ee1 := k1.eqv
  have kk12 : ∀ b o, s.heap.get? b = some o → (s₁.heap.push { cls := .type "list_iterator", data := .fields #[.ref l, .int 0 0] }).get? b = some o := keeps_heap k12
  have k1h : ∀ b o, s.heap.get? b = some o → b < s₁.heap.objs.size := fun b o e => Heap.lt_size (keeps_heap k1 _ _ e)
  clear k12 k1 hit hl hP e1 hclos hcell h0 hs
  generalize s₁.heap.push { cls := .type "list_iterator", data := .fields #[.ref l, .int 0 0] } = H2 at *
  have fin : ∀ (code : Value) (h₃ : Heap) (tk₃ : Nat) (ps' : Array Value), (∀ b o, b ≠ P → H2.get? b = some o → h₃.get? b = some o) → h₃.get? P = some (tabObj ps') → TriplesOk ps'.toList → s.toks ≤ tk₃ →
      wpAny (model prog w) A (builtinsFor env.globals env.builtins) (fun bi s₄ => ∀ h', h'.Ns s₄.heap.objs.size (fun y => if y = ".0" then some (.ref s₁.heap.objs.size) else none) → Heap.SameBut s₄.heap.objs.size (s₄.heap.push { cls := .type "frame", data := .dict #[] }) h' →
        (fun (v : Value) s₅ => TabStep P s s₅ ∧ ∃ a, v = .ref a ∧
      ∀ (sep : Str) (t : Tok) (Q : Value → Shared → Prop) E', JoinOk sep (ts.map fun p => f p.1) = true → (∀ t' s₆, TabStep P s s₆ → Q (.str (Txt.join sep (ts.map fun p => f p.1)) t') s₆) → wpAny (model prog w) A (call (.builtin "str.join") [.str sep t, .ref a]) Q E' s₅) (.ref h'.objs.size) { s₄ with
            gens := s₄.gens.push (.fresh (.compStart (.GeneratorExp elt [⟨.Name x px, iter, [], 0⟩] scope pos) 0 (.ref s₁.heap.objs.size) .none (genEnv scope [] s₄.heap.objs.size code bi env))),
            toks := s₄.toks + 1 + 1 + 1,
            heap := h'.push { cls := .type "generator", data := .fields #[.int s₄.gens.size 0, .str "<genexpr>" (s₄.toks + 1), .str (env.qual ++ "<genexpr>") (s₄.toks + 1 + 1)] } }) E { s₁ with heap := h₃, toks := tk₃ } := by
    intro code h₃ tk₃ ps' k3 hP3 ht3 htk3
    have up3 : ∀ b o, G.get? b = some o → h₃.get? b = some o := fun b o e => k3 b o (fun q => by rw [q, T.off] at e; cases e) (up2 b o e)
    obtain ⟨mg, bm, ob, B, hbg3, hbP3, hgP3, ic3, ta3, hd3, lim3, hcP3⟩ := T.at up3 hP3 ht3
    rw [hge]
    refine wpAny_builtinsFor B.ns B.name B.ne B.obj B.cls B.dict B.data ?_
    intro h' hn' hs'
    dsimp only at hn' hs' ⊢
    have sz : h'.objs.size = h₃.objs.size + 1 := by rw [hs'.1, Heap.size_push]
    have k3' : ∀ b o, h₃.get? b = some o → h'.get? b = some o := fun b o e => hs'.extBut b o (Nat.ne_of_lt (Heap.lt_size e)) (Heap.get?_push_of_some _ e)
    have lt3 : ∀ b o, h₃.get? b = some o → b < h₃.objs.size := fun b o e => Heap.lt_size e
    have hI3 := k3 _ _ hIP hI
    have hl3 := k3 _ _ hlP hl2
    refine ⟨⟨_, _, _, ee1 _ _ _, fun b o hb e => Heap.get?_push_of_some _ (k3' _ _ (k3 b o hb (kk12 b o e))), ⟨ps', Heap.get?_push_of_some _ (k3' _ _ hP3), ht3⟩, by show s.toks ≤ tk₃ + 1 + 1 + 1; lia, fun q => (gb12 q).push rfl⟩, h'.objs.size, rfl, ?_⟩
    intro sep t Q E' hok hQ
    have hcs : ∃ o, h₃.get? cStatics = some o := by obtain ⟨mc, ⟨o, _, _, e, _⟩, _⟩ := lim3; exact ⟨o, e⟩
    obtain ⟨ocs, hcs⟩ := hcs
    have c1 : (s₁.heap.objs.size : Nat) < h₃.objs.size := lt3 _ _ hI3
    have c2 : (l : Nat) < h₃.objs.size := lt3 _ _ hl3
    have c3 : (cStatics : Nat) < h₃.objs.size := lt3 _ _ hcs
    have aC : (h'.objs.size : Nat) ≠ h₃.objs.size := by lia
    have aI : (h'.objs.size : Nat) ≠ s₁.heap.objs.size := by lia
    have W := walksN (prog := prog) (w := w) (A := A.in1.in1) (a := h'.objs.size) (C := h₃.objs.size) (I := s₁.heap.objs.size) (l := l) (n := (strValues ts).toArray.size) (g := s₁.gens.size) (F := fun i y => ∃ p u, ts[i]? = some p ∧ y = .str (f p.1) u) hh hroom aC aI (Nat.ne_of_lt c3) hcI
    have hsz' : (strValues ts).toArray.size = ts.length := by simp [strValues]
    refine wpAny_with_toks (Nat.le_refl _) (SC.joinGen W (fun i s st => st.1.typeIs) ⟨⟨_, _, _, Heap.get?_push_size _ rfl, rfl, rfl, rfl⟩, (lim3.keeps k3').push _, by show 0 < tk₃ + 1 + 1 + 1; lia, _, Array.getElem?_push_size .., fun s'' ht'' hal => ?_⟩ (fun b hb => ?_) (by simp) (fun i v hv => by obtain ⟨p, u, _, e⟩ := hv; exact ⟨_, _, e⟩) (fun s' l' hm hit => ?_) (by rw [hsz']; unfold sizeLine; lia))
    · refine ⟨rfl, seg_s (A := A.in1.in1.in1) (cenv := genEnv scope [] h₃.objs.size code builtinsNs env) hh hIl (Nat.ne_of_gt c1) (Nat.ne_of_gt c2) hx (by simp [genEnv, hkind]) hco ⟨fun A' E' i v s₂ m₂ hA' hv ht2 hn2 hm2 => ?_⟩ s'' _ ⟨⟨_, hal _ (.inr (.inl rfl)) _ (Heap.get?_push_of_some _ (k3' _ _ hI3)), rfl, rfl⟩, ⟨_, hal _ (.inr (.inr rfl)) _ (Heap.get?_push_of_some _ (k3' _ _ hl3)), rfl, n, rfl⟩⟩ ((hn'.push _).at' fun o e => hal _ (.inl rfl) o e) ht''⟩
      obtain ⟨p, hp, rfl⟩ : ∃ p, ts[i]? = some p ∧ v = .str p.1 p.2 := by
        simp [strValues] at hv
        obtain ⟨a, b, h1, h2⟩ := hv
        exact ⟨(a, b), h1, h2.symm⟩
      exact wpAny_mono (helt _ _ A' E' s₂ m₂ p.1 p.2 hA' ht2 hn2 hm2 (hsz p (List.mem_of_getElem? hp))) (fun y s₃ q => ⟨⟨p, q.1.choose, hp, q.1.choose_spec⟩, q.2⟩) fun xx xx e => e
    · show b < (h'.push _).objs.size
      rw [Heap.size_push]
      simp at hb
      have c0 : (h₃.objs.size : Nat) < h'.objs.size + 1 := by lia
      rcases hb with rfl | rfl | rfl | rfl | rfl
      · exact Nat.lt_succ_self _
      · exact c0
      · exact Nat.lt_trans c1 c0
      · exact Nat.lt_trans c2 c0
      · exact Nat.lt_trans c3 c0
    · have hl' : l'.map (·.1) = ts.map fun p => f p.1 := gen_names (by have := hit.1; simpa [strValues] using this) fun j v hv => hit.2 j v hv
      rw [hl']
      refine ⟨hok, fun t' k hk => hQ t' _ ?_⟩
      obtain ⟨q1, q2, q3, q4, q5⟩ := hm
      have tail : ∀ b o, b ≠ P → s.heap.get? b = some o → s'.heap.get? b = some o := fun b o hb e => by
        have b1 : (b : Nat) < s₁.heap.objs.size := k1h _ _ e
        refine q1 b o (fun q => ?_) (Heap.get?_push_of_some _ (k3' _ _ (k3 b o hb (kk12 b o e))))
        simp at q
        rcases q with q | q
        · exact Nat.lt_irrefl _ (Nat.lt_trans (q ▸ b1 : h₃.objs.size < s₁.heap.objs.size) c1)
        · exact Nat.lt_irrefl _ (q ▸ b1)
      refine ⟨s'.heap, k, s'.gens, ?_, tail, ⟨ps', q1 P _ (fun q => ?_) (Heap.get?_push_of_some _ (k3' _ _ hP3)), ht3⟩, Nat.le_trans (by show s.toks ≤ tk₃ + 1 + 1 + 1; lia) hk, fun q => ?_⟩
      · exact (shared_eq q3 q4).trans (ee1 _ _ _)
      · simp at q
        rcases q with q | q
        · exact Nat.lt_irrefl _ (q ▸ lt3 _ _ hP3 : h₃.objs.size < h₃.objs.size)
        · exact hIP q.symm
      · exact q2.bare ((gb12 q).push rfl)
  cases hca : codeAmong pos ps.toList with
  | some cv => exact wpAny_genexprCode_hit hcode ic hca (fin cv _ _ ps (fun b o xx e => e) hP2 ht tk12)
  | none =>
    refine wpAny_with_toks (n := s.toks) tk12 (wpAny_genexprCodeX hcode ic ta hca fun c' h' tk hx xx xx ic' xx ta' xx htk => fin (.ref c') h' tk _ hx ta'.2 ?_ htk)
    exact code_triples ic'
end
end Mine
end
section
set_option Elab.async false
set_option tactic.hygienic false
set_option linter.unusedVariables false
set_option maxRecDepth 100000
set_option maxHeartbeats 1000000
namespace Mine
open PySem PySem.W PySem.Calls PyProof.Rows
noncomputable def EVt (c : Cx) (ρ : Rho) (e : Expr) (d : D) : Prop := ∀ sg B Y T s E, St c sg B Y ρ T s → wpAny c.M c.A (eval e c.env) (fun v s' => St c sg B Y ρ ((v, d) :: T) s') E s
theorem setSlot_same {x : Str} {sl : Slot} : ∀ {ρ : Rho}, HasSlot x sl ρ → setSlot x sl ρ = ρ := by
  intro ρ
  induction ρ with
  | nil => intro h; obtain ⟨ρ1, ρ2, e, _⟩ := h; simp at e
  | cons p r ih =>
    intro h
    obtain ⟨ρ1, ρ2, e, hn⟩ := h
    cases ρ1 with
    | nil => cases e; exact if_pos rfl
    | cons q ρ1 =>
      cases e
      exact (if_neg (hn p (.head _))).trans (congrArg _ (ih ⟨ρ1, ρ2, rfl, fun p hp => hn p (.tail _ hp)⟩))
section
variable {c : Cx} {sg : Shared} {B : Mp} {Y : List Addr} {fs : List Addr} {m cm : Str → Option Value} {ρ : Rho} {T : List (Value × D)} {s s' : Shared} {cd P : Addr}
theorem StO.tabbed {x : Str} {d : D} (y : StO c sg B Y fs m cm ρ T s) (hx : HasSlot x (.tab P d) ρ) (h : TabStep P s s') : ∃ fs', StO c sg B Y fs' m cm ρ T s' := by
  obtain ⟨h', tk, gs, rfl, k, ⟨ps', p1, p2⟩, n1, b1⟩ := h
  obtain ⟨v, gs', l, q, hsub⟩ := St.lookOwn y hx
  obtain ⟨rfl, r, ps, e1, ht⟩ := q
  have y2 : StO c sg B Y fs m cm ρ T { s with gens := gs } := y.keeps ⟨s.heap, s.toks, gs, rfl, fun xx xx e => e, Nat.le_refl _, b1⟩
  have hcx : ∀ x b, c.env.cells.lookup x = some b → b ∈ c.oc ∨ (b ∈ Y ∧ ∃ o, B b = some o) := fun x b e => (y.cells x b e).2
  obtain ⟨fs3, z⟩ := StO.mutate (X := []) (sl' := .tab P d) (h' := h') (tk := tk) y2 n1 (by simp) (fun b hb => nomatch hb) hx l (show SlotIs _ _ _ _ [P] from ⟨rfl, r, ps, e1, ht⟩) (fun b o hb e => k b o (by simpa using hb) e) (fun b hb => by simp at hb; subst hb; exact ⟨_, p1⟩)
    (fun Z' hz => ⟨rfl, r.mono hz, ps', p1, p2⟩) hcx
  rw [setSlot_same hx] at z
  exact ⟨fs3, z⟩
theorem St.table {x : Str} {d : D} (y : StO c sg B Y fs m cm ρ T s) (hx : HasSlot x (.tab P d) ρ) : ∃ ps, s.heap.get? P = some (tabObj ps) ∧ TriplesOk ps.toList := by
  obtain ⟨v, gs', l, q, hsub⟩ := St.lookOwn y hx
  obtain ⟨rfl, r, ps, e1, ht⟩ := q
  exact ⟨ps, e1, ht⟩
theorem EX1.setT {x : Str} {px p : Pos} {e : Expr} {d : D} (h : EVt c ρ e d) (hx : Sto c x) (hs : swapsWith e (some (.Name x px)) p.line c.env = pure false) : EX1 c ρ (.Assign [.Name x px] e p) (.next (upd x (.val d) ρ)) := fun sg B Y T s E y =>
  wpAny_Assign_Name (wpAny_mono (h sg B Y T s E y) (fun v s₁ q => wpAny_mono (hx _ _ _ _ _ _ _ _ _ q) (fun xx s₂ q => ⟨rfl, q⟩) fun xx xx e => e) fun xx xx e => e) hs
theorem lam_make {x : Str} {d : D} {params : Arguments} {body : Expr} {scope : Scope} {pos : Pos} {E : Value → Shared → Prop} (TE : TabEnv c.G cd P) (y : StO c sg B Y fs m cm ρ T s) (hx : HasSlot x (.tab P d) ρ) (hdef : defaultsOf params c.env = ([], [])) (hcode : c.env.code = .ref cd) (hge : c.env.globals = mainGlobals) (hcl : closureFor scope c.env = pure []) :
    wpAny c.M c.A (eval (.Lambda params body scope pos) c.env) (fun v s' => TabStep P s s' ∧ ∃ f, v = .ref f ∧ s'.TypeIs (.ref f) "function") E s := by
  obtain ⟨ps, hP, ht⟩ := St.table y hx
  have up : ∀ b o, c.G.get? b = some o → s.heap.get? b = some o := fun b o e => y.keep b o (y.base b o e).1
  obtain ⟨mg, bm, ob, BM, hbg, hbP, hgP, ic, ta, hd, lim, hcP⟩ := TE.at up hP ht
  refine kla_eval hdef ?_
  cases hca : codeAmong pos ps.toList with
  | some cv =>
    refine wpAny_with_toks (Nat.le_refl s.toks) (kla_makeFunctionHit hcl hge BM.ns hcode hd hP ht hca ⟨bm, ob, BM.name, BM.ne, hbg, hbP, BM.obj, BM.cls, BM.dict, BM.data⟩ fun ctv h' tk k hsz htk => ?_)
    exact ⟨⟨_, tk, s.gens, rfl, fun b o hb e => Heap.get?_push_of_some _ (k b o e), ⟨ps, Heap.get?_push_of_some _ (k _ _ hP), ht⟩, htk, id⟩, _, rfl, ⟨_, Heap.get?_push_size _ rfl, rfl⟩⟩
  | none =>
    refine wpAny_with_toks (Nat.le_refl s.toks) (kla_makeFunction hcl hge BM.ns hcode hd hP ht hca hgP ⟨bm, ob, BM.name, BM.ne, hbg, hbP, BM.obj, BM.cls, BM.dict, BM.data⟩ fun c' ctv h' tk hxb xx xx xx htb htk => ?_)
    refine ⟨⟨_, tk, s.gens, rfl, fun b o hb e => Heap.get?_push_of_some _ (hxb b o hb e), ⟨_, Heap.get?_push_of_some _ htb, ?_⟩, htk, id⟩, _, rfl, ⟨_, Heap.get?_push_size _ rfl, rfl⟩⟩
    simpa using TriplesOk_snoc _ _ _ _ ht
theorem EVt.subLam {x xp : Str} {d : D} {np apos p pos : Pos} {params : Arguments} {body e2 : Expr} {scope : Scope} {l : List Nat} {pa pc : Addr} {code : List Int} (TE : TabEnv c.G cd P) (hx : HasSlot x (.tab P d) ρ) (hdef : defaultsOf params c.env = ([], [])) (hcode : c.env.code = .ref cd) (hge : c.env.globals = mainGlobals) (hcl : closureFor scope c.env = pure [])
    (hp : EV c ρ (.Name xp np) (.raw (.ref pa))) (hpa : PatAt c.G pa pc code) (hpd : ∀ o, c.G.get? pa = some o → o.dict = none) (he : EV c ρ e2 (.str (S l))) (hh : c.A.handled = none) (h0 : l ≠ []) (hl : l.length ≤ 1000) (hfail : isFailed (drv 1000 (Sre.forSearch (code.map (·.toNat)).toArray l.toArray 1 0 l.length false)) = true)
    (k : MethOk c (.Name xp np) "sub" [.Lambda params body scope pos, e2] apos p) (hns : noStar [e2] = true) : EVt c ρ (.Call (.Attribute (.Name xp np) "sub" apos) [.Lambda params body scope pos, e2] [] p) (.str (S l)) := fun sg B Y T s E hqz => by
  obtain ⟨fs, m, cm, y⟩ := hqz
  refine wpAny_Call_method k.base k.form k.line plain_pattern slot_sub type_sub (wpAny_mono (hp _ s y.rd E) (fun v s₁ hqz0 => ?_) fun xx xx e => e)
  obtain ⟨k1, q⟩ := hqz0
  have ev := q.of_raw
  subst ev
  have y1 := y.keeps k1
  have up : ∀ {s' : Shared} {fs m cm T}, StO c sg B Y fs m cm ρ T s' → ∀ b o, c.G.get? b = some o → s'.heap.get? b = some o := fun y b o e => y.keep b o (y.base b o e).1
  have pat : ∀ {s' : Shared} {fs m cm T}, StO c sg B Y fs m cm ρ T s' → PatAt s'.heap pa pc code := fun y => by
    obtain ⟨⟨a, b, c', d, o, h1, h2⟩, o2, h4, h5⟩ := hpa
    exact ⟨⟨a, b, c', d, o, up y _ _ h1, h2⟩, o2, up y _ _ h4, h5⟩
  obtain ⟨⟨pa1, pa2, pa3, pa4, po, ph1, ph2, ph3⟩, _⟩ := pat y1
  have hT : s₁.TypeIs (.ref pa) "re.Pattern" := ⟨po, ph1, by rw [ph2]⟩
  refine ⟨hT, fun a e => ?_, callRaw0 (fd := [.ref pa]) (.inl ⟨_, rfl⟩) k.nostar (spliced_more (wpAny_mono (lam_make TE y1 hx hdef hcode hge hcl) (fun v s₂ hqz => ?_) fun xx xx e => e) (starEach_cons_noStar k.plain))⟩
  · cases e
    obtain ⟨⟨a, b, c', d, o, h1, h2⟩, _⟩ := hpa
    exact ⟨o, up y1 _ _ h1, hpd o h1⟩
  · obtain ⟨ts, f, ef, hf⟩ := hqz
    subst ef
    obtain ⟨fs2, y2⟩ := y1.tabbed hx ts
    refine spliced_one (y2.ev he fun v s₃ k3 y3 => ?_) hns
    obtain ⟨u, rfl⟩ := (y3.temps (v, _) (.head _)).of_str
    refine ⟨up y3, ?_⟩
    have hf3 : s₃.TypeIs (.ref f) "function" := by
      obtain ⟨o, e1, e2⟩ := hf
      exact ⟨o, keeps_heap k3 _ _ e1, e2⟩
    refine sub_none hh (pat y3) hf3 h0 hl hfail fun t s₄ k4 => ?_
    exact ⟨fs2, m, cm, ((y3.temps_sub fun p hp => .tail _ hp).keeps k4).temp (.str _ _)⟩
theorem EVt.joinGen {x xl xs : Str} {d : D} {kc : Nat} {cp np px apos p pos : Pos} {elt : Expr} {scope : Scope} {sep : List Nat} {f : Str → Str} {ts : List (List Nat)} (TE : TabEnv c.G cd P) (hx : HasSlot x (.tab P d) ρ) (hcode : c.env.code = .ref cd) (hge : c.env.globals = mainGlobals) (hclos : closureFor scope c.env = pure [])
    (hlx : (xl, Slot.val (.list (ts.map fun t => .str (S t)))) ∈ ρ) (hn : NameOk c xl) (hroom : Rm c.A 0)
    (hco : scope.isCoroutine = false) (hcell : ∀ y ∈ scope.names, y.2 ≠ .cell) (h0 : scope.names.lookup (".0" : Str) = some NameKind.local) (hxs : scope.names.lookup xs = some .local) (hkind : scope.kind = .function)
    (helt : ∀ (C : Addr) (code : Value) (A' : Around) E' (s₂ : Shared) m₂ v t, A'.handled = none → 0 < s₂.toks → s₂.heap.Ns C m₂ → m₂ xs = some (.str v t) → v.length ≤ 1000 → wpAny c.M A' (eval elt (genEnv scope [] C code builtinsNs c.env)) (fun y s₃ => (∃ u, y = .str (f v) u) ∧ PySem.Keeps s₂ s₃) E' s₂)
    (hsz : ∀ t ∈ ts, t.length ≤ 1000) (hlen : ts.length ≤ 1000) (hok : JoinOk (S sep) (ts.map fun t => f (S t)) = true)
    (k : MethOk c (.Constant (.str (S sep)) kc cp) "join" [.GeneratorExp elt [⟨.Name xs px, .Name xl np, [], 0⟩] scope pos] apos p) : EVt c ρ (.Call (.Attribute (.Constant (.str (S sep)) kc cp) "join" apos) [.GeneratorExp elt [⟨.Name xs px, .Name xl np, [], 0⟩] scope pos] [] p) (.str (Txt.join (S sep) (ts.map fun t => f (S t)))) := fun sg B Y T s E hqz => by
  obtain ⟨fs, m, cm, y⟩ := hqz
  refine wpAny_Call_method k.base k.form k.line F.plainAttrs_str F.slot_str_join F.type_str_join (wpAny_mono (EV.str (i := S sep) _ s y.rd E) (fun v s₁ hqz0 => ?_) fun xx xx e => e)
  obtain ⟨k1, q⟩ := hqz0
  obtain ⟨u, rfl⟩ := q.of_str
  have y1 := y.keeps k1
  have up : ∀ {s' : Shared} {fs m cm T}, StO c sg B Y fs m cm ρ T s' → ∀ b o, c.G.get? b = some o → s'.heap.get? b = some o := fun y b o e => y.keep b o (y.base b o e).1
  refine ⟨typeIs_str _ _ _, (fun a e => by cases e), callRaw0 (fd := [.str (S sep) u]) (.inl ⟨_, rfl⟩) k.nostar (spliced_one ?_ k.plain)⟩
  obtain ⟨lv, hl, r⟩ := y1.vars.mem hlx
  obtain ⟨l, vs, n, rfl, hz, rr⟩ := r.of_list
  obtain ⟨lt, rfl, hlt⟩ := strs_of rr
  obtain ⟨ps, hP, ht⟩ := St.table y1 hx
  have ex : (lt.map fun p => f p.1) = ts.map fun t => f (S t) := by
    have := congrArg (List.map f) hlt
    simpa [Function.comp_def] using this
  refine wpAny_mono (gen_make (G := c.G) (ts := lt) (l := l) (n := n) (f := f) TE hroom.handled (by have := hroom.depth; omega) hcode hge hco hclos hcell h0 hxs hkind (fun v => rfl) helt (up y1) hP ht y1.mono.2.2 (fun p hp => ?_) ?_ fun Q hQ => ?_) (fun v s₅ ⟨ts5, a, ea, hj⟩ => ?_) fun xx xx e => e
  · have : p.1 ∈ ts.map S := hlt ▸ List.mem_map_of_mem (f := (·.1)) hp
    obtain ⟨t, h1, h2⟩ := List.mem_map.mp this
    rw [← h2, S_length]
    exact hsz t h1
  · have := congrArg List.length hlt
    simp at this
    omega
  · exact hn.evalX (by exact ⟨y1.rd.ok, y1.ns, fun x a e => (y1.cells x a e).1, fun x a e => List.mem_append.mpr ((y1.cells x a e).2.imp (fun r => .tail _ (List.mem_append.mpr (.inl r))) fun r => r.1), y1.vars⟩) hl (hQ s₁ (keeps_refl _) (Zof.get hz).1)
  · subst ea
    obtain ⟨fs5, y5⟩ := y1.tabbed hx ts5
    refine ⟨up y5, ?_⟩
    refine hj (S sep) u _ _ (by rw [ex]; exact hok) fun t' s₆ ts6 => ?_
    rw [ex]
    obtain ⟨fs6, y6⟩ := y1.tabbed hx ts6
    exact ⟨fs6, m, cm, y6.temp (.str _ _)⟩
end
end Mine
end
section
set_option Elab.async false
set_option tactic.hygienic false
set_option linter.unusedVariables false
set_option maxRecDepth 100000
set_option maxHeartbeats 1000000
namespace Mine
open PySem PySem.W PySem.Calls PyProof.Rows PySem.Builtin PySem.Builtin.Str PySem.StrLaws
theorem gives_find4 (x y : Str) (i j : Int) (t u v w : Tok) : Gives («str.find» ⟨[.str x t, .str y u, .int i v, .int j w], []⟩) (.int (match occurrences x y (fromIndex x.length i) (min (fromIndex x.length j) x.length) 1 with | k :: _ => (k : Int) | [] => -1)) := by
  show Gives (match occurrences x y (fromIndex x.length i) (min (fromIndex x.length j) x.length) 1 with | k :: _ => retInt k | [] => (do rule "str.find.not-found"; retInt (-1))) _
  cases occurrences x y (fromIndex x.length i) (min (fromIndex x.length j) x.length) 1 with
  | nil => exact .rule (.of_eq rfl)
  | cons k _ => exact .of_eq rfl
theorem args_find4 (a b c d : Value) : argsOk "str.find" ⟨[a, b, c, d], []⟩ := by unfold argsOk; kernel_rfl
noncomputable def firstAt (c : Nat) (a : List Nat) (lo hi : Nat) : Int := match ((List.range' lo (hi - lo)).find? fun i => a[i]? == some c) with | some i => (i : Int) | none => -1
theorem occ_firstAt {a : List Nat} {c lo hi : Nat} (hhi : hi ≤ a.length) : (match occurrences (S a) (S [c]) lo hi 1 with | k :: _ => (k : Int) | [] => -1) = firstAt c a lo hi := by
  have hat : ∀ i, At (S a) (S [c]) hi i ↔ i < hi ∧ a[i]? = some c := fun i => by
    have h := at_one (a := a) (c := c) (i := i) rfl
    unfold At at h ⊢
    rw [S_length] at h ⊢
    constructor
    · rintro ⟨h1, h2⟩; exact ⟨by simp at h1; lia, h.mp ⟨by simp at h1 ⊢; lia, h2⟩⟩
    · rintro ⟨h1, h2⟩; exact ⟨by simp; lia, (h.mpr h2).2⟩
  unfold firstAt
  rw [occ_eq]
  rcases occ_first (S a) (S [c]) hi 1 (Nat.le_refl _) (List.range' lo (hi + 1 - lo)) lo (fun i hi => by have := List.mem_range'_1.mp hi; lia) with ⟨h0, hn⟩ | ⟨pre, b, post, e, h0, ha, hn⟩
  · rw [h0]
    have : (List.range' lo (hi - lo)).find? (fun i => a[i]? == some c) = none := by
      rw [List.find?_eq_none]
      intro i him q
      have := List.mem_range'_1.mp him
      exact hn i (by rw [List.mem_range'_1]; lia) ((hat i).mpr ⟨by lia, by simpa using q⟩)
    rw [this]
  · have hs := range'_split_from e
    have hb := (hat b).mp ha
    have hf : (List.range' lo (hi - lo)).find? (fun i => a[i]? == some c) = some b := by
      rw [List.find?_eq_some_iff_append]
      refine ⟨by simpa using hb.2, List.range' lo (b - lo), List.range' (b + 1) (hi - (b + 1)), ?_, fun i him => ?_⟩
      · rw [← List.range'_succ]
        have := List.range'_append (s := lo) (m := b - lo) (n := hi - (b + 1) + 1) (step := 1)
        rw [show lo + 1 * (b - lo) = b by have := hs.1; lia] at this
        rw [this]
        congr 1
        have := hs.1; lia
      · have h1 := List.mem_range'_1.mp him
        have := hn i (hs.2 i (by lia) (by lia))
        simp
        exact fun q => this ((hat i).mpr ⟨by lia, q⟩)
    rw [hf]
    generalize (forIn (List.range' lo (hi + 1 - lo)) ((#[] : Array Nat), lo) (occBody (S a) (S [c]) hi 1)).run.fst = arr at h0
    have h1 : arr.toList[0]? = some b := by simpa using h0
    cases hL : arr.toList with
    | nil => rw [hL] at h1; cases h1
    | cons b' t => rw [hL] at h1; simp at h1; rw [h1]
theorem Fn.find4 {g : Gx} {a : List Nat} {c lo hi : Nat} (hhi : hi ≤ a.length) (hl : a.length ≤ 1000000) : Fn g 0 (.builtin "str.find") [.str (S a), .str (S [c]), .int (lo : Nat), .int (hi : Nat)] (.int (firstAt c a lo hi)) := fun A s X vs hr ok hv E => by
  obtain ⟨v1, v2, v3, v4, rfl, r1, r2, r3, r4⟩ := hv.inv4
  obtain ⟨t, rfl⟩ := r1.of_str
  obtain ⟨u, rfl⟩ := r2.of_str
  obtain ⟨v, rfl⟩ := r3.of_int
  obtain ⟨w, rfl⟩ := r4.of_int
  refine call_gives F.slot_str_find (typeIs_str _ _ _) F.entry_str_find (args_find4 _ _ _ _) (gives_find4 _ _ _ _ _ _ _ _) ?_
  have e1 : fromIndex (S a).length (lo : Int) = lo := by unfold fromIndex; rw [if_neg (by lia)]; lia
  have e2 : min (fromIndex (S a).length (hi : Int)) (S a).length = hi := by unfold fromIndex; rw [S_length, if_neg (by lia)]; lia
  rw [e1, e2, occ_firstAt hhi]
  exact ⟨keeps_next s, .int _ _⟩
theorem Op2.in_pair {g : Gx} {a b c : List Nat} : Op2 g 0 (compareOp .In) (.str (S a)) (.tuple [.str (S b), .str (S c)]) (.bool (decide (a = b ∨ a = c))) := fun A s X v w hr ok ra rb E => by
  obtain ⟨t, rfl⟩ := ra.of_str
  obtain ⟨l, us, n, rfl, hz, r⟩ := rb.of_tuple
  obtain ⟨v1, v2, rfl⟩ : ∃ v1 v2, us = [v1, v2] := len2 r.length
  obtain ⟨t1, rfl⟩ := r.two.1.of_str
  obtain ⟨t2, rfl⟩ := r.two.2.of_str
  have e : (([S b, S c] : List Str).any (· == S a)) = decide (a = b ∨ a = c) := by
    rw [Bool.eq_iff_iff]
    simp only [List.any_cons, List.any_nil, Bool.or_false, Bool.or_eq_true, beq_iff_eq, decide_eq_true_eq]
    constructor
    · rintro (h | h)
      · exact .inl (S_inj h.symm)
      · exact .inr (S_inj h.symm)
    · rintro (h | h)
      · exact .inl (by rw [h])
      · exact .inr (by rw [h])
  exact in_tuple_strs (ys := [S b, S c]) ⟨_, (Zof.get hz).1, rfl, n, rfl⟩ (.cons _ _ (.cons _ _ .nil)) ⟨keeps_refl s, by rw [e]; exact .bool _⟩
theorem EV.fstr {c : Cx} {ρ : Rho} {a b l : List Nat} {v : Expr} {k1 k2 : Nat} {p1 p2 p3 p : Pos} (h : EV c ρ v (.str (S l))) (hl : a.length + l.length + b.length ≤ 100000) : EV c ρ (.JoinedStr [.Constant (.str (S a)) k1 p1, .FormattedValue v (-1) Option.none p3, .Constant (.str (S b)) k2 p2] p) (.str (S (a ++ l ++ b))) := fun H s x E => by
  refine wpAny_JoinedStr ?_
  have ez : Str.empty = S [] := rfl
  show wpAny _ _ _ _ _ _
  refine wpAny_Constant_str ⟨S a, _, rfl, by rw [ez, S_append, S_length]; unfold sizeLine; simp; lia, ?_⟩
  rw [ez, S_append, List.nil_append]
  show wpAny _ _ _ _ _ _
  have kp := keeps_tok s (s.toks + 1) (Nat.le_succ _)
  have tail : ∀ (s₂ : Shared) (u : Tok), Keeps s s₂ → ∃ y t, Value.str (S l) u = .str y t ∧ (S a ++ y).length ≤ sizeLine ∧ Joins c.M c.A E [eval (.Constant (.str (S b)) k2 p2) c.env] (S a ++ y) (fun out s₁ => out.length ≤ sizeLine ∧ (Keeps s { s₁ with toks := s₁.toks + 1 } ∧ Rep (Zof s₁.heap H) (.str out s₁.toks) (.str (S (a ++ l ++ b))))) s₂ := fun s₂ u ks => by
    refine ⟨S l, u, rfl, by rw [S_append, S_length]; unfold sizeLine; simp; lia, ?_⟩
    show wpAny _ _ _ _ _ _
    refine wpAny_Constant_str ⟨S b, _, rfl, by rw [S_append, S_append, S_length]; unfold sizeLine; simp; lia, ?_⟩
    show _ ≤ _ ∧ _ ∧ _
    rw [S_append, S_append]
    refine ⟨by rw [S_length]; unfold sizeLine; simp; lia, keeps_trans ks ⟨_, _, _, rfl, fun xx xx e => e, by show s₂.toks ≤ s₂.toks + 1 + 1; lia, id⟩, .str _ _⟩
  refine wpAny_FormattedValue_plain (wpAny_mono (h H _ (x.keeps kp) E) (fun w s₂ hqz0 => ?_) fun xx xx e => e)
  obtain ⟨k2', q⟩ := hqz0
  obtain ⟨u, rfl⟩ := q.of_str
  have k3 := keeps_trans kp k2'
  exact wpAny_formatField_str (tail s₂ u k3) (tail _ _ (keeps_trans k3 (keeps_next s₂))) (by rw [S_length]; unfold sizeLine; lia)
theorem Fn.replace0 {g : Gx} {a y z : List Nat} (h : occurrences (S a) (S y) 0 (S a).length ((S a).length + 1) = []) : Fn g 0 (.builtin "str.replace") [.str (S a), .str (S y), .str (S z)] (.str (S a)) := fun A s X vs hr ok hv E => by
  obtain ⟨v1, v2, v3, rfl, r1, r2, r3⟩ := hv.inv3
  obtain ⟨t, rfl⟩ := r1.of_str
  obtain ⟨u, rfl⟩ := r2.of_str
  obtain ⟨v, rfl⟩ := r3.of_str
  refine call_gives F.slot_str_replace (typeIs_str _ _ _) F.entry_str_replace (F.args_str_replace_3 _ _ _) (gives_str_replace _ _ _ t u v fun hc => ?_) ?_
  · rw [h] at hc; simp at hc
  · rw [h]
    exact ⟨keeps_refl s, .str _ _⟩
theorem rep_raw {prog : Program} {w : World} {A : Around} {env : Env} {o : Expr} {y z v : Str} {k1 k2 : Nat} {p1 p2 apos p : Pos} {s : Shared} {Q : Value → Shared → Prop} {E : Value → Shared → Prop} (hbase : attributeBase o "replace" env (eval o env) = eval o env) (hline : (apos.endLine == p.line) = true) (hyz : (y == z) = false) (hb : v.length + (v.length + 1) * z.length ≤ 16777216)
    (h : wpAny (model prog w) A (eval o env) (fun r s₁ => ∃ t, r = .str v t ∧ 0 < s₁.toks ∧ ∀ t' k, Q (.str (Txt.replace v y z) t') { s₁ with toks := k }) E s) : wpAny (model prog w) A (eval (.Call (.Attribute o "replace" apos) [.Constant (.str y) k1 p1, .Constant (.str z) k2 p2] [] p) env) Q E s := by
  let c : Cx := { prog := prog, w := w, G := {}, lo := 0, A := A, env := env, oc := [] }
  have m : MethOk c o "replace" [.Constant (.str y) k1 p1, .Constant (.str z) k2 p2] apos p := ⟨hbase, rfl, by show 2 < 30; lia, hline⟩
  have hG : ∀ b o, c.G.get? b = some o → False := fun b o e => by simp [c, Heap.get?] at e
  refine wpAny_Call_method m.base m.form m.line F.plainAttrs_str F.slot_str_replace F.type_str_replace (wpAny_mono h (fun r s₁ hqz0 => ?_) fun xx xx e => e)
  obtain ⟨t, er, hpos, hQ⟩ := hqz0
  subst er
  refine ⟨typeIs_str _ _ _, (fun a e => by cases e), callRaw0 (c := c) (fd := [.str v t]) (.inl ⟨_, rfl⟩) m.nostar (spliced_more (wpAny_Constant_str (spliced_one (wpAny_Constant_str ⟨fun b o e => (hG b o e).elim, ?_⟩) rfl)) (starEach_cons_noStar rfl))⟩
  refine SC.replace (by show s₁.toks ≠ 0; exact Nat.ne_of_gt hpos) (by show s₁.toks + 1 ≠ 0; exact Nat.succ_ne_zero _) (by show s₁.toks ≠ s₁.toks + 1; exact Nat.ne_of_lt (Nat.lt_succ_self _)) hyz hb fun t' k => hQ t' k
end Mine
end
section
set_option Elab.async false
set_option tactic.hygienic false
set_option linter.unusedVariables false
set_option maxRecDepth 100000
set_option maxHeartbeats 1000000
namespace Mine
open PySem PySem.W PySem.Calls PyProof.Rows
noncomputable def rngS (a st : Int) (n : Nat) : List D := (List.range n).map fun (i : Nat) => D.int (a + st * (i : Int))
theorem rngS_length (a st : Int) (n : Nat) : (rngS a st n).length = n := by simp [rngS]
theorem Wk.rangeS {prog : Program} {w : World} {A : Around} {lo : Nat} (hh : A.handled = none) {F : Mp} (I : Addr) (a st : Int) (n : Nat) :
    Wk false L0 lo (model prog w) A F (.ref I) [I] [I] (rngS a st n) (fun i h => IsRangeIter h I (a + st * (i : Int)) ((n : Int) - (i : Int)) st) (fun i v h => IsRangeIter h I (a + st * ((i + 1 : Nat) : Int)) ((n : Int) - ((i + 1 : Nat) : Int)) st ∧ ∀ a, v ≠ .ref a) where
  sub := fun b hb => hb
  frame := fun xx xx xx st hk => hk I (by simp) _ st
  alive := fun i h st b hb => by simp at hb; subst hb; exact ⟨_, st⟩
  next := fun i s Q E d hd xx xx sti hF hQ => by
    have hi : i < n := by have := (List.getElem?_eq_some_iff.mp hd).1; simpa [rngS] using this
    have hd' : d = .int (a + st * (i : Int)) := by simp [rngS, hi] at hd; exact hd.symm
    subst hd'
    refine wpAny_pyNext_range_item sti (by lia) fun h' hit' hs' => ?_
    refine hQ _ h' _ (Nat.le_succ _) ⟨?_, fun a e => by cases e⟩ (.int _ _) (fun b o hb e => hs'.extBut b o (fun h => hb (by simp [h])) e) fun b hb => by
      simp at hb; subst hb; exact ⟨_, hit'⟩
    have e1 : a + st * ((i + 1 : Nat) : Int) = a + st * (i : Int) + st := by rw [Int.natCast_add, Int.mul_add]; simp; lia
    have e2 : (n : Int) - ((i + 1 : Nat) : Int) = (n : Int) - (i : Int) - 1 := by lia
    rw [e1, e2]; exact hit'
  go := fun target i v s Q E xx hm hQ => lotg_val hm.2 (hQ s.heap hm.1 fun xx xx xx e => e)
  done := fun s Q E xx xx st hQ => wpAny_pyNext_range_end hh st (by simp [rngS]) fun h' he' => hQ h' s.toks (Nat.le_refl _) (fun b o hb e => he' b o (fun h => hb (by simp [h])) e)
  self := fun i s Q E st hQ => wpAny_pyIter_rangeiter st hQ
section
variable {c : Cx} {ρ : Rho}
theorem IT.range3 {k n : Nat} {x : Str} {np p : Pos} {e1 e2 e3 : Expr} {a b st : Int} (hn : EV c ρ (.Name x np) (.raw (.type "range"))) (h1 : EV c ρ e1 (.int a)) (h2 : EV c ρ e2 (.int b)) (h3 : EV c ρ e3 (.int st)) (hs : noStar [e1, e2, e3] = true) (hst : st ≠ 0)
    (hpl : Builtin.divisionGoesByPylong (b - a) st = false) (hsm : Builtin.Range.small a b st = true) (hsz : Builtin.Range.rangeSize a b st = n) (hk : Rm c.A k) : IT false L0 c ρ (.Call (.Name x np) [e1, e2, e3] [] p) (rngS a st n) := fun H s E h => by
  refine wpAny_Call_ofName (wpAny_mono (hn H s h E) (fun v s₁ hqz0 => ?_) fun xx xx e => e)
  obtain ⟨k1, q⟩ := hqz0
  have e := q.of_raw
  subst e
  have hs2 : noStar [e2, e3] = true := noStar_tail hs
  have hs3 : noStar [e3] = true := noStar_tail (noStar_tail hs)
  refine callRaw (fd := []) (.inr (.inl ⟨_, rfl⟩)) (.cons h1 (.two h2 h3 hs2) fun env => starEach_cons_noStar hs) (fun env y q => by
    have := starEach_noStar (env := env) hs p
    rw [q] at this; simp at this) (h.keeps k1) fun vs s₂ k2 r => ?_
  obtain ⟨v1, v2, v3, rfl, r1, r2, r3⟩ := r.inv3
  obtain ⟨t, rfl⟩ := r1.of_int
  obtain ⟨u, rfl⟩ := r2.of_int
  obtain ⟨v, rfl⟩ := r3.of_int
  have k12 := keeps_trans k1 k2
  refine call_range_3 hst ?_ (hp := .inl hpl)
  have k3 : Keeps s₂ { s₂ with heap := s₂.heap.push { cls := .type "range", data := .fields #[.int a t, .int b u, .int st v] }, toks := s₂.toks } := ⟨_, _, _, rfl, fun xx xx e => Heap.get?_push_of_some _ e, Nat.le_refl _, id⟩
  refine wpAny_pyIter_range (a := a) (b := b) (c := st) (t := t) (u := u) (v := v) (Heap.get?_push_size _ rfl) hsm ?_
  refine iterAt_push (keeps_trans k12 k3) (Wk.rangeS hk.handled _ a st n) ?_ fun b hb => .inl (by simpa using hb)
  rw [hsz]
  have := Heap.get?_push_size (s₂.heap.push { cls := .type "range", data := .fields #[.int a t, .int b u, .int st v] }) (o := { cls := .type "range_iterator", data := .fields #[rawInt a, rawInt (n : Int), rawInt st] }) rfl
  simpa using this
theorem IT.range2 {k n : Nat} {x : Str} {np p : Pos} {e1 e2 : Expr} {a b : Int} (hn : EV c ρ (.Name x np) (.raw (.type "range"))) (h1 : EV c ρ e1 (.int a)) (h2 : EV c ρ e2 (.int b)) (hs : noStar [e1, e2] = true)
    (hsm : Builtin.Range.small a b 1 = true) (hsz : Builtin.Range.rangeSize a b 1 = n) (hk : Rm c.A k) : IT false L0 c ρ (.Call (.Name x np) [e1, e2] [] p) (rngS a 1 n) := fun H s E h => by
  refine wpAny_Call_ofName (wpAny_mono (hn H s h E) (fun v s₁ hqz0 => ?_) fun xx xx e => e)
  obtain ⟨k1, q⟩ := hqz0
  have e := q.of_raw
  subst e
  refine callRaw (fd := []) (.inr (.inl ⟨_, rfl⟩)) (.two h1 h2 hs) (fun env y q => by
    have := starEach_noStar (env := env) hs p
    rw [q] at this; simp at this) (h.keeps k1) fun vs s₂ k2 r => ?_
  obtain ⟨v1, v2, rfl, r1, r2⟩ := r.inv2
  obtain ⟨t, rfl⟩ := r1.of_int
  obtain ⟨u, rfl⟩ := r2.of_int
  have k12 := keeps_trans k1 k2
  refine call_range_2 ?_
  have k3 : Keeps s₂ { s₂ with heap := s₂.heap.push { cls := .type "range", data := .fields #[.int a t, .int b u, .int 1 s₂.toks] }, toks := s₂.toks + 1 } := ⟨_, _, _, rfl, fun xx xx e => Heap.get?_push_of_some _ e, Nat.le_succ _, id⟩
  refine wpAny_pyIter_range (a := a) (b := b) (c := 1) (t := t) (u := u) (v := s₂.toks) (Heap.get?_push_size _ rfl) hsm ?_
  refine iterAt_push (keeps_trans k12 k3) (Wk.rangeS hk.handled _ a 1 n) ?_ fun b hb => .inl (by simpa using hb)
  rw [hsz]
  have := Heap.get?_push_size (s₂.heap.push { cls := .type "range", data := .fields #[.int a t, .int b u, .int 1 s₂.toks] }) (o := { cls := .type "range_iterator", data := .fields #[rawInt a, rawInt (n : Int), rawInt 1] }) rfl
  simpa using this
theorem range_down (n : Nat) (h : n ≤ 1000000) : Builtin.Range.small (n : Int) 0 (-1) = true ∧ Builtin.Range.rangeSize (n : Int) 0 (-1) = n := by
  have e : Builtin.Range.rangeSize (n : Int) 0 (-1) = n := by
    unfold Builtin.Range.rangeSize
    simp only [show ¬ ((-1 : Int) > 0) by decide, if_false]
    rw [show (- -1 : Int) = 1 from rfl, Int.ediv_one]
    split <;> lia
  refine ⟨?_, e⟩
  unfold Builtin.Range.small Builtin.Range.rangeFitsLong
  rw [e]
  simp
  lia
theorem range_up (n : Nat) (h : n ≤ 1000000) : Builtin.Range.small 1 (n : Int) 1 = true ∧ Builtin.Range.rangeSize 1 (n : Int) 1 = (n - 1 : Nat) := by
  have e : Builtin.Range.rangeSize 1 (n : Int) 1 = (n - 1 : Nat) := by
    unfold Builtin.Range.rangeSize
    simp only [show ((1 : Int) > 0) by decide, if_true]
    split <;> lia
  refine ⟨?_, e⟩
  unfold Builtin.Range.small Builtin.Range.rangeFitsLong
  rw [e]
  simp
  lia
end
end Mine
end
section
open PySem PySem.W PyProof.Rows
set_option Elab.async false
set_option tactic.hygienic false
set_option maxRecDepth 100000
set_option linter.unusedVariables false
namespace Mine
noncomputable def rp (a : List Nat) : List Nat := glue [92, 45] (pieces 45 (glue [92, 92] (pieces 92 a)))
noncomputable def fndRel (b : List Nat) (k : Nat) : Option Nat := (List.range' k (b.length - k)).find? fun i => b[i]? == some 45
noncomputable def chunkRun : Nat → List Nat → Nat → Nat → List (List Nat) → Option (Nat × List (List Nat))
  | 0, _, _, _, _ => none
  | f + 1, b, i, k, acc => match fndRel b k with
    | none => some (i, acc)
    | some p => if i ≤ p then chunkRun f b (p + 1) (p + 3) (acc ++ [(b.drop i).take (p - i)]) else none
noncomputable def mergeRun : Nat → List (List Nat) → Option (List (List Nat))
  | 0, ch => some ch
  | k + 1, ch => match ch[k]?, ch[k + 1]? with
    | some a, some b => match a.getLast?, b.head? with
      | some x, some y => if a.length ≤ 100 ∧ b.length ≤ 100 then mergeRun k (if y < x then (ch.set k (a.dropLast ++ b.drop 1)).eraseIdx (k + 1) else ch) else none
      | _, _ => none
    | _, _ => none
noncomputable def lastChunk (b : List Nat) (i : Nat) (acc : List (List Nat)) : Option (List (List Nat)) :=
  if b.drop i = [] then (match acc.getLast? with | some l => some (acc.dropLast ++ [l ++ [45]]) | none => none) else some (acc ++ [b.drop i])
noncomputable def closed (b : List Nat) : Bool :=
  let p0 := if b.head? = some 33 then 1 else 0
  let p1 := if b[p0]? = some 93 then p0 + 1 else p0
  decide (p0 < b.length) && (b.drop p1).all (· != 93)
noncomputable def hyphen (b : List Nat) : Option (List (List Nat)) :=
  (chunkRun 1000 b 0 (if b.head? = some 33 then 2 else 1) []).bind fun q => (lastChunk b q.1 q.2).bind fun ch => mergeRun (ch.length - 1) ch
noncomputable def stuffOf (b : List Nat) : Option (List Nat) :=
  if 45 ∈ b then (hyphen b).map fun m => glue [45] (m.map rp)
  else if 92 ∈ b then none else some b
noncomputable def partOf (st : List Nat) : List Nat := if st = [33] then [46] else if st.head? = some 33 then [91] ++ ([94] ++ st.drop 1) ++ [93] else [91] ++ st ++ [93]
noncomputable def code43 : List Int := [14, 14, 4, 1, 1, 9, 0, 64, 0, 1342177280, 0, 0, 0, 0, 0, 17, 0, 13, 11, 9, 0, 64, 0, 1342177280, 0, 0, 0, 0, 0, 17, 1, 1]
noncomputable def quietText (st : List Nat) : Bool := isFailed (drv 1000 (Sre.forSearch (code43.map (·.toNat)).toArray st.toArray 1 0 st.length false))
noncomputable def brOk (b part : List Nat) : Bool :=
  closed b && decide (b.length ≤ 100) && ((hyphen b).getD []).all (fun t => decide (t.length ≤ 100)) && decide (((hyphen b).getD []).length ≤ 100) && match stuffOf b with
    | some st => quietText st && decide (st ≠ []) && decide (st.length ≤ 100) && decide (st.head? ≠ some 94) && decide (st.head? ≠ some 91) && part == partOf st
    | none => false
noncomputable def tokPart (t : List Nat) : Option (List Nat) :=
  match t with
  | [] => none
  | c :: b => if c = 63 then (if b = [] then some [91, 94, 47, 93] else none)
    else if c = 91 then (match stuffOf b.dropLast with | some st => some (partOf st) | none => none)
    else if b = [] then some (esc c) else none
example : brOk [33, 97] [91, 94, 97, 93] = true := by decide +kernel
end Mine
end
section
open PySem PySem.W PyProof.Rows
set_option Elab.async false
set_option tactic.hygienic false
set_option maxRecDepth 100000
set_option maxHeartbeats 2000000
set_option linter.unusedVariables false
namespace Mine
noncomputable def fdOf (o : Option Obj) : FuncData := match o with | some ⟨_, _, .func fd, _⟩ => fd | _ => default
noncomputable def bodyOf (fd : FuncData) : List Stmt := match fd.body with | .stmts b => b | _ => []
noncomputable def trFd (P : Params) : FuncData := fdOf ((Mine.hd.heap_1 P).lookup 62)
noncomputable def nth : List Stmt → Nat → Stmt
  | [], _ => .Pass default
  | s :: _, 0 => s
  | _ :: r, n + 1 => nth r n
noncomputable def kids : Stmt → (List Stmt × List Stmt) × Expr
  | .If _ a b _ => ((a, b), .Constant .none 0 default)
  | .While _ a _ _ => ((a, []), .Constant .none 0 default)
  | .Assign _ e _ => (([], []), e)
  | _ => (([], []), .Constant .none 0 default)
noncomputable def thenOf (s : Stmt) : List Stmt := (kids s).1.1
noncomputable def elseOf (s : Stmt) : List Stmt := (kids s).1.2
noncomputable def valueOf (s : Stmt) : Expr := (kids s).2
noncomputable def trLoop (P : Params) : List Stmt := thenOf (nth (bodyOf (trFd P)) 3)
noncomputable def trElse (P : Params) : Stmt := nth (elseOf (nth (elseOf (nth (trLoop P) 2)) 0)) 0
noncomputable def trInner (P : Params) : List Stmt := elseOf (nth (thenOf (trElse P)) 4)
noncomputable def trHyphen (P : Params) : List Stmt := elseOf (nth (trInner P) 1)
noncomputable abbrev R0 (pat qm : List Nat) (r : Addr) (out : List (List Nat)) (rest : Rho) : Rho := ("pat", .val (dS pat)) :: ("STAR", .tab 57 .none) :: ("QUESTION_MARK", .val (dS qm)) :: ("res", .ownAt r (out.map dS)) :: ("add", .val (.bnd r)) :: rest
theorem find_congr {α : Type} {p q : α → Bool} : ∀ {l : List α}, (∀ a ∈ l, p a = q a) → l.find? p = l.find? q := by
  intro zz
  induction zz with
  | nil => intro _; exact rfl
  | cons a r IH =>
    intro h
    simp only [List.find?_cons, h a (.head _)]
    rw [IH fun b hb => h b (.tail _ hb)]
theorem firstAt_rel {pre b post : List Nat} {k : Nat} (hk : k ≤ b.length + 3) : firstAt 45 (pre ++ (b ++ post)) (pre.length + k) (pre.length + b.length) = match fndRel b k with | some p => ((pre.length + p : Nat) : Int) | none => -1 := by
  unfold firstAt fndRel
  have e : pre.length + b.length - (pre.length + k) = b.length - k := by lia
  rw [e]
  have e2 : (List.range' (pre.length + k) (b.length - k)) = (List.range' k (b.length - k)).map (pre.length + ·) := by
    rw [List.map_add_range']
  rw [e2, List.find?_map]
  have e3 : ((List.range' k (b.length - k)).find? ((fun i => (pre ++ (b ++ post))[i]? == some 45) ∘ (pre.length + ·))) = (List.range' k (b.length - k)).find? fun i => b[i]? == some 45 := by
    refine find_congr fun i hi => ?_
    have := List.mem_range'_1.mp hi
    simp only [Function.comp]
    rw [List.getElem?_append_right (by lia), show pre.length + i - pre.length = i by lia, List.getElem?_append_left (by lia)]
  rw [e3]
  cases (List.range' k (b.length - k)).find? fun i => b[i]? == some 45 <;> rfl
theorem fndRel_lt {b : List Nat} {k p : Nat} (h : fndRel b k = some p) : k ≤ p ∧ p < b.length := by
  have := List.mem_of_find?_eq_some h
  have := List.mem_range'_1.mp this
  omega
theorem cut_in {pre b post : List Nat} {i j : Nat} (hij : i ≤ j) (hj : j ≤ b.length) : cut (pre ++ (b ++ post)) (some ((pre.length + i : Nat) : Int)) (some ((pre.length + j : Nat) : Int)) = (b.drop i).take (j - i) := by
  unfold cut
  simp only [Option.elim, clipAt_nat, List.length_append]
  rw [Nat.min_eq_left (by lia), Nat.min_eq_left (by lia), List.drop_append, List.drop_of_length_le (by lia), List.nil_append, show pre.length + i - pre.length = i by lia, List.drop_append, show pre.length + j - (pre.length + i) = j - i by lia, List.take_append_of_le_length (by simp; lia)]
section
variable {c : Cx} {P : Params}
theorem Body.quiet {scope : Scope} (bd : Body c scope) : interactive c.env = false := by
  unfold interactive
  rw [bd.is, bd.kind]
  rfl
theorem tr_cut (bd : Body c (trFd P).scope) (X : Kx (Mine.hd.heap_1 P) c.toGx) (hr : Rm c.A 3) {pre b post qm : List Nat} {n : Int} {k ie : Nat} {ch : List (List Nat)} {r : Addr} {out : List (List Nat)} (hrun : chunkRun 1000 b 0 k [] = some (ie, ch)) (hk : k ≤ 2) (hb : b.length ≤ 100) (hpre : pre.length + post.length ≤ 10000) :
    EX1 c (R0 (pre ++ (b ++ post)) qm r out [("i", .val (.int (pre.length + 0 : Nat))), ("n", .val (.int n)), ("j", .val (.int (pre.length + b.length : Nat))), ("stuff", .val (dS b)), ("chunks", .own (([] : List (List Nat)).map dS)), ("k", .val (.int (pre.length + k : Nat)))]) (nth (trHyphen P) 2)
      (.next (R0 (pre ++ (b ++ post)) qm r out [("i", .val (.int (pre.length + ie : Nat))), ("n", .val (.int n)), ("j", .val (.int (pre.length + b.length : Nat))), ("stuff", .val (dS b)), ("chunks", .own (ch.map dS)), ("k", .val (.int (-1)))])) := by
  refine EX1.whlByBrk (fun (a : Nat × Nat × Nat × List (List Nat)) => R0 (pre ++ (b ++ post)) qm r out [("i", .val (.int (pre.length + a.2.1 : Nat))), ("n", .val (.int n)), ("j", .val (.int (pre.length + b.length : Nat))), ("stuff", .val (dS b)), ("chunks", .own (a.2.2.2.map dS)), ("k", .val (.int (pre.length + a.2.2.1 : Nat)))])
    (fun a => chunkRun a.1 b a.2.1 a.2.2.1 a.2.2.2 = some (ie, ch) ∧ a.2.1 ≤ b.length ∧ a.2.2.1 ≤ b.length + 2 ∧ a.2.2.2.length ≤ 1000 - a.1 ∧ a.1 ≤ 1000) (fun a => a.1) _ (fun a ha => ?_) (1000, 0, k, []) ⟨hrun, Nat.zero_le _, by show k ≤ _; lia, Nat.zero_le _, Nat.le_refl _⟩
  obtain ⟨f, i, k, acc⟩ := a
  obtain ⟨h1, h2, h3, h4, h5⟩ := ha
  dsimp only at h1 h2 h3 h4 h5 ⊢
  refine ⟨EB.val EV.bool tru_bool (hr.less (by decide)) rfl, ?_⟩
  have hfind : EV c (R0 (pre ++ (b ++ post)) qm r out [("i", .val (.int (pre.length + i : Nat))), ("n", .val (.int n)), ("j", .val (.int (pre.length + b.length : Nat))), ("stuff", .val (dS b)), ("chunks", .own (acc.map dS)), ("k", .val (.int (pre.length + k : Nat)))]) (valueOf (nth (thenOf (nth (trHyphen P) 2)) 0)) (.int (firstAt 45 (pre ++ (b ++ post)) (pre.length + k) (pre.length + b.length))) := by
    refine EV.meth (k := 0) (EV.var bd (by rfl) rfl) (.cons (strS (l := [45]) rfl) (.two (EV.var bd (by rfl) rfl) (EV.var bd (by rfl) rfl) rfl) fun env => starEach_cons_noStar rfl) (Fn.find4 (by simp) (by simp; lia)) (hr.less (by decide)) rfl F.plainAttrs_str F.slot_str_find F.type_str_find ⟨rfl, rfl, by decide, rfl⟩
  cases f with
  | zero => cases h1
  | succ f =>
    rw [chunkRun] at h1
    have hrel := firstAt_rel (pre := pre) (b := b) (post := post) (k := k) (by lia)
    rw [hrel] at hfind
    cases hf : fndRel b k with
    | none =>
      rw [hf] at h1
      cases h1
      refine .inr ?_
      rw [hf] at hfind
      refine EX.cons (EX1.set (d := .int (-1)) hfind (bd.sto (by rfl)) rfl) ?_
      exact EX.stop (EX1.ite (b := true) (EB.conv (EB.cmp (EV.var bd (by rfl) rfl) EV.int Op2.lt_int (hr.less (by decide)) rfl) (by decide)) (fun xx => EX.stop EX1.brk fun ρ q => nomatch q) (fun q => by cases q)) fun ρ q => nomatch q
    | some p =>
      rw [hf] at h1
      have hp := fndRel_lt hf
      dsimp only at h1
      split at h1
      · rename_i hip
        refine .inl ⟨(f, p + 1, p + 3, acc ++ [(b.drop i).take (p - i)]), ?_, ⟨h1, by show p + 1 ≤ _; lia, by show p + 3 ≤ _; lia, by show (acc ++ _).length ≤ 1000 - f; simp; lia, by show f ≤ 1000; lia⟩, by show f < f + 1; lia⟩
        rw [hf] at hfind
        refine EX.cons (EX1.set (d := .int ((pre.length + p : Nat) : Int)) hfind (bd.sto (by rfl)) rfl) ?_
        refine EX.cons (EX1.ite (b := false) (EB.conv (EB.cmp (EV.var bd (by rfl) rfl) EV.int Op2.lt_int (hr.less (by decide)) rfl) (decide_eq_false (by lia))) (fun q => by cases q) (fun xx => EX.nil)) ?_
        refine EX.cons (EX1.append (x := "chunks") (d := dS ((b.drop i).take (p - i))) (.of_look rfl) (bd.nameOk (by rfl)) (EV.conv (EV.sub (EV.var bd (by rfl) rfl) (EV.slice (dl := .int _) (du := .int _) (ds := .none) (EV.var bd (by rfl) rfl) (EV.var bd (by rfl) rfl) rfl) rfl F.slot_str_getitem.lookup (Op2.slice_str (.int _) (.int _) (by unfold sizeLine; simp; lia)) (hr.less (by decide))) (by rw [cut_in hip (by lia)])) ⟨rfl, rfl, by decide, rfl⟩ (by simp; lia) bd.quiet rfl) ?_
        refine EX.cons (EX1.set (d := .int ((pre.length + (p + 1) : Nat) : Int)) (EV.conv (EV.bin' (EV.var bd (by rfl) rfl) EV.int Op2.add_int hr (by decide)) (by congr 1)) (bd.sto (by rfl)) rfl) ?_
        refine EX.cons (EX1.set (d := .int ((pre.length + (p + 3) : Nat) : Int)) (EV.conv (EV.bin' (EV.var bd (by rfl) rfl) EV.int Op2.add_int hr (by decide)) (by congr 1)) (bd.sto (by rfl)) rfl) (EX.nil.conv ?_)
        rw [List.map_append]; rfl
      · cases h1
theorem map_erase {α β : Type} (f : α → β) : ∀ (l : List α) (n : Nat), (l.eraseIdx n).map f = (l.map f).eraseIdx n
  | [], _ => rfl
  | a :: r, 0 => rfl
  | a :: r, n + 1 => by simp [map_erase f r n]
noncomputable def mst (ch : List (List Nat)) (n : Nat) : Nat → List (List Nat)
  | 0 => ch
  | t + 1 => let l := mst ch n t
    if ((l[n - t - 1 + 1]?).getD []).headD 0 < ((l[n - t - 1]?).getD []).getLastD 0 then (l.set (n - t - 1) (((l[n - t - 1]?).getD []).dropLast ++ ((l[n - t - 1 + 1]?).getD []).drop 1)).eraseIdx (n - t - 1 + 1) else l
theorem merge_step {l res : List (List Nat)} {m : Nat} (h : mergeRun (m + 1) l = some res) : ∃ a b x y, l[m]? = some (a ++ [x]) ∧ l[m + 1]? = some (y :: b) ∧ a.length ≤ 100 ∧ b.length ≤ 100 ∧ mergeRun m (if y < x then (l.set m (a ++ b)).eraseIdx (m + 1) else l) = some res := by
  rw [mergeRun] at h
  cases h1 : l[m]? with
  | none => rw [h1] at h; cases h
  | some a =>
    cases h2 : l[m + 1]? with
    | none => rw [h1, h2] at h; cases h
    | some b =>
      rw [h1, h2] at h
      dsimp only at h
      rcases List.eq_nil_or_concat a with rfl | ⟨a', x, rfl⟩
      · simp at h
      · cases b with
        | nil => simp at h
        | cons y b' =>
          simp only [List.concat_eq_append, List.getLast?_append, List.getLast?_singleton, List.head?_cons, List.dropLast_concat, List.drop_one, List.tail_cons] at h
          refine ⟨a', b', x, y, by simp, rfl, ?_⟩
          simp at h
          obtain ⟨⟨q1, q2⟩, h⟩ := h
          exact ⟨by lia, by lia, h⟩
theorem mst_run {ch res : List (List Nat)} {n : Nat} (h : mergeRun n ch = some res) : ∀ t, t ≤ n → mergeRun (n - t) (mst ch n t) = some res := by
  intro zz
  induction zz with
  | zero => intro _; exact h
  | succ t IH =>
    intro ht
    have ih := IH (by lia)
    have e : n - t = (n - t - 1) + 1 := by lia
    rw [e] at ih
    obtain ⟨a, b, x, y, h1, h2, _, _, h5⟩ := merge_step ih
    have e2 : n - (t + 1) = n - t - 1 := by lia
    rw [e2, mst, h1, h2]
    simpa using h5
theorem mst_next {ch : List (List Nat)} {n t : Nat} {a b : List Nat} {x y : Nat} (h1 : (mst ch n t)[n - t - 1]? = some (a ++ [x])) (h2 : (mst ch n t)[n - t - 1 + 1]? = some (y :: b)) : mst ch n (t + 1) = if y < x then ((mst ch n t).set (n - t - 1) (a ++ b)).eraseIdx (n - t - 1 + 1) else mst ch n t := by
  rw [mst, h1, h2]
  simp
theorem cut_butlast (a : List Nat) (x : Nat) : cut (a ++ [x]) none (some (-1)) = a := by
  have e2 : clipAt (a ++ [x]).length (-1) = a.length := by
    unfold clipAt; simp
    try lia
  unfold cut
  simp only [Option.elim, e2, List.drop_zero, Nat.sub_zero]
  simp
theorem mst_len {ch : List (List Nat)} {n : Nat} : ∀ t, (mst ch n t).length ≤ ch.length := by
  intro t
  induction t with
  | zero => exact Nat.le_refl _
  | succ t ih =>
    rw [mst]
    split
    · have := List.length_eraseIdx_le ((mst ch n t).set (n - t - 1) ((((mst ch n t)[n - t - 1]?).getD []).dropLast ++ (((mst ch n t)[n - t - 1 + 1]?).getD []).drop 1)) (n - t - 1 + 1)
      rw [List.length_set] at this
      omega
    · exact ih
theorem tr_merge (bd : Body c (trFd P).scope) (X : Kx (Mine.hd.heap_1 P) c.toGx) (hr : Rm c.A 3) {pat qm st : List Nat} {n i j : Int} {ch res : List (List Nat)} {r : Addr} {out : List (List Nat)} (hrun : mergeRun (ch.length - 1) ch = some res) (hl : ch.length ≤ 2000) (h0 : ch ≠ []) :
    EX1 c (R0 pat qm r out [("i", .val (.int i)), ("n", .val (.int n)), ("j", .val (.int j)), ("stuff", .val (dS st)), ("chunks", .own (ch.map dS))]) (nth (trHyphen P) 5)
      (.next (R0 pat qm r out [("i", .val (.int i)), ("n", .val (.int n)), ("j", .val (.int j)), ("stuff", .val (dS st)), ("chunks", .own (res.map dS))])) := by
  have hlen : 0 < ch.length := List.length_pos_iff.mpr h0
  have hfin := mst_run hrun (ch.length - 1) (Nat.le_refl _)
  rw [Nat.sub_self, mergeRun] at hfin
  have rd := range_down (ch.length - 1) (by lia)
  refine EX1.conv (EX1.forE (c := c) (tt := false) (fun t => R0 pat qm r out [("i", .val (.int i)), ("n", .val (.int n)), ("j", .val (.int j)), ("stuff", .val (dS st)), ("chunks", .own ((mst ch (ch.length - 1) t).map dS))]) (IT.range3 (k := 0) (a := ((ch.length - 1 : Nat) : Int)) (b := 0) (st := -1) (n := ch.length - 1) (EV.built X (bd.outer (by rfl)) rfl rfl (by decide)) (EV.conv (EV.bin' (EV.lenOwn (ds := ch.map dS) (bd.outer (by rfl)) X rfl (mem_look rfl) (bd.nameOk (by rfl)) (by simp; lia)) EV.int Op2.sub_int hr (by decide)) (by simp; lia)) EV.int (EV.un EV.int Op1.neg_int (hr.less (by decide))) rfl (by decide) ?_ rd.1 rd.2 (hr.less (by decide))) (fun t d hd => ?_) (fun x => rfl)) ?_
  · unfold Builtin.divisionGoesByPylong
    rw [Bool.and_eq_false_iff]
    exact .inl (by decide)
  · have ht : t < ch.length - 1 := by have := (List.getElem?_eq_some_iff.mp hd).1; rwa [rngS_length] at this
    have hd' : d = .int ((ch.length - 1 - t : Nat) : Int) := by
      unfold rngS at hd
      rw [List.getElem?_map, List.getElem?_range ht] at hd
      simp at hd
      rw [← hd]
      congr 1
      lia
    subst hd'
    have hst := mst_run hrun t (by lia)
    rw [show ch.length - 1 - t = (ch.length - 1 - t - 1) + 1 by lia] at hst
    obtain ⟨a, b, x, y, h1, h2, l1, l2, _⟩ := merge_step hst
    have hnx := mst_next h1 h2
    have hml := mst_len (ch := ch) (n := ch.length - 1) t
    have b1 := (List.getElem?_eq_some_iff.mp h2).1
    rw [hnx]
    generalize mst ch (ch.length - 1) t = l at h1 h2 hml b1
    generalize hm : ch.length - 1 - t - 1 = m at h1 h2 b1
    have hk : ch.length - 1 - t = m + 1 := by lia
    rw [hk]
    refine ⟨_, AT.var bd (by rfl), ?_⟩
    have g1 : (l.map dS)[m]? = some (dS (a ++ [x])) := by rw [List.getElem?_map, h1]; rfl
    have g2 : (l.map dS)[m + 1]? = some (dS (y :: b)) := by rw [List.getElem?_map, h2]; rfl
    have lm : (l.map dS).length = l.length := List.length_map _
    have ev1 : ∀ {ρ : Rho} {np sp p1 p2 p3 : Pos} {kk : Nat}, (("chunks" : Str), Slot.own (l.map dS)) ∈ ρ → List.lookup ("k" : Str) ρ = some (Slot.val (D.int ((m + 1 : Nat) : Int))) → EV c ρ (.Subscript (.Name "chunks" np) (.BinOp (.Name "k" p1) .Sub (.Constant (.int 1) kk p2) p3) sp) (dS (a ++ [x])) := fun h1 h2 => EV.subOwn h1 (bd.nameOk (by rfl)) (EV.conv (EV.bin' (EV.var bd (by rfl) h2) EV.int Op2.sub_int hr (by decide)) (show _ = D.int (m : Int) by congr 1; lia)) (.inl ⟨rfl, by rw [lm]; lia⟩) g1 (by rw [lm]; lia)
    have ev2 : ∀ {ρ : Rho} {np sp p1 : Pos}, (("chunks" : Str), Slot.own (l.map dS)) ∈ ρ → List.lookup ("k" : Str) ρ = some (Slot.val (D.int ((m + 1 : Nat) : Int))) → EV c ρ (.Subscript (.Name "chunks" np) (.Name "k" p1) sp) (dS (y :: b)) := fun h1 h2 => EV.subOwn h1 (bd.nameOk (by rfl)) (EV.var bd (by rfl) h2) (.inl ⟨rfl, by rw [lm]; lia⟩) g2 (by rw [lm]; lia)
    refine EX.post (ρ' := R0 pat qm r out [("i", .val (.int i)), ("n", .val (.int n)), ("j", .val (.int j)), ("stuff", .val (dS st)), ("chunks", .own ((if y < x then (l.set m (a ++ b)).eraseIdx (m + 1) else l).map dS)), ("k", .val (.int ((m + 1 : Nat) : Int)))]) (EX.cons (EX1.ite (b := decide (y < x)) (EB.conv (EB.cmp (EV.sub (ev1 (mem_look rfl) rfl) (EV.un EV.int Op1.neg_int (hr.less (by decide))) rfl F.slot_str_getitem.lookup Op2.last_str (hr.less (by decide))) (EV.sub (ev2 (mem_look rfl) rfl) EV.int rfl F.slot_str_getitem.lookup (Op2.at_str (j := 0) (c := y) rfl (by simp; lia)) (hr.less (by decide))) Op2.gt_str (hr.less (by decide)) rfl) (by rw [one_lt])) (fun hb => ?_) (fun hb => ?_)) EX.nil) ?_
    · rw [if_pos (of_decide_eq_true hb)]
      refine EX.cons (EX1.setOwn (x := "chunks") (ds := l.map dS) (d := dS (a ++ b)) (k := (m : Int)) (j := m) (.of_look rfl) (bd.nameOk (by rfl)) (EV.bin' (EV.conv (EV.sub (ev1 (mem_look rfl) rfl) (EV.slice (dl := .none) (du := .int (-1)) (ds := .none) rfl (EV.un EV.int Op1.neg_int (hr.less (by decide))) rfl) rfl F.slot_str_getitem.lookup (Op2.slice_str .none (.int _) (by unfold sizeLine; simp; lia)) (hr.less (by decide))) (by rw [cut_butlast])) (EV.conv (EV.sub (ev2 (mem_look rfl) rfl) (EV.slice (dl := .int ((1 : Nat) : Int)) (du := .none) (ds := .none) EV.int rfl rfl) rfl F.slot_str_getitem.lookup (Op2.slice_str (.int _) .none (by unfold sizeLine; simp; lia)) (hr.less (by decide))) (by rw [cut_from]; rfl)) (Op2.add_str (by unfold sizeLine; lia)) hr (by decide)) (EV.conv (EV.bin' (EV.var bd (by rfl) rfl) EV.int Op2.sub_int hr (by decide)) (by congr 1; lia)) (.inl ⟨rfl, by rw [lm]; lia⟩) (by rw [lm]; lia) rfl) ?_
      refine EX.cons (EX1.delOwn (x := "chunks") (ds := (l.map dS).set m (dS (a ++ b))) (k := ((m + 1 : Nat) : Int)) (j := m + 1) (.of_look rfl) (bd.nameOk (by rfl)) (EV.var bd (by rfl) rfl) (.inl ⟨rfl, by rw [List.length_set, lm]; lia⟩) (by rw [List.length_set, lm]; lia)) (EX.nil.conv ?_)
      rw [map_erase, List.map_set]
      rfl
    · rw [if_neg (of_decide_eq_false hb)]
      exact EX.nil
    · exact List.sublist_append_left _ [_]
  · rw [rngS_length, ← Option.some.inj hfin]
theorem chunkRun_le {b : List Nat} : ∀ {f i k : Nat} {acc ch : List (List Nat)} {ie : Nat}, chunkRun f b i k acc = some (ie, ch) → i ≤ b.length → ie ≤ b.length ∧ ch.length ≤ acc.length + f ∧ ∀ t ∈ ch, t ∈ acc ∨ t.length ≤ b.length := by
  intro zz
  induction zz with
  | zero => intro _ _ _ _ _ h _; cases h
  | succ f IH =>
    intro i k acc ch ie h hi
    rw [chunkRun] at h
    cases hf : fndRel b k with
    | none => rw [hf] at h; cases h; exact ⟨hi, by lia, fun t ht => .inl ht⟩
    | some p =>
      rw [hf] at h
      dsimp only at h
      have hp := fndRel_lt hf
      split at h
      · obtain ⟨h1, h2, h3⟩ := IH h (by lia)
        refine ⟨h1, by simp at h2; lia, fun t ht => ?_⟩
        rcases h3 t ht with q | q
        · rcases List.mem_append.mp q with q | q
          · exact .inl q
          · rw [List.mem_singleton] at q; subst q; exact .inr (by simp; lia)
        · exact .inr q
      · cases h
end
end Mine
end
section
open PySem PySem.W PyProof.Rows PySem.Builtin.Str
set_option Elab.async false
set_option maxRecDepth 100000
set_option maxHeartbeats 2000000
set_option linter.unusedVariables false
namespace Mine
noncomputable abbrev rpS (v : Str) : Str := Txt.replace (Txt.replace v (S [92]) (S [92, 92])) (S [45]) (S [92, 45])
theorem replace_S (a : List Nat) (c : Nat) (z : List Nat) : Txt.replace (S a) (S [c]) (S z) = S (glue z (pieces c a)) := by
  have h := StrLaws.replace_one (S a) (S z) c
  have e : (⟨#[c]⟩ : Str) = S [c] := rfl
  rw [e] at h
  rw [h, split_pieces, join_S]
theorem rpS_S (a : List Nat) : rpS (S a) = S (rp a) := by
  unfold rpS rp
  rw [replace_S, replace_S]
theorem pieces_size (c : Nat) : ∀ a : List Nat, ((pieces c a).map (·.length)).sum + (pieces c a).length = a.length + 1 := by
  intro zz
  induction zz with
  | nil => exact rfl
  | cons x r IH =>
    have ih := IH
    unfold pieces
    split
    · simp only [List.map_cons, List.sum_cons, List.length_nil, List.length_cons]; lia
    · split
      · rename_i p q e
        rw [e] at ih
        simp only [List.map_cons, List.sum_cons, List.length_cons] at ih ⊢
        lia
      · rename_i e
        rw [e] at ih
        simp at ih
theorem glued_le (c : Nat) (a z : List Nat) (hz : z.length ≤ 2) : (glue z (pieces c a)).length ≤ 3 * a.length + 3 := by
  have h1 := glue_length z (pieces c a)
  have h2 := pieces_size c a
  have h3 : (pieces c a).length * z.length ≤ (pieces c a).length * 2 := Nat.mul_le_mul_left _ hz
  lia
theorem rp_le (a : List Nat) : (rp a).length ≤ 9 * a.length + 12 := by
  have h1 := glued_le 92 a [92, 92] (by simp)
  have h2 := glued_le 45 (glue [92, 92] (pieces 92 a)) [92, 45] (by simp)
  unfold rp
  lia
theorem str_S (v : Str) : v = S v.cps.toList := rfl
theorem joinOk_of {ts : List (List Nat)} (h1 : ∀ t ∈ ts, t.length ≤ 100) (h2 : ts.length ≤ 100) : JoinOk (S [45]) (ts.map fun t => rpS (S t)) = true := by
  unfold JoinOk
  rw [StrLaws.joinTotal]
  have e : (ts.map fun t => rpS (S t)) = ts.map fun t => S (rp t) := List.map_congr_left fun t xx => rpS_S t
  rw [e, List.map_map]
  have : ((ts.map fun t => (S (rp t)).length)).sum ≤ ts.length * 912 := by
    clear e h2
    induction ts with
    | nil => simp
    | cons t r ih =>
      have := ih fun t ht => h1 t (.tail _ ht)
      have h := rp_le t
      have h' := h1 t (.head _)
      simp only [List.map_cons, List.sum_cons, List.length_cons, S_length]
      simp only [S_length] at this
      lia
  have e2 : ((ts.map ((·.length) ∘ fun t => S (rp t)))).sum = ((ts.map fun t => (S (rp t)).length)).sum := rfl
  rw [e2, S_length]
  simp only [List.length_map, List.length_cons, List.length_nil]
  have : Builtin.Str.tooLong = fun n => decide (n > 16777216) := rfl
  rw [this]
  simp
  simp only [S_length] at *
  lia
theorem joined_rp (ts : List (List Nat)) : Txt.join (S [45]) (ts.map fun t => rpS (S t)) = S (glue [45] (ts.map rp)) := by
  unfold Txt.join
  rw [StrLaws.glued_eq_join]
  have e : (ts.map fun t => rpS (S t)) = (ts.map rp).map S := by rw [List.map_map]; exact List.map_congr_left fun t xx => rpS_S t
  rw [e, join_S]
theorem rep_elt {prog : Program} {w : World} {A' : Around} {E' : Value → Shared → Prop} {cenv : Env} {s₂ : Shared} {m₂ : Str → Option Value} {v : Str} {t : Tok} {x : Str} {np a1 p1 q1 q2 a2 p2 q3 q4 : Pos} {k1 k2 k3 k4 : Nat} (hk : cenv.scope.kind = .function) (hx : cenv.kindOf x = some .local) (hd : (x == ("__debug__" : Str)) = false)
    (hb1 : attributeBase (.Name x np) "replace" cenv (eval (.Name x np) cenv) = eval (.Name x np) cenv) (hl1 : (a1.endLine == p1.line) = true) (hl2 : (a2.endLine == p2.line) = true)
    (hpos : 0 < s₂.toks) (hn : s₂.heap.Ns cenv.locals m₂) (hm : m₂ x = some (.str v t)) (hl : v.length ≤ 1000) :
    wpAny (model prog w) A' (eval (.Call (.Attribute (.Call (.Attribute (.Name x np) "replace" a1) [.Constant (.str (S [92])) k1 q1, .Constant (.str (S [92, 92])) k2 q2] [] p1) "replace" a2) [.Constant (.str (S [45])) k3 q3, .Constant (.str (S [92, 45])) k4 q4] [] p2) cenv) (fun y s₃ => (∃ u, y = .str (rpS v) u) ∧ PySem.Keeps s₂ s₃) E' s₂ := by
  have hbase2 : attributeBase (.Call (.Attribute (.Name x np) "replace" a1) [.Constant (.str (S [92])) k1 q1, .Constant (.str (S [92, 92])) k2 q2] [] p1) "replace" cenv (eval (.Call (.Attribute (.Name x np) "replace" a1) [.Constant (.str (S [92])) k1 q1, .Constant (.str (S [92, 92])) k2 q2] [] p1) cenv) = eval (.Call (.Attribute (.Name x np) "replace" a1) [.Constant (.str (S [92])) k1 q1, .Constant (.str (S [92, 92])) k2 q2] [] p1) cenv := rfl
  have hv := S_length v.cps.toList
  rw [← str_S v] at hv
  refine rep_raw (v := Txt.replace v (S [92]) (S [92, 92])) hbase2 hl2 (by decide) ?_ (wpAny_with_toks (n := s₂.toks) (Nat.le_refl _) (rep_raw (v := v) hb1 hl1 (by decide) ?_ (wpAny_Name (wpAny_loadName_local hk hx hn hm ⟨t, rfl, hpos, fun t' k hk' => ⟨t', rfl, Nat.lt_of_lt_of_le hpos hk', fun t'' k' => ⟨⟨t'', rfl⟩, ⟨_, _, rfl, fun xx xx e => e⟩⟩⟩⟩) hd)))
  · have e : Txt.replace v (S [92]) (S [92, 92]) = S (glue [92, 92] (pieces 92 v.cps.toList)) := by
      have := replace_S v.cps.toList 92 [92, 92]
      rwa [← str_S v] at this
    rw [e, S_length, S_length]
    have := glued_le 92 v.cps.toList [92, 92] (by simp)
    have : (S [92, 45]).length = 2 := rfl
    simp
    lia
  · have : (S [92, 92]).length = 2 := rfl
    rw [this]
    lia
section
variable {c : Cx} {P : Params}
theorem tr_hyphen (bd : Body c (trFd P).scope) (X : Kx (Mine.hd.heap_1 P) c.toGx) (TE : TabEnv c.G 61 57) (hcode : c.env.code = .ref 61) (hr : Rm c.A 3) {pre b post qm : List Nat} {n : Int} {r : Addr} {out m : List (List Nat)} (hm : hyphen b = some m) (hb : b.length ≤ 100) (hb0 : 0 < b.length) (hpre : pre.length + post.length ≤ 10000) (hm1 : ∀ t ∈ m, t.length ≤ 100) (hm2 : m.length ≤ 100) :
    ∃ ie : Int, EX c (R0 (pre ++ (b ++ post)) qm r out [("i", .val (.int (pre.length : Nat))), ("n", .val (.int n)), ("j", .val (.int (pre.length + b.length : Nat))), ("stuff", .val (dS b))]) (trHyphen P)
      (.next (R0 (pre ++ (b ++ post)) qm r out [("i", .val (.int ie)), ("n", .val (.int n)), ("j", .val (.int (pre.length + b.length : Nat))), ("stuff", .val (dS (glue [45] (m.map rp))))])) := by
  unfold hyphen at hm
  obtain ⟨⟨ie, acc⟩, hrun, hm⟩ := Option.bind_eq_some_iff.mp hm
  obtain ⟨ch, hch, hm⟩ := Option.bind_eq_some_iff.mp hm
  dsimp only at hm hch
  refine ⟨(pre.length + ie : Nat), ?_⟩
  have hk2 : (if b.head? = some 33 then 2 else 1) ≤ 2 := by split <;> lia
  obtain ⟨b1, b2, b3⟩ := chunkRun_le hrun (Nat.zero_le _)
  have hcut : cut (pre ++ (b ++ post)) (some ((pre.length + ie : Nat) : Int)) (some ((pre.length + b.length : Nat) : Int)) = b.drop ie := by
    rw [cut_in b1 (Nat.le_refl _), List.take_of_length_le (by simp)]
  have hch2 : ch ≠ [] ∧ ch.length ≤ 2000 := by
    unfold lastChunk at hch
    split at hch
    · split at hch
      · cases hch; simp at b2 ⊢; lia
      · cases hch
    · cases hch; simp at b2 ⊢; lia
  refine EX.cons (EX1.newList (bd.sto (by rfl)) (bd.nameOk (by rfl)) rfl) ?_
  refine EX.cons (EX1.set (d := .int ((pre.length + (if b.head? = some 33 then 2 else 1) : Nat) : Int)) (EV.ite (b := decide (b.head? = some 33)) ?_ (fun h => ?_) (fun h => ?_)) (bd.sto (by rfl)) rfl) ?_
  rotate_right
  refine EX.cons (tr_cut bd X hr hrun hk2 hb hpre) ?_
  refine EX.cons (EX1.set (d := dS (b.drop ie)) (EV.conv (EV.sub (EV.var bd (by rfl) rfl) (EV.slice (dl := .int _) (du := .int _) (ds := .none) (EV.var bd (by rfl) rfl) (EV.var bd (by rfl) rfl) rfl) rfl F.slot_str_getitem.lookup (Op2.slice_str (.int _) (.int _) (by unfold sizeLine; simp; lia)) (hr.less (by decide))) (by rw [hcut])) (bd.sto (by rfl)) rfl) ?_
  refine EX.cons (ρ' := R0 (pre ++ (b ++ post)) qm r out [("i", .val (.int (pre.length + ie : Nat))), ("n", .val (.int n)), ("j", .val (.int (pre.length + b.length : Nat))), ("stuff", .val (dS b)), ("chunks", .own (ch.map dS)), ("k", .val (.int (-1))), ("chunk", .val (dS (b.drop ie)))]) (EX1.ite (b := !(b.drop ie).isEmpty) (EB.val (EV.var bd (by rfl) rfl) (Tru.str (by unfold sizeLine; simp; lia)) (hr.less (by decide)) rfl) (fun h => ?_) (fun h => ?_)) ?_
  · have h' : b.drop ie ≠ [] := by intro q; rw [q] at h; simp at h
    unfold lastChunk at hch
    rw [if_neg h'] at hch
    cases hch
    refine EX.cons (EX1.append (x := "chunks") (d := dS (b.drop ie)) (.of_look rfl) (bd.nameOk (by rfl)) (EV.var bd (by rfl) rfl) ⟨rfl, rfl, by decide, rfl⟩ (by simp at b2 ⊢; lia) bd.quiet rfl) (EX.nil.conv ?_)
    rw [List.map_append]; rfl
  · have h' : b.drop ie = [] := by
      cases hq : b.drop ie with
      | nil => rfl
      | cons a r => rw [hq] at h; simp at h
    unfold lastChunk at hch
    rw [if_pos h'] at hch
    rcases List.eq_nil_or_concat acc with rfl | ⟨acc', l, rfl⟩
    · cases hch
    · simp only [List.concat_eq_append, List.getLast?_append, List.getLast?_singleton, List.dropLast_concat] at hch b2 b3 ⊢
      cases hch
      have hl : l.length ≤ 100 := by
        rcases b3 l (by simp) with q | q
        · cases q
        · lia
      have lm : ((acc' ++ [l]).map dS).length = acc'.length + 1 := by simp
      refine EX.cons (EX1.augOwn (x := "chunks") (kk := 0) (ds := (acc' ++ [l]).map dS) (d0 := dS l) (d1 := dS [45]) (d := dS (l ++ [45])) (k := -1) (j := acc'.length) (.of_look rfl) (bd.nameOk (by rfl)) (strS (l := [45]) rfl) (EV.un EV.int Op1.neg_int (hr.less (by decide))) (.inr ⟨rfl, by rw [lm]⟩) (by simp) (Op2.iadd_str (by unfold sizeLine; simp; lia)) (hr.less (by decide)) (by rw [lm]; simp at b2; lia) (fun xx xx xx => rfl)) (EX.nil.conv ?_)
      have e : ((acc' ++ [l]).map dS).set acc'.length (dS (l ++ [45])) = (acc' ++ [l ++ [45]]).map dS := by
        rw [List.map_append, List.map_append]
        rw [List.set_append_right _ _ (by simp)]
        simp
      rw [e]
      rfl
  · refine EX.pre (ρ' := R0 (pre ++ (b ++ post)) qm r out [("i", .val (.int (pre.length + ie : Nat))), ("n", .val (.int n)), ("j", .val (.int (pre.length + b.length : Nat))), ("stuff", .val (dS b)), ("chunks", .own (ch.map dS))]) (List.sublist_append_left _ [_, _]) (EX.cons (tr_merge bd X hr hm hch2.2 hch2.1) ?_)
    refine EX.freeze (x := "chunks") (.of_look rfl) ?_
    refine EX.post (ρ' := R0 (pre ++ (b ++ post)) qm r out [("i", .val (.int (pre.length + ie : Nat))), ("n", .val (.int n)), ("j", .val (.int (pre.length + b.length : Nat))), ("stuff", .val (dS (glue [45] (m.map rp)))), ("chunks", .val (.list (m.map dS)))]) (EX.cons (EX1.setT (EVt.joinGen (x := "STAR") (d := .none) (f := rpS) (ts := m) (sep := [45]) TE (.of_look rfl) hcode bd.globals ?_ (mem_look rfl) (bd.nameOk (by rfl)) (hr.less (by decide)) rfl (by decide) rfl rfl rfl (fun C code A' E' s₂ m₂ v t hA hpos hn hmx hl => ?_) (fun t ht => by have := hm1 t ht; lia) (by lia) (joinOk_of hm1 hm2) ⟨rfl, rfl, by decide, rfl⟩) (bd.sto (by rfl)) rfl) (EX.nil.conv ?_)) (List.sublist_append_left _ [_])
    · exact closureFor_none (by decide)
    · exact rep_elt rfl rfl (by decide) rfl rfl rfl hpos hn hmx hl
    · rw [joined_rp]; rfl
  · obtain ⟨h0, b', rfl⟩ : ∃ h0 b', b = h0 :: b' := by
      cases b with
      | nil => simp at hb0
      | cons a r => exact ⟨a, r, rfl⟩
    have hg : (pre ++ ((h0 :: b') ++ post))[pre.length]? = some h0 := by simp
    refine EB.conv (EB.cmp (EV.sub (EV.var bd (by rfl) rfl) (EV.var bd (by rfl) rfl) rfl F.slot_str_getitem.lookup (Op2.at_str hg (by simp; simp at hb; lia)) (hr.less (by decide))) (strS (l := [33]) rfl) Op2.eq_str (hr.less (by decide)) rfl) ?_
    rw [beq_one]
    simp only [List.head?_cons, Option.some.injEq]
    rfl
  · rw [if_pos (of_decide_eq_true h)]
    exact EV.conv (EV.bin' (EV.var bd (by rfl) rfl) EV.int Op2.add_int hr (by decide)) (by congr 1)
  · rw [if_neg (of_decide_eq_false h)]
    exact EV.conv (EV.bin' (EV.var bd (by rfl) rfl) EV.int Op2.add_int hr (by decide)) (by congr 1)
end
end Mine
end
section
open PySem PySem.W PyProof.Rows PySem.Builtin.Str
set_option Elab.async false
set_option tactic.hygienic false
set_option maxRecDepth 100000
set_option maxHeartbeats 2000000
set_option linter.unusedVariables false
namespace Mine
section
variable {c : Cx} {P : Params}
theorem occ_none {a : List Nat} {y : Nat} (h : y ∉ a) : occurrences (S a) (S [y]) 0 (S a).length ((S a).length + 1) = [] := by
  have h1 := StrLaws.occ_length_le (S a) (S [y]) 0 (S a).length 1
  have h2 := StrLaws.occ_spec (S a) (S [y]) 0 (S a).length ((S a).length + 1)
  cases hq : occurrences (S a) (S [y]) 0 (S a).length ((S a).length + 1) with
  | nil => rfl
  | cons i r =>
    rw [hq] at h2
    have h3 := h2 i (.head _)
    have := (at_one (a := a) (c := y) (n := a.length) (i := i) rfl).mp (by rw [S_length] at h3; exact h3)
    exact absurd (List.mem_of_getElem? this) h
theorem brOk_facts {b part : List Nat} (h : brOk b part = true) : closed b = true ∧ b.length ≤ 100 ∧ (∀ m, hyphen b = some m → (∀ t ∈ m, t.length ≤ 100) ∧ m.length ≤ 100) ∧ ∃ st, stuffOf b = some st ∧ quietText st = true ∧ st ≠ [] ∧ st.length ≤ 100 ∧ st.head? ≠ some 94 ∧ st.head? ≠ some 91 ∧ part = partOf st := by
  unfold brOk at h
  rw [Bool.and_eq_true, Bool.and_eq_true, Bool.and_eq_true, Bool.and_eq_true] at h
  obtain ⟨⟨⟨⟨h1, h2⟩, h3⟩, h4⟩, h5⟩ := h
  refine ⟨h1, of_decide_eq_true h2, fun m hm => ?_, ?_⟩
  · rw [hm] at h3 h4
    simp only [Option.getD_some, List.all_eq_true] at h3 h4
    exact ⟨fun t ht => of_decide_eq_true (h3 t ht), of_decide_eq_true h4⟩
  · cases hs : stuffOf b with
    | none => rw [hs] at h5; cases h5
    | some st =>
      rw [hs] at h5
      simp only [Bool.and_eq_true, decide_eq_true_eq, beq_iff_eq] at h5
      obtain ⟨⟨⟨⟨⟨q1, q2⟩, q3⟩, q4⟩, q5⟩, q6⟩ := h5
      exact ⟨st, rfl, q1, q2, q3, q4, q5, q6⟩
theorem R0_snoc {pat qm p : List Nat} {r : Addr} {out : List (List Nat)} {rest : Rho} : R0 pat qm r (out ++ [p]) rest = setSlot "res" (.ownAt r (out.map dS ++ [dS p])) (R0 pat qm r out rest) := by
  unfold R0
  rw [List.map_append]
  rfl
theorem tr_inner (bd : Body c (trFd P).scope) (X : Kx (Mine.hd.heap_1 P) c.toGx) (TE : TabEnv c.G 61 57) (hcode : c.env.code = .ref 61) (hr : Rm c.A 3) {pre b post qm part : List Nat} {n : Int} {r : Addr} {out : List (List Nat)} (hok : brOk b part = true) (hpre : pre.length + post.length ≤ 10000) (hout : out.length ≤ 10000) :
    EX c (R0 (pre ++ (b ++ post)) qm r out [("i", .val (.int (pre.length : Nat))), ("n", .val (.int n)), ("j", .val (.int (pre.length + b.length : Nat)))]) (trInner P)
      (.next (R0 (pre ++ (b ++ post)) qm r (out ++ [part]) [("i", .val (.int (pre.length + b.length + 1 : Nat))), ("n", .val (.int n))])) := by
  obtain ⟨hcl, hb, hhy, st, hst, hquiet, hne, hstl, h94, h91, rfl⟩ := brOk_facts hok
  have hb0 : 0 < b.length := by
    unfold closed at hcl
    simp only [Bool.and_eq_true, decide_eq_true_eq] at hcl
    lia
  have hbase : cut (pre ++ (b ++ post)) (some ((pre.length : Nat) : Int)) (some ((pre.length + b.length : Nat) : Int)) = b := by
    have := cut_in (pre := pre) (b := b) (post := post) (i := 0) (j := b.length) (Nat.zero_le _) (Nat.le_refl _)
    simpa using this
  refine EX.cons (EX1.set (d := dS b) (EV.conv (EV.sub (EV.var bd (by rfl) rfl) (EV.slice (dl := .int _) (du := .int _) (ds := .none) (EV.var bd (by rfl) rfl) (EV.var bd (by rfl) rfl) rfl) rfl F.slot_str_getitem.lookup (Op2.slice_str (.int _) (.int _) (by unfold sizeLine; simp; lia)) (hr.less (by decide))) (by rw [hbase])) (bd.sto (by rfl)) rfl) ?_
  have main : ∃ ie : Int, EX1 c (R0 (pre ++ (b ++ post)) qm r out [("i", .val (.int (pre.length : Nat))), ("n", .val (.int n)), ("j", .val (.int (pre.length + b.length : Nat))), ("stuff", .val (dS b))]) (nth (trInner P) 1) (.next (R0 (pre ++ (b ++ post)) qm r out [("i", .val (.int ie)), ("n", .val (.int n)), ("j", .val (.int (pre.length + b.length : Nat))), ("stuff", .val (dS st))])) := by
    unfold stuffOf at hst
    by_cases h45 : 45 ∈ b
    · rw [if_pos h45] at hst
      obtain ⟨m, hm, rfl⟩ := Option.map_eq_some_iff.mp hst
      obtain ⟨ie, hie⟩ := tr_hyphen bd X TE hcode hr (qm := qm) (n := n) (r := r) (out := out) hm hb hb0 hpre (hhy m hm).1 (hhy m hm).2
      exact ⟨ie, EX1.ite (b := false) (EB.conv (EB.cmp (strS (l := [45]) rfl) (EV.var bd (by rfl) rfl) Op2.notin_one (hr.less (by decide)) rfl) (by simp [h45])) (fun q => by cases q) (fun xx => hie)⟩
    · rw [if_neg h45] at hst
      split at hst
      · cases hst
      · rename_i h92
        cases hst
        refine ⟨(pre.length : Nat), EX1.ite (b := true) (EB.conv (EB.cmp (strS (l := [45]) rfl) (EV.var bd (by rfl) rfl) Op2.notin_one (hr.less (by decide)) rfl) (by simp [h45])) (fun xx => ?_) (fun q => by cases q)⟩
        refine EX.cons (EX1.set (d := dS b) (EV.meth (k := 0) (EV.var bd (by rfl) rfl) (.two (strS (l := [92]) rfl) (strS (l := [92, 92]) rfl) rfl) (Fn.replace0 (occ_none h92)) (hr.less (by decide)) rfl F.plainAttrs_str F.slot_str_replace F.type_str_replace ⟨rfl, rfl, by decide, rfl⟩) (bd.sto (by rfl)) rfl) (EX.nil.conv rfl)
  obtain ⟨ie, hmain⟩ := main
  refine EX.cons hmain ?_
  refine EX.cons (EX1.setT (d := dS st) (EVt.subLam (x := "STAR") (d := .none) (pa := 43) (pc := 42) (code := code43) TE (.of_look rfl) rfl hcode bd.globals (closureFor_none (by decide)) (EV.glob X (bd.outer (by rfl)) rfl) ⟨⟨_, _, _, _, _, X.inn _ _ rfl, rfl, rfl⟩, _, X.inn _ _ rfl, 0, rfl⟩ (fun o e => by rw [X.inn 43 _ rfl] at e; cases e; rfl) (EV.var bd (by rfl) rfl) hr.handled hne (by lia) hquiet ⟨rfl, rfl, by decide, rfl⟩ rfl) (bd.sto (by rfl)) rfl) ?_
  refine EX.cons (EX1.set (d := .int ((pre.length + b.length + 1 : Nat) : Int)) (EV.conv (EV.bin' (EV.var bd (by rfl) rfl) EV.int Op2.add_int hr (by decide)) (by congr 1)) (bd.sto (by rfl)) rfl) ?_
  obtain ⟨h0, st', rfl⟩ : ∃ h0 st', st = h0 :: st' := by
    cases st with
    | nil => exact absurd rfl hne
    | cons a r => exact ⟨a, r, rfl⟩
  refine EX.post (ρ' := R0 (pre ++ (b ++ post)) qm r (out ++ [partOf (h0 :: st')]) [("i", .val (.int (pre.length + b.length + 1 : Nat))), ("n", .val (.int n)), ("j", .val (.int (pre.length + b.length : Nat))), ("stuff", .val (dS (if h0 :: st' = [33] then [33] else if h0 = 33 then [94] ++ st' else h0 :: st')))]) (EX.cons (EX1.ite (b := false) (EB.conv (EB.not (EB.val (EV.var bd (by rfl) rfl) (Tru.str (by unfold sizeLine; lia)) (hr.less (by decide)) rfl)) rfl) (fun q => by cases q) (fun xx => EX.cons (EX1.ite (b := decide (h0 :: st' = [33])) (EB.conv (EB.cmp (EV.var bd (by rfl) rfl) (strS (l := [33]) rfl) Op2.eq_str (hr.less (by decide)) rfl) (by rw [Bool.eq_iff_iff]; simp)) (fun hq => ?_) (fun hq => ?_)) EX.nil)) EX.nil) (List.sublist_append_left _ [_, _])
  · have hq := of_decide_eq_true hq
    rw [if_pos hq]
    refine EX.cons (EX1.addTo (x := "res") (y := "add") (d := dS [46]) (.of_look rfl) (mem_look rfl) (bd.nameOk (by rfl)) (strS (l := [46]) rfl) (by simp; lia) rfl bd.quiet rfl) (EX.nil.conv ?_)
    unfold partOf
    rw [if_pos hq, R0_snoc, hq]
    rfl
  · have hq := of_decide_eq_false hq
    rw [if_neg hq]
    have hg : (h0 :: st')[0]? = some h0 := rfl
    refine EX.cons (EX1.ite (b := decide (h0 = 33)) (o := .next (R0 (pre ++ (b ++ post)) qm r out [("i", .val (.int (pre.length + b.length + 1 : Nat))), ("n", .val (.int n)), ("j", .val (.int (pre.length + b.length : Nat))), ("stuff", .val (dS (if h0 = 33 then [94] ++ st' else h0 :: st')))])) (EB.conv (EB.cmp (EV.sub (EV.var bd (by rfl) rfl) EV.int rfl F.slot_str_getitem.lookup (Op2.at_str (j := 0) hg (by lia)) (hr.less (by decide))) (strS (l := [33]) rfl) Op2.eq_str (hr.less (by decide)) rfl) (by rw [beq_one]; rfl)) (fun hq => ?_) (fun hq => ?_)) ?_
    · have hq := of_decide_eq_true hq
      rw [if_pos hq]
      refine EX.cons (EX1.set (d := dS ([94] ++ st')) (EV.bin' (strS (l := [94]) rfl) (EV.conv (EV.sub (EV.var bd (by rfl) rfl) (EV.slice (dl := .int ((1 : Nat) : Int)) (du := .none) (ds := .none) EV.int rfl rfl) rfl F.slot_str_getitem.lookup (Op2.slice_str (.int _) .none (by unfold sizeLine; lia)) (hr.less (by decide))) (by rw [cut_from]; rfl)) (Op2.add_str (by unfold sizeLine; simp at hstl ⊢; lia)) hr (by decide)) (bd.sto (by rfl)) rfl) (EX.nil.conv rfl)
    · have hq := of_decide_eq_false hq
      rw [if_neg hq]
      refine EX.cons (EX1.ite (b := false) (EB.conv (EB.cmp (EV.sub (EV.var bd (by rfl) rfl) EV.int rfl F.slot_str_getitem.lookup (Op2.at_str (j := 0) hg (by lia)) (hr.less (by decide))) (EV.tuple (.two (strS (l := [94]) rfl) (strS (l := [91]) rfl) rfl) (by unfold sizeLine; simp)) Op2.in_pair (hr.less (by decide)) rfl) ?_) (fun q => by cases q) (fun xx => EX.nil)) EX.nil
      simp at h94 h91 ⊢
      exact ⟨h94, h91⟩
    · refine EX.cons (EX1.addTo (x := "res") (y := "add") (d := dS (partOf (h0 :: st'))) (.of_look rfl) (mem_look rfl) (bd.nameOk (by rfl)) (EV.conv (EV.fstr (a := [91]) (b := [93]) (l := if h0 = 33 then [94] ++ st' else h0 :: st') (EV.var bd (by rfl) rfl) ?_) ?_) (by simp; lia) rfl bd.quiet rfl) (EX.nil.conv ?_)
      · simp at hstl
        split <;> simp <;> lia
      · unfold partOf
        rw [if_neg hq]
        by_cases h33 : h0 = 33
        · rw [if_pos h33, if_pos (by rw [h33]; rfl)]; rfl
        · rw [if_neg h33, if_neg (by simpa using h33)]
      · rw [R0_snoc]
end
end Mine
end
section
open PySem PySem.W PyProof.Rows PySem.Builtin.Str
set_option Elab.async false
set_option tactic.hygienic false
set_option maxRecDepth 100000
set_option maxHeartbeats 2000000
set_option linter.unusedVariables false
namespace Mine
section
variable {c : Cx} {P : Params}
theorem tr_bracket (bd : Body c (trFd P).scope) (X : Kx (Mine.hd.heap_1 P) c.toGx) (TE : TabEnv c.G 61 57) (hcode : c.env.code = .ref 61) (hr : Rm c.A 3) {pre b post pat qm part : List Nat} {r : Addr} {out : List (List Nat)} (hpat : pat = pre ++ (b ++ 93 :: post)) (hok : brOk b part = true) (hpre : pre.length + post.length ≤ 9000) (hout : out.length ≤ 10000) :
    EX c (R0 pat qm r out [("i", .val (.int (pre.length : Nat))), ("n", .val (.int (pat.length : Nat)))]) (thenOf (trElse P))
      (.next (R0 pat qm r (out ++ [part]) [("i", .val (.int (pre.length + b.length + 1 : Nat))), ("n", .val (.int (pat.length : Nat)))])) := by
  obtain ⟨hcl, hb, _⟩ := brOk_facts hok
  have hlen : pat.length = pre.length + b.length + post.length + 1 := by rw [hpat]; simp; lia
  have hget : ∀ k, k < b.length → pat[pre.length + k]? = b[k]? := fun k hk => by
    rw [hpat, List.getElem?_append_right (by lia), show pre.length + k - pre.length = k by lia, List.getElem?_append_left hk]
  have hend : pat[pre.length + b.length]? = some 93 := by
    rw [hpat, List.getElem?_append_right (by lia), show pre.length + b.length - pre.length = b.length by lia, List.getElem?_append_right (by lia)]
    simp
  unfold closed at hcl
  simp only [Bool.and_eq_true, decide_eq_true_eq, List.all_eq_true, bne_iff_ne, ne_eq] at hcl
  obtain ⟨h0, hall⟩ := hcl
  generalize hp0 : (if b.head? = some 33 then 1 else 0) = p0 at h0 hall
  generalize hp1 : (if b[p0]? = some 93 then p0 + 1 else p0) = p1 at hall
  have hp1' : p1 ≤ b.length := by rw [← hp1]; split <;> lia
  have hlt : ∀ {ρ : Rho} {k : Nat} {p1 p2 p : Pos}, k ≤ b.length → List.lookup ("j" : Str) ρ = some (Slot.val (D.int ((pre.length + k : Nat) : Int))) → List.lookup ("n" : Str) ρ = some (Slot.val (D.int (pat.length : Nat))) → EB c ρ (.Compare (.Name "j" p1) [.Lt] [.Name "n" p2] p) true := fun {ρ k p1 p2 p} hk e1 e2 => EB.conv (EB.cmp (EV.var bd (by rfl) e1) (EV.var bd (by rfl) e2) Op2.lt_int (hr.less (by decide)) rfl) (decide_eq_true (by lia))
  have hsub : ∀ {ρ : Rho} {k x : Nat} {p1 p2 p : Pos}, pat[pre.length + k]? = some x → List.lookup ("j" : Str) ρ = some (Slot.val (D.int ((pre.length + k : Nat) : Int))) → List.lookup ("pat" : Str) ρ = some (Slot.val (dS pat)) → EV c ρ (.Subscript (.Name "pat" p1) (.Name "j" p2) p) (dS [x]) := fun {ρ k x p1 p2 p} hg e1 e2 => EV.sub (EV.var bd (by rfl) e2) (EV.var bd (by rfl) e1) rfl F.slot_str_getitem.lookup (Op2.at_str hg (by lia)) (hr.less (by decide))
  refine EX.cons (EX1.set (d := .int ((pre.length + 0 : Nat) : Int)) (EV.var bd (by rfl) rfl) (bd.sto (by rfl)) rfl) ?_
  have hb0 : 0 < b.length := by lia
  refine EX.cons (ρ' := R0 pat qm r out [("i", .val (.int (pre.length : Nat))), ("n", .val (.int (pat.length : Nat))), ("j", .val (.int (pre.length + p0 : Nat)))]) (EX1.ite (b := true && (b[0] == 33)) (EB.and (hlt (k := 0) (by lia) rfl rfl) (fun xx => EB.conv (EB.cmp (hsub (k := 0) (x := b[0]) (by rw [hget 0 hb0]; simp) rfl rfl) (strS (l := [33]) rfl) Op2.eq_str (hr.less (by decide)) rfl) (by rw [beq_one]))) (fun h => ?_) (fun h => ?_)) ?_
  · have : b[0] = 33 := by simpa using h
    have e : p0 = 1 := by rw [← hp0, if_pos (by rw [List.head?_eq_getElem?, List.getElem?_eq_getElem hb0, this])]
    subst e
    exact EX.cons (EX1.set (d := .int ((pre.length + 1 : Nat) : Int)) (EV.conv (EV.bin' (EV.var bd (by rfl) rfl) EV.int Op2.add_int hr (by decide)) (by congr 1)) (bd.sto (by rfl)) rfl) (EX.nil.conv rfl)
  · have : b[0] ≠ 33 := by simpa using h
    have e : p0 = 0 := by rw [← hp0, if_neg (by rw [List.head?_eq_getElem?, List.getElem?_eq_getElem hb0]; simpa using this)]
    subst e
    exact EX.nil.conv rfl
  refine EX.cons (ρ' := R0 pat qm r out [("i", .val (.int (pre.length : Nat))), ("n", .val (.int (pat.length : Nat))), ("j", .val (.int (pre.length + p1 : Nat)))]) (EX1.ite (b := true && (b[p0] == 93)) (EB.and (hlt (k := p0) (by lia) rfl rfl) (fun xx => EB.conv (EB.cmp (hsub (k := p0) (x := b[p0]) (by rw [hget p0 h0]; simp) rfl rfl) (strS (l := [93]) rfl) Op2.eq_str (hr.less (by decide)) rfl) (by rw [beq_one]))) (fun h => ?_) (fun h => ?_)) ?_
  · have : b[p0] = 93 := by simpa using h
    have e : p1 = p0 + 1 := by rw [← hp1, if_pos (by rw [List.getElem?_eq_getElem h0, this])]
    subst e
    exact EX.cons (EX1.set (d := .int ((pre.length + (p0 + 1) : Nat) : Int)) (EV.conv (EV.bin' (EV.var bd (by rfl) rfl) EV.int Op2.add_int hr (by decide)) (by congr 1)) (bd.sto (by rfl)) rfl) (EX.nil.conv rfl)
  · have : b[p0] ≠ 93 := by simpa using h
    have e : p1 = p0 := by rw [← hp1, if_neg (by rw [List.getElem?_eq_getElem h0]; simpa using this)]
    subst e
    exact EX.nil.conv rfl
  refine EX.cons (ρ' := R0 pat qm r out [("i", .val (.int (pre.length : Nat))), ("n", .val (.int (pat.length : Nat))), ("j", .val (.int (pre.length + b.length : Nat)))]) (EX1.whlBy (fun (k : Nat) => R0 pat qm r out [("i", .val (.int (pre.length : Nat))), ("n", .val (.int (pat.length : Nat))), ("j", .val (.int (pre.length + k : Nat)))]) (fun k => p1 ≤ k ∧ k ≤ b.length) (fun k => b.length - k) _ (fun k hk => ?_) p1 ⟨Nat.le_refl _, hp1'⟩) ?_
  · rcases Nat.lt_or_ge k b.length with hkb | hkb
    · have hne : b[k] ≠ 93 := by
        refine hall _ ?_
        rw [List.mem_drop_iff_getElem]
        exact ⟨k - p1, by lia, by congr 1; lia⟩
      refine .inl ⟨EB.conv (EB.and (hlt (k := k) (by lia) rfl rfl) (fun xx => EB.cmp (hsub (k := k) (x := b[k]) (by rw [hget k hkb]; simp) rfl rfl) (strS (l := [93]) rfl) Op2.ne_str (hr.less (by decide)) rfl)) (by simpa using hne), k + 1, ?_, ⟨by lia, by lia⟩, by lia⟩
      exact EX.cons (EX1.set (d := .int ((pre.length + (k + 1) : Nat) : Int)) (EV.conv (EV.bin' (EV.var bd (by rfl) rfl) EV.int Op2.add_int hr (by decide)) (by congr 1)) (bd.sto (by rfl)) rfl) (EX.nil.conv rfl)
    · have e : k = b.length := by lia
      subst e
      exact .inr ⟨EB.conv (EB.and (hlt (k := b.length) (by lia) rfl rfl) (fun xx => EB.cmp (hsub (k := b.length) (x := 93) hend rfl rfl) (strS (l := [93]) rfl) Op2.ne_str (hr.less (by decide)) rfl)) (by decide), rfl⟩
  have hin := tr_inner bd X TE hcode hr (pre := pre) (b := b) (post := 93 :: post) (qm := qm) (n := (pat.length : Nat)) (r := r) (out := out) hok (by simp; lia) hout
  rw [← hpat] at hin
  exact EX.cons (EX1.ite (b := false) (EB.conv (EB.cmp (EV.var bd (by rfl) rfl) (EV.var bd (by rfl) rfl) Op2.ge_int (hr.less (by decide)) rfl) (decide_eq_false (by lia))) (fun q => by cases q) (fun xx => hin)) EX.nil
end
end Mine
end
section
set_option Elab.async false
set_option tactic.hygienic false
set_option linter.unusedVariables false
set_option maxRecDepth 100000
set_option maxHeartbeats 1000000
namespace Mine
open PySem PySem.W PySem.Calls PyProof.Rows
theorem codeOf {g : Gx} {K : Frag} {k : Nat} {f : Addr} {name qual : Str} {params : Arguments} {body : List Stmt} {scope : Scope} {dV kV doc pm cdv ct oc : Value} {an od : Option Addr} {osl : Array (Option Value)} {xs : List Str} {ds : List D} {Fin : Value → Shared → Prop} {s : Shared} {H : List Addr} (X : Kx K g)
    (ho : K.lookup f = some ⟨oc, od, .func (fnOf name qual params body scope dV kV doc pm an cdv ct), osl⟩) (hcd : codeIn K cdv qual = true)
    (hbind : ∀ vs : List Value, vs.length = ds.length → bindArgs (fnOf name qual params body scope dV kV doc pm an cdv ct) ⟨vs, []⟩ = pure (xs.zip vs)) (hnd : xs.Nodup) (hsn : (scope.names.map (·.1)).Nodup)
    (hkind : ∀ x ∈ xs, isVar scope x = true)
    (hb : ∀ A L E s₁, Rm A k → Body (cxOf g A (callEnvC (fnOf name qual params body scope dV kV doc pm an cdv ct) L f)) scope → St (cxOf g A (callEnvC (fnOf name qual params body scope dV kV doc pm an cdv ct) L f)) s s.heap.get? H (xs.zip (ds.map Slot.val)) [] s₁ → wpAny (model g.prog g.w) A (execs body (callEnvC (fnOf name qual params body scope dV kV doc pm an cdv ct) L f)) (fun fl s₂ => ∃ v, fl = .ret v ∧ Fin v s₂) E s₁)
    (hco : autoParam (scope.isCoroutine = false) rflTac) (hgen : autoParam (scope.isGenerator = false) rflTac) (hk : autoParam (scope.kind = .function) rflTac) {A : Around} {vs : List Value} {E : Value → Shared → Prop} (hr : Rm A (k + 1)) (hok : Ok g s H) (hvs : RepL (Zof s.heap H) vs ds) : wpAny (model g.prog g.w) A (call (.ref f) vs) Fin E s := by
  have up : ∀ b o, g.G.get? b = some o → s.heap.get? b = some o := fun b o e => (hok.2.1 b o e).1
  refine wpAny_call (codeAny_call_function (fd := fnOf name qual params body scope dV kV doc pm an cdv ct) (body := body) (by have := hr.depth; lia) (up _ _ (X.inn _ _ ho)) rfl hco hgen rfl (codeRec_of (X.inn.keeps up) hcd) ?_)
  rw [hbind vs hvs.length]
  exact wpAny_pure (enterG X ho hcd hnd hsn hkind hb hco hgen hk A vs _ hr hok hvs fun v s' q => q)
end Mine
end
section
set_option Elab.async false
set_option tactic.hygienic false
set_option linter.unusedVariables false
set_option maxRecDepth 100000
set_option maxHeartbeats 1000000
namespace Mine
open PySem PySem.W PySem.Calls PyProof.Rows
section
variable {c : Cx} {sg : Shared} {B : Mp} {Y : List Addr} {fs : List Addr} {m cm : Str → Option Value} {ρ ρ' : Rho} {T : List (Value × D)} {s s' : Shared} {cd P : Addr}
theorem StO.take {x : Str} {d : D} {ps : Array Value} (y : StO c sg B Y fs m cm ρ T s) (hY : P ∈ Y) (hB : B P = some (tabObj ps)) (ht : TriplesOk ps.toList) (hx : HasSlot x (.val d) ρ) (hcells : ∀ x a, c.env.cells.lookup x = some a → a ∈ c.oc) :
    ∃ fs', StO c sg (fun a => if a = P then none else B a) (Y.filter (· != P)) fs' m cm (setSlot x (.tab P d) ρ) T s := by
  have ndf : fs.Nodup := by have := y.nd; rw [List.nodup_cons, List.nodup_append] at this; exact this.2.2.1
  obtain ⟨f1, f2, ef, hv⟩ := VarsIs.turn (sl := .val d) (h := s.heap) (sl' := .tab P d) (gs := []) (gs' := [P]) (Le.refl _) (fun v' lv q' => show SlotIs (Zof s.heap (c.env.locals :: (c.oc ++ fs) ++ Y)) s.heap v' (.tab P d) [P] from ⟨rfl, q'.2, ps, y.keep _ _ hB, ht⟩) y.vars hx (fun b xx xx o e => e) ndf (fun v' f lv q' => q'.1)
  have ef' : fs = f1 ++ f2 := by simpa using ef
  have hP : P ∉ c.env.locals :: (c.oc ++ fs) := fun q => (y.own P q).2.2 hY
  have hmem : ∀ a, a ∈ c.env.locals :: (c.oc ++ (f1 ++ [P] ++ f2)) ↔ a = P ∨ a ∈ c.env.locals :: (c.oc ++ fs) := fun a => by
    rw [ef']
    simp only [List.mem_cons, List.mem_append, List.mem_nil_iff, or_false]
    constructor
    · rintro (h | h | (h | h) | h) <;> simp [h]
    · rintro (h | h | h | h | h) <;> simp [h]
  have hz : Le (Zof s.heap (c.env.locals :: (c.oc ++ fs) ++ Y)) (Zof s.heap (c.env.locals :: (c.oc ++ (f1 ++ [P] ++ f2)) ++ Y.filter (· != P))) := Zof.sub fun a ha => by
    rcases List.mem_append.mp ha with q | q
    · rcases (hmem a).mp q with q | q
      · exact List.mem_append.mpr (.inr (q ▸ hY))
      · exact List.mem_append.mpr (.inl q)
    · exact List.mem_append.mpr (.inr (List.mem_filter.mp q).1)
  refine ⟨f1 ++ [P] ++ f2, ?_, fun a ha => ?_, fun a ha => y.hid a (List.mem_filter.mp ha).1, fun b o e => ?_, fun b o e => ?_, y.ns, fun x a e => ⟨(y.cells x a e).1, .inl (hcells x a e)⟩, hv.mono hz fun xx xx xx e => e, fun p hp => (y.temps p hp).mono hz, y.same, y.mono⟩
  · have hp : (c.env.locals :: (c.oc ++ (f1 ++ [P] ++ f2))).Perm (P :: (c.env.locals :: (c.oc ++ (f1 ++ f2)))) := by
      have h1 : (c.oc ++ (f1 ++ [P] ++ f2)) = (c.oc ++ f1) ++ P :: f2 := by simp
      have h2 : (c.oc ++ (f1 ++ f2)) = (c.oc ++ f1) ++ f2 := by simp
      rw [h1, h2]
      exact (List.Perm.cons _ List.perm_middle).trans (List.Perm.swap _ _ _)
    rw [hp.nodup_iff, List.nodup_cons]
    rw [← ef']
    exact ⟨hP, y.nd⟩
  · rcases (hmem a).mp ha with q | q
    · subst q
      exact ⟨if_pos rfl, ⟨_, y.keep _ _ hB⟩, fun q => by have := (List.mem_filter.mp q).2; simp at this⟩
    · have ha' : a ≠ P := fun e => hP (e ▸ q)
      obtain ⟨h1, h2, h3⟩ := y.own a q
      exact ⟨by rw [if_neg ha']; exact h1, h2, fun q => h3 (List.mem_filter.mp q).1⟩
  · split at e
    · cases e
    · exact y.keep b o e
  · obtain ⟨h1, h2⟩ := y.base b o e
    have hb : b ≠ P := fun q => h2 (q ▸ hY)
    exact ⟨by rw [if_neg hb]; exact h1, fun q => h2 (List.mem_filter.mp q).1⟩
noncomputable def EXk (c : Cx) (ρ : Rho) (ss : List Stmt) (ρ' : Rho) (d : D) : Prop := ∀ sg B Y T s E, St c sg B Y ρ T s → wpAny c.M c.A (execs ss c.env) (fun fl s' => ∃ v, fl = .ret v ∧ St c sg B Y ρ' ((v, d) :: T) s') E s
theorem EXk.cons {ρ₁ : Rho} {st : Stmt} {ss : List Stmt} {d : D} (h1 : EX1 c ρ st (.next ρ₁)) (h2 : EXk c ρ₁ ss ρ' d) : EXk c ρ (st :: ss) ρ' d := fun sg B Y T s E h =>
  wpAny_execs_cons (wpAny_mono (h1 sg B Y T s E h) (fun f s₁ q => by obtain ⟨rfl, q⟩ := q; exact h2 sg B Y T s₁ E q) fun xx xx e => e)
theorem EXk.ret {e : Expr} {p : Pos} {ss : List Stmt} {d : D} (h : EV c ρ e d) : EXk c ρ (.Return (some e) p :: ss) ρ d := fun sg B Y T s E y =>
  wpAny_execs_cons (wpAny_Return_some (y.ev h fun v s₁ q => ⟨v, rfl, q⟩))
theorem EXk.freeze {x : Str} {sl : Slot} {ss : List Stmt} {d : D} (hx : HasSlot x sl ρ) (h : EXk c (setSlot x (.val sl.cold) ρ) ss ρ' d) : EXk c ρ ss ρ' d := fun sg B Y T s E y => h sg B Y T s E (y.freeze hx)
theorem EXk.known {x : Str} {ds : List D} {ss : List Stmt} {d : D} (hx : HasSlot x (.own ds) ρ) (h : ∀ r, EXk c (setSlot x (.ownAt r ds) ρ) ss ρ' d) : EXk c ρ ss ρ' d := fun sg B Y T s E hqz => by
  obtain ⟨fs, m, cm, y⟩ := hqz
  obtain ⟨v, gs, l, q, hsub⟩ := St.lookOwn y hx
  obtain ⟨a, vs, n, rfl, rfl, e1, r⟩ := id q
  have ndf : fs.Nodup := by have := y.nd; rw [List.nodup_cons, List.nodup_append] at this; exact this.2.2.1
  obtain ⟨f1, f2, ef, hv⟩ := VarsIs.turn (sl' := .ownAt a ds) (gs' := [a]) (Le.refl _) (fun v' lv q' => by
    rw [l] at lv; cases lv
    exact ⟨vs, n, rfl, rfl, e1, r⟩) y.vars hx (fun b xx xx o e => e) ndf (fun v' f lv q' => by rw [l] at lv; cases lv; exact q'.uniq q)
  rw [← ef] at hv
  exact h a sg B Y T s E ⟨fs, m, cm, y.nd, y.own, y.hid, y.keep, y.base, y.ns, y.cells, hv, y.temps, y.same, y.mono⟩
theorem VarsIs.swap {Z : Mp} {h : Heap} {lk : Str → Option Value} {x y : Str} {a b : D} {ρ2 : Rho} : ∀ {ρ1 : Rho} {fs : List Addr}, VarsIs Z h lk (ρ1 ++ (x, .val a) :: (y, .val b) :: ρ2) fs → VarsIs Z h lk (ρ1 ++ (y, .val b) :: (x, .val a) :: ρ2) fs := by
  intro ρ1
  induction ρ1 with
  | nil =>
    intro fs hx
    obtain ⟨v, f1, f2, e, l, ⟨e1, r1⟩, u, g1, g2, e', l', ⟨e2, r2⟩, z⟩ := hx
    subst e1 e2
    exact ⟨u, [], f2, e, l', ⟨rfl, r2⟩, v, [], g2, e', l, ⟨rfl, r1⟩, z⟩
  | cons p r ih =>
    intro fs hx
    obtain ⟨w, t⟩ := p
    obtain ⟨v, f1, f2, e, l, q, z⟩ := hx
    exact ⟨v, f1, f2, e, l, q, ih z⟩
theorem St.swap {x y : Str} {a b : D} {ρ1 ρ2 : Rho} (h : St c sg B Y (ρ1 ++ (x, .val a) :: (y, .val b) :: ρ2) T s) : St c sg B Y (ρ1 ++ (y, .val b) :: (x, .val a) :: ρ2) T s := by
  obtain ⟨fs, m, cm, z⟩ := h
  exact ⟨fs, m, cm, z.nd, z.own, z.hid, z.keep, z.base, z.ns, z.cells, z.vars.swap, z.temps, z.same, z.mono⟩
theorem EXk.swap {x y : Str} {a b : D} {ρ1 ρ2 : Rho} {ss : List Stmt} {d : D} (h : EXk c (ρ1 ++ (y, .val b) :: (x, .val a) :: ρ2) ss ρ' d) : EXk c (ρ1 ++ (x, .val a) :: (y, .val b) :: ρ2) ss ρ' d := fun sg B Y T s E q => h sg B Y T s E q.swap
end
end Mine
end
section
open PySem PySem.W PyProof.Rows PySem.Builtin.Str
set_option Elab.async false
set_option tactic.hygienic false
set_option maxRecDepth 100000
set_option maxHeartbeats 2000000
set_option linter.unusedVariables false
namespace Mine
noncomputable def TokOk (qm : List Nat) (t : List Nat × List Nat) : Prop :=
  (∃ c, (c = 47 ∨ c = 97 ∨ c = 33 ∨ c = 93) ∧ t = ([c], esc c)) ∨ t = ([63], qm) ∨ ∃ b, t.1 = 91 :: (b ++ [93]) ∧ brOk b t.2 = true
noncomputable def textOf (ts : List (List Nat × List Nat)) : List Nat := (ts.map (·.1)).flatten
theorem textOf_append (a b : List (List Nat × List Nat)) : textOf (a ++ b) = textOf a ++ textOf b := by unfold textOf; rw [List.map_append, List.flatten_append]
section
variable {c : Cx} {P : Params}
noncomputable def trIf (P : Params) : Stmt := nth (trLoop P) 2
theorem tr_turn (bd : Body c (trFd P).scope) (X : Kx (Mine.hd.heap_1 P) c.toGx) (TE : TabEnv c.G 61 57) (hcode : c.env.code = .ref 61) (hr : Rm c.A 3) {pre post pat qm : List Nat} {t : List Nat × List Nat} {r : Addr} {out : List (List Nat)} (hpat : pat = pre ++ (t.1 ++ post)) (ht : TokOk qm t) (hl : pat.length ≤ 9000) (hout : out.length ≤ 10000) :
    EX c (R0 pat qm r out [("i", .val (.int (pre.length : Nat))), ("n", .val (.int (pat.length : Nat)))]) (trLoop P)
      (.next (R0 pat qm r (out ++ [t.2]) [("i", .val (.int (pre.length + t.1.length : Nat))), ("n", .val (.int (pat.length : Nat)))])) := by
  have head : ∀ {x : Nat} {tl : List Nat} {o : Rho}, t.1 = x :: tl → EX c (R0 pat qm r out [("i", .val (.int (pre.length + 1 : Nat))), ("n", .val (.int (pat.length : Nat))), ("c", .val (dS [x]))]) [trIf P] (.next o) → EX c (R0 pat qm r out [("i", .val (.int (pre.length : Nat))), ("n", .val (.int (pat.length : Nat)))]) (trLoop P) (.next o) := fun {x tl o} e h => by
    have hg : pat[pre.length]? = some x := by rw [hpat, e]; simp
    refine EX.cons (EX1.set (d := dS [x]) (EV.sub (EV.var bd (by rfl) rfl) (EV.var bd (by rfl) rfl) rfl F.slot_str_getitem.lookup (Op2.at_str hg (by lia)) (hr.less (by decide))) (bd.sto (by rfl)) rfl) ?_
    refine EX.cons (EX1.set (d := .int ((pre.length + 1 : Nat) : Int)) (EV.conv (EV.bin' (EV.var bd (by rfl) rfl) EV.int Op2.add_int hr (by decide)) (by congr 1)) (bd.sto (by rfl)) rfl) ?_
    exact h
  have test : ∀ {x y : Nat} {z : Str} {ρ : Rho} {k : Nat} {p1 p2 p : Pos}, z = S [y] → List.lookup ("c" : Str) ρ = some (Slot.val (dS [x])) → EB c ρ (.Compare (.Name "c" p1) [.Eq] [.Constant (.str z) k p2] p) (x == y) := fun {x y z ρ k p1 p2 p} ez e => EB.conv (EB.cmp (EV.var bd (by rfl) e) (strS ez) Op2.eq_str (hr.less (by decide)) rfl) (by rw [beq_one])
  rcases ht with ⟨x, hx, rfl⟩ | rfl | ⟨b, hb, hok⟩
  · refine head (x := x) rfl ?_
    have h1 : x ≠ 42 ∧ x ≠ 63 ∧ x ≠ 91 := by lia
    refine EX.post (ρ' := R0 pat qm r (out ++ [esc x]) [("i", .val (.int (pre.length + 1 : Nat))), ("n", .val (.int (pat.length : Nat))), ("c", .val (dS [x]))]) (EX.cons (EX1.ite (b := false) (EB.conv (test (y := 42) rfl rfl) (by simpa using h1.1)) (fun q => by cases q) (fun xx => EX.cons (EX1.ite (b := false) (EB.conv (test (y := 63) rfl rfl) (by simpa using h1.2.1)) (fun q => by cases q) (fun xx => EX.cons (EX1.ite (b := false) (EB.conv (test (y := 91) rfl rfl) (by simpa using h1.2.2)) (fun q => by cases q) (fun xx => ?_)) EX.nil)) EX.nil)) EX.nil) (List.sublist_append_left _ [_])
    refine EX.cons (EX1.addTo (x := "res") (y := "add") (d := dS (esc x)) (.of_look rfl) (mem_look rfl) (bd.nameOk (by rfl)) (EV.callF bd X (by rfl) rfl rfl rfl (.one (EV.var bd (by rfl) rfl) rfl) (f_escape X hx) hr (by decide) rfl) (by simp; lia) rfl bd.quiet rfl) (EX.nil.conv ?_)
    rw [R0_snoc]
  · refine head (x := 63) rfl ?_
    refine EX.post (ρ' := R0 pat qm r (out ++ [qm]) [("i", .val (.int (pre.length + 1 : Nat))), ("n", .val (.int (pat.length : Nat))), ("c", .val (dS [63]))]) (EX.cons (EX1.ite (b := false) (EB.conv (test (y := 42) rfl rfl) (by decide)) (fun q => by cases q) (fun xx => EX.cons (EX1.ite (b := true) (EB.conv (test (y := 63) rfl rfl) (by decide)) (fun xx => ?_) (fun q => by cases q)) EX.nil)) EX.nil) (List.sublist_append_left _ [_])
    refine EX.cons (EX1.addTo (x := "res") (y := "add") (d := dS qm) (.of_look rfl) (mem_look rfl) (bd.nameOk (by rfl)) (EV.var bd (by rfl) rfl) (by simp; lia) rfl bd.quiet rfl) (EX.nil.conv ?_)
    rw [R0_snoc]
  · obtain ⟨t1, t2⟩ := t
    dsimp only at hb hok hpat ⊢
    subst hb
    refine head (x := 91) rfl ?_
    refine EX.cons (EX1.ite (b := false) (EB.conv (test (y := 42) rfl rfl) (by decide)) (fun q => by cases q) (fun xx => EX.cons (EX1.ite (b := false) (EB.conv (test (y := 63) rfl rfl) (by decide)) (fun q => by cases q) (fun xx => EX.cons (EX1.ite (b := true) (EB.conv (test (y := 91) rfl rfl) (by decide)) (fun xx => ?_) (fun q => by cases q)) EX.nil)) EX.nil)) EX.nil
    have hpat' : pat = (pre ++ [91]) ++ (b ++ 93 :: post) := by rw [hpat]; simp
    have hlen : pat.length = pre.length + b.length + post.length + 2 := by rw [hpat]; simp; lia
    have hbr := tr_bracket bd X TE hcode hr (qm := qm) (r := r) (out := out) hpat' hok (by simp; lia) hout
    have e : (pre ++ [91]).length + b.length + 1 = pre.length + (91 :: (b ++ [93])).length := by simp; lia
    rw [e] at hbr
    have e2 : (pre ++ [91]).length = pre.length + 1 := by simp
    rw [e2] at hbr
    exact EX.pre (List.sublist_append_left _ [_]) hbr
theorem TokOk.ne {qm : List Nat} {t : List Nat × List Nat} (h : TokOk qm t) : 0 < t.1.length := by
  rcases h with ⟨x, _, rfl⟩ | rfl | ⟨b, hb, _⟩
  · exact Nat.zero_lt_one
  · exact Nat.zero_lt_one
  · rw [hb]; simp
theorem text_split (ts : List (List Nat × List Nat)) {k : Nat} (hk : k < ts.length) : textOf ts = textOf (ts.take k) ++ (ts[k].1 ++ textOf (ts.drop (k + 1))) := by
  have h := List.take_append_drop k ts
  have hd := List.drop_eq_getElem_cons hk
  have e : textOf (ts.drop k) = ts[k].1 ++ textOf (ts.drop (k + 1)) := by rw [hd]; unfold textOf; rw [List.map_cons, List.flatten_cons]
  rw [← e, ← textOf_append, h]
theorem tr_loop (bd : Body c (trFd P).scope) (X : Kx (Mine.hd.heap_1 P) c.toGx) (TE : TabEnv c.G 61 57) (hcode : c.env.code = .ref 61) (hr : Rm c.A 3) {pat qm : List Nat} {ts : List (List Nat × List Nat)} {r : Addr} (hpat : pat = textOf ts) (ht : ∀ t ∈ ts, TokOk qm t) (hl : pat.length ≤ 9000) (hn : ts.length ≤ 9000) :
    EX1 c (R0 pat qm r [] [("i", .val (.int (0 : Nat))), ("n", .val (.int (pat.length : Nat)))]) (nth (bodyOf (trFd P)) 3)
      (.next (R0 pat qm r (ts.map (·.2)) [("i", .val (.int (pat.length : Nat))), ("n", .val (.int (pat.length : Nat)))])) := by
  refine EX1.whlBy (fun (k : Nat) => R0 pat qm r ((ts.take k).map (·.2)) [("i", .val (.int ((textOf (ts.take k)).length : Nat))), ("n", .val (.int (pat.length : Nat)))]) (fun k => k ≤ ts.length) (fun k => ts.length - k) _ (fun k hk => ?_) 0 (Nat.zero_le _)
  rcases Nat.lt_or_ge k ts.length with h | h
  · have hs := text_split ts h
    have htk := ht ts[k] (List.getElem_mem h)
    have hne := htk.ne
    have hlt : (textOf (ts.take k)).length < pat.length := by rw [hpat, hs]; simp; lia
    refine .inl ⟨EB.conv (EB.cmp (EV.var bd (by rfl) rfl) (EV.var bd (by rfl) rfl) Op2.lt_int (hr.less (by decide)) rfl) (decide_eq_true (by lia)), k + 1, ?_, by lia, by lia⟩
    have hturn := tr_turn bd X TE hcode hr (qm := qm) (r := r) (out := (ts.take k).map (·.2)) (hpat.trans hs) htk hl (by simp; lia)
    have e1 : (ts.take k).map (·.2) ++ [ts[k].2] = (ts.take (k + 1)).map (·.2) := by rw [← List.map_singleton (f := fun (p : List Nat × List Nat) => p.2), ← List.map_append, List.take_append_getElem h]
    have e2 : (textOf (ts.take k)).length + ts[k].1.length = (textOf (ts.take (k + 1))).length := by
      rw [← List.take_append_getElem h, textOf_append, List.length_append]
      congr 1
      simp [textOf]
    rw [e1, e2] at hturn
    exact hturn
  · have e : k = ts.length := by lia
    subst e
    have e2 : textOf (ts.take ts.length) = pat := by rw [List.take_length, hpat]
    refine .inr ⟨EB.conv (EB.cmp (EV.var bd (by rfl) rfl) (EV.var bd (by rfl) rfl) Op2.lt_int (hr.less (by decide)) rfl) (by rw [e2]; exact decide_eq_false (by lia)), ?_⟩
    rw [e2, List.take_length]
theorem EXk.post {ρ ρ' ρ'' : Rho} {ss : List Stmt} {d : D} (h : EXk c ρ ss ρ' d) (hs : ρ''.Sublist ρ') : EXk c ρ ss ρ'' d := fun sg B Y T s E y => wpAny_mono (h sg B Y T s E y) (fun fl s' hqz => by obtain ⟨v, e, q⟩ := hqz; exact ⟨v, e, q.weaken hs⟩) fun xx xx e => e
theorem tr_body (bd : Body c (trFd P).scope) (X : Kx (Mine.hd.heap_1 P) c.toGx) (TE : TabEnv c.G 61 57) (hcode : c.env.code = .ref 61) (hr : Rm c.A 3) {pat qm : List Nat} {ts : List (List Nat × List Nat)} (hpat : pat = textOf ts) (ht : ∀ t ∈ ts, TokOk qm t) (hl : pat.length ≤ 9000) (hn : ts.length ≤ 9000) :
    EXk c [("pat", .val (dS pat)), ("STAR", .tab 57 .none), ("QUESTION_MARK", .val (dS qm))] (bodyOf (trFd P)) [("STAR", .tab 57 .none)] (.list (ts.map fun t => dS t.2)) := by
  refine EXk.cons (EX1.newList (bd.sto (by rfl)) (bd.nameOk (by rfl)) rfl) ?_
  refine EXk.known (x := "res") (ds := []) (.of_look rfl) fun r => ?_
  refine EXk.cons (EX1.set (d := .bnd r) (EV.bound (mem_look rfl) (bd.nameOk (by rfl)) rfl) (bd.sto (by rfl)) rfl) ?_
  refine EXk.cons (EX1.assignSwap (x := "i") (y := "n") (d1 := .int (0 : Nat)) (d2 := .int (pat.length : Nat)) (EV.tuple (.two EV.int (EV.callB bd X (by rfl) rfl rfl (by decide) (.inl ⟨_, rfl⟩) (.one (EV.var bd (by rfl) rfl) rfl) (Fn.len_str (by lia)) hr (by decide) rfl) rfl) (by unfold sizeLine; simp)) (bd.sto (by rfl)) (bd.sto (by rfl)) hr rfl (by
    have e := bd.is
    generalize c.env = env at e ⊢
    cases env
    dsimp only at e
    subst e
    rfl)) ?_
  refine EXk.swap (ρ1 := R0 pat qm r [] []) (x := "n") (y := "i") (a := .int (pat.length : Nat)) (b := .int (0 : Nat)) (ρ2 := []) ?_
  refine EXk.cons (tr_loop bd X TE hcode hr hpat ht hl hn) ?_
  refine EXk.cons (EX1.assert (EB.conv (EB.cmp (EV.var bd (by rfl) rfl) (EV.var bd (by rfl) rfl) Op2.eq_int (hr.less (by decide)) rfl) (by simp))) ?_
  refine EXk.freeze (x := "res") (.of_look rfl) ?_
  have e : (ts.map fun t => dS t.2) = (ts.map (·.2)).map dS := by rw [List.map_map]; rfl
  rw [e]
  refine EXk.post (EXk.ret (EV.var bd (by rfl) rfl)) ?_
  exact .cons _ (.cons_cons _ (.cons _ (.cons _ (.cons _ (.cons _ (.cons _ .slnil))))))
end
section
variable {g : Gx} {P : Params}
theorem f_translate (X : Kx (Mine.hd.heap_1 P) g) (TE : TabEnv g.G 61 57) {pat qm : List Nat} {ts : List (List Nat × List Nat)} (hpat : pat = textOf ts) (ht : ∀ t ∈ ts, TokOk qm t) (hl : pat.length ≤ 9000) (hn : ts.length ≤ 9000) {A : Around} {s : Shared} {H : List Addr} {vs : List Value} {E : Value → Shared → Prop} {ps : Array Value} (hr : Rm A 4) (ok : Ok g s H) (hH : 57 ∈ H) (hP : s.heap.get? 57 = some (tabObj ps)) (hps : TriplesOk ps.toList) (hvs : RepL (Zof s.heap H) vs [dS pat, .none, dS qm]) :
    wpAny (model g.prog g.w) A (call (.ref 62) vs) (fun v s' => TabStep 57 s s' ∧ Rep (Zof s'.heap H) v (.list (ts.map fun t => dS t.2))) E s := by
  refine codeOf (k := 3) (xs := ["pat", "STAR", "QUESTION_MARK"]) (H := H) X rfl rfl (fun vs hl => by obtain ⟨v1, v2, v3, rfl⟩ := len3 hl; rfl) (by decide) (by decide) (by decide) (fun A L E s₁ hr bd q => ?_) (hr := hr) (hok := ok) (hvs := hvs)
  obtain ⟨fs, m, cm, y⟩ := q
  obtain ⟨fs', y'⟩ := y.take (P := 57) (x := "STAR") (d := .none) hH hP hps (.of_look rfl) (fun x a e => by cases e)
  refine wpAny_mono (tr_body (c := cxOf g A _) bd X TE rfl hr hpat ht hl hn _ _ _ _ _ _ ⟨fs', m, cm, y'⟩) (fun fl s₂ q2 => ?_) fun xx xx e => e
  obtain ⟨v, ev, fs2, m2, cm2, z⟩ := q2
  refine ⟨v, ev, ?_, ?_⟩
  · obtain ⟨ps', p1, p2⟩ := St.table z (x := "STAR") (P := 57) (d := .none) (.of_look rfl)
    refine ⟨s₂.heap, s₂.toks, s₂.gens, z.same.1, fun b o hb e => z.keep b o ?_, ⟨ps', p1, p2⟩, z.mono.1, z.same.2⟩
    show (if b = 57 then none else s.heap.get? b) = some o
    rw [if_neg hb]; exact e
  · refine (z.temps (v, _) (.head _)).mono (Zof.sub fun a ha => ?_)
    by_cases hb : a = 57
    · subst hb
      refine List.mem_append.mpr (.inl ?_)
      obtain ⟨v', gs', l, q, hsub⟩ := St.lookOwn z (x := "STAR") (sl := .tab 57 .none) (.of_look rfl)
      obtain ⟨rfl, _⟩ := q
      exact .tail _ (List.mem_append.mpr (.inr (hsub _ (.head _))))
    · exact List.mem_append.mpr (.inr (List.mem_filter.mpr ⟨ha, by simpa using hb⟩))
end
end Mine
end
section
open PySem PySem.W PyProof.Rows
set_option Elab.async false
set_option tactic.hygienic false
set_option maxRecDepth 100000
set_option maxHeartbeats 1000000
set_option linter.unusedVariables false
namespace Mine
theorem items_signs : ∀ it ∈ items, SignsOk it.2 := fun it hm => by
  unfold items at hm
  simp only [List.mem_cons, List.not_mem_nil, or_false] at hm
  rcases hm with rfl | rfl | rfl | rfl | rfl | rfl | rfl | rfl | rfl | rfl | rfl | rfl | rfl | rfl | rfl | rfl <;> exact ⟨by decide, by decide, by decide, by decide⟩
noncomputable def itPart (it : Itm) : List Nat := (tokPart it.1).getD []
theorem items_tok : ∀ it ∈ items, TokOk [91, 94, 47, 93] (it.1, itPart it) ∧ itPart it ≠ [47] ∧ it.1 ≠ [] ∧ it.1.head? ≠ some 47 ∧ it.1.getLast? ≠ some 47 ∧ it.1.length ≤ 7 := fun it hm => by
  unfold items at hm
  simp only [List.mem_cons, List.not_mem_nil, or_false] at hm
  rcases hm with rfl | rfl | rfl | rfl | rfl | rfl | rfl | rfl | rfl | rfl | rfl | rfl | rfl | rfl | rfl | rfl
  · exact ⟨.inr (.inl rfl), by decide, by decide, by decide, by decide, by decide⟩
  · exact ⟨.inl ⟨97, by decide, rfl⟩, by decide, by decide, by decide, by decide, by decide⟩
  · exact ⟨.inr (.inr ⟨[33, 97], rfl, by decide +kernel⟩), by decide +kernel, by decide, by decide, by decide, by decide⟩
  · exact ⟨.inr (.inr ⟨[97, 45, 99], rfl, by decide +kernel⟩), by decide +kernel, by decide, by decide, by decide, by decide⟩
  · exact ⟨.inr (.inr ⟨[93, 97], rfl, by decide +kernel⟩), by decide +kernel, by decide, by decide, by decide, by decide⟩
  · exact ⟨.inr (.inr ⟨[33, 93, 98], rfl, by decide +kernel⟩), by decide +kernel, by decide, by decide, by decide, by decide⟩
  · exact ⟨.inr (.inr ⟨[97, 45], rfl, by decide +kernel⟩), by decide +kernel, by decide, by decide, by decide, by decide⟩
  · exact ⟨.inr (.inr ⟨[33, 45, 97], rfl, by decide +kernel⟩), by decide +kernel, by decide, by decide, by decide, by decide⟩
  · exact ⟨.inr (.inr ⟨[45, 45, 98], rfl, by decide +kernel⟩), by decide +kernel, by decide, by decide, by decide, by decide⟩
  · exact ⟨.inr (.inr ⟨[99, 45, 97, 98, 33], rfl, by decide +kernel⟩), by decide +kernel, by decide, by decide, by decide, by decide⟩
  · exact ⟨.inr (.inr ⟨[33, 99, 45, 97], rfl, by decide +kernel⟩), by decide +kernel, by decide, by decide, by decide, by decide⟩
  · exact ⟨.inr (.inr ⟨[98, 45, 97, 33, 97], rfl, by decide +kernel⟩), by decide +kernel, by decide, by decide, by decide, by decide⟩
  · exact ⟨.inr (.inr ⟨[33, 99, 45, 97, 45], rfl, by decide +kernel⟩), by decide +kernel, by decide, by decide, by decide, by decide⟩
  · exact ⟨.inl ⟨93, by decide, rfl⟩, by decide, by decide, by decide, by decide, by decide⟩
  · exact ⟨.inl ⟨33, by decide, rfl⟩, by decide, by decide, by decide, by decide, by decide⟩
  · exact ⟨.inr (.inr ⟨[33, 33, 45], rfl, by decide +kernel⟩), by decide +kernel, by decide, by decide, by decide, by decide⟩
noncomputable def sgOf (p : List Nat) : List Nat := ((items.find? fun it => itPart it == p).map (·.2)).getD []
theorem items_sg : ∀ it ∈ items, sgOf (itPart it) = it.2 := by
  have h : items.all (fun it => sgOf (itPart it) == it.2) = true := by decide +kernel
  intro it hm
  have := List.all_eq_true.mp h it hm
  exact eq_of_beq this
section
variable {g : Gx} {P : Params}
theorem items_read (X : Kx (Mine.hd.heap_1 P) g) : ∀ it ∈ items, Fn g 2 (.ref 243) [dS (itPart it)] (dS it.2) := fun it hm => by
  unfold items at hm
  simp only [List.mem_cons, List.not_mem_nil, or_false] at hm
  have set : ∀ (t u : List Nat) (b0 : Nat) (body : List Nat) (sg : List (Nat × Bool)), itPart (t, u) = 91 :: ((b0 :: body) ++ [93]) → parse (if b0 = 94 then body else b0 :: body) = some sg → body.length ≤ 1000 → restOf (b0 == 94) sg = u → Fn g 2 (.ref 243) [dS (itPart (t, u))] (dS u) := fun t u b0 body sg e h1 h2 h3 => by
    rw [e, ← h3]; exact f_read_set X h2 h1
  rcases hm with rfl | rfl | rfl | rfl | rfl | rfl | rfl | rfl | rfl | rfl | rfl | rfl | rfl | rfl | rfl | rfl
  · exact set _ _ 94 [47] _ (by decide +kernel) rfl (by decide) (by decide +kernel)
  · exact f_read_sign X (pre := []) (c := 97) (h := 97) rfl (by decide) (by decide) (by decide)
  · exact set _ _ 94 [97] _ (by decide +kernel) rfl (by decide) (by decide +kernel)
  · exact set _ _ 97 [45, 99] _ (by decide +kernel) rfl (by decide) (by decide +kernel)
  · exact set _ _ 93 [97] _ (by decide +kernel) rfl (by decide) (by decide +kernel)
  · exact set _ _ 94 [93, 98] _ (by decide +kernel) rfl (by decide) (by decide +kernel)
  · exact set _ _ 97 [92, 45] _ (by decide +kernel) rfl (by decide) (by decide +kernel)
  · exact set _ _ 94 [92, 45, 97] _ (by decide +kernel) rfl (by decide) (by decide +kernel)
  · exact set _ _ 92 [45, 45, 98] _ (by decide +kernel) rfl (by decide) (by decide +kernel)
  · exact set _ _ 98 [33] _ (by decide +kernel) rfl (by decide) (by decide +kernel)
  · have e : itPart ([91, 33, 99, 45, 97, 93], [33, 45, 93, 97, 98, 99]) = [46] := by decide +kernel
    rw [e]
    exact f_read_dot X
  · exact set _ _ 94 [97] _ (by decide +kernel) rfl (by decide) (by decide +kernel)
  · exact set _ _ 94 [92, 45] _ (by decide +kernel) rfl (by decide) (by decide +kernel)
  · exact f_read_sign X (pre := [92]) (c := 93) (h := 92) rfl (by decide) (by decide) (by decide)
  · exact f_read_sign X (pre := []) (c := 33) (h := 33) rfl (by decide) (by decide) (by decide)
  · exact set _ _ 94 [33, 92, 45] _ (by decide +kernel) rfl (by decide) (by decide +kernel)
end
end Mine
end
section
open PySem PySem.W PyProof.Rows
set_option Elab.async false
set_option tactic.hygienic false
set_option maxRecDepth 100000
set_option maxHeartbeats 1000000
set_option linter.unusedVariables false
namespace Mine
structure DrawnOk (dss : List (List Itm)) (k : Nat) : Prop where
  rows : ∀ row ∈ dss, row ≠ [] ∧ ∀ it ∈ row, it ∈ items
  count : dss.flatten.length = k
theorem itemAt_mem (x : Int) : itemAt x ∈ items := by
  have h := fmod16 x
  have hk : (x.fmod 16).toNat < items.length := by rw [items_length]; omega
  unfold itemAt
  rw [List.getD, List.getElem?_eq_getElem hk]
  exact List.getElem_mem hk
theorem nstep_ok {dss : List (List Itm)} {k : Nat} (h : DrawnOk dss k) (x : Int) : DrawnOk (nstep dss x) (k + 1) ∧ nstep dss x ≠ [] := by
  have hi := itemAt_mem x
  unfold nstep
  cases ho : opens dss x with
  | true =>
    simp only [if_true, addLast_snoc, List.nil_append]
    refine ⟨⟨fun row hr => ?_, ?_⟩, by simp⟩
    · rcases List.mem_append.mp hr with q | q
      · exact h.rows row q
      · rw [List.mem_singleton] at q; subst q
        exact ⟨by simp, fun it hit => by rw [List.mem_singleton] at hit; subst hit; exact hi⟩
    · rw [List.flatten_append, List.length_append, h.count]; rfl
  | false =>
    first | refine wpAny_ite_false rfl ?_ | refine (if_neg Bool.false_ne_true).mpr ?_ | simp only [Bool.false_eq_true, if_false]
    have hne : dss ≠ [] := fun e => by subst e; simp [opens] at ho
    obtain ⟨p, l, rfl⟩ := snoc_of_ne hne
    rw [addLast_snoc]
    refine ⟨⟨fun row hr => ?_, ?_⟩, by simp⟩
    · rcases List.mem_append.mp hr with q | q
      · exact h.rows row (List.mem_append.mpr (.inl q))
      · rw [List.mem_singleton] at q; subst q
        refine ⟨by simp, fun it hit => ?_⟩
        rcases List.mem_append.mp hit with q | q
        · exact (h.rows l (by simp)).2 it q
        · rw [List.mem_singleton] at q; subst q; exact hi
    · have := h.count
      simp at this ⊢
      lia
theorem drawn_fold : ∀ (xs : List Int) (dss : List (List Itm)) (k : Nat), DrawnOk dss k → DrawnOk (xs.foldl nstep dss) (k + xs.length) ∧ (xs ≠ [] → xs.foldl nstep dss ≠ []) := by
  intro zz
  induction zz with
  | nil => intro dss k h; exact ⟨h, fun q => absurd rfl q⟩
  | cons x r IH =>
    intro dss k h
    have h1 := nstep_ok h x
    have ih := IH (nstep dss x) (k + 1) h1.1
    refine ⟨?_, fun xx => ?_⟩
    · rw [List.foldl_cons, List.length_cons, show k + (r.length + 1) = k + 1 + r.length by lia]; exact ih.1
    · rw [List.foldl_cons]
      cases r with
      | nil => exact h1.2
      | cons y r => exact ih.2 (by simp)
theorem drawn_ok (xs : List Int) : DrawnOk (drawn xs) xs.length ∧ (xs ≠ [] → drawn xs ≠ []) := by
  have := drawn_fold xs [] 0 ⟨fun row h => (nomatch h), rfl⟩
  rw [Nat.zero_add] at this
  exact this
noncomputable def toldOf (dss : List (List Itm)) : List (List (List Nat)) := dss.map fun row => row.map (·.2)
section
variable {dss : List (List Itm)} {k : Nat}
theorem DrawnOk.told (h : DrawnOk dss k) : RowsOk (toldOf dss) := fun row hr s hs => by
  obtain ⟨row', hr', rfl⟩ := List.mem_map.mp hr
  obtain ⟨it, hit, rfl⟩ := List.mem_map.mp hs
  exact items_signs it ((h.rows row' hr').2 it hit)
theorem len_flatten {α : Type} : ∀ {l : List (List α)}, (∀ r ∈ l, r ≠ []) → l.length ≤ l.flatten.length ∧ ∀ r ∈ l, r.length ≤ l.flatten.length := by
  intro zz
  induction zz with
  | nil => intro _; exact ⟨Nat.le_refl _, fun r h => (nomatch h)⟩
  | cons a l IH =>
    intro h
    have ih := IH fun r hr => h r (.tail _ hr)
    have ha : 0 < a.length := List.length_pos_iff.mpr (h a (.head _))
    rw [List.flatten_cons, List.length_append, List.length_cons]
    refine ⟨by lia, fun r hr => ?_⟩
    cases hr with
    | head => lia
    | tail _ hr => have := ih.2 r hr; lia
theorem DrawnOk.small (h : DrawnOk dss k) : dss.length ≤ k ∧ ∀ row ∈ dss, row.length ≤ k := by
  have := len_flatten fun r hr => (h.rows r hr).1
  rw [h.count] at this
  exact this
theorem rowSize_le : ∀ {row : List (List Nat)}, (∀ s ∈ row, SignsOk s) → rowSize row ≤ 6 ^ row.length := by
  intro zz
  induction zz with
  | nil => intro _; exact Nat.le_refl _
  | cons s r IH =>
    intro h
    rw [rowSize_cons, List.length_cons, Nat.pow_succ, Nat.mul_comm]
    exact Nat.mul_le_mul (IH fun t ht => h t (.tail _ ht)) (h s (.head _)).le
theorem size_le : ∀ {rows : List (List (List Nat))}, RowsOk rows → size rows ≤ 6 ^ rows.flatten.length := by
  intro zz
  induction zz with
  | nil => intro _; exact Nat.le_refl _
  | cons row rest IH =>
    intro h
    rw [size_cons, List.flatten_cons, List.length_append, Nat.pow_add]
    exact Nat.mul_le_mul (rowSize_le (h row (.head _))) (IH fun t ht => h t (.tail _ ht))
theorem told_flatten (dss : List (List Itm)) : (toldOf dss).flatten.length = dss.flatten.length := by
  unfold toldOf
  induction dss with
  | nil => rfl
  | cons a l ih => simp only [List.map_cons, List.flatten_cons, List.length_append, List.length_map, ih]
theorem DrawnOk.size (h : DrawnOk dss k) (hk : k ≤ 10) : size (toldOf dss) < 2 ^ 29 := by
  have h1 := size_le h.told
  rw [told_flatten, h.count] at h1
  have h2 : (6 : Nat) ^ k ≤ 6 ^ 10 := Nat.pow_le_pow_right (by decide) hk
  have h3 : (6 : Nat) ^ 10 < 2 ^ 29 := by decide
  lia
end
theorem nm_mem : ∀ {row : List (List Nat)}, (∀ s ∈ row, SignsOk s) → ∀ (n : Nat), (∀ c ∈ nm row n, ∃ s ∈ row, c ∈ s) ∧ ∀ q ∈ row.zip (nm row n), q.1 ∈ row ∧ q.2 ∈ q.1 := by
  intro zz
  induction zz with
  | nil => intro _ n; exact ⟨fun c h => (nomatch h), fun q h => (nomatch h)⟩
  | cons s r IH =>
    intro h n
    have ih := IH (fun x hx => h x (.tail _ hx)) n
    have hs := h s (.head _)
    have hd := digit_lt hs (n / rowSize r)
    have hm : s.getD (n / rowSize r % s.length) 0 ∈ s := by rw [getD_get hd]; exact List.getElem_mem hd
    constructor
    · intro c hc
      simp only [nm] at hc
      cases hc with
      | head => exact ⟨s, .head _, hm⟩
      | tail _ hc => obtain ⟨t, h1, h2⟩ := ih.1 c hc; exact ⟨t, .tail _ h1, h2⟩
    · intro q hq
      simp only [nm, List.zip_cons_cons] at hq
      cases hq with
      | head => exact ⟨.head _, hm⟩
      | tail _ hq => have := ih.2 q hq; exact ⟨.tail _ this.1, this.2⟩
theorem pn_mem : ∀ {rows : List (List (List Nat))} {n : Nat}, (∀ x ∈ pn rows n, ∃ row ∈ rows, ∃ k, x = nm row k) ∧ ∀ p ∈ rows.zip (pn rows n), p.1 ∈ rows ∧ ∃ k, p.2 = nm p.1 k := by
  intro zz
  induction zz with
  | nil => intro _; exact ⟨fun x h => (nomatch h), fun p h => (nomatch h)⟩
  | cons row rest IH =>
    intro n
    have ih := IH (n := n)
    constructor
    · intro x hx
      simp only [pn] at hx
      cases hx with
      | head => exact ⟨row, .head _, _, rfl⟩
      | tail _ hx => obtain ⟨r, h1, h2⟩ := ih.1 x hx; exact ⟨r, .tail _ h1, h2⟩
    · intro p hp
      simp only [pn, List.zip_cons_cons] at hp
      cases hp with
      | head => exact ⟨.head _, _, rfl⟩
      | tail _ hp => have := ih.2 p hp; exact ⟨.tail _ this.1, this.2⟩
theorem SignsOk.free {s : List Nat} (h : SignsOk s) : (∀ c ∈ s, c < 128) ∧ 47 ∉ s ∧ 46 ∉ s := by
  refine ⟨fun c hc => ?_, fun hc => ?_, fun hc => ?_⟩
  · have := h.small c hc; lia
  · have := h.small _ hc; lia
  · have := h.small _ hc; lia
theorem nm_ok {row : List (List Nat)} (h : ∀ s ∈ row, SignsOk s) (hne : row ≠ []) (n : Nat) : NameOK (nm row n) ∧ nm row n ≠ [46] := by
  have hm := (nm_mem h n).1
  refine ⟨⟨?_, fun hc => ?_, fun c hc => ?_⟩, fun e => ?_⟩
  · intro e
    have := nm_length row n
    rw [e] at this
    exact hne (List.length_eq_zero_iff.mp this.symm)
  · obtain ⟨s, h1, h2⟩ := hm _ hc
    exact (h s h1).free.2.1 h2
  · obtain ⟨s, h1, h2⟩ := hm _ hc
    exact (h s h1).free.1 c h2
  · obtain ⟨s, h1, h2⟩ := hm 46 (by rw [e]; simp)
    exact (h s h1).free.2.2 h2
theorem pn_ok {rows : List (List (List Nat))} (h : RowsOk rows) (hne : ∀ row ∈ rows, row ≠ []) (n : Nat) : ∀ x ∈ pn rows n, NameOK x ∧ x ≠ [46] := fun x hx => by
  obtain ⟨row, hr, k, rfl⟩ := pn_mem.1 x hx
  exact nm_ok (h row hr) (hne row hr) k
theorem pn_lengths : ∀ (rows : List (List (List Nat))) (n : Nat), (pn rows n).map List.length = rows.map List.length := by
  intro zz
  induction zz with
  | nil => intro _; exact rfl
  | cons row rest IH => intro n; simp [pn, nm_length, IH n]
theorem pathOf_length (names : List (List Nat)) : (pathOf names).length = (names.map List.length).sum + names.length := by
  unfold pathOf
  induction names with
  | nil => rfl
  | cons a l ih => simp only [List.flatMap_cons, List.length_append, List.length_cons, ih, List.map_cons, List.sum_cons]; lia
theorem jstep_first {b : List Nat} (h : b.head? ≠ some 47) : jstep [47] b = 47 :: b := by
  unfold jstep
  rw [if_neg (by simp [h]), if_pos (show [47].getLast? = some 47 from rfl)]; rfl
theorem jstep_next {p b : List Nat} (hb : b.head? ≠ some 47) (hp : p ≠ []) (hl : p.getLast? ≠ some 47) : jstep p b = p ++ 47 :: b := by
  unfold jstep
  rw [if_neg (by simp [hb, hp]), if_neg hl]; rfl
theorem join_root : ∀ {names : List (List Nat)}, names ≠ [] → (∀ n ∈ names, n ≠ [] ∧ n.head? ≠ some 47 ∧ n.getLast? ≠ some 47) → names.foldl jstep [47] = pathOf names := by
  have next : ∀ (names : List (List Nat)) (pre : List (List Nat)), pre ≠ [] → (∀ n ∈ pre ++ names, n ≠ [] ∧ n.head? ≠ some 47 ∧ n.getLast? ≠ some 47) → names.foldl jstep (pathOf pre) = pathOf (pre ++ names) := by
    intro names
    induction names with
    | nil => intro pre _ _; simp
    | cons a l ih =>
      intro pre hp h
      have hlast : (pathOf pre).getLast? ≠ some 47 := by
        obtain ⟨q, z, rfl⟩ := snoc_of_ne hp
        have hz := h z (by simp)
        obtain ⟨u, v, rfl⟩ := snoc_of_ne hz.1
        have e : pathOf (q ++ [u ++ [v]]) = (pathOf q ++ 47 :: u) ++ [v] := by rw [pathOf_snoc]; simp
        rw [e, List.getLast?_concat]
        have := hz.2.2
        rw [List.getLast?_concat] at this
        exact this
      have ha := h a (by simp)
      rw [List.foldl_cons, jstep_next ha.2.1 (pathOf_ne hp) hlast, ← pathOf_snoc, ih (pre ++ [a]) (by simp) (by simpa using h)]
      simp
  intro names hne h
  cases names with
  | nil => exact absurd rfl hne
  | cons a l =>
    have ha := h a (.head _)
    rw [List.foldl_cons, jstep_first ha.2.1]
    have := next l [a] (by simp) (by simpa using h)
    simpa [pathOf] using this
theorem NameOK.ends {n : List Nat} (h : NameOK n) : n ≠ [] ∧ n.head? ≠ some 47 ∧ n.getLast? ≠ some 47 :=
  ⟨h.ne, fun q => h.free (List.mem_of_head? q), fun q => h.free (List.mem_of_getLast? q)⟩
noncomputable def patsOf (dss : List (List Itm)) : List (List Nat) := dss.map fun row => (row.map (·.1)).flatten
noncomputable def toksOf (dss : List (List Itm)) : List (List Nat × List Nat) := dss.flatMap fun row => ([47], [47]) :: row.map fun it => (it.1, itPart it)
section
variable {dss : List (List Itm)} {k : Nat}
theorem row_ends : ∀ {row : List Itm}, row ≠ [] → (∀ it ∈ row, it ∈ items) → (row.map (·.1)).flatten ≠ [] ∧ (row.map (·.1)).flatten.head? ≠ some 47 ∧ (row.map (·.1)).flatten.getLast? ≠ some 47 := fun {row} hne h => by
  refine ⟨?_, ?_, ?_⟩
  · cases row with
    | nil => exact absurd rfl hne
    | cons it r =>
      have := (items_tok it (h it (.head _))).2.2.1
      intro q
      rw [List.map_cons, List.flatten_cons, List.append_eq_nil_iff] at q
      exact this q.1
  · cases row with
    | nil => exact absurd rfl hne
    | cons it r =>
      have ht := items_tok it (h it (.head _))
      rw [List.map_cons, List.flatten_cons]
      cases e : it.1 with
      | nil => exact absurd e ht.2.2.1
      | cons a l =>
        have := ht.2.2.2.1
        rw [e] at this
        exact this
  · obtain ⟨q, it, rfl⟩ := snoc_of_ne hne
    have ht := items_tok it (h it (by simp))
    rw [List.map_append, List.flatten_append]
    obtain ⟨u, v, e⟩ := snoc_of_ne ht.2.2.1
    have h2 := ht.2.2.2.2.1
    rw [e, List.getLast?_concat] at h2
    simp only [List.map_cons, List.map_nil, List.flatten_cons, List.flatten_nil, List.append_nil]
    rw [e, ← List.append_assoc, List.getLast?_concat]
    exact h2
theorem DrawnOk.pats (h : DrawnOk dss k) : ∀ n ∈ patsOf dss, n ≠ [] ∧ n.head? ≠ some 47 ∧ n.getLast? ≠ some 47 := fun n hn => by
  obtain ⟨row, hr, rfl⟩ := List.mem_map.mp hn
  exact row_ends (h.rows row hr).1 (h.rows row hr).2
theorem textOf_cons (t : List Nat × List Nat) (ts : List (List Nat × List Nat)) : textOf (t :: ts) = t.1 ++ textOf ts := by unfold textOf; rw [List.map_cons, List.flatten_cons]
theorem toks_text (dss : List (List Itm)) : textOf (toksOf dss) = pathOf (patsOf dss) := by
  unfold toksOf patsOf pathOf
  induction dss with
  | nil => rfl
  | cons row l ih =>
    rw [List.flatMap_cons, List.map_cons, List.flatMap_cons, textOf_append, ih, textOf_cons]
    congr 1
    show [47] ++ _ = [47] ++ _
    congr 1
    unfold textOf
    rw [List.map_map]; rfl
theorem DrawnOk.toks (h : DrawnOk dss k) : ∀ t ∈ toksOf dss, TokOk [91, 94, 47, 93] t := fun t ht => by
  obtain ⟨row, hr, ht⟩ := List.mem_flatMap.mp ht
  cases ht with
  | head => exact .inl ⟨47, .inl rfl, rfl⟩
  | tail _ ht =>
    obtain ⟨it, hit, rfl⟩ := List.mem_map.mp ht
    exact (items_tok it ((h.rows row hr).2 it hit)).1
theorem toks_length (dss : List (List Itm)) : (toksOf dss).length = dss.length + dss.flatten.length := by
  unfold toksOf
  induction dss with
  | nil => rfl
  | cons row l ih => simp only [List.flatMap_cons, List.length_append, List.length_cons, List.length_map, ih, List.flatten_cons]; lia
theorem row_text_le : ∀ {row : List Itm}, (∀ it ∈ row, it ∈ items) → (row.map (·.1)).flatten.length ≤ 7 * row.length := by
  intro zz
  induction zz with
  | nil => intro _; exact Nat.le_refl _
  | cons it r IH =>
    intro h
    have h1 := (items_tok it (h it (.head _))).2.2.2.2.2
    have ih := IH fun x hx => h x (.tail _ hx)
    simp only [List.map_cons, List.flatten_cons, List.length_append, List.length_cons]
    lia
theorem DrawnOk.pats_le (h : DrawnOk dss k) : ((patsOf dss).map fun b => b.length + 1).sum ≤ 7 * dss.flatten.length + dss.length := by
  have hr := h.rows
  clear h
  unfold patsOf
  induction dss with
  | nil => exact Nat.le_refl _
  | cons row l ih =>
    have h1 := row_text_le (hr row (.head _)).2
    have h2 := ih fun x hx => hr x (.tail _ hx)
    simp only [List.map_cons, List.sum_cons, List.flatten_cons, List.length_append, List.length_cons] at h2 ⊢
    lia
theorem rows_fold (row : List Itm) : (∀ it ∈ row, it ∈ items) → ∀ (pre : List (List (List Nat))) (l : List (List Nat)), (row.map itPart).foldl (rstep sgOf) (pre ++ [l]) = pre ++ [l ++ row.map (·.2)] := by
  induction row with
  | nil => intro _ pre l; simp
  | cons it r ih =>
    intro h pre l
    have ht := items_tok it (h it (.head _))
    have hs := items_sg it (h it (.head _))
    rw [List.map_cons, List.foldl_cons]
    have e : rstep sgOf (pre ++ [l]) (itPart it) = pre ++ [l ++ [it.2]] := by
      unfold rstep
      rw [if_neg ht.2.1, addLast_snoc, hs]
    rw [e, ih fun x hx => h x (.tail _ hx)]
    simp
theorem DrawnOk.read (h : DrawnOk dss k) : ((toksOf dss).map (·.2)).foldl (rstep sgOf) [] = toldOf dss := by
  have hr := h.rows
  clear h
  have key : ∀ (l : List (List Itm)) (pre : List (List (List Nat))), (∀ row ∈ l, row ≠ [] ∧ ∀ it ∈ row, it ∈ items) → ((toksOf l).map (·.2)).foldl (rstep sgOf) pre = pre ++ toldOf l := by
    intro l
    induction l with
    | nil => intro pre _; simp [toksOf, toldOf]
    | cons row l ih =>
      intro pre hl
      have e : (toksOf (row :: l)).map (·.2) = [47] :: (row.map itPart ++ (toksOf l).map (·.2)) := by
        unfold toksOf
        rw [List.flatMap_cons, List.map_append, List.map_cons, List.map_map]
        rfl
      rw [e, List.foldl_cons, List.foldl_append]
      have e2 : rstep sgOf pre [47] = pre ++ [[]] := by unfold rstep; rw [if_pos rfl]
      rw [e2, rows_fold row (hl row (.head _)).2, List.nil_append, ih _ fun x hx => hl x (.tail _ hx)]
      unfold toldOf
      simp
  have := key dss [] hr
  simpa using this
end
end Mine
end
section
set_option Elab.async false
set_option tactic.hygienic false
set_option linter.unusedVariables false
set_option maxRecDepth 100000
set_option maxHeartbeats 1000000
namespace Mine
open PySem PySem.W PySem.Calls PyProof.Rows
theorem enter1 {g : Gx} {K : Frag} {k : Nat} {f : Addr} {name qual : Str} {params : Arguments} {body : List Stmt} {scope : Scope} {dV kV doc pm cdv ct oc : Value} {an od : Option Addr} {osl : Array (Option Value)} {x : Str} {d : D} {Fin : Value → Shared → Prop} {s : Shared} {H : List Addr} (X : Kx K g)
    (ho : K.lookup f = some ⟨oc, od, .func (fnOf name qual params body scope dV kV doc pm an cdv ct), osl⟩) (hcd : codeIn K cdv qual = true)
    (hsn : (scope.names.map (·.1)).Nodup)
    (hkind : isLoc scope x = true)
    (hb : ∀ A L E s₁, Rm A k → Body (cxOf g A (callEnvC (fnOf name qual params body scope dV kV doc pm an cdv ct) L f)) scope → St (cxOf g A (callEnvC (fnOf name qual params body scope dV kV doc pm an cdv ct) L f)) s s.heap.get? H [(x, .val d)] [] s₁ → wpAny (model g.prog g.w) A (execs body (callEnvC (fnOf name qual params body scope dV kV doc pm an cdv ct) L f)) (fun fl s₂ => ∃ v, fl = .ret v ∧ Fin v s₂) E s₁)
    (hco : autoParam (scope.isCoroutine = false) rflTac) (hgen : autoParam (scope.isGenerator = false) rflTac) (hk : autoParam (scope.kind = .function) rflTac) : ∀ A v (R : Result → Shared → Prop), Rm A (k + 1) → (∀ a ∈ H, ∃ o, s.heap.get? a = some o) → (∀ b o, g.G.get? b = some o → s.heap.get? b = some o ∧ b ∉ H) → g.lo = 0 → Rep (Zof s.heap H) v d → (∀ v s', Fin v s' → R (.ok (.ret v)) s') →
      wpAny (model g.prog g.w) A.in1 (newFunctionEnv scope mainGlobals [] [(x, v)] (qual ++ ".<locals>.") (some f) cdv none builtinsNs) (fun env s₂ => s₂.heap.NoLimit ∧ codeAny (model g.prog g.w) A (.func body env) R s₂) (fun e s' => R (.error e) s') s := fun A v R hr hok1 hok2 hlo hv hR => by
  have up : ∀ b o, g.G.get? b = some o → s.heap.get? b = some o := fun b o e => (hok2 b o e).1
  simp only [newFunctionEnv, Option.isSome_none, Bool.false_eq_true, if_false]
  refine wpAny_bind (wpAny_alloc ?_)
  refine wpAny_bind (wpAny_layCells _ (fun name kind cells => by cases hkc : kind == NameKind.cell <;> simp [hkc]) _ _ _ _ ?_)
  have ok := cellsFrom_ok scope.names (s.heap.push { cls := .type "frame", data := .dict #[] }) (s.heap.objs.size + 1) [] ⟨fun xx xx hm => (nomatch hm), List.Pairwise.nil⟩ (by rw [Heap.size_push]; exact Nat.le_refl _)
  rw [Heap.size_push] at ok
  rw [show ({ s with heap := s.heap.push { cls := .type "frame", data := .dict #[] } } : Shared).heap.objs.size = s.heap.objs.size + 1 from Heap.size_push ..]
  have bd : Body (cxOf g A.in1 (callEnvC (fnOf name qual params body scope dV kV doc pm an cdv ct) s.heap.objs.size f)) scope := Body.of (fd := fnOf name qual params body scope dV kV doc pm an cdv ct) hsn hk rfl rfl
  have hcl : ∀ p ∈ (cellsFrom (s.heap.objs.size + 1) scope.names []), (cellsFrom (s.heap.objs.size + 1) scope.names []).lookup p.1 = some p.2 := fun p hp => lookup_of_mem (cellsFrom_keys hsn (by simp) (by simp)) hp
  have hap : (cellAddrs (callEnvC (fnOf name qual params body scope dV kV doc pm an cdv ct) s.heap.objs.size f)).Nodup := cellsFrom_apart (l := scope.names) (n := s.heap.objs.size + 1) (acc := []) (by simp) (by simp)
  have nw : ∀ a, s.heap.objs.size ≤ a → s.heap.get? a = none := fun a ha => by
    cases q : s.heap.get? a with
    | none => rfl
    | some o => exact absurd (Heap.lt_size q) (Nat.not_lt.mpr ha)
  have hYn : ∀ a, s.heap.get? a = none → a ∉ H := fun a e q => by obtain ⟨o, e'⟩ := hok1 a q; rw [e] at e'; cases e'
  have hkp : ∀ b o, s.heap.get? b = some o → (pushCells (s.heap.push { cls := .type "frame", data := .dict #[] }) scope.names).get? b = some o := fun b o e => pushCells_keeps _ _ b o (Heap.get?_push_of_some _ e)
  have hns : (pushCells (s.heap.push { cls := .type "frame", data := .dict #[] }) scope.names).Ns s.heap.objs.size (fun xx => none) := (Heap.Ns.new s.heap (.type "frame")).keeps (pushCells_keeps _ _)
  have cal : ∀ a ∈ cellAddrs (callEnvC (fnOf name qual params body scope dV kV doc pm an cdv ct) s.heap.objs.size f), s.heap.objs.size < a ∧ ∃ o, (pushCells (s.heap.push { cls := .type "frame", data := .dict #[] }) scope.names).get? a = some o := fun a ha => by
    obtain ⟨⟨y, b⟩, hp, rfl⟩ := List.mem_map.mp ha
    obtain ⟨⟨o, e, _⟩, hlt⟩ := ok.empty y b hp
    exact ⟨hlt, o, e⟩
  have own : ∀ a ∈ s.heap.objs.size :: (cellAddrs (callEnvC (fnOf name qual params body scope dV kV doc pm an cdv ct) s.heap.objs.size f) ++ ([] : List Addr)), s.heap.get? a = none ∧ ∃ o, (pushCells (s.heap.push { cls := .type "frame", data := .dict #[] }) scope.names).get? a = some o := fun a ha => by
    rcases List.mem_cons.mp ha with rfl | ha
    · obtain ⟨o, _, _, e, _⟩ := hns
      exact ⟨nw _ (Nat.le_refl _), o, e⟩
    · have := cal a (by simpa using ha)
      exact ⟨nw a (Nat.le_of_lt this.1), this.2⟩
  have hz : Le (Zof s.heap H) (Zof (pushCells (s.heap.push { cls := .type "frame", data := .dict #[] }) scope.names) (s.heap.objs.size :: (cellAddrs (callEnvC (fnOf name qual params body scope dV kV doc pm an cdv ct) s.heap.objs.size f) ++ ([] : List Addr)) ++ H)) := fun a o e => by
    obtain ⟨e1, e2⟩ := Zof.get e
    refine Zof.of (hkp _ _ e1) fun q => ?_
    rcases List.mem_append.mp q with q | q
    · rw [(own a q).1] at e1; cases e1
    · exact e2 q
  have hl : (callEnvC (fnOf name qual params body scope dV kV doc pm an cdv ct) s.heap.objs.size f).kindOf x = some .local := (bd.kindOf x).trans (by simpa [isLoc] using hkind)
  refine wpAny_bind ?_
  rw [List.forIn_cons]
  refine wpAny_bind (wpAny_bind (wpAny_storeName_local hl hns (fun h' hn' hs' => wpAny_pure ?_) (by show (scope.kind == _ || _) = false; rw [hk]; rfl)))
  show wpAny _ _ (forIn ([] : List (Str × Value)) PUnit.unit _) _ _ _
  rw [List.forIn_nil]
  refine wpAny_pure ?_
  have hLc : ∀ a ∈ cellAddrs (callEnvC (fnOf name qual params body scope dV kV doc pm an cdv ct) s.heap.objs.size f), a ≠ s.heap.objs.size := fun a ha => Nat.ne_of_gt (cal a ha).1
  have hk' : ∀ b o, b ≠ s.heap.objs.size → (pushCells (s.heap.push { cls := .type "frame", data := .dict #[] }) scope.names).get? b = some o → h'.get? b = some o := fun b o hb e => hs'.extBut b o hb e
  have hold : ∀ b o, s.heap.get? b = some o → h'.get? b = some o := fun b o e => hk' b o (Nat.ne_of_lt (Heap.lt_size e)) (hkp b o e)
  have hzz : Le (Zof s.heap H) (Zof h' (s.heap.objs.size :: (cellAddrs (callEnvC (fnOf name qual params body scope dV kV doc pm an cdv ct) s.heap.objs.size f) ++ ([] : List Addr)) ++ H)) := fun a o e => by
    obtain ⟨e1, e2⟩ := Zof.get e
    obtain ⟨e3, e4⟩ := Zof.get (hz a o e)
    exact Zof.of (hold _ _ e1) e4
  have y : StO (cxOf g A.in1 (callEnvC (fnOf name qual params body scope dV kV doc pm an cdv ct) s.heap.objs.size f)) s s.heap.get? H [] (fun y => if y = x then some v else none) (fun xx => none) [(x, .val d)] [] { s with heap := h', toks := s.toks + 1 } := by
    refine ⟨?_, fun a ha => ⟨(own a ha).1, ?_, hYn a (own a ha).1⟩, fun a ha => ?_, hold, fun b o e => ⟨(hok2 b o e).1, (hok2 b o e).2⟩, hn', fun x a e => ⟨?_, .inl ?_⟩, ⟨v, [], [], rfl, ?_, ⟨rfl, hv.mono hzz⟩, rfl⟩, (fun p hp => nomatch hp), ⟨rfl, id⟩, ⟨Nat.le_succ _, by show g.lo ≤ _; rw [hlo]; exact Nat.zero_le _, Nat.succ_pos _⟩⟩
    · show (s.heap.objs.size :: (cellAddrs _ ++ ([] : List Addr))).Nodup
      rw [List.append_nil, List.nodup_cons]
      exact ⟨fun q => Nat.lt_irrefl _ (cal _ q).1, hap⟩
    · rcases List.mem_cons.mp ha with rfl | ha
      · obtain ⟨o, _, _, e, _⟩ := hn'
        exact ⟨o, e⟩
      · obtain ⟨o, e⟩ := (own a (.tail _ ha)).2
        have ha' : a ∈ cellAddrs (callEnvC (fnOf name qual params body scope dV kV doc pm an cdv ct) s.heap.objs.size f) := by
          have := ha
          rw [List.append_nil] at this
          exact this
        exact ⟨o, hk' a o (hLc a ha') e⟩
    · obtain ⟨o, e⟩ := hok1 a ha; exact ⟨o, hold _ _ e⟩
    · obtain ⟨o, e1, e2⟩ := (ok.empty x a (mem_of_lookup' e)).1
      exact ⟨o, hk' a o (hLc a (List.mem_map_of_mem (f := (·.2)) (mem_of_lookup' e))) e1, e2⟩
    · exact List.mem_map_of_mem (f := (·.2)) (mem_of_lookup' e)
    · unfold lookIn
      rw [show (cxOf g A.in1 (callEnvC (fnOf name qual params body scope dV kV doc pm an cdv ct) s.heap.objs.size f)).env.kindOf x = some .local from hl, if_pos rfl]
      simp
  have q : St (cxOf g A.in1 (callEnvC (fnOf name qual params body scope dV kV doc pm an cdv ct) s.heap.objs.size f)) s s.heap.get? H [(x, .val d)] [] { s with heap := h', toks := s.toks + 1 } := ⟨_, _, _, y⟩
  refine wpAny_pure ⟨X.nolimit.keeps fun b o e => hold b o (up b o e), codeAny_func (wpAny_mono (hb (A.deeper (callEnvC (fnOf name qual params body scope dV kV doc pm an cdv ct) s.heap.objs.size f)) s.heap.objs.size _ _ hr.deeper bd.around q.around) (fun fl s₂ q => ?_) fun xx xx e => e)⟩
  obtain ⟨v, rfl, q⟩ := q
  exact hR v s₂ q
end Mine
end
section
open PySem PySem.W PyProof.Rows
set_option Elab.async false
set_option tactic.hygienic false
set_option maxRecDepth 100000
set_option maxHeartbeats 2000000
set_option linter.unusedVariables false
namespace Mine
noncomputable def lwFd (P : Params) : FuncData := fdOf ((Mine.hd.heap_1 P).lookup 302)
noncomputable def lwAt (P : Params) (k : Nat) : Stmt := nth (bodyOf (lwFd P)) k
noncomputable abbrev dItems (row : List Itm) : D := .list (row.map dItem)
noncomputable abbrev dDrawn (dss : List (List Itm)) : D := .list (dss.map dItems)
noncomputable def gSign : D → Option D
  | .tuple [_, d] => some d
  | _ => none
noncomputable def gText : D → Option D
  | .tuple [d, _] => some d
  | _ => none
noncomputable def gSigns : D → Option D
  | .list l => some (.list (l.filterMap gSign))
  | _ => none
noncomputable def textD : D → List Nat
  | .tuple [.str x, _] => x.cps.toList
  | _ => []
noncomputable def gRowText : D → Option D
  | .list l => some (dS (l.map textD).flatten)
  | _ => none
theorem fm_sign (row : List Itm) : (row.map dItem).filterMap gSign = (row.map (·.2)).map dS := by
  induction row with
  | nil => rfl
  | cons a r ih => rw [List.map_cons, List.filterMap_cons_some (show gSign (dItem a) = some (dS a.2) from rfl), ih]; rfl
theorem fm_text (row : List Itm) : (row.map dItem).filterMap gText = (row.map (·.1)).map dS := by
  induction row with
  | nil => rfl
  | cons a r ih => rw [List.map_cons, List.filterMap_cons_some (show gText (dItem a) = some (dS a.1) from rfl), ih]; rfl
theorem fm_signs (dss : List (List Itm)) : (dss.map dItems).filterMap gSigns = (toldOf dss).map dRow := by
  induction dss with
  | nil => rfl
  | cons a r ih => rw [List.map_cons, List.filterMap_cons_some (show gSigns (dItems a) = some (.list ((a.map dItem).filterMap gSign)) from rfl), ih, fm_sign]; rfl
theorem textD_map (row : List Itm) : (row.map dItem).map textD = row.map (·.1) := by
  rw [List.map_map]; rfl
theorem fm_rowText (dss : List (List Itm)) : (dss.map dItems).filterMap gRowText = (patsOf dss).map dS := by
  induction dss with
  | nil => rfl
  | cons a r ih => rw [List.map_cons, List.filterMap_cons_some (show gRowText (dItems a) = some (dS ((a.map dItem).map textD).flatten) from rfl), ih, textD_map]; rfl
section
variable {c : Cx} {P : Params}
theorem lw_told (bd : Body c (lwFd P).scope) (X : Kx (Mine.hd.heap_1 P) c.toGx) (hr : Rm c.A 4) {s : D} {dss : List (List Itm)} {k : Nat} (hd : DrawnOk dss k) (hk : k ≤ 10) :
    EX1 c [("script", .val s), ("drawn", .val (dDrawn dss))] (lwAt P 1) (.next [("script", .val s), ("drawn", .val (dDrawn dss)), ("told", .val (dRows (toldOf dss)))]) := by
  have hsm := hd.small
  refine EX1.conv (EX1.assignCompC bd.cb gSigns [] (items := dss.map dItems) (IT.list (EV.var bd (by rfl) rfl) hr) rfl rfl rfl rfl (fun p hp => nomatch hp) (List.nil_sublist _) (fun env cb d hm => ?_) (by unfold sizeLine; simp; lia) (fun xx => rfl) (by
    have e := bd.is
    generalize c.env = env at e ⊢
    cases env
    dsimp only at e
    subst e
    rfl) rfl) ?_
  · obtain ⟨row, hrow, rfl⟩ := List.mem_map.mp hm
    have hl := hsm.2 row hrow
    refine CE.mk (AT.varC cb (by rfl)) (.cons _ .slnil) (EV.compC cb gSign [] (items := row.map dItem) (IT.list (EV.varC cb (by rfl) rfl) hr) rfl rfl rfl rfl (fun p hp => nomatch hp) (List.nil_sublist _) (fun env' cb' d hd => ?_) (by unfold sizeLine; simp; lia) fun xx => rfl)
    obtain ⟨it, hit, rfl⟩ := List.mem_map.mp hd
    exact CE.mk (AT.two (AT.varC cb' (by rfl)) (AT.varC cb' (by rfl)) hr fun xx => rfl) (.cons _ (.cons _ .slnil)) (EV.varC cb' (by rfl) rfl)
  · rw [fm_signs]; rfl
theorem lw_pattern (bd : Body c (lwFd P).scope) (X : Kx (Mine.hd.heap_1 P) c.toGx) (hr : Rm c.A 4) {s t : D} {dss : List (List Itm)} {k : Nat} (hd : DrawnOk dss k) (hk : k ≤ 10) (hne : dss ≠ []) :
    EX1 c [("script", .val s), ("drawn", .val (dDrawn dss)), ("told", .val t)] (lwAt P 2) (.next [("script", .val s), ("drawn", .val (dDrawn dss)), ("told", .val t), ("pattern", .val (dS (pathOf (patsOf dss))))]) := by
  have hsm := hd.small
  have hle := hd.pats_le
  rw [hd.count] at hle
  have hjoin := join_root (names := patsOf dss) (by unfold patsOf; simpa using hne) hd.pats
  refine EX1.conv (EX1.set (d := dS ((patsOf dss).foldl jstep [47])) (EV.call (EV.glob X (bd.outer (by rfl)) rfl) (.cons (strS (l := [47]) rfl) (EV_star (ds := (patsOf dss).map dS) (EV.conv (EV.compC bd.cb gRowText [] (items := dss.map dItems) (IT.list (EV.var bd (by rfl) rfl) hr) rfl rfl rfl rfl (fun p hp => nomatch hp) (List.nil_sublist _) (fun env cb d hm => ?_) (by unfold sizeLine; simp; lia) fun xx => rfl) (by rw [fm_rowText])) (by unfold patsOf; simp; lia)) fun env => rfl) (X.callee (a := 212) rfl rfl) (f_join X (by simp; lia) (by unfold patsOf; simp; lia)) (hr.less (by decide)) fun pos env x q => absurd (show 2 = 1 from congrArg List.length q) (by decide)) (bd.sto (by rfl)) rfl) ?_
  · obtain ⟨row, hrow, rfl⟩ := List.mem_map.mp hm
    have hl := hsm.2 row hrow
    have htx := row_text_le (hd.rows row hrow).2
    have hsum : (((row.map (·.1))).map (·.length)).sum = (row.map (·.1)).flatten.length := by rw [List.length_flatten]
    have e : (row.map (·.1)).map dS = (row.map (·.1)).map fun t => D.str (S t) := rfl
    refine CE.mk (AT.varC cb (by rfl)) (.cons _ .slnil) (EV.conv (EV.meth (k := 0) (d := dS (glue [] (row.map (·.1)))) (strS (l := []) rfl) (.one (EV.conv (EV.compC cb gText [] (items := row.map dItem) (IT.list (EV.varC cb (by rfl) rfl) hr) rfl rfl rfl rfl (fun p hp => nomatch hp) (List.nil_sublist _) (fun env' cb' d hd => ?_) (by unfold sizeLine; simp; lia) fun xx => rfl) (by rw [fm_text])) rfl) (Fn.join (sep := []) (ts := row.map (·.1)) (by rw [hsum, List.length_nil, Nat.mul_zero]; lia)) (hr.less (by decide)) rfl F.plainAttrs_str F.slot_str_join F.type_str_join ⟨rfl, rfl, by decide, rfl⟩) (by rw [glue_nil, textD_map]))
    obtain ⟨it, hit, rfl⟩ := List.mem_map.mp hd
    exact CE.mk (AT.two (AT.varC cb' (by rfl)) (AT.varC cb' (by rfl)) hr fun xx => rfl) (.cons _ (.cons _ .slnil)) (EV.varC cb' (by rfl) rfl)
  · rw [hjoin]; rfl
end
end Mine
end
section
open PySem PySem.W PySem.Calls PyProof.Rows
set_option Elab.async false
set_option tactic.hygienic false
set_option maxRecDepth 100000
set_option maxHeartbeats 2000000
set_option linter.unusedVariables false
namespace Mine
section
variable {c : Cx} {P : Params}
noncomputable def slotAddrs : Slot → Option (List Addr)
  | .val _ => some []
  | .tab P _ => some [P]
  | .ownAt r _ => some [r]
  | _ => none
noncomputable def addrsOf : Rho → Option (List Addr)
  | [] => some []
  | (_, sl) :: r => (slotAddrs sl).bind fun a => (addrsOf r).map (a ++ ·)
theorem VarsIs.addrs {Z : Mp} {h : Heap} {lk : Str → Option Value} : ∀ {ρ : Rho} {fs : List Addr}, VarsIs Z h lk ρ fs → (addrsOf ρ).isSome = true → fs = (addrsOf ρ).getD [] := by
  intro ρ
  induction ρ with
  | nil => intro fs e _; exact e
  | cons p r IH =>
    intro fs hqz hs
    obtain ⟨x, sl⟩ := p
    obtain ⟨v, f1, f2, e, _, q, z⟩ := hqz
    unfold addrsOf at hs ⊢
    cases ha : slotAddrs sl with
    | none => rw [ha] at hs; cases hs
    | some a =>
      rw [ha] at hs
      cases hb : addrsOf r with
      | none => rw [hb] at hs; cases hs
      | some b =>
        have ih := IH z (by rw [hb]; rfl)
        rw [hb] at ih
        have e1 : f1 = a := by
          cases sl with
          | val d => cases ha; exact q.1
          | tab P d => cases ha; exact q.1
          | ownAt r' ds => cases ha; obtain ⟨_, _, e, _⟩ := q; exact e
          | own ds => cases ha
          | own2 ds => cases ha
        rw [e, e1, ih]
        rfl
theorem lw_drawn (bd : Body c (lwFd P).scope) (X : Kx (Mine.hd.heap_1 P) c.toGx) (hr : Rm c.A 4) {xs : List Int} (hx : xs.length ≤ 1000) :
    EX1 c [("script", .val (.list (xs.map D.int)))] (lwAt P 0) (.next [("script", .val (.list (xs.map D.int))), ("drawn", .val (dDrawn (drawn (xs.take 7 ++ [3, 29, 54]))))]) := by
  refine EX1.conv (EX1.set (d := dDrawn (drawn (xs.take 7 ++ [3, 29, 54]))) (EV.callF bd X (by rfl) rfl rfl rfl (.one (EV.conv (EV.bin' (EV.sub (EV.var bd (by rfl) rfl) (EV.slice (dl := .none) (du := .int ((7 : Nat) : Int)) (ds := .none) rfl EV.int rfl) rfl F.slot_list_getitem.lookup (Op2.upto_list (by unfold sizeLine; simp; lia)) (hr.less (by decide))) (EV.list (ds := [.int 3, .int 29, .int 54]) (.cons EV.int (.two EV.int EV.int rfl) fun env => rfl) (by unfold sizeLine; simp)) (Op2.add_list (by unfold sizeLine; simp; lia)) hr (by decide)) (show _ = D.list ((xs.take 7 ++ [3, 29, 54]).map D.int) by rw [List.map_append, List.map_take]; rfl)) rfl) (f_names X (by simp; lia)) hr (by decide) rfl) (bd.sto (by rfl)) rfl) rfl
theorem lw_rows (bd : Body c (lwFd P).scope) (X : Kx (Mine.hd.heap_1 P) c.toGx) (TE : TabEnv c.G 61 57) (hr : Rm c.A 4) {s t d : D} {dss : List (List Itm)} {k : Nat} (hd : DrawnOk dss k) (hk : k ≤ 10) (hne : dss ≠ []) :
    EX1 c [("script", .val s), ("drawn", .tab 57 d), ("told", .val t), ("pattern", .val (dS (pathOf (patsOf dss))))] (lwAt P 3) (.next [("script", .val s), ("drawn", .tab 57 d), ("told", .val t), ("pattern", .val (dS (pathOf (patsOf dss)))), ("rows", .val (dRows (toldOf dss)))]) := by
  have hsm := hd.small
  have hle := hd.pats_le
  rw [hd.count] at hle
  have hlen : (pathOf (patsOf dss)).length ≤ 9000 := by
    have : (pathOf (patsOf dss)).length = ((patsOf dss).map fun b => b.length + 1).sum := by
      unfold pathOf
      rw [List.length_flatMap]
      rfl
    lia
  have htl := toks_length dss
  rw [hd.count] at htl
  obtain ⟨rest, hrest⟩ : ∃ rest, (toksOf dss).map (·.2) = [47] :: rest := by
    cases dss with
    | nil => exact absurd rfl hne
    | cons a l => exact ⟨_, rfl⟩
  have hrl : rest.length ≤ 1000 := by
    have := congrArg List.length hrest
    simp at this
    lia
  have hread := hd.read
  rw [hrest] at hread
  have hfn : Fn c.toGx 3 (.ref 250) [dRow ([47] :: rest)] (dRows (toldOf dss)) := by
    have := f_rows X (rest := rest) (sg := sgOf) hrl (fun p hp hp47 => ?_)
    · rw [hread] at this; exact this
    · have hm : p ∈ (toksOf dss).map (·.2) := by rw [hrest]; exact .tail _ hp
      obtain ⟨tk, htk, rfl⟩ := List.mem_map.mp hm
      obtain ⟨row, hrow, htk⟩ := List.mem_flatMap.mp htk
      cases htk with
      | head => exact absurd rfl hp47
      | tail _ htk =>
        obtain ⟨it, hit, rfl⟩ := List.mem_map.mp htk
        have hi := (hd.rows row hrow).2 it hit
        have := items_read X it hi
        rw [← items_sg it hi] at this
        exact this
  refine EX1.conv (EX1.setT (d := dRows (toldOf dss)) (fun sg B Y T s₀ E hqz0 => ?_) (bd.sto (by rfl)) rfl) rfl
  obtain ⟨fs, m, cm, y⟩ := hqz0
  have up : ∀ {s' : Shared} {ρ : Rho} {fs m cm T}, StO c sg B Y fs m cm ρ T s' → ∀ b o, c.G.get? b = some o → s'.heap.get? b = some o := fun y b o e => y.keep b o (y.base b o e).1
  refine wpAny_Call_ofName (wpAny_mono (EV.glob (v := .ref 250) X (bd.outer (by rfl)) rfl _ s₀ y.rd E) (fun v s₁ hqz0 => ?_) fun xx xx e => e)
  obtain ⟨k1, q⟩ := hqz0
  have ev := q.of_raw
  subst ev
  have y1 := y.keeps k1
  refine callRaw0 (fd := []) (X.callee (a := 250) rfl rfl) (fun env x q => absurd (show some false = some true from congrArg (fun l => l.head?.map Prod.fst) q) (by decide)) (spliced_one ?_ rfl)
  refine wpAny_Call_ofName (wpAny_mono (EV.glob (v := .ref 62) X (bd.outer (by rfl)) rfl _ s₁ y1.rd _) (fun v s₂ hqz0 => ?_) fun xx xx e => e)
  obtain ⟨k2, q⟩ := hqz0
  have ev := q.of_raw
  subst ev
  have y2 := y1.keeps k2
  refine callRaw (fd := []) (ds := [dS (pathOf (patsOf dss)), .none, dS [91, 94, 47, 93]]) (X.callee (a := 62) rfl rfl) (.cons (EV.var bd (by rfl) rfl) (.two EV.none (strS rfl) rfl) fun env => rfl) (fun env x q => absurd (show 3 = 1 from congrArg List.length q) (by decide)) y2.rd fun vs s₃ k3 r => ?_
  have y3 := y2.keeps k3
  obtain ⟨ps, hP, hps⟩ := St.table y3 (x := "drawn") (P := 57) (d := d) (.of_look rfl)
  have h57 : 57 ∈ c.env.locals :: (c.oc ++ fs) ++ Y := by
    obtain ⟨v', gs', l, q, hsub⟩ := St.lookOwn y3 (x := "drawn") (sl := .tab 57 d) (.of_look rfl)
    obtain ⟨rfl, _⟩ := q
    exact List.mem_append.mpr (.inl (.tail _ (List.mem_append.mpr (.inr (hsub _ (.head _))))))
  refine wpAny_mono (f_translate (g := c.toGx) X TE (ts := toksOf dss) (toks_text dss).symm hd.toks hlen (by lia) hr y3.ok h57 hP hps r) (fun v s₄ hqz0 => ?_) fun xx xx e => e
  obtain ⟨ts4, r4⟩ := hqz0
  obtain ⟨fs4, y4⟩ := y3.tabbed (x := "drawn") (P := 57) (d := d) (.of_look rfl) ts4
  have e3 := y3.vars.addrs rfl
  have e4 := y4.vars.addrs rfl
  rw [e3, ← e4] at r4
  have y4' := y4.temp r4
  refine ⟨up y4, ?_⟩
  have hrr : RepL (Zof s₄.heap (c.env.locals :: (c.oc ++ fs4) ++ Y)) [v] [dRow ([47] :: rest)] := by
    refine .cons ?_ .nil
    have e : (toksOf dss).map (fun t => dS t.2) = ([47] :: rest).map dS := by rw [← hrest, List.map_map]; rfl
    rw [e] at r4
    exact r4
  refine wpAny_mono (hfn c.A s₄ _ [v] (hr.less (by decide)) y4.ok hrr E) (fun v' s₅ hqz0 => ?_) fun xx xx e => e
  obtain ⟨k5, r5⟩ := hqz0
  exact ⟨fs4, m, cm, (y4.keeps k5).temp r5⟩
end
end Mine
end
section
open PySem PySem.W PySem.Calls PyProof.Rows
set_option Elab.async false
set_option tactic.hygienic false
set_option maxRecDepth 100000
set_option maxHeartbeats 2000000
set_option linter.unusedVariables false
namespace Mine
structure TabT (T : List (List (List Nat))) : Prop where
  ok : RowsOk T
  ne : T ≠ []
  rows : ∀ row ∈ T, row ≠ [] ∧ row.length ≤ 10
  len : T.length ≤ 10
  size : size T < 2 ^ 29
theorem DrawnOk.tabT {dss : List (List Itm)} {k : Nat} (h : DrawnOk dss k) (hk : k ≤ 10) (hne : dss ≠ []) : TabT (toldOf dss) where
  ok := h.told
  ne := by unfold toldOf; simpa using hne
  rows := fun row hr => by
    obtain ⟨r, h1, rfl⟩ := List.mem_map.mp hr
    have := h.small.2 r h1
    exact ⟨by simpa using (h.rows r h1).1, by simp; lia⟩
  len := by have := h.small.1; unfold toldOf; simp; lia
  size := h.size hk
section
variable {T : List (List (List Nat))} {n : Nat}
theorem TabT.names (h : TabT T) (n : Nat) : ∀ x ∈ pn T n, NameOK x ∧ x ≠ [46] := pn_ok h.ok (fun row hr => (h.rows row hr).1) n
theorem TabT.path (h : TabT T) (n : Nat) : (pathNames T n).foldl jstep [47] = pathOf (pn T n) := by
  rw [pathNames_eq]
  refine join_root (fun q => ?_) fun x hx => (h.names n x hx).1.ends
  have := pn_length T n
  rw [q] at this
  exact h.ne (List.length_eq_zero_iff.mp this.symm)
theorem TabT.pn_ne (h : TabT T) (n : Nat) : pn T n ≠ [] := fun q => by
  have := pn_length T n
  rw [q] at this
  exact h.ne (List.length_eq_zero_iff.mp this.symm)
theorem sum_le_mul : ∀ (l : List Nat) (b : Nat), (∀ x ∈ l, x ≤ b) → l.sum ≤ l.length * b := by
  intro zz
  induction zz with
  | nil => intro _ _; simp
  | cons a l IH =>
    intro b h
    have ih := IH b fun x hx => h x (.tail _ hx)
    have := h a (.head _)
    simp only [List.sum_cons, List.length_cons, Nat.add_mul, Nat.one_mul]
    lia
theorem TabT.path_le (h : TabT T) (n : Nat) : (pathOf (pn T n)).length ≤ 1000 := by
  rw [pathOf_length, pn_lengths, pn_length]
  have h1 := sum_le_mul (T.map List.length) 10 fun x hx => by
    obtain ⟨r, hr, rfl⟩ := List.mem_map.mp hx
    exact (h.rows r hr).2
  rw [List.length_map] at h1
  have := h.len
  lia
theorem TabT.signs (h : TabT T) (n : Nat) : ∀ p ∈ T.zip (pn T n), (∀ c ∈ p.2, c < 128) ∧ ∀ q ∈ p.1.zip p.2, q.1.length ≤ 1000 ∧ (∀ c ∈ q.1, c < 128) ∧ q.2 ∈ q.1 := fun p hp => by
  obtain ⟨h1, k, h2⟩ := pn_mem.2 p hp
  have hr := h.ok p.1 h1
  constructor
  · rw [h2]
    exact (nm_ok hr (h.rows _ h1).1 k).1.ascii
  · intro q hq
    rw [h2] at hq
    obtain ⟨q1, q2⟩ := (nm_mem hr k).2 q hq
    have := (hr _ q1).le
    exact ⟨by lia, (hr _ q1).free.1, q2⟩
theorem TabT.small (h : TabT T) : ∀ row ∈ T, ∀ s ∈ row, 1 ≤ s.length ∧ s.length ≤ 1000 := fun row hr s hs => by
  have := h.ok row hr s hs
  exact ⟨this.ne, by have := this.le; lia⟩
theorem numbers_lt {start : List Int} {t : Nat} (ht : 1 ≤ t) : ∀ n ∈ numbersOf start t, n < t := fun n hn => by
  unfold numbersOf at hn
  obtain ⟨x, _, hx⟩ := List.mem_flatMap.mp hn
  simp only [List.mem_cons, List.not_mem_nil, or_false] at hx
  have h1 : ∀ y : Int, (y.emod t).toNat < t := fun y => by
    have a := Int.emod_nonneg y (show (t : Int) ≠ 0 by lia)
    have b := Int.emod_lt_of_pos y (show (0 : Int) < t by lia)
    show (y % (t : Int)).toNat < t
    lia
  rcases hx with rfl | rfl
  · exact h1 _
  · exact h1 _
end
noncomputable abbrev LW (s d pat : D) (T : List (List (List Nat))) (rest : Rho) : Rho := ("script", .val s) :: ("drawn", .tab 57 d) :: ("told", .val (dRows T)) :: ("pattern", .val pat) :: ("rows", .val (dRows T)) :: rest
noncomputable abbrev dNums (N : List Nat) : D := .list (N.map fun n : Nat => D.int n)
noncomputable abbrev dPaths (T : List (List (List Nat))) (N : List Nat) : D := .list (N.map fun n => dS (pathOf (pn T n)))
noncomputable abbrev dSteps (T : List (List (List Nat))) (N : List Nat) : D := .list (N.map fun n => dRow ([47] :: pn T n))
noncomputable def gPath (T : List (List (List Nat))) : D → Option D
  | .int i => some (dS (pathOf (pn T i.toNat)))
  | _ => none
noncomputable def gSteps : D → Option D
  | .str x => some (dRow ([47] :: (pieces 47 x.cps.toList).drop 1))
  | _ => none
theorem fm_paths (T : List (List (List Nat))) (N : List Nat) : (N.map fun n : Nat => D.int n).filterMap (gPath T) = N.map fun n => dS (pathOf (pn T n)) := by
  induction N with
  | nil => rfl
  | cons n r ih => rw [List.map_cons, List.filterMap_cons_some (show gPath T (D.int n) = some (dS (pathOf (pn T ((n : Int).toNat)))) from rfl), ih]; simp
theorem fm_steps {T : List (List (List Nat))} (h : TabT T) (N : List Nat) : (N.map fun n => dS (pathOf (pn T n))).filterMap gSteps = N.map fun n => dRow ([47] :: pn T n) := by
  induction N with
  | nil => rfl
  | cons n r ih =>
    have hp : pieces 47 (pathOf (pn T n)) = [] :: pn T n := pieces_path fun x hx => (h.names n x hx).1
    rw [List.map_cons, List.filterMap_cons_some (show gSteps (dS (pathOf (pn T n))) = some (dRow ([47] :: (pieces 47 (pathOf (pn T n))).drop 1)) from rfl), ih, hp]
    rfl
section
variable {c : Cx} {P : Params}
theorem lw_same (bd : Body c (lwFd P).scope) (X : Kx (Mine.hd.heap_1 P) c.toGx) (hr : Rm c.A 4) {s d pat : D} {T : List (List (List Nat))} : EX1 c (LW s d pat T []) (lwAt P 4) (.next (LW s d pat T [])) :=
  EX1.ite (b := false) (EB.conv (EB.cmp (EV.var bd (by rfl) rfl) (EV.var bd (by rfl) rfl) (Op2.ne_list (xs := T) (ys := T) (f := dRow) fun A s Z hz hu => EqKind.list EqKind.str hz (by lia)) (hr.less (by decide)) rfl) (by simp)) (fun q => by cases q) (fun xx => EX.nil)
theorem lw_numbers (bd : Body c (lwFd P).scope) (X : Kx (Mine.hd.heap_1 P) c.toGx) (hr : Rm c.A 4) {d pat : D} {T : List (List (List Nat))} {xs : List Int} (h : TabT T) (hx : xs.length ≤ 1000) :
    EX1 c (LW (.list (xs.map D.int)) d pat T []) (lwAt P 5) (.next (LW (.list (xs.map D.int)) d pat T [("numbers", .val (dNums (numbersOf (xs.take 3 ++ [60, -9876543]) (size T))))])) := by
  have ht := f_total X (rows := T) fun row hr s hs => (h.small row hr s hs).2
  rw [total_size] at ht
  refine EX1.conv (EX1.set (d := dNums (numbersOf (xs.take 3 ++ [60, -9876543]) (size T))) (EV.callF bd X (by rfl) rfl rfl rfl (.two (EV.conv (EV.bin' (EV.sub (EV.var bd (by rfl) rfl) (EV.slice (dl := .none) (du := .int ((3 : Nat) : Int)) (ds := .none) rfl EV.int rfl) rfl F.slot_list_getitem.lookup (Op2.upto_list (by unfold sizeLine; simp; lia)) (hr.less (by decide))) (EV.list (ds := [.int 60, .int (-9876543)]) (.two EV.int (EV.un EV.int Op1.neg_int (hr.less (by decide))) rfl) (by unfold sizeLine; simp)) (Op2.add_list (by unfold sizeLine; simp; lia)) hr (by decide)) (show _ = D.list ((xs.take 3 ++ [60, -9876543]).map D.int) by rw [List.map_append, List.map_take]; rfl)) (EV.callF bd X (by rfl) rfl rfl rfl (.one (EV.var bd (by rfl) rfl) rfl) ht hr (by decide) rfl) rfl) (f_numbers X h.ok.pos (by simp; lia)) hr (by decide) rfl) (bd.sto (by rfl)) rfl) rfl
theorem lw_paths (bd : Body c (lwFd P).scope) (X : Kx (Mine.hd.heap_1 P) c.toGx) (hr : Rm c.A 4) {s d pat : D} {T : List (List (List Nat))} {N : List Nat} (h : TabT T) (hN : N.length ≤ 1000) :
    EX1 c (LW s d pat T [("numbers", .val (dNums N))]) (lwAt P 6) (.next (LW s d pat T [("numbers", .val (dNums N)), ("paths", .val (dPaths T N))])) := by
  refine EX1.conv (EX1.assignCompC bd.cb (gPath T) [("rows", .val (dRows T))] (items := N.map fun n : Nat => D.int n) (IT.list (EV.var bd (by rfl) rfl) hr) rfl rfl rfl rfl (fun p hp => by simp at hp; subst hp; exact ⟨_, rfl⟩) (sub_one rfl) (fun env cb dd hm => ?_) (by unfold sizeLine; simp; lia) (fun xx => rfl) (by
    have e := bd.is
    generalize c.env = env at e ⊢
    cases env
    dsimp only at e
    subst e
    rfl) rfl) ?_
  · obtain ⟨n, _, rfl⟩ := List.mem_map.mp hm
    have hp := f_path X (rows := T) (n := n) (by have := h.len; lia) (fun row hr => by have := (h.rows row hr).2; lia) h.small
    rw [h.path n] at hp
    exact CE.mk (AT.varC cb (by rfl)) (.cons_cons _ (.cons _ .slnil)) (EV.conv (EV.callFo (cb.outer (by rfl)) X rfl rfl rfl (.two (EV.varC cb (by rfl) rfl) (EV.varC cb (by rfl) rfl) rfl) hp hr (by decide) rfl) (by simp))
  · rw [fm_paths]; rfl
theorem lw_steps (bd : Body c (lwFd P).scope) (X : Kx (Mine.hd.heap_1 P) c.toGx) (hr : Rm c.A 4) {s d pat : D} {T : List (List (List Nat))} {N : List Nat} (h : TabT T) (hN : N.length ≤ 1000) :
    EX1 c (LW s d pat T [("numbers", .val (dNums N)), ("paths", .val (dPaths T N))]) (lwAt P 7) (.next (LW s d pat T [("numbers", .val (dNums N)), ("paths", .val (dPaths T N)), ("steps", .val (dSteps T N))])) := by
  refine EX1.conv (EX1.assignCompC bd.cb gSteps [("rows", .val (dRows T))] (items := N.map fun n => dS (pathOf (pn T n))) (IT.list (EV.var bd (by rfl) rfl) hr) rfl rfl rfl rfl (fun p hp => by simp at hp; subst hp; exact ⟨_, rfl⟩) (sub_one rfl) (fun env cb dd hm => ?_) (by unfold sizeLine; simp; lia) (fun xx => rfl) (by
    have e := bd.is
    generalize c.env = env at e ⊢
    cases env
    dsimp only at e
    subst e
    rfl) rfl) ?_
  · obtain ⟨n, _, rfl⟩ := List.mem_map.mp hm
    have hs := f_steps X (names := pn T n) (h.pn_ne n) (fun x hx => (h.names n x hx).1) (by have := h.path_le n; lia) (by rw [pn_length]; have := h.len; lia)
    rw [pn_length] at hs
    have hp : pieces 47 (pathOf (pn T n)) = [] :: pn T n := pieces_path fun x hx => (h.names n x hx).1
    refine CE.mk (AT.varC cb (by rfl)) (.cons_cons _ (.cons _ .slnil)) (EV.conv (EV.callFo (cb.outer (by rfl)) X rfl rfl rfl (.two (EV.varC cb (by rfl) rfl) (EV.conv (EV.callBo (cb.outer (by rfl)) X rfl rfl (by decide) (.inl ⟨_, rfl⟩) (.one (EV.varC cb (by rfl) rfl) rfl) (Fn.len_list (by simp; have := h.len; lia)) hr (by decide) rfl) (by rw [List.length_map])) rfl) hs hr (by decide) rfl) ?_)
    show _ = dRow ([47] :: (pieces 47 (pathOf (pn T n))).drop 1)
    rw [hp]; rfl
  · rw [fm_steps h]; rfl
end
end Mine
end
section
open PySem PySem.W PySem.Calls PyProof.Rows
set_option Elab.async false
set_option tactic.hygienic false
set_option maxRecDepth 100000
set_option maxHeartbeats 2000000
set_option linter.unusedVariables false
namespace Mine
section
variable {c : Cx} {P : Params}
noncomputable abbrev LF (s d pat : D) (T : List (List (List Nat))) (N : List Nat) (rest : Rho) : Rho := LW s d pat T (("numbers", .val (dNums N)) :: ("paths", .val (dPaths T N)) :: ("steps", .val (dSteps T N)) :: rest)
section
variable {s d pat : D} {T : List (List (List Nat))} {N : List Nat} {rest : Rho} {e : Expr} {n k : Nat} {sp np : Pos}
theorem ev_num (bd : Body c (lwFd P).scope) (hr : Rm c.A 4) (hN : N.length ≤ 1000) (he : EV c (LF s d pat T N rest) e (.int (k : Nat))) (hk : N[k]? = some n) : EV c (LF s d pat T N rest) (.Subscript (.Name "numbers" np) e sp) (.int (n : Nat)) :=
  EV.sub (EV.var bd (by rfl) rfl) he rfl F.slot_list_getitem.lookup (Op2.at_list (by rw [List.getElem?_map, hk]; rfl) (by simp; lia)) (hr.less (by decide))
theorem ev_path (bd : Body c (lwFd P).scope) (hr : Rm c.A 4) (hN : N.length ≤ 1000) (he : EV c (LF s d pat T N rest) e (.int (k : Nat))) (hk : N[k]? = some n) : EV c (LF s d pat T N rest) (.Subscript (.Name "paths" np) e sp) (dS (pathOf (pn T n))) :=
  EV.sub (EV.var bd (by rfl) rfl) he rfl F.slot_list_getitem.lookup (Op2.at_list (by rw [List.getElem?_map, hk]; rfl) (by simp; lia)) (hr.less (by decide))
theorem ev_step (bd : Body c (lwFd P).scope) (hr : Rm c.A 4) (hN : N.length ≤ 1000) (he : EV c (LF s d pat T N rest) e (.int (k : Nat))) (hk : N[k]? = some n) : EV c (LF s d pat T N rest) (.Subscript (.Name "steps" np) e sp) (dRow ([47] :: pn T n)) :=
  EV.sub (EV.var bd (by rfl) rfl) he rfl F.slot_list_getitem.lookup (Op2.at_list (by rw [List.getElem?_map, hk]; rfl) (by simp; lia)) (hr.less (by decide))
end
theorem lw_each (bd : Body c (lwFd P).scope) (X : Kx (Mine.hd.heap_1 P) c.toGx) (hr : Rm c.A 4) {s d pat : D} {T : List (List (List Nat))} {N : List Nat} (h : TabT T) (hN : N.length ≤ 1000) (hlt : ∀ n ∈ N, n < size T) :
    EX1 c (LF s d pat T N []) (lwAt P 8) (.next (LF s d pat T N [])) := by
  refine EX1.conv (EX1.forE (tt := false) (items := rng 0 N.length) (fun xx => LF s d pat T N []) (IT.range1 (n := N.length) (EV.built X (bd.outer (by rfl)) rfl rfl (by decide)) (EV.conv (EV.callB bd X (by rfl) rfl rfl (by decide) (.inl ⟨_, rfl⟩) (.one (EV.var bd (by rfl) rfl) rfl) (Fn.len_list (by simp; lia)) hr (by decide) rfl) (by rw [List.length_map])) rfl (by lia) hr) (fun i dd hd => ?_) (fun xx => rfl)) rfl
  have hi : i < N.length := by have := (List.getElem?_eq_some_iff.mp hd).1; simpa [rng] using this
  have hd' : dd = .int ((i : Nat) : Int) := by simp [rng, hi] at hd; exact hd.symm
  subst hd'
  have hg : N[i]? = some N[i] := List.getElem?_eq_getElem hi
  have hn := hlt N[i] (List.getElem_mem hi)
  generalize N[i] = n at hg hn
  have hah := f_ahead X (told := T) (names := pn T n) (fun x hx => (h.names n x hx).1) (by have := h.path_le n; lia) (by rw [pn_length]; have := h.len; lia) (pn_lengths T n) (fun row hr => by have := (h.rows row hr).2; lia) (fun p hp => (h.signs n p hp).2)
  rw [ahead_back h.ok hn] at hah
  have hnb := f_number X (rows := T) (names := pn T n) (h.signs n)
  rw [number_back h.ok hn] at hnb
  refine ⟨_, AT.var bd (by rfl), ?_⟩
  refine EX.post (ρ' := LF s d pat T N [("k", .val (.int (i : Nat)))]) ?_ (List.sublist_append_left _ [_])
  refine EX.cons (ρ' := LF s d pat T N [("k", .val (.int (i : Nat)))]) (EX1.ite (b := false || false) (EB.or (EB.conv (EB.cmp (EV.sub (ev_step bd hr hN (EV.var bd (by rfl) rfl) hg) EV.int rfl F.slot_list_getitem.lookup (Op2.at_list (j := 0) (d := dS [47]) rfl (by simp [pn_length]; have := h.len; lia)) (hr.less (by decide))) (strS (l := [47]) rfl) Op2.ne_str (hr.less (by decide)) rfl) (by decide)) fun xx => EB.conv (EB.cmp (EV.callF bd X (by rfl) rfl rfl rfl (.two (EV.var bd (by rfl) rfl) (ev_path bd hr hN (EV.var bd (by rfl) rfl) hg) rfl) hah hr (by decide) rfl) (ev_num bd hr hN (EV.var bd (by rfl) rfl) hg) Op2.ne_int (hr.less (by decide)) rfl) (by simp)) (fun q => by cases q) (fun xx => EX.nil)) ?_
  exact EX.cons (EX1.ite (b := false) (EB.conv (EB.cmp (EV.callF bd X (by rfl) rfl rfl rfl (.two (EV.var bd (by rfl) rfl) (EV.conv (EV.sub (ev_step bd hr hN (EV.var bd (by rfl) rfl) hg) (EV.slice (dl := .int ((1 : Nat) : Int)) (du := .none) (ds := .none) EV.int rfl rfl) rfl F.slot_list_getitem.lookup (Op2.from_list (by unfold sizeLine; simp [pn_length]; have := h.len; lia)) (hr.less (by decide))) (show _ = dRow (pn T n) from rfl)) rfl) hnb hr (by decide) rfl) (ev_num bd hr hN (EV.var bd (by rfl) rfl) hg) Op2.ne_int (hr.less (by decide)) rfl) (by simp)) (fun q => by cases q) (fun xx => EX.nil)) EX.nil
theorem lw_pairs (bd : Body c (lwFd P).scope) (X : Kx (Mine.hd.heap_1 P) c.toGx) (hr : Rm c.A 4) {s d pat : D} {T : List (List (List Nat))} {N : List Nat} (h : TabT T) (hN : N.length ≤ 1000) (hlt : ∀ n ∈ N, n < size T) :
    EX1 c (LF s d pat T N []) (lwAt P 9) (.next (LF s d pat T N [])) := by
  have ru := range_up N.length (by lia)
  refine EX1.conv (EX1.forE (tt := false) (items := rngS 1 1 (N.length - 1)) (fun xx => LF s d pat T N []) (IT.range2 (k := 4) (a := 1) (b := (N.length : Nat)) (n := N.length - 1) (EV.built X (bd.outer (by rfl)) rfl rfl (by decide)) EV.int (EV.conv (EV.callB bd X (by rfl) rfl rfl (by decide) (.inl ⟨_, rfl⟩) (.one (EV.var bd (by rfl) rfl) rfl) (Fn.len_list (by simp; lia)) hr (by decide) rfl) (by rw [List.length_map])) rfl ru.1 ru.2 hr) (fun i dd hd => ?_) (fun xx => rfl)) rfl
  have hi : i < N.length - 1 := by have := (List.getElem?_eq_some_iff.mp hd).1; rwa [rngS_length] at this
  have hd' : dd = .int ((i + 1 : Nat) : Int) := by
    unfold rngS at hd
    rw [List.getElem?_map, List.getElem?_range hi] at hd
    simp at hd
    rw [← hd]
    congr 1
    lia
  subst hd'
  have hg0 : N[i]? = some N[i] := List.getElem?_eq_getElem (by lia)
  have hg1 : N[i + 1]? = some N[i + 1] := List.getElem?_eq_getElem (by lia)
  have hm := hlt N[i] (List.getElem_mem _)
  have hn := hlt N[i + 1] (List.getElem_mem _)
  generalize N[i] = m at hg0 hm
  generalize N[i + 1] = n at hg1 hn
  have hord := order_back h.ok hm hn [47]
  have hcp := f_commonpath X (n1 := pn T m) (n2 := pn T n) (h.names m) (h.names n) (by have := h.path_le m; lia) (by have := h.path_le n; lia) (by rw [pn_length, pn_length]) (by rw [pn_length]; have := h.len; lia) (h.pn_ne m)
  rw [alike_back h.ok hm hn] at hcp
  have hal := f_alike X (told := T) (names := pn T n) (one := m) (other := n) (fun x hx => (h.names n x hx).1) (by have := h.path_le n; lia) (by rw [pn_length]; have := h.len; lia) (pn_length T n).symm h.small h.size
  refine ⟨_, AT.var bd (by rfl), ?_⟩
  refine EX.post (ρ' := LF s d pat T N [("i", .val (.int (i + 1 : Nat)))]) ?_ (List.sublist_append_left _ [_])
  have e1 : ∀ {p1 p2 p3 : Pos} {kk : Nat}, EV c (LF s d pat T N [("i", .val (.int (i + 1 : Nat)))]) (.BinOp (.Name "i" p1) .Sub (.Constant (.int 1) kk p2) p3) (.int (i : Nat)) := EV.conv (EV.bin' (EV.var bd (by rfl) rfl) EV.int Op2.sub_int hr (by decide)) (by congr 1; lia)
  refine EX.cons (ρ' := LF s d pat T N [("i", .val (.int (i + 1 : Nat)))]) (EX1.ite (b := false) (EB.conv (EB.cmp (EV.callF bd X (by rfl) rfl rfl rfl (.two (ev_step bd hr hN e1 hg0) (ev_step bd hr hN (EV.var bd (by rfl) rfl) hg1) rfl) (f_lt X) hr (by decide) rfl) (EV.cmp (ev_num bd hr hN e1 hg0) (ev_num bd hr hN (EV.var bd (by rfl) rfl) hg1) Op2.lt_int (hr.less (by decide)) rfl) Op2.ne_bool (hr.less (by decide)) rfl) ?_) (fun q => by cases q) (fun xx => EX.nil)) ?_
  · rw [hord]
    have : decide (m < n) = decide ((m : Int) < (n : Int)) := by rw [Bool.eq_iff_iff]; simp
    rw [this]
    simp
  · exact EX.cons (EX1.ite (b := false) (EB.conv (EB.cmp (EV.callF bd X (by rfl) rfl rfl rfl (.one (EV.list (ds := [dS (pathOf (pn T m)), dS (pathOf (pn T n))]) (.two (ev_path bd hr hN e1 hg0) (ev_path bd hr hN (EV.var bd (by rfl) rfl) hg1) rfl) (by unfold sizeLine; simp)) rfl) hcp hr (by decide) rfl) (EV.callF bd X (by rfl) rfl rfl rfl (.cons (EV.var bd (by rfl) rfl) (.cons (ev_path bd hr hN (EV.var bd (by rfl) rfl) hg1) (.two (ev_num bd hr hN e1 hg0) (ev_num bd hr hN (EV.var bd (by rfl) rfl) hg1) rfl) fun env => rfl) fun env => rfl) hal hr (by decide) rfl) Op2.ne_str (hr.less (by decide)) rfl) (by simp)) (fun q => by cases q) (fun xx => EX.nil)) EX.nil
theorem lw_rest (bd : Body c (lwFd P).scope) (X : Kx (Mine.hd.heap_1 P) c.toGx) (TE : TabEnv c.G 61 57) (hr : Rm c.A 4) {xs : List Int} {d : D} {dss : List (List Itm)} {k : Nat} (hd : DrawnOk dss k) (hk : k ≤ 10) (hne : dss ≠ []) (hx : xs.length ≤ 1000) :
    EXk c [("script", .val (.list (xs.map D.int))), ("drawn", .tab 57 d), ("told", .val (dRows (toldOf dss))), ("pattern", .val (dS (pathOf (patsOf dss))))] ((bodyOf (lwFd P)).drop 3) [("drawn", .tab 57 d)] (.bool true) := by
  have h := hd.tabT hk hne
  have hN : (numbersOf (xs.take 3 ++ [60, -9876543]) (size (toldOf dss))).length ≤ 1000 := by rw [numbersOf_length]; simp; lia
  have hlt := numbers_lt (start := xs.take 3 ++ [60, -9876543]) h.ok.pos
  refine EXk.cons (lw_rows bd X TE hr hd hk hne) ?_
  refine EXk.cons (lw_same bd X hr) ?_
  refine EXk.cons (lw_numbers bd X hr h hx) ?_
  refine EXk.cons (lw_paths bd X hr h hN) ?_
  refine EXk.cons (lw_steps bd X hr h hN) ?_
  refine EXk.cons (lw_each bd X hr h hN hlt) ?_
  refine EXk.cons (lw_pairs bd X hr h hN hlt) ?_
  refine EXk.post (EXk.ret EV.bool) ?_
  exact .cons _ (.cons_cons _ (.cons _ (.cons _ (.cons _ (.cons _ (.cons _ (.cons _ .slnil)))))))
end
end Mine
end
section
open PySem PySem.W PySem.Calls PyProof.Rows
set_option Elab.async false
set_option tactic.hygienic false
set_option maxRecDepth 100000
set_option maxHeartbeats 4000000
set_option linter.unusedVariables false
namespace Mine
theorem well_ints {P : Params} {h : Heap} {Z : Mp} : ∀ {xs : List Int} {vs : List Value}, WellAll P h vs (ofPys (xs.map PyData.int)) → RepL Z vs (xs.map D.int) := by
  intro zz
  induction zz with
  | nil => intro vs h; cases h; exact .nil
  | cons x xs IH =>
    intro vs h
    cases h with
    | cons h1 h2 =>
      cases h1
      exact .cons (.int _ _) (IH h2)
section
variable {c : Cx} {P : Params}
theorem lw_body (bd : Body c (lwFd P).scope) (X : Kx (Mine.hd.heap_1 P) c.toGx) (TE : TabEnv c.G 61 57) (hr : Rm c.A 4) {sg s : Shared} {B : Mp} {Y : List Addr} {xs : List Int} {E : Value → Shared → Prop} (hx : xs.length ≤ 63) (hY : 57 ∈ Y) (hB : B 57 = some (tabObj #[])) (hcells : ∀ x a, c.env.cells.lookup x = some a → a ∈ c.oc)
    (h : St c sg B Y [("script", .val (.list (xs.map D.int)))] [] s) :
    wpAny c.M c.A (execs (bodyOf (lwFd P)) c.env) (fun fl s' => ∃ v, fl = .ret v ∧ ∃ d, St c sg (fun a => if a = 57 then none else B a) (Y.filter (· != 57)) [("drawn", .tab 57 d)] [(v, .bool true)] s') E s := by
  have hd := drawn_ok (xs.take 7 ++ [3, 29, 54])
  have hk : (xs.take 7 ++ [3, 29, 54]).length ≤ 10 := by simp; lia
  have hne := hd.2 (by simp)
  refine wpAny_execs_cons (wpAny_mono (lw_drawn bd X hr (by lia) sg B Y [] s E h) (fun f s₁ q => ?_) fun xx xx e => e)
  obtain ⟨rfl, q⟩ := q
  refine wpAny_execs_cons (wpAny_mono (lw_told bd X hr hd.1 hk sg B Y [] s₁ E q) (fun f s₂ q => ?_) fun xx xx e => e)
  obtain ⟨rfl, q⟩ := q
  refine wpAny_execs_cons (wpAny_mono (lw_pattern bd X hr hd.1 hk hne sg B Y [] s₂ E q) (fun f s₃ q => ?_) fun xx xx e => e)
  obtain ⟨rfl, fs, m, cm, y⟩ := q
  obtain ⟨fs', y'⟩ := y.take (P := 57) (x := "drawn") hY hB (ps := #[]) trivial (.of_look rfl) hcells
  refine wpAny_mono (lw_rest bd X TE hr hd.1 hk hne (by lia) _ _ _ _ _ _ ⟨fs', m, cm, y'⟩) (fun fl s₄ hqz => by obtain ⟨v, e, q⟩ := hqz; exact ⟨v, e, _, q⟩) fun xx xx e => e
end
theorem top_law {prog : Program} {w : World} {s₁ : Shared} {p : Program} {loose : List Str} {mean : ExcName → Option Value} {mg mb : Str → Option Value} {fa l : Addr} {xs : List Int} {R : Result → Shared → Prop} (KX : (Mine.hd.heap_1 w.params).In s₁.heap) (hT : TabsAt [(61, 57)] s₁.heap) (T : Top p loose mean mg mb s₁.heap)
    (hmg : mg "law" = some (.ref fa)) (hg : s₁.gens = #[]) (hW : Well w.params s₁.heap (.ref l) (ofPy (PyData.list (xs.map PyData.int)))) (hx : xs.length ≤ 63)
    (hR : ∀ s', OldK s₁.heap s'.heap → s'.os = s₁.os → AllBare s'.gens → R (.ok (.ret (.bool true))) s') : codeAny (model prog w) callerA (.call (.ref fa) ⟨[.ref l], []⟩) R s₁ := by
  have T' := ghost_top hT T
  have KX' : (Mine.hd.heap_1 w.params).In (ghostOf s₁.heap [(61, 57)]) := ghost_K hT KX (by kernel_rfl)
  have hfa : fa = 302 := by
    have := mg_of KX T.g (n := "law") (v := .ref 302) rfl
    rw [hmg] at this
    cases this
    rfl
  subst hfa
  let g : Gx := { prog := prog, w := w, G := ghostOf s₁.heap [(61, 57)], lo := 0 }
  have h57 : (ghostOf s₁.heap [(61, 57)]).get? 57 = none := hideAll_none _ (by simp)
  have X : Kx (Mine.hd.heap_1 w.params) g := ⟨KX', T'.nolimit, T'.nolimit.elim fun mc a => ⟨mc, a.1⟩, ⟨mg, mb, T'.g, T'.b, T'.builtins⟩⟩
  have TE : TabEnv g.G 61 57 := by
    obtain ⟨bm, ob, a1, a2, a3, a4, a5, a6⟩ := T'.bmain
    refine ⟨(ghost_code hT).1, ⟨mg, bm, ob, T'.g, a1, a2, fun q => ?_, a3, a4, a5, a6⟩, h57, T'.nolimit⟩
    obtain ⟨o, es, ep, e, hd, _⟩ := T'.g
    rw [q, e] at a3; cases a3; rw [hd] at a6; cases a6
  have hT57 := (hT (61, 57) (.head _)).2
  have up : ∀ b o, g.G.get? b = some o → s₁.heap.get? b = some o := fun b o e => of_hideAll _ e
  have hG : ∀ b o, g.G.get? b = some o → s₁.heap.get? b = some o ∧ b ∉ [57] := fun b o e => ⟨up b o e, fun q => by
    rw [List.mem_singleton] at q
    subst q
    rw [show g.G.get? 57 = none from h57] at e
    cases e⟩
  have hw : ∃ vs, s₁.heap.get? l = some (lst vs 0) ∧ WellAll w.params s₁.heap vs (ofPys (xs.map PyData.int)) := by
    cases hW with
    | list h1 h2 => exact ⟨_, h1, h2⟩
  obtain ⟨vs, hl, hvs⟩ := hw
  have hl57 : l ≠ 57 := fun q => by rw [q, hT57] at hl; cases hl
  have hv : Rep (Zof s₁.heap [57]) (.ref l) (.list (xs.map D.int)) := .list (Zof.of hl (by simpa using hl57)) (well_ints hvs)
  have hr : Rm callerA 5 := ⟨rfl, by decide +kernel, by decide +kernel⟩
  refine codeAny_call_function (fd := _) (body := _) (by have := hr.depth; lia) (up _ _ (X.inn 302 _ rfl)) rfl rfl rfl rfl (codeRec_of (X.inn.keeps up) rfl) ?_
  refine wpAny_of_eq (a := [(("script" : Str), Value.ref l)]) rfl ?_
  refine enter1 (k := 4) (s := s₁) (H := [57]) (x := "script") (d := .list (xs.map D.int)) (Fin := fun v s' => v = .bool true ∧ OldK s₁.heap s'.heap ∧ s'.os = s₁.os ∧ AllBare s'.gens) X rfl rfl (by decide) (by decide) (fun A L E s₂ hr bd q => ?_) rfl rfl rfl callerA (.ref l) R hr (fun a ha => ?_) hG rfl hv (fun v s' hqz => by obtain ⟨e, h1, h2, h3⟩ := hqz; subst e; exact hR s' h1 h2 h3)
  · refine wpAny_mono (lw_body (c := cxOf g A _) bd X TE hr (B := s₁.heap.get?) (Y := [57]) hx (by simp) hT57 (fun x a e => List.mem_map_of_mem (f := (·.2)) (mem_of_lookup' e)) q) (fun fl s' q2 => ?_) fun xx xx e => e
    obtain ⟨v, e, d, fs, m, cm, z⟩ := q2
    refine ⟨v, e, ?_⟩
    obtain ⟨ps', p1, p2⟩ := St.table z (x := "drawn") (P := 57) (d := d) (.of_look rfl)
    have hvt := (z.temps (v, .bool true) (.head _)).of_bool
    have keep : ∀ b o, b ≠ 57 → s₁.heap.get? b = some o → s'.heap.get? b = some o := fun b o hb e => z.keep b o (by show (if b = 57 then none else s₁.heap.get? b) = some o; rw [if_neg hb]; exact e)
    obtain ⟨es, eg⟩ := z.same
    refine ⟨hvt, ⟨fun b o e => ?_, fun b o e => ?_⟩, by rw [es], eg (by rw [hg]; exact .empty)⟩
    · by_cases hb : b = 57
      · subst hb
        rw [hT57] at e
        cases e
        exact .inr (.inl ⟨((hT (61, 57) (.head _)).1.tab hT57).isCodeTable, rfl, #[], ps', rfl, by rw [Array.empty_append]; exact p1⟩)
      · exact .inl (keep b o hb e)
    · by_cases hb : b = 57
      · subst hb; exact ⟨_, p1⟩
      · exact ⟨o, keep b o hb e⟩
  · rw [List.mem_singleton] at ha
    subst ha
    exact ⟨_, hT57⟩
end Mine
end
open PySem PySem.W PyProof.Rows
set_option maxRecDepth 100000
set_option maxHeartbeats 4000000
set_option Elab.async false
namespace Mine
theorem whole.tw16986973334993361146 : True := trivial
theorem whole.tw3909395182359919685 : True := trivial
theorem whole.tw17326515090296055547 : True := trivial
theorem whole.tw8398797258006769423 : True := trivial
theorem whole.tw5275370407614873898 : True := trivial
theorem whole.tw14107100843456557189 : True := trivial
theorem whole.tw12253353610927973622 : True := trivial
theorem whole.tw15186734635296837962 : True := trivial
theorem whole.tw13008065069439005819 : True := trivial
theorem whole.tw242267411020056884 : True := trivial
theorem whole.tw6347837038165353218 : True := trivial
theorem whole.tw5791057583981497946 : True := trivial
theorem whole.tw7600777123763113705 : True := trivial
theorem whole.tw17092094596097150618 : True := trivial
theorem whole.tw14395644662136614805 : True := trivial
theorem whole.tw5297632933804744799 : True := trivial
theorem whole.tw1692622564874605650 : True := trivial
theorem whole.tw2380856123775585655 : True := trivial
theorem whole.tw12381228794656768651 : True := trivial
theorem whole.tw15716183405302250479 : True := trivial
theorem whole.tw2536362301702204066 : True := trivial
theorem whole.tw2959683903145980101 : True := trivial
theorem whole.tw3125283655325999989 : True := trivial
theorem whole.tw14407849266092530191 : True := trivial
theorem whole.tw9851385603074314742 : True := trivial
theorem whole.tw16576061068926947915 : True := trivial
theorem whole.tw10832908153356258463 : True := trivial
theorem whole.tw13156973312945586846 : True := trivial
theorem whole.tw12976933641374925533 : True := trivial
theorem whole.tw1219099391390118749 : True := trivial
theorem whole.tw12098860561503762481 : True := trivial
theorem whole.tw11985420754881014295 : True := trivial
theorem whole.tw8894826161267586577 : True := trivial
theorem whole.tw1897105925431849711 : True := trivial
theorem whole.tw12742087137024979937 : True := trivial
theorem whole.tw13989200534822022692 : True := trivial
theorem whole.tw15206955865107345967 : True := trivial
theorem whole.tw15481164920822199189 : True := trivial
theorem whole.tw13299354312176971544 : True := trivial
theorem whole.tw13984690719038184879 : True := trivial
theorem whole.tw10531011149005678368 : True := trivial
theorem whole.tw264305225020417698 : True := trivial
theorem whole.tw12346461896057553308 : True := trivial
theorem whole.tw788599112383681209 : True := trivial
theorem whole.tw2481933987717600862 : True := trivial
theorem whole.tw11836910150536664915 : True := trivial
theorem whole.tw3935972832432928633 : True := trivial
theorem whole.tw11966515284280811977 : True := trivial
theorem whole.tw16588625043399567139 : True := trivial
theorem whole.tw4163455835068889971 : True := trivial
theorem whole.tw8341004590406740810 : True := trivial
theorem whole.tw17768757769460313278 : True := trivial
theorem whole.tw6396017553259284124 : True := trivial
theorem whole.tw68212649630152069 : True := trivial
theorem whole.tw3099174332690161747 : True := trivial
theorem whole.tw6416634858453334624 : True := trivial
theorem whole.tw10602399703277881627 : True := trivial
theorem whole.tw8615399842404961663 : True := trivial
theorem whole.tw15103685750691789098 : True := trivial
theorem whole.tw5462770333876777704 : True := trivial
theorem whole.tw7615012973352193832 : True := trivial
theorem whole.tw5201323674647411954 : True := trivial
theorem whole.tw10467399731503315703 : True := trivial
theorem whole.tw12661878462829293838 : True := trivial
theorem whole.tw17179786008130999086 : True := trivial
theorem whole.tw4934077235998201596 : True := trivial
theorem whole.tw1077347074188364252 : True := trivial
theorem whole.tw4221266100470226451 : True := trivial
theorem whole.tw9446046918361872579 : True := trivial
theorem whole.tw11476502588441444683 : True := trivial
theorem whole.tw13000713063990318526 : True := trivial
theorem whole.tw5532809562029925614 : True := trivial
theorem whole.tw8465779003785688887 : True := trivial
theorem whole.tw15015764479258077956 : True := trivial
theorem whole.tw6097748072631727781 : True := trivial
theorem whole.tw13142167418276237254 : True := trivial
theorem whole.tw13730376311393935369 : True := trivial
theorem whole.tw3166543957339863982 : True := trivial
theorem whole.tw14390007995909808975 : True := trivial
theorem whole.tw16466350034822593646 : True := trivial
theorem whole.tw4419101906657545670 : True := trivial
theorem whole.tw16668768811381343612 : True := trivial
theorem whole.tw7925426705801168976 : True := trivial
theorem whole.tw4357746044423742650 : True := trivial
theorem whole.tw6888942637506950926 : True := trivial
theorem whole.tw6049599900894316688 : True := trivial
theorem whole.tw12920395458479335663 : True := trivial
theorem whole.tw17948893368442150300 : True := trivial
theorem whole.tw13974613887430780637 : True := trivial
theorem whole.tw7681585233975162668 : True := trivial
theorem whole.tw10645134523649916562 : True := trivial
theorem whole.tw15768502841844338259 : True := trivial
theorem whole.tw5942346508108547180 : True := trivial
theorem whole.tw1765076044715932963 : True := trivial
theorem whole.tw6823266097380344784 : True := trivial
theorem whole.tw11678933692714762019 : True := trivial
theorem whole.tw2013318861076662011 : True := trivial
theorem whole.tw8719548228035378133 : True := trivial
theorem whole.tw15657491793718945610 : True := trivial
theorem whole.tw10019450917411332427 : True := trivial
theorem whole.tw14671651394210877623 : True := trivial
theorem whole.tw18419535431094276187 : True := trivial
theorem whole.tw9625973628771424018 : True := trivial
theorem whole.tw2671473368057055242 : True := trivial
theorem whole.tw9121730484126507938 : True := trivial
theorem whole.tw15117479482001565679 : True := trivial
theorem whole.tw8699793337390238261 : True := trivial
theorem whole.tw11229042503855022048 : True := trivial
theorem whole.tw5171116725156735389 : True := trivial
theorem whole.tw3604371722874584219 : True := trivial
theorem whole.tw15564212434770411261 : True := trivial
theorem whole.tw9748834850448372353 : True := trivial
theorem whole.tw15401142651479110994 : True := trivial
theorem whole.tw16708263669468244151 : True := trivial
theorem whole.tw9501391760213346845 : True := trivial
theorem whole.tw10084071824679271942 : True := trivial
theorem whole.tw14572474884633517431 : True := trivial
theorem whole.tw5433660331597885046 : True := trivial
theorem whole.tw772474843232632690 : True := trivial
theorem whole.tw4234479992401935053 : True := trivial
theorem whole.tw18196808475386084402 : True := trivial
theorem whole.tw7977878525754885090 : True := trivial
theorem whole.tw12598572606399187110 : True := trivial
theorem whole.tw13478315594510353802 : True := trivial
theorem whole.tw9838295914634562783 : True := trivial
theorem whole.tw6896427876366098391 : True := trivial
theorem whole.tw13719171679594634575 : True := trivial
theorem whole.tw3085902745639715626 : True := trivial
theorem whole.tw3127163415804763599 : True := trivial
theorem whole.tw15652777202477211125 : True := trivial
theorem whole.tw7910221479046277610 : True := trivial
theorem whole.tw6192170501036255877 : True := trivial
theorem whole.tw697334722855355308 : True := trivial
theorem whole.tw5078443471013023264 : True := trivial
theorem whole.tw858943423001151221 : True := trivial
theorem whole.tw14192229110069238088 : True := trivial
theorem whole.tw10838650209671834137 : True := trivial
theorem whole.tw8572516506043022915 : True := trivial
theorem whole.tw6774775609766916077 : True := trivial
theorem whole.tw17980908128825299112 : True := trivial
theorem whole.tw12384220206497402333 : True := trivial
theorem whole.tw10002100669626812175 : True := trivial
theorem whole.tw7588574119468234827 : True := trivial
theorem whole.tw4162360135600614074 : True := trivial
theorem whole.tw11590016095013283645 : True := trivial
theorem whole.tw9988426361468213469 : True := trivial
theorem whole.tw8799044985600393684 : True := trivial
theorem whole.tw12179455670472476543 : True := trivial
theorem whole.tw7509650053966640704 : True := trivial
theorem whole.tw10354518954362131899 : True := trivial
theorem whole.tw161632788893874429 : True := trivial
theorem whole.tw17991299263585117788 : True := trivial
theorem whole.tw7582116766257987118 : True := trivial
theorem whole.tw536816803628104207 : True := trivial
theorem whole.tw12092817750456807627 : True := trivial
theorem whole.tw437534634077163847 : True := trivial
theorem whole.tw14381574177426341226 : True := trivial
theorem whole.tw14765760737338471991 : True := trivial
theorem whole.tw1699034841665187622 : True := trivial
theorem whole.tw203428145850139289 : True := trivial
theorem whole.tw11018331769982298155 : True := trivial
theorem whole.tw18145388855558949900 : True := trivial
theorem whole.tw14239292526413980002 : True := trivial
theorem whole.tw11409993775148365219 : True := trivial
theorem whole.tw12808456870637180559 : True := trivial
theorem whole.tw11423436602419212718 : True := trivial
theorem whole.tw10335108021726791369 : True := trivial
theorem whole.tw16505068655815891843 : True := trivial
theorem whole.tw17475311184863085016 : True := trivial
theorem whole.tw9841425051670495895 : True := trivial
theorem whole.tw6453619897266653623 : True := trivial
theorem whole.tw12384909515848061526 : True := trivial
theorem whole.tw10461253832287612282 : True := trivial
theorem whole.tw14875044017630859624 : True := trivial
theorem whole.tw7187317218736086229 : True := trivial
theorem whole.tw5137022389394785357 : True := trivial
theorem whole.tw8884531897199943920 : True := trivial
theorem whole.tw14857529406646634625 : True := trivial
theorem whole.tw590541238101311183 : True := trivial
theorem whole.tw6714927969197098277 : True := trivial
theorem whole.tw14877643965249282964 : True := trivial
theorem whole.tw12357822762572897972 : True := trivial
theorem whole.tw7101197657001211085 : True := trivial
theorem whole.tw6472696656209681604 : True := trivial
theorem whole.tw4447922135398794285 : True := trivial
theorem whole.tw1114806542021703131 : True := trivial
theorem whole.tw11841974853317911985 : True := trivial
theorem whole.tw13110515450571257733 : True := trivial
theorem whole.tw2021854409746315462 : True := trivial
theorem whole.tw2362521522948952975 : True := trivial
theorem whole.tw11792362355297244138 : True := trivial
theorem whole.tw6872907005359335961 : True := trivial
theorem whole.tw1469495571348798126 : True := trivial
theorem whole.tw7185185305316088854 : True := trivial
theorem whole.tw1934810232205804993 : True := trivial
theorem whole.tw13463558215457259582 : True := trivial
theorem whole.tw13962616709173656972 : True := trivial
theorem whole.tw15835130817642446534 : True := trivial
theorem whole.tw16595449952281916149 : True := trivial
theorem whole.tw11791088910183784695 : True := trivial
theorem whole.tw12967805889597932581 : True := trivial
theorem whole.tw2401531773124529735 : True := trivial
theorem whole.tw6734874506966982255 : True := trivial
theorem whole.tw13155097880312403346 : True := trivial
theorem whole.tw2649048575011448004 : True := trivial
theorem whole.tw11316320225543275868 : True := trivial
theorem whole.tw9707250908836423824 : True := trivial
theorem whole.tw9315315907157715723 : True := trivial
theorem whole.tw3280129329062278201 : True := trivial
theorem whole.tw16529046165737248422 : True := trivial
theorem whole.tw9055695317017464860 : True := trivial
theorem whole.tw18056553881098321084 : True := trivial
theorem whole.tw14138553856905868755 : True := trivial
theorem whole.tw3306209509626126654 : True := trivial
theorem whole.tw10438997657263567297 : True := trivial
theorem whole.tw16912792503757511054 : True := trivial
theorem whole.tw18135788421098096370 : True := trivial
theorem whole.tw9521756469634577901 : True := trivial
theorem whole.tw4479364801722962140 : True := trivial
theorem whole.tw16026843855606243410 : True := trivial
theorem whole.tw6612613915786651340 : True := trivial
theorem whole.tw4338333698743118245 : True := trivial
theorem whole.tw13061340530893119238 : True := trivial
theorem whole.tw9235561108164731721 : True := trivial
theorem whole.tw6766658173562982576 : True := trivial
theorem whole.tw6377287985247879410 : True := trivial
theorem whole.tw12044105500090777872 : True := trivial
theorem whole.tw5515949286892933951 : True := trivial
theorem whole.tw10025635815308576066 : True := trivial
theorem whole.tw14492196311604417308 : True := trivial
theorem whole.tw17169624498616045403 : True := trivial
theorem whole.tw5798653541585068671 : True := trivial
theorem whole.tw4672207989499910625 : True := trivial
theorem whole.tw4180466227808675834 : True := trivial
theorem whole.tw1393339623888494026 : True := trivial
theorem whole.tw6150244297128479101 : True := trivial
theorem whole.tw9024608533772062355 : True := trivial
theorem whole.tw5438831827131416888 : True := trivial
theorem whole.tw11547806523317593266 : True := trivial
theorem whole.tw6866068747796929802 : True := trivial
theorem whole.tw7868544009499267292 : True := trivial
theorem whole.tw7576292583959916747 : True := trivial
theorem whole.tw4901011727050283698 : True := trivial
theorem whole.tw17529894129228449367 : True := trivial
theorem whole.tw5938623499991607928 : True := trivial
theorem whole.tw16710806586956947785 : True := trivial
theorem whole.tw15001587830400145190 : True := trivial
theorem whole.tw369943808078234791 : True := trivial
theorem whole.tw2250741435704540056 : True := trivial
theorem whole.tw6356627984389668255 : True := trivial
theorem whole.tw16062187612904122858 : True := trivial
theorem whole.tw3016316376071577429 : True := trivial
theorem whole.tw254780913952180833 : True := trivial
theorem whole.tw397210227534267232 : True := trivial
theorem whole.tw10000958634945066235 : True := trivial
theorem whole.tw7078629122812257199 : True := trivial
theorem whole.tw8309436690622926411 : True := trivial
theorem whole.tw14621228733418778453 : True := trivial
theorem whole.tw10887019763833697050 : True := trivial
theorem whole.tw6211587326476211309 : True := trivial
theorem whole.tw1469139166737108290 : True := trivial
theorem whole.tw715978364194892080 : True := trivial
theorem whole.tw2912573282932879776 : True := trivial
theorem whole.tw5233578499609466721 : True := trivial
theorem whole.tw11690859581915506653 : True := trivial
theorem whole.tw13334927893685096626 : True := trivial
theorem whole.tw10499325594661192776 : True := trivial
theorem whole.tw10178181129370835086 : True := trivial
theorem whole.tw17075553230084287909 : True := trivial
theorem whole.tw9347626172496877827 : True := trivial
theorem whole.tw11116944545036436439 : True := trivial
theorem whole.tw1488662743745869538 : True := trivial
theorem whole.tw16304597587823193687 : True := trivial
theorem whole.tw17781206938751360472 : True := trivial
theorem whole.tw7499365098147365621 : True := trivial
theorem whole.tw1363506702145506021 : True := trivial
theorem whole.tw1021466310418864216 : True := trivial
theorem whole.tw6933715213461094250 : True := trivial
theorem whole.tw10344827342348678470 : True := trivial
theorem whole.tw7280849871689594849 : True := trivial
theorem whole.tw5405151241437436114 : True := trivial
theorem whole.tw8243020233432551205 : True := trivial
theorem whole.tw6525215580464160042 : True := trivial
theorem whole.tw6124191891126133048 : True := trivial
theorem whole.tw14237421989038554192 : True := trivial
theorem whole.tw4323824187148501001 : True := trivial
theorem whole.tw3154323488926386715 : True := trivial
theorem whole.tw12147079563267589891 : True := trivial
theorem whole.tw4050174410304208086 : True := trivial
theorem whole.tw12047851899190119979 : True := trivial
theorem whole.tw2490260996854626732 : True := trivial
theorem whole.tw3860174431591174066 : True := trivial
theorem whole.tw5189780602208921310 : True := trivial
theorem whole.tw16616245412964173377 : True := trivial
theorem whole.tw11876454138822706389 : True := trivial
theorem whole.tw14031613983174702221 : True := trivial
theorem whole.tw13149474316023798553 : True := trivial
theorem whole.tw5146043315109619605 : True := trivial
theorem whole.tw18060336119277286115 : True := trivial
theorem whole.tw7073311072910153293 : True := trivial
theorem whole.tw16442795661328238356 : True := trivial
theorem whole.tw2608646628457097981 : True := trivial
theorem whole.tw3846472181373799198 : True := trivial
theorem whole.tw11975771152792504044 : True := trivial
theorem whole.tw11952309323241053379 : True := trivial
theorem whole.tw9685896690342822935 : True := trivial
theorem whole.tw10472183733418339316 : True := trivial
theorem whole.tw5649241889958590350 : True := trivial
theorem whole.tw13213058742666125385 : True := trivial
theorem whole.tw2081632904089052959 : True := trivial
theorem whole.tw9046693723037758376 : True := trivial
theorem whole.tw9189751539129569556 : True := trivial
theorem whole.tw8961415085178454156 : True := trivial
theorem whole.tw3802398583823018356 : True := trivial
theorem whole.tw9464417701048127947 : True := trivial
theorem whole.tw16342273516520970692 : True := trivial
theorem whole.tw675793542917168019 : True := trivial
theorem whole.tw1902754551582867561 : True := trivial
theorem whole.tw5542149417468696053 : True := trivial
theorem whole.tw3384858237140249800 : True := trivial
theorem whole.tw3162365515331879682 : True := trivial
theorem whole.tw1587768003098754325 : True := trivial
theorem whole.tw1182916100746360932 : True := trivial
theorem whole.tw18162983195158539490 : True := trivial
theorem whole.tw17843127513448600897 : True := trivial
theorem whole.tw11357175057958205107 : True := trivial
theorem whole.tw8184708281838074206 : True := trivial
theorem whole.tw12207685810698929643 : True := trivial
theorem whole.tw11850914282074322712 : True := trivial
theorem whole.tw13045181716907704641 : True := trivial
theorem whole.tw12762855891700095494 : True := trivial
theorem whole.tw17870853324313594786 : True := trivial
theorem whole.tw8258574867067344367 : True := trivial
theorem whole.tw12077107353733055826 : True := trivial
theorem whole.tw1256279898242784606 : True := trivial
theorem whole.tw4689585835679557668 : True := trivial
theorem whole.tw11124209341801176217 : True := trivial
theorem whole.tw4909349585908861296 : True := trivial
theorem whole.tw17395194986337826024 : True := trivial
theorem whole.tw13835169320686990480 : True := trivial
theorem whole.tw4603890583814415204 : True := trivial
theorem whole.tw10118140284582671090 : True := trivial
theorem whole.tw2896436902973227457 : True := trivial
theorem whole.tw113900542113845248 : True := trivial
theorem whole.tw10654317064775040509 : True := trivial
theorem whole.tw17881794589497109145 : True := trivial
theorem whole.tw14592908492388784131 : True := trivial
theorem whole.tw12852820008105578649 : True := trivial
theorem whole.tw427333557424167660 : True := trivial
theorem whole.tw17128258169734466478 : True := trivial
theorem whole.tw7056001396292377188 : True := trivial
theorem whole.tw8868806382682364411 : True := trivial
theorem whole.tw12066178620653064874 : True := trivial
theorem whole.tw17992364426957274132 : True := trivial
theorem whole.tw3945383572190744343 : True := trivial
theorem whole.tw15539963934695697727 : True := trivial
theorem whole.tw7545590854473540767 : True := trivial
theorem whole.tw6496092161831514541 : True := trivial
theorem whole.tw137721658169608169 : True := trivial
theorem whole.tw4487652198498899664 : True := trivial
theorem whole.tw17819583843959417973 : True := trivial
theorem whole.tw3390907139478361160 : True := trivial
theorem whole.tw2989192609971925910 : True := trivial
theorem whole.tw978456291528864041 : True := trivial
theorem whole.tw13675596732203519343 : True := trivial
theorem whole.tw2439357469168130064 : True := trivial
theorem whole.tw10332575325313852403 : True := trivial
theorem whole.tw8602141644225615130 : True := trivial
theorem whole.tw14916202748087371944 : True := trivial
theorem whole.tw18174217711786252908 : True := trivial
theorem whole.tw4346055641746905949 : True := trivial
theorem whole.tw5360207378560713126 : True := trivial
theorem whole.tw6648197116569056673 : True := trivial
theorem whole.tw3479739002732855021 : True := trivial
theorem whole.tw3028004478679740547 : True := trivial
theorem whole.tw16738726308800667447 : True := trivial
theorem whole.tw4107823604484434990 : True := trivial
theorem whole.tw11401351377558187561 : True := trivial
theorem whole.tw17463027529269885953 : True := trivial
theorem whole.tw5408107943391738 : True := trivial
theorem whole.tw9406530864695525851 : True := trivial
theorem whole.tw6197045082498751548 : True := trivial
theorem whole.tw7466904020207815869 : True := trivial
theorem whole.tw8351164730277109312 : True := trivial
theorem whole.tw8444963059077079450 : True := trivial
theorem whole.tw2781955308351554444 : True := trivial
theorem whole.tw6553984163096543158 : True := trivial
theorem whole.tw17841917278309519415 : True := trivial
theorem whole.tw5477020428343274486 : True := trivial
theorem whole.tw357486453476387696 : True := trivial
set_option Elab.async true in
set_option maxHeartbeats 8000000 in
theorem whole : PySem.Challenge.rw_in0287_01.Holds := by
  w_on
  o_law
  o_head (kmHook Mine.hd.heap_1 [2, 3, 32, 34, 35, 37, 38, 42, 43, 45, 49, 51, 52, 54, 55, 56, 58, 59, 61, 62, 63, 65, 66, 68, 69, 70, 72, 73, 75, 76, 77, 79, 80, 82, 83, 84, 86, 87, 89, 90, 91, 93, 94, 96, 97, 98, 100, 101, 103, 104, 105, 107, 108, 110, 111, 112, 114, 115, 117, 118, 119, 121, 122, 124, 125, 126, 133, 135, 136, 138, 139, 140, 141, 142, 145, 152, 154, 155, 157, 158, 159, 161, 162, 164, 165, 166, 168, 169, 171, 172, 173, 174, 175, 178, 180, 181, 183, 184, 185, 187, 188, 190, 191, 192, 194, 195, 197, 198, 199, 201, 202, 204, 205, 206, 208, 209, 211, 212, 213, 215, 216, 218, 219, 220, 223, 224, 225, 227, 228, 230, 231, 232, 234, 235, 237, 238, 239, 242, 243, 244, 246, 247, 249, 250, 251, 253, 254, 256, 257, 258, 260, 261, 263, 264, 265, 267, 268, 270, 271, 272, 274, 275, 277, 278, 279, 282, 283, 284, 286, 287, 289, 290, 291, 293, 294, 296, 297, 298, 301, 302] (fun _ => rfl) [57])
  (case hw => w_witness2)
  k_fill
  intro w s₀ s₁ mg mb G Y fa o pm cd doc dV kV ho hd hcd hD hmg hg args vals as hpre hlay hrd hwl hlo
  have KX := km_in_of Y
  km_tabs Y
  have X := (Ground.X G).1
  have V := (Ground.X G).2
  refine Ground.open G ?_
  intro T B D TE TW
  try (refine guard_noD D (by decide +kernel) ?_; clear D)
  km_lay T hmg ho hd cd
  wrow_args hpre hlay hrd hwl hlo
  all_goals (first | refine callC_kw (enter_call ?_) | refine enter_call ?_)
  rename_i xs hs hlay0 hL1 hr1 hl2 a1 a2 l vs a3 hL ra w1 r0 hI hr hc1 hc2
  refine Mine.top_law KX hT9 T hmg hg w1 (by omega) fun s' h1 h2 h3 => ?_
  refine ⟨.inl ⟨.bool true, .bool true, [], rfl, fun _ => rfl, .bool true, ?_, fun _ => ⟨.nil, fun a ha => (nomatch ha)⟩⟩, h1, h2, h3⟩
  wrow_post
end Mine
theorem PySem.Challenge.cw_in0287_01_holds : PySem.Challenge.rw_in0287_01.Holds := by
  exact Mine.whole
