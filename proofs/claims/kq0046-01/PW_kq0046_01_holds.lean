import PyProof.Rows.All
import Wide.All
import OpenK.AllK
import Wide.FinOn
import PySem.Challenge.RW_kq0046_01
open PySem PySem.W PyProof.Rows
set_option Elab.async false
set_option linter.unusedVariables false
set_option genInjectivity false
set_option genSizeOfSpec false
noncomputable section
namespace Mine

/-- pure values: a text is a str (k = false) or bytes (k = true) -/
inductive PV where
  | none
  | bool (b : Bool)
  | int (i : Int)
  | txt (k : Bool) (cs : List Nat)
  | list (xs : List PV)
  | tup (xs : List PV)
  | dict (es : List (Int × PV))
  | cls (c : String)

def PlainTup (h : Heap) (a : Addr) (items : Array Value) : Prop := ∃ n, h.get? a = some { cls := .type "tuple", data := .seq items n }
theorem PlainTup.isTup {h : Heap} {a : Addr} {items : Array Value} (x : PlainTup h a items) : IsTup h a items := let ⟨n, e⟩ := x; ⟨_, e, rfl, n, rfl⟩
theorem PlainTup.typeIs {s : Shared} {a : Addr} {items : Array Value} (x : PlainTup s.heap a items) : s.TypeIs (.ref a) "tuple" := let ⟨_, e⟩ := x; ⟨_, e, rfl⟩

mutual
inductive Rep (h : Heap) (Ok : Addr → Prop) : Value → PV → Prop
  | none : Rep h Ok .none .none
  | bool (b : Bool) : Rep h Ok (.bool b) (.bool b)
  | int (i : Int) (t : Tok) : Rep h Ok (.int i t) (.int i)
  | str (cs : List Nat) (t : Tok) : Rep h Ok (.str ⟨cs.toArray⟩ t) (.txt false cs)
  | bytes (bs : List UInt8) (t : Tok) {cs : List Nat} : cs = bs.map UInt8.toNat → Rep h Ok (.bytes bs.toArray t) (.txt true cs)
  | cls (c : String) : Rep h Ok (.type c) (.cls c)
  | list {a : Addr} {vs : List Value} {xs : List PV} : Ok a → h.PlainList a vs.toArray → RepAll h Ok vs xs → Rep h Ok (.ref a) (.list xs)
  | tup {a : Addr} {vs : List Value} {xs : List PV} : Ok a → PlainTup h a vs.toArray → RepAll h Ok vs xs → Rep h Ok (.ref a) (.tup xs)
inductive RepAll (h : Heap) (Ok : Addr → Prop) : List Value → List PV → Prop
  | nil : RepAll h Ok [] []
  | cons {v : Value} {vs : List Value} {x : PV} {xs : List PV} : Rep h Ok v x → RepAll h Ok vs xs → RepAll h Ok (v :: vs) (x :: xs)
end

section
variable {h h' : Heap} {Ok Ok' : Addr → Prop} {vs ws : List Value} {xs ys : List PV} {v : Value} {x : PV}
theorem RepAll.ind {P : List Value → List PV → Prop} (n : P [] []) (c : ∀ {v vs x xs}, Rep h Ok v x → RepAll h Ok vs xs → P vs xs → P (v :: vs) (x :: xs)) (r : RepAll h Ok vs xs) : P vs xs :=
  RepAll.rec (motive_1 := fun _ _ _ => True) (motive_2 := fun vs xs _ => P vs xs) trivial (fun _ => trivial) (fun _ _ => trivial) (fun _ _ => trivial) (fun _ _ _ _ => trivial) (fun _ => trivial)
    (fun _ _ _ _ => trivial) (fun _ _ _ _ => trivial) n (fun a r _ ih => c a r ih) r
theorem RepAll.inv_cons (r : RepAll h Ok vs (x :: xs)) : ∃ v ws, vs = v :: ws ∧ Rep h Ok v x ∧ RepAll h Ok ws xs := by
  cases r with | cons a r => exact ⟨_, _, rfl, a, r⟩
theorem RepAll.inv_nil (r : RepAll h Ok vs []) : vs = [] := by cases r; rfl
theorem RepAll.inv_two {x y : PV} (r : RepAll h Ok vs [x, y]) : ∃ v u, vs = [v, u] ∧ Rep h Ok v x ∧ Rep h Ok u y := by
  obtain ⟨v, ws, rfl, a, r⟩ := r.inv_cons
  obtain ⟨u, ws, rfl, b, r⟩ := r.inv_cons
  rw [r.inv_nil]
  exact ⟨v, u, rfl, a, b⟩

/-- a text's value -/
inductive TxtIs : Value → Bool → List Nat → Prop
  | str (cs : List Nat) (t : Tok) : TxtIs (.str ⟨cs.toArray⟩ t) false cs
  | bytes (bs : List UInt8) (t : Tok) : TxtIs (.bytes bs.toArray t) true (bs.map UInt8.toNat)
/-- what a value is that stands for x -/
def RepInv (h : Heap) (Ok : Addr → Prop) (v : Value) : PV → Prop
  | .none => v = .none
  | .bool b => v = .bool b
  | .int i => ∃ t, v = .int i t
  | .txt k cs => TxtIs v k cs
  | .list xs => ∃ a vs, v = .ref a ∧ Ok a ∧ h.PlainList a vs.toArray ∧ RepAll h Ok vs xs
  | .tup xs => ∃ a vs, v = .ref a ∧ Ok a ∧ PlainTup h a vs.toArray ∧ RepAll h Ok vs xs
  | .dict _ => False
  | .cls c => v = .type c
theorem Rep.inv (r : Rep h Ok v x) : RepInv h Ok v x :=
  Rep.rec (motive_1 := fun v x _ => RepInv h Ok v x) (motive_2 := fun _ _ _ => True) rfl (fun _ => rfl) (fun _ t => ⟨t, rfl⟩) .str (fun bs t _ e => e ▸ .bytes bs t) (fun _ => rfl)
    (fun o l r _ => ⟨_, _, rfl, o, l, r⟩) (fun o l r _ => ⟨_, _, rfl, o, l, r⟩) trivial (fun _ _ _ _ => trivial) r
/-- an object that holds a sequence -/
def SeqAt (h : Heap) (a : Addr) : Prop := ∃ o xs n, h.get? a = some o ∧ o.data = .seq xs n
theorem seqAt_list {a : Addr} {vs : Array Value} (x : h.PlainList a vs) : SeqAt h a := let ⟨_, e⟩ := x; ⟨_, _, _, e, rfl⟩
theorem seqAt_tup {a : Addr} {vs : Array Value} (x : PlainTup h a vs) : SeqAt h a := let ⟨_, e⟩ := x; ⟨_, _, _, e, rfl⟩
theorem SeqAt.lt {a : Addr} (x : SeqAt h a) : a < h.objs.size := let ⟨_, _, _, e, _⟩ := x; Heap.lt_size e

/-- what is kept of the places that are told of -/
def Moves (h h' : Heap) (Ok Ok' : Addr → Prop) : Prop := ∀ a, Ok a → SeqAt h a → Ok' a ∧ ∀ o, h.get? a = some o → h'.get? a = some o
theorem Moves.list (hk : Moves h h' Ok Ok') {a : Addr} (o : Ok a) (l : h.PlainList a vs.toArray) : Ok' a ∧ h'.PlainList a vs.toArray := ⟨(hk a o (seqAt_list l)).1, let ⟨n, e⟩ := l; ⟨n, (hk a o (seqAt_list l)).2 _ e⟩⟩
theorem Moves.tup (hk : Moves h h' Ok Ok') {a : Addr} (o : Ok a) (l : PlainTup h a vs.toArray) : Ok' a ∧ PlainTup h' a vs.toArray := ⟨(hk a o (seqAt_tup l)).1, let ⟨n, e⟩ := l; ⟨n, (hk a o (seqAt_tup l)).2 _ e⟩⟩
theorem Rep.mono (hk : Moves h h' Ok Ok') (r : Rep h Ok v x) : Rep h' Ok' v x :=
  Rep.rec (motive_1 := fun v x _ => Rep h' Ok' v x) (motive_2 := fun vs xs _ => RepAll h' Ok' vs xs) .none .bool .int .str (fun bs t _ e => .bytes bs t e) .cls
    (fun o l _ r => .list (hk.list o l).1 (hk.list o l).2 r) (fun o l _ r => .tup (hk.tup o l).1 (hk.tup o l).2 r) .nil (fun _ _ a r => .cons a r) r
theorem RepAll.mono (hk : Moves h h' Ok Ok') (r : RepAll h Ok vs xs) : RepAll h' Ok' vs xs := r.ind .nil fun a _ r => .cons (a.mono hk) r
theorem Moves.weak (hk : ∀ a, Ok a → Ok' a) : Moves h h Ok Ok' := fun a ha _ => ⟨hk a ha, fun _ e => e⟩
theorem RepAll.weaken (hk : ∀ a, Ok a → Ok' a) (r : RepAll h Ok vs xs) : RepAll h Ok' vs xs := r.mono (.weak hk)
theorem Rep.weaken (hk : ∀ a, Ok a → Ok' a) (r : Rep h Ok v x) : Rep h Ok' v x := r.mono (.weak hk)

theorem RepAll.length (r : RepAll h Ok vs xs) : vs.length = xs.length := r.ind (P := fun vs xs => vs.length = xs.length) rfl fun _ _ ih => congrArg (· + 1) ih
theorem RepAll.append (r : RepAll h Ok vs xs) (q : RepAll h Ok ws ys) : RepAll h Ok (vs ++ ws) (xs ++ ys) := r.ind (P := fun vs xs => RepAll h Ok (vs ++ ws) (xs ++ ys)) q fun a _ ih => .cons a ih
theorem RepAll.get (r : RepAll h Ok vs xs) : ∀ (i : Nat) (x : PV), xs[i]? = some x → ∃ v, vs[i]? = some v ∧ Rep h Ok v x :=
  r.ind (P := fun vs xs => ∀ (i : Nat) (x : PV), xs[i]? = some x → ∃ v, vs[i]? = some v ∧ Rep h Ok v x) (fun _ _ e => nomatch e) fun {v _ _ _} a _ ih i => Nat.casesOn i (fun _ e => Option.some.inj e ▸ ⟨v, rfl, a⟩) fun n x e => ih n x e
theorem RepAll.at (r : RepAll h Ok vs xs) {i : Nat} (hv : vs[i]? = some v) (hx : xs[i]? = some x) : Rep h Ok v x := by
  obtain ⟨u, hu, ru⟩ := r.get i x hx
  rw [hv] at hu; cases hu; exact ru
theorem RepAll.drop (r : RepAll h Ok vs xs) : ∀ n, RepAll h Ok (vs.drop n) (xs.drop n) :=
  r.ind (P := fun vs xs => ∀ n, RepAll h Ok (vs.drop n) (xs.drop n)) (fun n => by rw [List.drop_nil, List.drop_nil]; exact .nil) fun a r ih n => Nat.casesOn n (.cons a r) ih
theorem RepAll.take (r : RepAll h Ok vs xs) : ∀ n, RepAll h Ok (vs.take n) (xs.take n) :=
  r.ind (P := fun vs xs => ∀ n, RepAll h Ok (vs.take n) (xs.take n)) (fun n => by rw [List.take_nil, List.take_nil]; exact .nil) fun a r ih n => Nat.casesOn n .nil fun n => .cons a (ih n)
theorem RepAll.set (hv : Rep h Ok v x) (r : RepAll h Ok vs xs) : ∀ n, RepAll h Ok (vs.set n v) (xs.set n x) :=
  r.ind (P := fun vs xs => ∀ n, RepAll h Ok (vs.set n v) (xs.set n x)) (fun _ => .nil) fun a r ih n => Nat.casesOn n (.cons hv r) fun n => .cons a (ih n)
theorem RepAll.mem (r : RepAll h Ok vs xs) : ∀ v ∈ vs, ∃ y ∈ xs, Rep h Ok v y :=
  r.ind (P := fun vs xs => ∀ v ∈ vs, ∃ y ∈ xs, Rep h Ok v y) (fun _ h => nomatch h) fun {w _ y _} a _ ih v hm => (List.mem_cons.mp hm).elim (fun e => ⟨y, .head _, e ▸ a⟩) fun hm => let ⟨z, hz, rz⟩ := ih v hm; ⟨z, .tail _ hz, rz⟩
end

/-- what no step of ours turns -/
def Same (s s' : Shared) : Prop := s'.gens = s.gens ∧ s'.os = s.os
theorem Same.trans {a b c : Shared} (x : Same a b) (y : Same b c) : Same a c := ⟨y.1.trans x.1, y.2.trans x.2⟩
/-- pure growth of a state -/
structure Ext (s s' : Shared) : Prop where
  same : Same s s'
  keep : ∀ b o, s.heap.get? b = some o → s'.heap.get? b = some o
theorem Ext.refl (s : Shared) : Ext s s := ⟨⟨rfl, rfl⟩, fun _ _ e => e⟩
theorem Ext.trans {a b c : Shared} (x : Ext a b) (y : Ext b c) : Ext a c :=
  ⟨x.same.trans y.same, fun b o e => y.keep b o (x.keep b o e)⟩
theorem Ext.toks (s : Shared) (t : Nat) : Ext s { s with toks := t } := ⟨⟨rfl, rfl⟩, fun _ _ e => e⟩
theorem Ext.push_toks (s : Shared) (o : Obj) (t : Nat) : Ext s { s with heap := s.heap.push o, toks := t } :=
  ⟨⟨rfl, rfl⟩, fun _ _ e => Heap.get?_push_of_some _ e⟩
theorem Ext.push (s : Shared) (o : Obj) : Ext s { s with heap := s.heap.push o } := .push_toks s o s.toks
theorem Ext.fresh {s s' : Shared} (e : Ext s s') {a : Addr} (h : s'.heap.get? a = none) : s.heap.get? a = none := by
  cases q : s.heap.get? a with
  | none => rfl
  | some o => rw [e.keep a o q] at h; cases h
theorem get_size (h : Heap) : h.get? h.objs.size = none := by
  cases q : h.get? h.objs.size with
  | none => rfl
  | some o => exact absurd (Heap.lt_size q) (Nat.lt_irrefl _)
theorem Ext.moves {s s' : Shared} {Ok : Addr → Prop} (e : Ext s s') : Moves s.heap s'.heap Ok Ok := fun a ha _ => ⟨ha, fun o => e.keep a o⟩
theorem Rep.ext {s s' : Shared} {Ok : Addr → Prop} {v : Value} {x : PV} (r : Rep s.heap Ok v x) (e : Ext s s') : Rep s'.heap Ok v x := r.mono e.moves
theorem RepAll.ext {s s' : Shared} {Ok : Addr → Prop} {vs : List Value} {xs : List PV} (r : RepAll s.heap Ok vs xs) (e : Ext s s') : RepAll s'.heap Ok vs xs := r.mono e.moves

/-! ## the world of one law -/
structure Wld where
  prog : Program
  w : World
  mg : Str → Option Value
  mb : Str → Option Value
  K : Frag
structure Wld.On (W : Wld) (h : Heap) : Prop where
  g : h.Ns mainGlobals W.mg
  b : h.Ns builtinsNs W.mb
  nolimit : h.NoLimit
  frag : W.K.In h
theorem Wld.On.keeps {W : Wld} {h h' : Heap} (x : W.On h) (k : ∀ b o, h.get? b = some o → h'.get? b = some o) : W.On h' :=
  ⟨x.g.keeps k, x.b.keeps k, x.nolimit.keeps k, x.frag.keeps k⟩
theorem Wld.On.ext {W : Wld} {s s' : Shared} (x : W.On s.heap) (e : Ext s s') : W.On s'.heap := x.keeps e.keep
abbrev Wld.M (W : Wld) : Model := model W.prog W.w
/-- what a global name gives -/
def Wld.glob (W : Wld) (x : Str) : Option Value := match W.mg x with | some v => some v | none => W.mb x
theorem Wld.loadGlobal {W : Wld} {M : Model} {A : Around} {E : Value → Shared → Prop} {s : Shared} {env : Env} {x : Str} {v : Value} {Q : Value → Shared → Prop}
    (h : W.On s.heap) (hg : env.globals = mainGlobals) (hb : env.builtins = builtinsNs) (hx : W.glob x = some v) (q : Q v s) : wpAny M A (loadGlobal env x) Q E s := by
  unfold Wld.glob at hx
  cases e : W.mg x with
  | some u =>
    rw [e] at hx
    cases hx
    exact Calls.loadGlobal_global (by rw [hg]; exact h.g) e q
  | none =>
    rw [e] at hx
    exact Calls.loadGlobal_builtin (by rw [hg]; exact h.g) e (by rw [hb]; exact h.b) hx q
/-- room above: depth and units -/
structure Room (A : Around) (k : Nat) : Prop where
  hd : A.handled = none
  dep : A.depth + 2 * k < 900
  un : A.units + 200 * k + 200 < cLine
/-- the room that a call wants: some of the evaluator's may be spent on builtin functions ahead of it -/
structure RoomF (A : Around) (k : Nat) : Prop where
  hd : A.handled = none
  dep : A.depth + 2 * k < 900
  un : A.units + 200 * k + 100 < cLine
theorem Room.toF {A : Around} {k : Nat} (r : Room A k) : RoomF A k := ⟨r.hd, r.dep, by have := r.un; omega⟩
/-- what a name gives in a function's or a comprehension's environment -/
def Holds (h : Heap) (env : Env) (x : Str) (v : Value) : Prop :=
  (env.kindOf x = some .local ∧ ∃ m, h.Ns env.locals m ∧ m x = some v) ∨
  ((env.kindOf x = some .cell ∨ env.kindOf x = some .free) ∧ ∃ c, env.cells.lookup x = some c ∧ h.IsCell c (some v))
theorem Holds.keeps {h h' : Heap} {env : Env} {x : Str} {v : Value} (H : Holds h env x v) (k : ∀ b o, h.get? b = some o → h'.get? b = some o) : Holds h' env x v :=
  H.imp (fun ⟨a, m, hn, e⟩ => ⟨a, m, hn.keeps k, e⟩) fun ⟨a, c, e, hc⟩ => ⟨a, c, e, hc.keeps k⟩
theorem Holds.load {h : Heap} {M : Model} {A : Around} {E : Value → Shared → Prop} {s : Shared} {env : Env} {x : Str} {pos : Pos} {v : Value} {Q : Value → Shared → Prop}
    (H : Holds s.heap env x v) (hk : env.scope.kind = .function) (hd : (x == ("__debug__" : Str)) = false) (hcd : (x == ("__classdict__" : Str)) = false) (q : Q v s) : wpAny M A (eval (.Name x pos) env) Q E s := by
  refine wpAny_Name ?_ hd
  rcases H with ⟨hl, m, hn, hv⟩ | ⟨hl | hl, c, hc, hv⟩
  · exact wpAny_loadName_local hk hl hn hv q
  · exact wpAny_loadName_cell hk hl hc hv q
  · exact wpAny_loadName_free hk hl hc hv q hcd
end Mine
end
noncomputable section
namespace Mine

def LIM : Nat := 1048576
def LST : Nat := 2097152
theorem lim_size {n : Nat} (h : n ≤ LIM) : n ≤ sizeLine := Nat.le_trans h (by decide)
theorem lst_size {n : Nat} (h : n ≤ LST) : n ≤ sizeLine := Nat.le_trans h (by decide)
theorem lim_lst {n : Nat} (h : n ≤ LIM) : n ≤ LST := Nat.le_trans h (by decide)
theorem lst_63 {n : Nat} (h : n ≤ LST) : (n : Int) < 2 ^ 63 := Int.lt_of_le_of_lt (Int.ofNat_le.mpr h) (by decide)
theorem not_63 {n : Nat} (h : n ≤ LST) : ¬ ((n : Nat) : Int) ≥ 2 ^ 63 := Int.not_le.mpr (lst_63 h)

/-- a value is of a size that the model bears -/
inductive Sz : PV → Prop
  | none : Sz .none
  | bool (b : Bool) : Sz (.bool b)
  | int (i : Int) : Sz (.int i)
  | txt (k : Bool) {cs : List Nat} : cs.length ≤ LIM → Sz (.txt k cs)
  | list {xs : List PV} : xs.length ≤ LST → (∀ x ∈ xs, Sz x) → Sz (.list xs)
  | tup {xs : List PV} : xs.length ≤ LST → (∀ x ∈ xs, Sz x) → Sz (.tup xs)
  | dict {es : List (Int × PV)} : (∀ e ∈ es, Sz e.2) → Sz (.dict es)
  | cls (c : String) : Sz (.cls c)
theorem Sz.txt_len {k : Bool} {cs : List Nat} (h : Sz (.txt k cs)) : cs.length ≤ LIM := by cases h; assumption
theorem Sz.list_len {xs : List PV} (h : Sz (.list xs)) : xs.length ≤ LST := by cases h; assumption
theorem Sz.list_all {xs : List PV} (h : Sz (.list xs)) : ∀ x ∈ xs, Sz x := by cases h; assumption
theorem Sz.tup_len {xs : List PV} (h : Sz (.tup xs)) : xs.length ≤ LST := by cases h; assumption
theorem Sz.tup_all {xs : List PV} (h : Sz (.tup xs)) : ∀ x ∈ xs, Sz x := by cases h; assumption

theorem wp_pos {α : Type} {M : Model} {A : Around} {c : Prop} [Decidable c] {a b : Sem α} {Q : α → Shared → Prop} {E : Value → Shared → Prop} {s : Shared} (h : c) (g : wpAny M A a Q E s) : wpAny M A (if c then a else b) Q E s := by rw [if_pos h]; exact g
theorem wp_neg {α : Type} {M : Model} {A : Around} {c : Prop} [Decidable c] {a b : Sem α} {Q : α → Shared → Prop} {E : Value → Shared → Prop} {s : Shared} (h : ¬ c) (g : wpAny M A b Q E s) : wpAny M A (if c then a else b) Q E s := by rw [if_neg h]; exact g
/-- a tree that hands back a value that stands for x, all else as it stood -/
def Gets (W : Wld) (A : Around) (Ok : Addr → Prop) (s : Shared) (t : Sem Value) (x : PV) : Prop :=
  ∀ (E Q : Value → Shared → Prop), (∀ v s', Ext s s' → Rep s'.heap Ok v x → Q v s') → wpAny W.M A t Q E s
/-- the same for a new list -/
def GetsL (W : Wld) (A : Around) (Ok : Addr → Prop) (s : Shared) (t : Sem Value) (xs : List PV) : Prop :=
  ∀ (E Q : Value → Shared → Prop), (∀ a vs s', Ext s s' → s.heap.get? a = none → s'.heap.PlainList a vs.toArray → RepAll s'.heap (fun b => Ok b ∧ b ≠ a) vs xs → Q (.ref a) s') → wpAny W.M A t Q E s
def Fresh (Ok : Addr → Prop) (s : Shared) : Prop := ∀ a, s.heap.get? a = none → Ok a
theorem Fresh.ext {Ok : Addr → Prop} {s s' : Shared} (f : Fresh Ok s) (e : Ext s s') : Fresh Ok s' := fun a h => f a (e.fresh h)
theorem GetsL.gets {W : Wld} {A : Around} {Ok : Addr → Prop} {s : Shared} {t : Sem Value} {xs : List PV} (g : GetsL W A Ok s t xs) (f : Fresh Ok s) : Gets W A Ok s t (.list xs) :=
  fun E Q q => g E Q fun a vs s' e ha hl r => q _ _ e (.list (f a ha) hl (r.weaken fun _ x => x.1))
/-- a tree that hands back a value of which Z holds -/
def Yld (W : Wld) (A : Around) (Ok : Addr → Prop) (s : Shared) (t : Sem Value) (Z : PV → Prop) : Prop :=
  ∀ (E Q : Value → Shared → Prop), (∀ v s' x, Ext s s' → Rep s'.heap Ok v x → Sz x → Z x → Q v s') → wpAny W.M A t Q E s
theorem Gets.yld {W : Wld} {A : Around} {Ok : Addr → Prop} {s : Shared} {t : Sem Value} {x : PV} {Z : PV → Prop} (g : Gets W A Ok s t x) (h : Sz x) (z : Z x) : Yld W A Ok s t Z :=
  fun E Q q => g E Q fun v s' e r => q v s' x e r h z

section
variable {W : Wld} {A : Around} {Ok Ok' Ok'' : Addr → Prop} {s : Shared} {v u : Value} {a b : Int} {n : Nat}
theorem rep_int (h : Rep s.heap Ok v (.int a)) : ∃ t, v = .int a t := h.inv
/-! ints -/
theorem add_ints (ha : Rep s.heap Ok v (.int a)) (hb : Rep s.heap Ok' u (.int b)) : Gets W A Ok'' s (binaryOp .Add v u) (.int (a + b)) := by
  obtain ⟨_, rfl⟩ := rep_int ha; obtain ⟨_, rfl⟩ := rep_int hb; exact fun E Q q => PySem.P.add_int (q _ _ (.toks _ _) (.int _ _))
theorem sub_ints (ha : Rep s.heap Ok v (.int a)) (hb : Rep s.heap Ok' u (.int b)) : Gets W A Ok'' s (binaryOp .Sub v u) (.int (a - b)) := by
  obtain ⟨_, rfl⟩ := rep_int ha; obtain ⟨_, rfl⟩ := rep_int hb; exact fun E Q q => PySem.P.sub_int (q _ _ (.toks _ _) (.int _ _))
theorem no_pylong (hb : b.natAbs < 2 ^ 64) : Builtin.divisionGoesByPylong a b = false := by
  have h : (if (b == 0) = true then 0 else b.natAbs.log2 / 30 + 1) ≤ 300 := by
    split
    · exact Nat.zero_le _
    · refine Nat.le_trans (Nat.add_le_add_right (Nat.div_le_self _ _) 1) ?_
      rcases Nat.eq_zero_or_pos b.natAbs with h0 | h0
      · rw [h0]; decide
      · exact Nat.le_trans ((Nat.log2_lt (Nat.ne_of_gt h0)).mpr hb) (by decide)
  exact (Bool.and_eq_false_iff (x := decide _)).mpr (.inl (decide_eq_false (Nat.not_lt.mpr h)))
theorem fdiv_ints (hn : b.natAbs < 2 ^ 64) (h0 : b ≠ 0) (ha : Rep s.heap Ok v (.int a)) (hb : Rep s.heap Ok' u (.int b)) : Gets W A Ok'' s (binaryOp .FloorDiv v u) (.int (a.fdiv b)) := by
  obtain ⟨_, rfl⟩ := rep_int ha; obtain ⟨_, rfl⟩ := rep_int hb; exact fun E Q q => floordiv_int h0 (q _ _ (.toks _ _) (.int _ _)) (.inl (no_pylong hn))
theorem fmod_ints (h0 : b ≠ 0) (ha : Rep s.heap Ok v (.int a)) (hb : Rep s.heap Ok' u (.int b)) : Gets W A Ok'' s (binaryOp .Mod v u) (.int (a.fmod b)) := by
  obtain ⟨_, rfl⟩ := rep_int ha; obtain ⟨_, rfl⟩ := rep_int hb; exact fun E Q q => mod_int' h0 (q _ _ (.toks _ _) (.int _ _))
theorem pow_ints (h0 : 0 ≤ b) (h1 : b ≤ 1000) (h2 : a.natAbs < 1000) (ha : Rep s.heap Ok v (.int a)) (hb : Rep s.heap Ok' u (.int b)) : Gets W A Ok'' s (binaryOp .Pow v u) (.int (a ^ b.toNat)) := by
  obtain ⟨_, rfl⟩ := rep_int ha; obtain ⟨_, rfl⟩ := rep_int hb; exact fun E Q q => pow_int_small h0 (by omega) (by omega) (q _ _ (.toks _ _) (.int _ _))
theorem neg_ints (ha : Rep s.heap Ok v (.int a)) : Gets W A Ok'' s (unaryOp .USub v) (.int (-a)) := by
  obtain ⟨_, rfl⟩ := rep_int ha; exact fun E Q q => neg_int (q _ _ (.toks _ _) (.int _ _))
end
theorem str_append (a b : List Nat) : ((⟨a.toArray⟩ : Str) ++ (⟨b.toArray⟩ : Str)) = (⟨(a ++ b).toArray⟩ : Str) := congrArg Str.mk (List.append_toArray ..)
end Mine
end
noncomputable section
namespace Mine
open SeqAt

/-! ## Python's == : kinds alike, lists to depth n -/
def eqs (f : PV → PV → Option Bool) : List PV → List PV → Option Bool
  | [], [] => some true
  | x :: xs, y :: ys => (f x y).bind fun a => (eqs f xs ys).map fun b => a && b
  | _, _ => none
def eqV (f : List PV → List PV → Option Bool) (x y : PV) : Option Bool := match x with
  | .none => (match y with | .none => some true | _ => none)
  | .bool a => (match y with | .bool b => some (a == b) | _ => none)
  | .int a => (match y with | .int b => some (a == b) | _ => none)
  | .txt k a => (match y with | .txt k' b => (match k, k' with | false, false => some (a == b) | true, true => some (a == b) | _, _ => none) | _ => none)
  | .list a => (match y with | .list b => f a b | _ => none)
  | _ => none
def eqL : Nat → List PV → List PV → Option Bool
  | 0, _, _ => none
  | n + 1, xs, ys => if xs.length = ys.length then eqs (eqV (eqL n)) xs ys else some false
abbrev pvEq (n : Nat) : PV → PV → Option Bool := eqV (eqL n)

inductive EqIs (f : List PV → List PV → Option Bool) : PV → PV → Bool → Prop
  | none : EqIs f .none .none true
  | bool (a b : Bool) : EqIs f (.bool a) (.bool b) (a == b)
  | int (a b : Int) : EqIs f (.int a) (.int b) (a == b)
  | txt (k : Bool) (a b : List Nat) : EqIs f (.txt k a) (.txt k b) (a == b)
  | list {a b : List PV} {t : Bool} : f a b = some t → EqIs f (.list a) (.list b) t
theorem eqV_is {f : List PV → List PV → Option Bool} {x y : PV} {t : Bool} (h : eqV f x y = some t) : EqIs f x y t := by
  cases x with
  | none => cases y with
    | none => exact Option.some.inj h ▸ .none
    | _ => exact nomatch h
  | bool a => cases y with
    | bool b => exact Option.some.inj h ▸ .bool a b
    | _ => exact nomatch h
  | int a => cases y with
    | int b => exact Option.some.inj h ▸ .int a b
    | _ => exact nomatch h
  | txt k a => cases y with
    | txt k' b => cases k <;> cases k' <;> first | exact Option.some.inj h ▸ .txt _ a b | exact nomatch h
    | _ => exact nomatch h
  | list a => cases y with
    | list b => exact .list h
    | _ => exact nomatch h
  | _ => exact nomatch h
theorem eqV_txt (f : List PV → List PV → Option Bool) (k : Bool) (a b : List Nat) : eqV f (.txt k a) (.txt k b) = some (a == b) := by cases k <;> rfl

theorem eqs_get {f : PV → PV → Option Bool} (xs : List PV) : ∀ {ys : List PV} {b : Bool}, eqs f xs ys = some b →
    ∃ e : Nat → Bool, (∀ (j : Nat) x y, xs[j]? = some x → ys[j]? = some y → f x y = some (e j)) ∧ b = (List.range xs.length).all e := by
  induction xs with
  | nil =>
    intro ys b h
    cases ys with
    | nil => exact ⟨fun _ => true, (fun j x y hx => nomatch hx), (Option.some.inj h).symm⟩
    | cons _ _ => exact nomatch h
  | cons x xs ih =>
    intro ys b h
    cases ys with
    | nil => exact nomatch h
    | cons y ys =>
      obtain ⟨a, h1, h2⟩ := Option.bind_eq_some_iff.mp (show (f x y).bind _ = some b from h)
      obtain ⟨c, h3, h4⟩ := Option.map_eq_some_iff.mp h2
      obtain ⟨e, he, hc⟩ := ih h3
      refine ⟨fun j => Nat.casesOn j a e, fun j => Nat.casesOn j (fun x' y' hx hy => Option.some.inj hx ▸ Option.some.inj hy ▸ h1) he, ?_⟩
      rw [List.length_cons, List.range_succ_eq_map, List.all_cons, List.all_map, ← h4, hc]; rfl
theorem eqs_refl {f : PV → PV → Option Bool} (hf : ∀ x b, f x x = some b → b = true) (xs : List PV) : ∀ {b : Bool}, eqs f xs xs = some b → b = true := by
  induction xs with
  | nil => exact fun h => (Option.some.inj h).symm
  | cons x xs ih =>
    intro b h
    obtain ⟨a, h1, h2⟩ := Option.bind_eq_some_iff.mp (show (f x x).bind _ = some b from h)
    obtain ⟨c, h3, h4⟩ := Option.map_eq_some_iff.mp h2
    rw [← h4, hf x a h1, ih h3]; rfl
theorem eqV_refl {f : List PV → List PV → Option Bool} (hf : ∀ x b, f x x = some b → b = true) (x : PV) (b : Bool) (h : eqV f x x = some b) : b = true := by
  cases x with
  | list a => exact hf _ _ h
  | txt k a => rw [eqV_txt] at h; exact (Option.some.inj h).symm.trans (beq_self_eq_true a)
  | none => exact (Option.some.inj h).symm
  | bool a => exact (Option.some.inj h).symm.trans (beq_self_eq_true a)
  | int a => exact (Option.some.inj h).symm.trans (beq_self_eq_true a)
  | _ => exact nomatch h
theorem eqL_refl (n : Nat) : ∀ x b, eqL n x x = some b → b = true := by
  induction n with
  | zero => exact fun _ _ h => nomatch h
  | succ n ih => exact fun x b h => eqs_refl (eqV_refl ih) x ((if_pos rfl).symm.trans h)

/-! what an address holds stands for one value alone -/
theorem seq_det {h : Heap} {a : Addr} {T U : String} {vs ws : List Value} {n m : Nat} (e : h.get? a = some { cls := .type T, data := .seq vs.toArray n }) (e' : h.get? a = some { cls := .type U, data := .seq ws.toArray m }) : T = U ∧ vs = ws := by
  have q := Option.some.inj (e.symm.trans e')
  exact ⟨Value.type.inj (congrArg Obj.cls q), congrArg (fun o => match o.data with | .seq xs _ => xs.toList | _ => []) q⟩
theorem list_tup {h : Heap} {a : Addr} {vs ws : List Value} (l : h.PlainList a vs.toArray) (l' : PlainTup h a ws.toArray) : False := by
  obtain ⟨n, e⟩ := l; obtain ⟨m, e'⟩ := l'; exact absurd (seq_det e e').1 (by decide)
theorem Rep.inj {h : Heap} {Ok Ok' : Addr → Prop} {v : Value} {x y : PV} (r : Rep h Ok v x) (q : Rep h Ok' v y) : x = y :=
  Rep.rec (motive_1 := fun v x _ => ∀ y, RepInv h Ok v x → Rep h Ok' v y → x = y) (motive_2 := fun vs xs _ => ∀ ys, RepAll h Ok' vs ys → xs = ys)
    (fun y _ r => by cases r; rfl) (fun b y _ r => by cases r; rfl) (fun i t y _ r => by cases r; rfl) (fun cs t y _ r => by cases r; rfl)
    (fun bs t cs e y _ r => by
      generalize hv : Value.bytes bs.toArray t = v at r
      cases r with
      | bytes bs' t' e' =>
        have : bs = bs' := congrArg (fun v => match v with | Value.bytes b _ => b.toList | _ => []) hv
        rw [e, e', this]
      | _ => exact nomatch hv)
    (fun c y _ r => by cases r; rfl)
    (fun o l _ ih y _ r => by
      cases r with
      | list o' l' q => obtain ⟨n, e⟩ := l; obtain ⟨m, e'⟩ := l'; exact congrArg PV.list (ih _ ((seq_det e e').2 ▸ q))
      | tup o' l' q => exact (list_tup l l').elim)
    (fun o l _ ih y _ r => by
      cases r with
      | list o' l' q => exact (list_tup l' l).elim
      | tup o' l' q => obtain ⟨n, e⟩ := l; obtain ⟨m, e'⟩ := l'; exact congrArg PV.tup (ih _ ((seq_det e e').2 ▸ q)))
    (fun ys r => by cases r; rfl)
    (fun a q ih1 ih2 ys r => by cases r with | cons a' q' => rw [ih1 _ a.inv a', ih2 _ q']) r y r.inv q

section
variable {W : Wld} {A : Around} {s : Shared} {Ok Ok' Ok'' : Addr → Prop} {v u : Value} {x y : PV} {t : Bool}
theorem byte_map_inj {a b : List UInt8} : (a == b) = (a.map UInt8.toNat == b.map UInt8.toNat) :=
  Bool.eq_iff_iff.mpr (beq_iff_eq.trans ((List.map_inj_right fun _ _ h => UInt8.toNat_inj.mp h).symm.trans beq_iff_eq.symm))
theorem str_eq_lists (a b : List Nat) : ((⟨a.toArray⟩ : Str) == ⟨b.toArray⟩) = (a == b) :=
  Bool.eq_iff_iff.mpr (beq_iff_eq.trans ((Iff.intro (fun e => congrArg (fun x => x.cps.toList) e) fun e => congrArg (fun x => (⟨List.toArray x⟩ : Str)) e).trans beq_iff_eq.symm))
theorem eq_txt {k : Bool} {a b : List Nat} (hv : TxtIs v k a) (hu : TxtIs u k b) : RcAt A s v u (a == b) ∧ EqAt A s v u (a == b) := by
  cases hv with
  | str cs t =>
    cases hu with
    | str cs' t' => rw [← str_eq_lists]; exact ⟨.str_str _ _ _ _, .str_str _ _ _ _⟩
  | bytes bs t =>
    cases hu with
    | bytes bs' t' =>
      rw [← byte_map_inj]
      have rc : RcAt A s (.bytes bs.toArray t) (.bytes bs'.toArray t') (bs == bs') := fun prog w E Q q => eq_bytes q
      refine ⟨rc, fun prog w E Q q => ?_⟩
      unfold eqBool
      refine wpAny_holding (wpAny_ite_split (fun hab => ?_) fun _ => wpAny_bind (rc prog w E _ (wpAny_truthy_bool q)))
      rw [show bs = bs' from congrArg Array.toList (Value.bytes.inj (eq_of_beq hab)).1, beq_self_eq_true] at q
      exact wpAny_bind (wpAny_rule (wpAny_pure q))
theorem ne_txt {k : Bool} {a b : List Nat} (hv : TxtIs v k a) (hu : TxtIs u k b) : RcNeAt A s v u (!(a == b)) := by
  cases hv with
  | str cs t =>
    cases hu with
    | str cs' t' => rw [← str_eq_lists]; exact fun prog w E Q q => PyProof.Rows.ne_str q
  | bytes bs t =>
    cases hu with
    | bytes bs' t' => rw [← byte_map_inj]; exact fun prog w E Q q => ne_bytes q
/-- two lists, item by item -/
theorem eqs_at {n : Nat} {xs ys : List PV} {vs ws : List Value} (ih : ∀ {v u x y t}, EqIs (eqL n) x y t → Rep s.heap Ok v x → Rep s.heap Ok' u y → EqAt A.in1 s v u t) (h : eqs (eqV (eqL n)) xs ys = some t)
    (r : RepAll s.heap Ok vs xs) (r' : RepAll s.heap Ok' ws ys) (hl : xs.length = ys.length) : ∃ e : Nat → Bool, (∀ j (h1 : j < vs.toArray.size) (h2 : j < ws.toArray.size), EqAt A.in1 s vs.toArray[j] ws.toArray[j] (e j)) ∧ t = (List.range vs.toArray.size).all e := by
  obtain ⟨e, he, ht⟩ := eqs_get xs h
  refine ⟨e, fun j h1 h2 => ?_, ht.trans (by rw [List.size_toArray, r.length])⟩
  have q1 : j < xs.length := r.length ▸ h1
  have q2 : j < ys.length := hl ▸ q1
  exact ih (eqV_is (he j _ _ (List.getElem?_eq_getElem q1) (List.getElem?_eq_getElem q2))) (r.at (List.getElem?_eq_getElem h1) (List.getElem?_eq_getElem q1)) (r'.at (List.getElem?_eq_getElem h2) (List.getElem?_eq_getElem q2))
theorem eqL_cases {n : Nat} {xs ys : List PV} (h : eqL n xs ys = some t) : ∃ m, n = m + 1 ∧ ((xs.length = ys.length ∧ eqs (eqV (eqL m)) xs ys = some t) ∨ (xs.length ≠ ys.length ∧ t = false)) := by
  cases n with
  | zero => exact nomatch h
  | succ m =>
    refine ⟨m, rfl, ?_⟩
    by_cases hl : xs.length = ys.length
    · exact .inl ⟨hl, (if_pos hl).symm.trans h⟩
    · exact .inr ⟨hl, (Option.some.inj ((if_neg hl).symm.trans h)).symm⟩
theorem sizes_ne {xs ys : List PV} {vs ws : List Value} (r : RepAll s.heap Ok vs xs) (r' : RepAll s.heap Ok' ws ys) (hl : xs.length ≠ ys.length) : (vs.toArray.size != ws.toArray.size) = true := by
  rw [List.size_toArray, List.size_toArray, r.length, r'.length]; exact bne_iff_ne.mpr hl
theorem sizes_eq {xs ys : List PV} {vs ws : List Value} (r : RepAll s.heap Ok vs xs) (r' : RepAll s.heap Ok' ws ys) (hl : xs.length = ys.length) : vs.toArray.size = ws.toArray.size := by
  rw [List.size_toArray, List.size_toArray, r.length, r'.length]; exact hl
theorem eq_flat (f : List PV → List PV → Option Bool) {x y : PV} {t : Bool} (h : EqIs f x y t) (hv : Rep s.heap Ok v x) (hu : Rep s.heap Ok' u y) (hl : ∀ {a b}, x = .list a → y = .list b → f a b = some t → RcAt A s v u t ∧ EqAt A s v u t) : RcAt A s v u t ∧ EqAt A s v u t := by
  cases h with
  | none => rw [show v = _ from hv.inv, show u = _ from hu.inv]; exact ⟨.none_none, .same _⟩
  | bool a b => rw [show v = _ from hv.inv, show u = _ from hu.inv]; exact ⟨.bool_bool _ _, .bool_bool _ _⟩
  | int a b => obtain ⟨_, rfl⟩ := rep_int hv; obtain ⟨_, rfl⟩ := rep_int hu; exact ⟨.int_int _ _ _ _, .int_int _ _ _ _⟩
  | txt k a b => exact eq_txt hv.inv hu.inv
  | list h => exact hl rfl rfl h
theorem list_inj {a b : List PV} (h : PV.list a = .list b) : a = b := by cases h; rfl
theorem eq_is (n : Nat) : ∀ {A : Around} {v u : Value} {x y : PV} {t : Bool}, A.units + n < cLine → EqIs (eqL n) x y t → Rep s.heap Ok v x → Rep s.heap Ok' u y → RcAt A s v u t ∧ EqAt A s v u t := by
  induction n with
  | zero => exact fun hA h hv hu => eq_flat _ h hv hu fun _ _ h => nomatch h
  | succ n ih =>
    intro A v u x y t hA h hv hu
    refine eq_flat _ h hv hu fun {xs ys} ex ey h' => ?_
    clear h; revert h'; intro h
    subst ex ey
    obtain ⟨a, vs, rfl, o, l, r⟩ := hv.inv
    obtain ⟨a', ws, rfl, o', l', r'⟩ := hu.inv
    have hA1 : A.in1.units + n < cLine := by rw [Nat.add_comm n 1, ← Nat.add_assoc] at hA; exact hA
    have rc : RcAt A s (.ref a) (.ref a') t := by
      obtain ⟨m, hm, ⟨hl, h'⟩ | ⟨hl, rfl⟩⟩ := eqL_cases h
      · cases hm
        obtain ⟨e, he, rfl⟩ := eqs_at (A := A) (fun h hv hu => (ih hA1 h hv hu).2) h' r r' hl
        exact .lists l.isList l'.isList (sizes_eq r r' hl) (Nat.lt_of_le_of_lt (Nat.le_add_right _ _) hA) he
      · exact .lists_lengths l.isList l'.isList (sizes_ne r r' hl) (Nat.lt_of_le_of_lt (Nat.le_add_right _ _) hA)
    refine ⟨rc, ?_⟩
    by_cases haa : a = a'
    · subst haa
      have exy := list_inj (Rep.inj hv hu)
      subst exy
      rw [eqL_refl _ _ _ h]
      exact .same _
    · exact .of_refs haa rc
theorem ne_is (n : Nat) {A : Around} (hA : A.units + n < cLine) (h : EqIs (eqL n) x y t) (hv : Rep s.heap Ok v x) (hu : Rep s.heap Ok' u y) : RcNeAt A s v u (!t) := by
  cases h with
  | none => rw [show v = _ from hv.inv, show u = _ from hu.inv]; exact .none_none
  | bool a b => rw [show v = _ from hv.inv, show u = _ from hu.inv]; exact .bool_bool _ _
  | int a b => obtain ⟨_, rfl⟩ := rep_int hv; obtain ⟨_, rfl⟩ := rep_int hu; exact .int_int _ _ _ _
  | txt k a b => exact ne_txt hv.inv hu.inv
  | list h =>
    obtain ⟨a, vs, rfl, o, l, r⟩ := hv.inv
    obtain ⟨a', ws, rfl, o', l', r'⟩ := hu.inv
    have hA0 := Nat.lt_of_le_of_lt (Nat.le_add_right A.units n) hA
    obtain ⟨m, rfl, ⟨hl, h'⟩ | ⟨hl, rfl⟩⟩ := eqL_cases h
    · have hA1 : A.in1.units + m < cLine := by rw [Nat.add_comm m 1, ← Nat.add_assoc] at hA; exact hA
      obtain ⟨e, he, rfl⟩ := eqs_at (A := A) (fun h hv hu => (eq_is m hA1 h hv hu).2) h' r r' hl
      exact .lists l.isList l'.isList (sizes_eq r r' hl) hA0 he
    · exact .lists_lengths l.isList l'.isList (sizes_ne r r' hl) hA0

/-! in, not in, count, index: an item alike -/
def allEq (x : PV) (xs : List PV) : Prop := ∀ y ∈ xs, ∃ b, pvEq 4 y x = some b
def likeB (x y : PV) : Bool := pvEq 4 y x == some true
open Classical in
/-- the items' values, each alike or not -/
def likeV (h : Heap) (Ok : Addr → Prop) (x : PV) (v : Value) : Bool := decide (∃ y, Rep h Ok v y ∧ likeB x y = true)
open Classical in
theorem like_eq {h : Heap} {v : Value} {y : PV} (r : Rep h Ok v y) : likeV h Ok x v = likeB x y :=
  Bool.eq_iff_iff.mpr ⟨fun q => let ⟨z, rz, e⟩ := of_decide_eq_true q; Rep.inj r rz ▸ e, fun e => decide_eq_true ⟨y, r, e⟩⟩
theorem like_at {vs : List Value} {xs : List PV} (hA : A.units + 10 < cLine) (r : RepAll s.heap Ok vs xs) (ru : Rep s.heap Ok' u x) (hd : allEq x xs) : ∀ v, v ∈ vs → EqAt A.in1 s v u (likeV s.heap Ok x v) := by
  intro v hv
  obtain ⟨y, hy, ry⟩ := r.mem v hv
  obtain ⟨b, hb⟩ := hd y hy
  have e : likeB x y = b := by unfold likeB; rw [hb]; cases b <;> rfl
  rw [like_eq ry, e]
  exact (eq_is (A := A.in1) 4 (Nat.lt_of_le_of_lt (Nat.add_le_add_left (by decide : 1 + 4 ≤ 10) A.units) hA) (eqV_is hb) ry ru).2
theorem any_like {h : Heap} {vs : List Value} {xs : List PV} (r : RepAll h Ok vs xs) : vs.any (likeV h Ok x) = xs.any (likeB x) :=
  r.ind (P := fun vs xs => vs.any (likeV h Ok x) = xs.any (likeB x)) rfl fun a _ ih => by rw [List.any_cons, List.any_cons, ih, like_eq a]
theorem in_seq {xs : List PV} {a : Addr} {vs : List Value} (hA : A.units + 10 < cLine) (ha : s.heap.PlainList a vs.toArray ∨ PlainTup s.heap a vs.toArray) (r : RepAll s.heap Ok vs xs) (ru : Rep s.heap Ok' u x) (hd : allEq x xs) :
    Gets W A Ok'' s (compareOp .In u (.ref a)) (.bool (xs.any (likeB x))) ∧ Gets W A Ok'' s (compareOp .NotIn u (.ref a)) (.bool (!(xs.any (likeB x)))) := by
  have h := fun v (hv : v ∈ vs.toArray) => like_at hA r ru hd v (List.mem_toArray.mp hv)
  have e : vs.toArray.any (likeV s.heap Ok x) = xs.any (likeB x) := (List.any_toArray ..).trans (any_like r)
  rw [← e]
  cases ha with
  | inl ha => exact ⟨fun E Q q => in_listAt _ ha.isList h (q _ _ (.refl _) (.bool _)), fun E Q q => notIn_listAt _ ha.isList h (q _ _ (.refl _) (.bool _))⟩
  | inr ha => exact ⟨fun E Q q => in_tupleAt _ ha.isTup h (q _ _ (.refl _) (.bool _)), fun E Q q => notIn_tupleAt _ ha.isTup h (q _ _ (.refl _) (.bool _))⟩
end
end Mine
end
noncomputable section
namespace Mine
open SeqAt

/-- Python's xs[lo:hi] -/
def cut {α : Type} (xs : List α) (lo hi : Option Int) : List α :=
  (xs.drop (lo.elim 0 (clipAt xs.length))).take (hi.elim xs.length (clipAt xs.length) - lo.elim 0 (clipAt xs.length))
theorem cut_sub {α : Type} (xs : List α) (lo hi : Option Int) : (cut xs lo hi).Sublist xs := (List.take_sublist _ _).trans (List.drop_sublist _ _)
def idxAt {α : Type} (xs : List α) (i : Int) : Option α := if 0 ≤ i then xs[i.toNat]? else if -(xs.length : Int) ≤ i then xs[(i + xs.length).toNat]? else none

section
variable {W : Wld} {A : Around} {s : Shared} {Ok Ok' Ok'' : Addr → Prop} {v u : Value} {x y : PV} {xs ys : List PV} {a b c : Addr} {vs ws : List Value} {i : Int}
/-- a new plain list -/
theorem newlist_at (n k : Nat) (r : RepAll s.heap Ok vs xs) (E Q : Value → Shared → Prop)
    (q : ∀ a vs s', Ext s s' → s.heap.get? a = none → s'.heap.PlainList a vs.toArray → RepAll s'.heap (fun b => Ok b ∧ b ≠ a) vs xs → Q (.ref a) s') :
    Q (.ref s.heap.objs.size) { s with heap := s.heap.push { cls := .type "list", data := .seq vs.toArray n }, toks := k } :=
  q _ vs _ (.push_toks _ _ _) (get_size _) ⟨n, Heap.get?_push_size _ rfl⟩ (r.mono fun a ha sa => ⟨⟨ha, fun e => Nat.lt_irrefl a (e ▸ sa.lt)⟩, fun o e => Heap.get?_push_of_some _ e⟩)
theorem size_le (r : RepAll s.heap Ok vs xs) (h : xs.length ≤ LST) : vs.toArray.size ≤ sizeLine := by rw [List.size_toArray, r.length]; exact lst_size h
theorem size_63 (r : RepAll s.heap Ok vs xs) (h : xs.length ≤ LST) : ((vs.toArray.size : Nat) : Int) < 2 ^ 63 := by rw [List.size_toArray, r.length]; exact lst_63 h
theorem lim_40 {n : Nat} (h : n ≤ LIM) : n ≤ 1099511627776 := Nat.le_trans h (by decide)

theorem add_lists (hz : xs.length + ys.length ≤ LST) (ha : s.heap.PlainList a vs.toArray) (hb : s.heap.PlainList b ws.toArray)
    (r : RepAll s.heap Ok vs xs) (r' : RepAll s.heap Ok ws ys) : GetsL W A Ok s (binaryOp .Add (.ref a) (.ref b)) (xs ++ ys) := by
  intro E Q q
  obtain ⟨n, ho⟩ := ha
  obtain ⟨n2, ho2⟩ := hb
  refine concat_meets ⟨_, ho, rfl⟩ ⟨_, ho2, rfl⟩ noFill_list_add seq_list_add PySem.F.slot_list_add PySem.F.entry_list_add (PySem.F.args_list_add_2 _ _)
    (list_addW a b vs.toArray ws.toArray n n2 none none #[] #[] (by rw [List.size_toArray, List.size_toArray, r.length, r'.length]; exact lst_size hz)) ⟨ho, ho2, ?_⟩
  rw [List.append_toArray]
  exact newlist_at 0 s.toks (r.append r') E Q q

theorem idxAt_at {α : Type} {xs : List α} {x : α} (h : idxAt xs i = some x) : ∃ n : Nat, xs[n]? = some x ∧ ((0 ≤ i ∧ n = i.toNat ∧ i < xs.length) ∨ (i < 0 ∧ -(xs.length : Int) ≤ i ∧ n = (i + xs.length).toNat)) := by
  unfold idxAt at h
  split at h
  · rename_i h0
    have := (List.getElem?_eq_some_iff.mp h).1
    exact ⟨_, h, .inl ⟨h0, rfl, (Int.toNat_lt h0).mp this⟩⟩
  · rename_i h0
    split at h
    · rename_i h1; exact ⟨_, h, .inr ⟨Int.not_le.mp h0, h1, rfl⟩⟩
    · exact nomatch h
theorem getItem_raw {t : Tok} {n : Nat} {E Q : Value → Shared → Prop} (ha : s.heap.PlainList a vs.toArray) (hz : vs.length ≤ LST) (hv : vs[n]? = some v)
    (hn : (0 ≤ i ∧ n = i.toNat ∧ i < vs.length) ∨ (i < 0 ∧ -(vs.length : Int) ≤ i ∧ n = (i + vs.length).toNat)) (q : Q v s) : wpAny W.M A (getItem (.ref a) (.int i t)) Q E s := by
  rcases hn with ⟨h0, rfl, h1⟩ | ⟨h0, h1, rfl⟩
  · exact wpAny_getItem_list ha.isList h0 (Int.lt_trans h1 (lst_63 hz)) (by rw [List.getElem?_toArray]; exact hv) q
  · exact wpAny_getItem_list_neg ha.isList h0 (by rw [List.size_toArray]; exact h1) (Int.le_trans (Int.neg_le_neg (Int.le_of_lt (lst_63 hz))) h1) (by rw [List.size_toArray, List.getElem?_toArray]; exact hv) q
theorem getItem_tup {n : Nat} (ha : PlainTup s.heap a vs.toArray) (r : RepAll s.heap Ok vs xs) (hz : xs.length ≤ LST) (hi : Rep s.heap Ok' u (.int n)) (hx : xs[n]? = some x) : Gets W A Ok s (getItem (.ref a) u) x := by
  intro E Q q
  obtain ⟨t, rfl⟩ := rep_int hi
  obtain ⟨v, hv, rv⟩ := r.get _ _ hx
  have hlt := (List.getElem?_eq_some_iff.mp hx).1
  have h63 : (n : Int) < 2 ^ 63 := Int.lt_trans (Int.ofNat_lt.mpr hlt) (lst_63 hz)
  exact getItem_tuple ha.isTup (by omega) (by omega) (show seqIndex? n vs.toArray.size = some n by rw [List.size_toArray, r.length]; exact seqIndex_of (Int.natCast_nonneg n) (Int.ofNat_lt.mpr hlt)) (by rw [List.getElem?_toArray]; exact hv) (q _ _ (.refl _) rv)

/-- what stands at a bound of a cut -/
inductive PartIs : Value → Option Int → Prop
  | none : PartIs .none none
  | int (i : Int) (t : Tok) : PartIs (.int i t) (some i)
theorem PartIs.isPart {o : Option Int} (h : PartIs v o) : IsPart v o := h.rec .none .int
theorem cut_list {l h : Value} {lo hi : Option Int} (ha : s.heap.PlainList a vs.toArray) (r : RepAll s.heap Ok vs xs) (hz : xs.length ≤ LST)
    (hs : s.heap.IsSliceOf c l h .none) (pl : PartIs l lo) (ph : PartIs h hi) : GetsL W A Ok s (getItem (.ref a) (.ref c)) (cut xs lo hi) := by
  intro E Q q
  refine wpAny_getItem_list_slice ha.isList hs pl.isPart ph.isPart .none (fun e => nomatch e) ?_ (size_le r hz)
  rw [slicePick_plain, List.size_toArray, List.toList_toArray]
  have e : RepAll s.heap Ok ((vs.drop (lo.elim 0 (clipAt vs.length))).take (hi.elim vs.length (clipAt vs.length) - lo.elim 0 (clipAt vs.length))) (cut xs lo hi) := by
    rw [r.length]; exact (r.drop _).take _
  exact newlist_at 0 s.toks e E Q q
/-! len -/
theorem len_list (ha : s.heap.PlainList a vs.toArray) (hl : vs.length = xs.length) (hz : xs.length ≤ LST) : Gets W A Ok s (call (.builtin "len") [.ref a]) (.int xs.length) := by
  intro E Q q
  refine PySem.Calls.call_len_list ha.isList (by rw [List.size_toArray, hl]; exact lst_63 hz) ?_
  rw [List.size_toArray, hl]
  exact q _ _ (.toks _ _) (.int _ _)
theorem len_tup (ha : PlainTup s.heap a vs.toArray) (r : RepAll s.heap Ok' vs xs) (hz : xs.length ≤ LST) : Gets W A Ok s (call (.builtin "len") [.ref a]) (.int xs.length) := by
  intro E Q q
  refine len_tuple ha.isTup (size_63 r hz) ?_
  rw [List.size_toArray, r.length]
  exact q _ _ (.toks _ _) (.int _ _)
theorem len_txt {k : Bool} {cs : List Nat} (hv : TxtIs v k cs) (hz : cs.length ≤ LIM) : Gets W A Ok s (call (.builtin "len") [v]) (.int cs.length) := by
  intro E Q q
  cases hv with
  | str _ t => exact PySem.P.len_str (show ¬ ((cs.toArray.size : Nat) : Int) ≥ 2 ^ 63 from not_63 (lim_lst hz)) (q _ _ (.toks _ _) (.int _ _))
  | bytes bs t =>
    rw [List.length_map] at hz q
    exact len_bytes (lim_40 hz) (q _ _ (.toks _ _) (.int _ _))

/-! truth -/
def Tells (W : Wld) (A : Around) (s : Shared) (t : Sem Bool) (Z : Bool → Prop) : Prop :=
  ∀ (E : Value → Shared → Prop) (Q : Bool → Shared → Prop), (∀ b s', Ext s s' → Z b → Q b s') → wpAny W.M A t Q E s
theorem size_ne (n : Nat) : ((n : Int) != 0) = !(n == 0) := by
  cases n with
  | zero => rfl
  | succ m => exact bne_iff_ne.mpr (Int.ofNat_ne_zero.mpr (Nat.succ_ne_zero m))
theorem len_isEmpty {α : Type} (xs : List α) : (xs.length == 0) = xs.isEmpty := by cases xs <;> rfl
theorem truthy_txt {k : Bool} {cs : List Nat} (hv : TxtIs v k cs) (hz : cs.length ≤ LIM) {Z : Bool → Prop} (z : Z (!cs.isEmpty)) : Tells W A s (truthy v) Z := by
  intro E Q q
  have q' := fun k => q _ { s with toks := k } (.toks s k) z
  rw [← len_isEmpty, ← size_ne] at q'
  cases hv with
  | str _ t => exact PySem.P.truthy_str (show ¬ ((cs.toArray.size : Nat) : Int) ≥ 2 ^ 63 from not_63 (lim_lst hz)) (q' _)
  | bytes bs t =>
    rw [List.length_map] at hz q'
    exact truthy_bytes (lim_40 hz) (q' _)
theorem truthy_list (ha : s.heap.PlainList a vs.toArray) (hl : vs.length = xs.length) (hz : xs.length ≤ LST) {Z : Bool → Prop} (z : Z (!xs.isEmpty)) : Tells W A s (truthy (.ref a)) Z := by
  intro E Q q
  refine wpAny_truthy_list ha.isList (by rw [List.size_toArray, hl]; exact lst_63 hz) ?_
  have e : vs.toArray.isEmpty = xs.isEmpty := by rw [← len_isEmpty, ← hl, len_isEmpty]; exact List.isEmpty_toArray ..
  rw [e]
  exact q _ _ (.toks _ _) z
end
end Mine
end
noncomputable section
namespace Mine

/-! the plain functions upon texts -/
/-- a sign ahead of the first piece -/
def consP (x : Nat) : List (List Nat) → List (List Nat)
  | [] => [[x]]
  | p :: ps => (x :: p) :: ps
def splitC (c : Nat) : List Nat → List (List Nat)
  | [] => [[]]
  | x :: r => if x = c then [] :: splitC c r else consP x (splitC c r)
def joinC (sep : List Nat) : List (List Nat) → List Nat
  | [] => []
  | p :: r => p ++ (r.map fun q => sep ++ q).flatten
theorem joinC_cons (sep p q : List Nat) (r : List (List Nat)) : joinC sep (p :: q :: r) = p ++ sep ++ joinC sep (q :: r) := by
  show p ++ ((sep ++ q) ++ _) = p ++ sep ++ (q ++ _); rw [List.append_assoc, List.append_assoc]
theorem splitC_eq (c : Nat) (r : List Nat) : splitC c (c :: r) = [] :: splitC c r := if_pos rfl
theorem splitC_ne {c x : Nat} (h : x ≠ c) (r : List Nat) : splitC c (x :: r) = consP x (splitC c r) := if_neg h
theorem splitC_cons (c : Nat) (cs : List Nat) : ∃ p ps, splitC c cs = p :: ps := by
  cases cs with
  | nil => exact ⟨_, _, rfl⟩
  | cons x r =>
    by_cases h : x = c
    · exact ⟨_, _, if_pos h⟩
    · rw [splitC_ne h]; cases splitC c r <;> exact ⟨_, _, rfl⟩
theorem splitC_app (c : Nat) (r p : List Nat) (h : c ∉ p) : splitC c (p ++ c :: r) = p :: splitC c r := by
  induction p with
  | nil => exact splitC_eq c r
  | cons x p ih =>
    show splitC c (x :: (p ++ c :: r)) = _
    rw [splitC_ne (fun e => h (List.mem_cons.mpr (.inl e.symm))), ih fun hm => h (.tail _ hm)]; rfl
theorem splitC_self (c : Nat) (p : List Nat) (h : c ∉ p) : splitC c p = [p] := by
  induction p with
  | nil => rfl
  | cons x p ih => rw [splitC_ne (fun e => h (List.mem_cons.mpr (.inl e.symm))), ih fun hm => h (.tail _ hm)]; rfl
/-- pieces without the sign, joined by it, are what the cut gives -/
theorem splitC_join (c : Nat) (ps : List (List Nat)) : ∀ p, (∀ q ∈ p :: ps, c ∉ q) → splitC c (joinC [c] (p :: ps)) = p :: ps := by
  induction ps with
  | nil => intro p h; rw [show joinC [c] [p] = p from List.append_nil p]; exact splitC_self c p (h p (.head _))
  | cons q r ih => intro p h; rw [joinC_cons, List.append_assoc, List.singleton_append, splitC_app c _ p (h p (.head _)), ih q fun x hx => h x (.tail _ hx)]
theorem joinC_split (c : Nat) (cs : List Nat) : joinC [c] (splitC c cs) = cs := by
  induction cs with
  | nil => rfl
  | cons x r ih =>
    obtain ⟨q, qs, e⟩ := splitC_cons c r
    by_cases h : x = c
    · rw [h, splitC_eq, e, joinC_cons, ← e, ih]; rfl
    · rw [e] at ih
      rw [splitC_ne h, e]
      exact congrArg (x :: ·) ih
theorem splitC_length (c : Nat) (cs : List Nat) : (splitC c cs).length ≤ cs.length + 1 := by
  induction cs with
  | nil => exact Nat.le_refl _
  | cons x r ih =>
    by_cases h : x = c
    · rw [h, splitC_eq]; exact Nat.succ_le_succ ih
    · obtain ⟨q, qs, e⟩ := splitC_cons c r
      rw [e] at ih
      rw [splitC_ne h, e]
      exact Nat.le_succ_of_le ih
theorem piece_le (sep : List Nat) {p : List Nat} (ps : List (List Nat)) (h : p ∈ ps) : p.length ≤ (joinC sep ps).length := by
  cases ps with
  | nil => exact nomatch h
  | cons a r =>
    show _ ≤ (a ++ _).length
    rw [List.length_append]
    exact (List.mem_cons.mp h).elim (fun e => e ▸ Nat.le_add_right _ _) fun h => Nat.le_trans (Nat.le_trans (by rw [List.length_append]; exact Nat.le_add_left _ sep.length) (List.sublist_flatten_of_mem (List.mem_map_of_mem (f := fun q => sep ++ q) h)).length_le) (Nat.le_add_left _ _)
theorem split_le (c : Nat) {p : List Nat} (cs : List Nat) (h : p ∈ splitC c cs) : p.length ≤ cs.length := by
  have := piece_le [c] _ h; rw [joinC_split] at this; exact this
theorem joinC_length (sep : List Nat) (ps : List (List Nat)) : (joinC sep ps).length ≤ (ps.map List.length).sum + ps.length * sep.length := by
  cases ps with
  | nil => exact Nat.zero_le _
  | cons p r =>
    show (p ++ _).length ≤ _
    rw [List.length_append, List.map_cons, List.sum_cons, Nat.add_assoc]
    refine Nat.add_le_add_left ?_ _
    induction r with
    | nil => exact Nat.zero_le _
    | cons q r ih =>
      rw [List.map_cons, List.flatten_cons, List.length_append, List.length_append, List.map_cons, List.sum_cons, List.length_cons, List.length_cons, Nat.succ_mul]
      rw [List.length_cons] at ih
      omega

def strL (cs : List Nat) : Str := ⟨cs.toArray⟩
theorem strL_append (a b : List Nat) : strL a ++ strL b = strL (a ++ b) := str_append a b
theorem strL_join (sep : List Nat) (ps : List (List Nat)) : Str.join (strL sep) (ps.map strL) = strL (joinC sep ps) := by
  induction ps with
  | nil => rfl
  | cons p r ih =>
    cases r with
    | nil => exact (congrArg strL (List.append_nil p)).symm
    | cons q r =>
      rw [joinC_cons, ← strL_append, ← strL_append, ← ih]; rfl
theorem map_strL (l : List Str) : (l.map fun x => x.cps.toList).map strL = l := by
  rw [List.map_map]; exact List.map_id l
theorem txt_split_ne (x y : Str) : ∃ p ps, Txt.split x y = p :: ps := by
  unfold Txt.split
  split
  · exact ⟨_, _, rfl⟩
  · split
    · exact ⟨_, _, rfl⟩
    · rename_i h
      unfold Builtin.Str.partsBetween
      cases e : Builtin.Str.occurrences x y 0 x.length (x.length + 1) with
      | nil => rw [e] at h; exact absurd rfl h
      | cons a b => exact ⟨_, _, rfl⟩
theorem txt_split (cs : List Nat) (c : Nat) : Txt.split (strL cs) (strL [c]) = (splitC c cs).map strL := by
  have h1 := StrLaws.join_split (strL cs) (strL [c])
  have h2 : ∀ p ∈ Txt.split (strL cs) (strL [c]), c ∉ p.cps.toList := StrLaws.split_free (strL cs) c
  obtain ⟨p, ps, e⟩ := txt_split_ne (strL cs) (strL [c])
  rw [e] at h1 h2 ⊢
  rw [← map_strL (p :: ps)] at h1
  rw [strL_join] at h1
  have e1 : joinC [c] ((p :: ps).map fun x => x.cps.toList) = cs := congrArg (fun x : Str => x.cps.toList) h1
  rw [← e1, List.map_cons, splitC_join c _ _ fun q hq => ?_]
  · exact (map_strL (p :: ps)).symm
  · obtain ⟨x, hx, rfl⟩ := List.mem_map.mp (show q ∈ (p :: ps).map fun x => x.cps.toList from hq)
    exact h2 x hx
theorem txt_startswith (a b : List Nat) : Txt.startswith (strL a) (strL b) = b.isPrefixOf a := by
  unfold Txt.startswith
  rw [StrLaws.subAt_eq, Bool.eq_iff_iff, Bool.and_eq_true, decide_eq_true_iff, beq_iff_eq, List.isPrefixOf_iff_prefix, List.prefix_iff_eq_take]
  exact ⟨fun h => h.2.symm, fun e => ⟨Nat.le_trans (Nat.le_of_eq (Nat.zero_add _)) (Nat.le_trans (Nat.le_of_eq (congrArg List.length e)) (by rw [List.length_take]; exact Nat.min_le_right _ _)), e.symm⟩⟩
end Mine
end
noncomputable section
namespace Mine
open Builtin Builtin.Bytes

/-! facts about the type bytes -/
theorem by_buffer : typeLookup (.type "bytes") "__buffer__" = pure (some (.builtin "bytes.__buffer__")) := by rw [typeLookup_type, builtinLookup_eq_fast]; kernel_rfl
theorem by_release : typeLookup (.type "bytes") "__release_buffer__" = pure none := by rw [typeLookup_type, builtinLookup_eq_fast]; kernel_rfl
theorem by_tuple : isSubtype (.type "bytes") (.type "tuple") = pure false := by rw [isSubtype_type]; kernel_rfl
theorem by_bytes : isSubtype (.type "bytes") (.type "bytes") = pure true := by rw [isSubtype_type]; kernel_rfl
theorem by_str1 : (!"bytes.__buffer__".endsWith ("." ++ "__buffer__")) = false := by decide +kernel
theorem by_str2 : "bytes.__buffer__".dropRight ("__buffer__".length + 1) = "bytes" := by decide +kernel

section
variable {M : Model} {A : Around} {E : Value → Shared → Prop} {s : Shared} {c : Array UInt8} {u : Tok}
theorem slotIsOwn_buffer {Q : Bool → Shared → Prop} (h : Q true s) : wpAny M A (slotIsOwn (.bytes c u) "__buffer__") Q E s := by
  unfold slotIsOwn
  refine wpAny_bind (wpAny_specialOf (T := "bytes") rfl by_buffer ?_)
  dsimp only
  rw [if_neg (by rw [by_str1]; exact Bool.false_ne_true), by_str2]
  exact wpAny_isInstance_val (T := "bytes") rfl by_bytes h
theorem ownRelease_bytes {Q : Bool → Shared → Prop} (h : Q false s) : wpAny M A (ownRelease (.bytes c u)) Q E s := by
  unfold ownRelease slotIsOwn
  exact wpAny_bind (wpAny_bind (wpAny_specialOf (T := "bytes") rfl by_release (wpAny_pure (wpAny_pure h))))
theorem buffer_bytes {id : String} {full : Bool} {Q : Option (Array UInt8) → Shared → Prop} (h : Q (some c) s) : wpAny M A (buffer? id (.bytes c u) full) Q E s := by
  unfold buffer?
  refine wpAny_bind (wpAny_specialOf (T := "bytes") rfl by_buffer (wpAny_bind (slotIsOwn_buffer ?_)))
  rw [if_neg (by decide)]
  exact wpAny_bind (wpAny_specialOf (T := "bytes") rfl by_buffer (wpAny_bind (ownRelease_bytes (wpAny_pure h))))
theorem bytesLike_bytes {id : String} {Q : Array UInt8 → Shared → Prop} (h : Q c s) : wpAny M A (bytesLike id (.bytes c u)) Q E s :=
  wpAny_bind (buffer_bytes (wpAny_pure h))
theorem takeBuffer_bytes {id : String} {Q : Option (Array UInt8 × Option Value) → Shared → Prop} (h : Q (some (c, none)) s) : wpAny M A (takeBufferQuiet? id (.bytes c u) 0) Q E s := by
  unfold takeBufferQuiet?
  refine wpAny_bind (wpAny_attempt ?_)
  unfold takeBuffer?
  refine wpAny_bind (wpAny_specialOf (T := "bytes") rfl by_buffer (wpAny_bind (slotIsOwn_buffer ?_)))
  rw [if_neg (by decide)]
  exact wpAny_bind (wpAny_specialOf (T := "bytes") rfl by_buffer (wpAny_bind (buffer_bytes (wpAny_pure (wpAny_pure h)))))
end

theorem arr_beq (a b : Array UInt8) : (a == b) = (a.toList == b.toList) :=
  Bool.eq_iff_iff.mpr (beq_iff_eq.trans (Array.toList_inj.symm.trans beq_iff_eq.symm))
/-- the signs' numbers of bytes -/
def nums (b : Array UInt8) : List Nat := b.toList.map UInt8.toNat
theorem nums_length (b : Array UInt8) : (nums b).length = b.size := by unfold nums; rw [List.length_map, Array.length_toList]
theorem byte_inj (x y : UInt8) (h : x.toNat = y.toNat) : x = y := UInt8.toNat_inj.mp h
theorem window_all (n : Nat) : window n none none = ((0 : Int), (n : Int)) := by
  show ((if (0 : Int) < 0 then _ else (0 : Int)), min (n : Int) (if (n : Int) < 0 then _ else (n : Int))) = _
  rw [if_neg (Int.lt_irrefl 0), if_neg (Int.not_lt.mpr (Int.natCast_nonneg n)), Int.min_self]

theorem extract_list (b : Array UInt8) (i j : Nat) : (b.extract i j).toList = (b.toList.drop i).take (j - i) := Array.toList_extract ..
theorem fits_start (b c : Array UInt8) : (if (window b.size none none).2 - (window b.size none none).1 < (c.size : Int) then false else b.extract (window b.size none none).1.toNat ((window b.size none none).1.toNat + c.size) == c) = c.toList.isPrefixOf b.toList := by
  rw [window_all, Bool.eq_iff_iff, List.isPrefixOf_iff_prefix, List.prefix_iff_eq_take]
  show (if (b.size : Int) - 0 < c.size then false else b.extract 0 (0 + c.size) == c) = true ↔ _
  rw [Int.sub_zero, Nat.zero_add, arr_beq, extract_list, List.drop_zero, Nat.sub_zero]
  split
  · rename_i h
    refine ⟨fun e => (nomatch e), fun e => absurd (congrArg List.length e) fun hl => ?_⟩
    rw [List.length_take] at hl
    exact absurd (Int.ofNat_lt.mp h) (Nat.not_lt.mpr (Nat.le_trans (Nat.le_of_eq hl) (Nat.min_le_right _ _)))
  · exact beq_iff_eq.trans eq_comm
theorem gives_b_startswith (b c : Array UInt8) (t u : Tok) : Gives («bytes.startswith» ⟨[.bytes b t, .bytes c u], []⟩) (.val (.bool (c.toList.isPrefixOf b.toList))) := by
  refine .of_wp fun M A E s Q hq => ?_
  show wpAny M A (isInstance (.bytes c u) (.type "tuple") >>= fun r => _) _ E s
  refine wpAny_bind (wpAny_isInstance_val (T := "bytes") rfl by_tuple ?_)
  show wpAny M A (buffer? _ (.bytes c u) >>= fun r => _) _ E s
  exact wpAny_bind (buffer_bytes (wpAny_pure ⟨_, rfl, cast (congrArg (fun x => Q (Value.bool x) s) (fits_start b c).symm) hq⟩))
theorem prefix_nums (a b : List UInt8) : (b.map UInt8.toNat).isPrefixOf (a.map UInt8.toNat) = b.isPrefixOf a := by
  rw [Bool.eq_iff_iff, List.isPrefixOf_iff_prefix, List.isPrefixOf_iff_prefix, List.prefix_iff_eq_take, List.prefix_iff_eq_take, List.length_map, ← List.map_take]
  exact List.map_inj_right byte_inj
section
variable {W : Wld} {A : Around} {s : Shared} {Ok : Addr → Prop} {v u : Value} {k : Bool} {a b : List Nat}
def methId (k : Bool) (n : String) : String := match k with | true => "bytes." ++ n | false => "str." ++ n
theorem startswith_txt (hv : TxtIs v k a) (hu : TxtIs u k b) : Gets W A Ok s (call (.builtin (methId k "startswith")) [v, u]) (.bool (b.isPrefixOf a)) := by
  intro E Q q
  have q' := q _ _ (.refl _) (.bool (b.isPrefixOf a))
  cases hv with
  | str _ t => cases hu with
    | str _ t' => exact SC.startswith (x := strL a) (y := strL b) (by rw [txt_startswith]; exact q')
  | bytes bs t => cases hu with
    | bytes bs' t' =>
      rw [prefix_nums] at q'
      exact call_meets FB.slot_bytes_startswith (typeIs_bytes s _ _) FB.entry_bytes_startswith (FB.args_bytes_startswith_2 _ _) (gives_b_startswith _ _ _ _).meets q'
end
end Mine
end
noncomputable section
namespace Mine
open Builtin Builtin.Bytes

theorem slot_b_split : Slot "bytes" "split" "bytes.split" :=
  .of (owner := "bytes") (n := "split") (by rw [typeLookup_type, builtinLookup_eq_fast]; kernel_rfl) (by decide +kernel) (by decide +kernel) (by decide +kernel)
    (by first | exact .inl (by decide +kernel) | exact .inr (by decide +kernel)) (by rw [isSubtype_type]; kernel_rfl)
theorem entry_b_split : entryFor table "bytes.split" = some Builtin.«bytes.split» := entryFor_of_tree (by kernel_rfl)
theorem args_b_split (a b : Value) : argsOk "bytes.split" ⟨[a, b], []⟩ := by
  unfold argsOk; rw [signature?_of (id := "bytes.split") (n := ['t', 'i', 'l', 'p', 's']) (o := ['s', 'e', 't', 'y', 'b']) (by kernel_rfl) FB.owner_bytes]; kernel_rfl
theorem b_split_bind (v : Value) : bindOptional "bytes.split" "split" ["sep", "maxsplit"] [v] [] = pure [some v, none] := by kernel_rfl

theorem at_byte (b : Array UInt8) (c : UInt8) (i : Nat) : (b.extract i (i + 1) == #[c]) = true ↔ (nums b)[i]? = some c.toNat := by
  rw [arr_beq, beq_iff_eq, extract_list, Nat.add_sub_cancel_left]
  unfold nums
  rw [List.getElem?_map]
  show (b.toList.drop i).take 1 = [c] ↔ _
  rcases Nat.lt_or_ge i b.toList.length with h | h
  · rw [List.drop_eq_getElem_cons h, List.getElem?_eq_getElem h]
    exact ⟨fun e => congrArg (fun x : UInt8 => some x.toNat) (List.cons.inj e).1, fun e => congrArg (fun x : UInt8 => [x]) (byte_inj _ _ (Option.some.inj e))⟩
  · rw [List.drop_eq_nil_of_le h, List.getElem?_eq_none h]
    exact ⟨fun e => (nomatch e), fun e => (nomatch e)⟩

/-! split at one byte -/
def placesOf (b : Array UInt8) (c : UInt8) : Nat → Nat → List Nat
  | _, 0 => []
  | o, n + 1 => if (nums b)[o]? = some c.toNat then o :: placesOf b c (o + 1) n else placesOf b c (o + 1) n
theorem occ_fold (b : Array UInt8) (c : UInt8) (n : Nat) : ∀ (o : Nat) (acc : List Nat) (last : Nat), last ≤ o →
    ((List.range' o n).foldl (fun (acc : List Nat × Nat) i => if (decide (i ≥ acc.2) && b.extract i (i + (#[c] : Array UInt8).size) == #[c]) = true then (i :: acc.1, i + (#[c] : Array UInt8).size) else acc) (acc, last)).1.reverse
      = acc.reverse ++ placesOf b c o n := by
  induction n with
  | zero => exact fun o acc last _ => (List.append_nil _).symm
  | succ n ih =>
    intro o acc last h
    rw [List.range'_succ, List.foldl_cons]
    dsimp only
    unfold placesOf
    by_cases hc : (nums b)[o]? = some c.toNat
    · rw [if_pos hc, if_pos (show (decide (o ≥ last) && b.extract o (o + (#[c] : Array UInt8).size) == #[c]) = true from Bool.and_eq_true_iff.mpr ⟨decide_eq_true h, (at_byte b c o).mpr hc⟩), ih (o + 1) (o :: acc) (o + (#[c] : Array UInt8).size) (Nat.le_refl _), List.reverse_cons, List.append_assoc]
      rfl
    · rw [if_neg hc, if_neg (show ¬ (decide (o ≥ last) && b.extract o (o + (#[c] : Array UInt8).size) == #[c]) = true from fun q => hc ((at_byte b c o).mp (Bool.and_eq_true_iff.mp q).2))]
      exact ih (o + 1) acc last (Nat.le_succ_of_le h)
theorem occ_places (b : Array UInt8) (c : UInt8) : occurrences b #[c] 0 b.size = placesOf b c 0 b.size := by
  unfold occurrences
  dsimp only
  rw [show b.size + 1 - (0 + (#[c] : Array UInt8).size) = b.size from Nat.add_sub_cancel .., show (fun x : Nat => x + 0) = _root_.id from rfl, List.map_id, List.range_eq_range']
  exact occ_fold b c b.size 0 [] 0 (Nat.le_refl _)
theorem places_length (b : Array UInt8) (c : UInt8) (n : Nat) : ∀ o, (placesOf b c o n).length ≤ n := by
  induction n with
  | zero => exact fun _ => Nat.le_refl _
  | succ n ih =>
    intro o
    unfold placesOf
    split
    · exact Nat.succ_le_succ (ih _)
    · exact Nat.le_succ_of_le (ih _)
theorem between_fold (b : Array UInt8) (c : UInt8) (n : Nat) : ∀ (last d : Nat) (parts : Array (Array UInt8)), last + d + n = b.size → c.toNat ∉ ((nums b).drop last).take d →
    (let r := (placesOf b c (last + d) n).foldl (fun (x : Array (Array UInt8) × Nat) p => (x.1.push (b.extract x.2 p), p + 1)) (parts, last); (r.1.push (b.extract r.2 b.size)).toList).map nums
      = parts.toList.map nums ++ splitC c.toNat ((nums b).drop last) := by
  induction n with
  | zero =>
    intro last d parts hn hf
    have e : (nums b).drop last = nums (b.extract last b.size) := by
      unfold nums
      rw [extract_list, ← List.map_drop, List.take_of_length_le (by rw [List.length_drop]; exact Nat.le_refl _)]
    rw [List.take_of_length_le (by rw [List.length_drop, nums_length, ← hn, Nat.add_zero, Nat.add_sub_cancel_left]; exact Nat.le_refl _)] at hf
    rw [splitC_self _ _ hf, e]
    show ((parts.push (b.extract last b.size)).toList).map nums = _
    rw [Array.toList_push, List.map_append]; rfl
  | succ n ih =>
    intro last d parts hn hf
    have hol : last + d < (nums b).length := by rw [nums_length, ← hn]; exact Nat.lt_add_of_pos_right (Nat.succ_pos n)
    have hd : ((nums b).drop last).drop d = (nums b)[last + d] :: (nums b).drop (last + d + 1) := by rw [List.drop_drop, List.drop_eq_getElem_cons hol]
    unfold placesOf
    by_cases hc : (nums b)[last + d]? = some c.toNat
    · rw [if_pos hc]
      have key := ih (last + d + 1) 0 (parts.push (b.extract last (last + d))) (by rw [← hn, Nat.add_zero, Nat.add_assoc, Nat.add_comm 1 n]) (fun h => nomatch h)
      dsimp only at key ⊢
      rw [List.getElem?_eq_getElem hol] at hc
      rw [Option.some.inj hc] at hd
      have e : (nums b).drop last = ((nums b).drop last).take d ++ c.toNat :: (nums b).drop (last + d + 1) := by rw [← hd, List.take_append_drop]
      rw [List.foldl_cons]
      refine key.trans ?_
      rw [Array.toList_push, List.map_append, List.append_assoc]
      refine congrArg (parts.toList.map nums ++ ·) ?_
      rw [e, splitC_app _ _ _ hf]
      have e2 : nums (b.extract last (last + d)) = ((nums b).drop last).take d := by
        unfold nums
        rw [extract_list, ← List.map_drop, ← List.map_take, Nat.add_sub_cancel_left]
      show [nums (b.extract last (last + d))] ++ _ = _
      rw [e2]; rfl
    · rw [if_neg hc]
      refine ih last (d + 1) parts (by rw [← hn, Nat.add_assoc last, Nat.add_assoc last, Nat.add_assoc d, Nat.add_comm 1 n]) ?_
      rw [List.take_add_one, List.getElem?_drop]
      intro hm
      rcases List.mem_append.mp hm with hm | hm
      · exact hf hm
      · exact hc (Option.mem_toList.mp hm)
theorem between_split (b : Array UInt8) (c : UInt8) : (between b (#[c] : Array UInt8).size (placesOf b c 0 b.size)).map nums = splitC c.toNat (nums b) :=
  between_fold b c b.size 0 0 #[] (by rw [Nat.add_zero, Nat.zero_add]) (fun h => nomatch h)
theorem places_nil (b : Array UInt8) (c : UInt8) (h : placesOf b c 0 b.size = []) : splitC c.toNat (nums b) = [nums b] := by
  rw [← between_split b c, h]
  show [nums (b.extract 0 b.size)] = _
  rw [Array.extract_size]

/-- values that are these bytes -/
inductive BytesAre : List Value → List (Array UInt8) → Prop
  | nil : BytesAre [] []
  | cons {b : Array UInt8} {t : Tok} {vs : List Value} {bs : List (Array UInt8)} : BytesAre vs bs → BytesAre (.bytes b t :: vs) (b :: bs)
theorem rep_nums {h : Heap} {Ok : Addr → Prop} (b : Array UInt8) (t : Tok) : Rep h Ok (.bytes b t) (.txt true (nums b)) := .bytes b.toList t rfl
theorem BytesAre.rep {h : Heap} {Ok : Addr → Prop} {vs : List Value} {bs : List (Array UInt8)} (r : BytesAre vs bs) : RepAll h Ok vs ((bs.map nums).map (PV.txt true)) := by
  induction r with
  | nil => exact .nil
  | cons _ ih => exact .cons (rep_nums _ _) ih
theorem BytesAre.length {vs : List Value} {bs : List (Array UInt8)} (r : BytesAre vs bs) : vs.length = bs.length := by
  induction r with
  | nil => rfl
  | cons _ ih => exact congrArg (· + 1) ih
theorem mapM_mkBytes {M : Model} {A : Around} {E : Value → Shared → Prop} (bs : List (Array UInt8)) : ∀ (s : Shared) (Q : List Value → Shared → Prop), (∀ b ∈ bs, b.size ≤ sizeLine) →
    (∀ vs k, BytesAre vs bs → Q vs { s with toks := k }) → wpAny M A (bs.mapM mkBytes) Q E s := by
  induction bs with
  | nil => intro s Q _ h; rw [List.mapM_nil]; exact wpAny_pure (h [] s.toks .nil)
  | cons b bs ih =>
    intro s Q hz h
    rw [List.mapM_cons]
    exact wpAny_bind (wpAny_mkBytes (wpAny_bind (ih _ _ (fun x hx => hz x (.tail _ hx)) fun vs k hv => wpAny_pure (h _ _ (.cons hv)))) (hz b (.head _)))
theorem meets_b_split (b : Array UInt8) (c : UInt8) (t u : Tok) (hz : b.size ≤ LIM) : Meets («bytes.split» ⟨[.bytes b t, .bytes #[c] u], []⟩)
    (fun _ R s => ∀ vs bs k, BytesAre vs bs → bs.map nums = splitC c.toNat (nums b) → R (.ok (.ret (.ref s.heap.objs.size))) { s with heap := s.heap.push { cls := .type "list", data := .seq vs.toArray }, toks := k }) := by
  refine .of_wp fun prog w A R s h => ?_
  show wpAny _ _ (bindOptional "bytes.split" "split" ["sep", "maxsplit"] [.bytes #[c] u] [] >>= fun r => _) _ _ s
  rw [b_split_bind]
  refine wpAny_bind (wpAny_pure ?_)
  show wpAny _ _ (bytesLike _ (.bytes #[c] u) >>= fun r => _) _ _ s
  refine wpAny_bind (bytesLike_bytes ?_)
  have e : (occurrences b #[c] 0 b.size).take (b.size + 1) = placesOf b c 0 b.size := by
    rw [occ_places, List.take_of_length_le (Nat.le_succ_of_le (places_length b c _ _))]
  show wpAny _ _ (if ((occurrences b #[c] 0 b.size).take (b.size + 1)).isEmpty = true then _ else _) _ _ s
  rw [e]
  split
  · rename_i hn
    refine wpAny_bind (wpAny_rule ?_)
    show wpAny _ _ (newList [Value.bytes b t] >>= fun r => _) _ _ s
    exact wpAny_bind (wpAny_newList (wpAny_pure ⟨_, rfl, h _ [b] s.toks (.cons .nil) (places_nil b c (List.isEmpty_iff.mp hn)).symm⟩) (by show 1 ≤ sizeLine; decide))
  · show wpAny _ _ (List.mapM mkBytes (between b (#[c] : Array UInt8).size ((occurrences b #[c] 0 b.size).take (b.size + 1))) >>= fun r => _) _ _ s
    rw [e]
    have hb := between_split b c
    refine wpAny_bind (mapM_mkBytes _ _ _ (fun x hx => ?_) fun vs k hv => ?_)
    · rw [← nums_length]
      refine Nat.le_trans (split_le c.toNat (nums b) (by rw [← hb]; exact List.mem_map_of_mem hx)) ?_
      rw [nums_length]; exact lim_size hz
    · refine wpAny_bind (wpAny_newList (wpAny_pure ⟨_, rfl, h _ _ k hv hb⟩) ?_)
      rw [hv.length, ← List.length_map (f := nums), hb]
      refine Nat.le_trans (splitC_length _ _) ?_
      rw [nums_length]
      exact Nat.le_trans (Nat.succ_le_succ hz) (by decide)

section
variable {W : Wld} {A : Around} {s : Shared} {Ok : Addr → Prop} {v u : Value} {k : Bool} {a : List Nat} {c : Nat}
theorem strs_rep {h : Heap} {l : List (Str × Tok)} : ∀ {ps : List (List Nat)}, l.map (·.1) = ps.map strL → RepAll h Ok (strValues l) (ps.map (PV.txt false)) := by
  induction l with
  | nil => intro ps e; cases ps with
    | nil => exact .nil
    | cons _ _ => exact nomatch e
  | cons x l ih => intro ps e; cases ps with
    | nil => exact nomatch e
    | cons p ps =>
      obtain ⟨x, t⟩ := x
      have e1 : x = strL p := (List.cons.inj e).1
      exact .cons (by rw [e1]; exact .str p t) (ih (List.cons.inj e).2)
theorem one_byte {bs : List UInt8} (e : [c] = bs.map UInt8.toNat) : ∃ d, bs = [d] ∧ c = d.toNat := by
  cases bs with
  | nil => exact nomatch e
  | cons d r => cases r with
    | nil => exact ⟨d, rfl, (List.cons.inj e).1⟩
    | cons _ _ => exact nomatch (List.cons.inj e).2
/-- a text of one sign -/
theorem TxtIs.one (h : TxtIs u k [c]) : (∃ t, k = false ∧ u = .str (strL [c]) t) ∨ ∃ d t, k = true ∧ u = .bytes #[d] t ∧ c = d.toNat := by
  generalize e : [c] = cs at h
  cases h with
  | str _ t => subst e; exact .inl ⟨t, rfl, rfl⟩
  | bytes bs t => obtain ⟨d, rfl, rfl⟩ := one_byte e; exact .inr ⟨d, t, rfl, rfl, rfl⟩
theorem split_txt (hz : a.length ≤ LIM) (hv : TxtIs v k a) (hu : TxtIs u k [c]) : GetsL W A Ok s (call (.builtin (methId k "split")) [v, u]) ((splitC c a).map (PV.txt k)) := by
  intro E Q q
  rcases hu.one with ⟨t', rfl, rfl⟩ | ⟨d, t', rfl, rfl, rfl⟩
  · cases hv with
    | str _ t =>
      have hs := txt_split a c
      have hlen : (Txt.split (strL a) (strL [c])).length ≤ a.length + 1 := by rw [hs, List.length_map]; exact splitC_length c a
      have hz1 : a.length + 1 ≤ sizeLine := Nat.le_trans (Nat.succ_le_succ hz) (by decide)
      unfold Txt.split at hs hlen
      cases h1 : (decide ((strL a).length < (strL [c]).length) || decide (Str.strKind (strL a) < Str.strKind (strL [c])))
      · rw [h1, if_neg Bool.false_ne_true] at hs hlen
        cases hf : (Str.occurrences (strL a) (strL [c]) 0 (strL a).length ((strL a).length + 1)).isEmpty
        · rw [hf, if_neg Bool.false_ne_true] at hs hlen
          refine call_meets F.slot_str_split (typeIs_str _ _ _) F.entry_str_split (F.args_str_split_2 _ _) (meets_str_split_sep (strL a) (strL [c]) t t' h1 rfl hf (lim_size hz) (Nat.le_trans hlen hz1)) ?_
          show wants Q E _ { s with toks := _, heap := s.heap.push { cls := .type "list", data := .seq (strsFrom s.toks _).toArray } }
          rw [strsFrom_eq]
          exact newlist_at 0 _ (strs_rep (by rw [numbered_texts]; exact hs)) E Q q
        · rw [hf, if_pos rfl] at hs
          exact call_meets F.slot_str_split (typeIs_str _ _ _) F.entry_str_split (F.args_str_split_2 _ _) (meets_str_split_not_found (strL a) (strL [c]) t t' h1 rfl hf) (newlist_at (vs := strValues [(strL a, t)]) 0 s.toks (strs_rep hs) E Q q)
      · rw [h1, if_pos rfl] at hs
        exact call_meets F.slot_str_split (typeIs_str _ _ _) F.entry_str_split (F.args_str_split_2 _ _) (meets_str_split_cannot_occur (strL a) (strL [c]) t t' h1) (newlist_at (vs := strValues [(strL a, t)]) 0 s.toks (strs_rep hs) E Q q)
  · cases hv with
    | bytes bs t =>
      rw [List.length_map] at hz
      refine call_meets slot_b_split (typeIs_bytes s _ _) entry_b_split (args_b_split _ _) (meets_b_split bs.toArray d t t' hz) fun vs cs k hb hn => newlist_at 0 k ?_ E Q q
      have := hb.rep (h := s.heap) (Ok := Ok)
      rw [hn] at this
      exact this
end
end Mine
end
noncomputable section
namespace Mine
open Builtin Builtin.Bytes

theorem slot_b_join : Slot "bytes" "join" "bytes.join" :=
  .of (owner := "bytes") (n := "join") (by rw [typeLookup_type, builtinLookup_eq_fast]; kernel_rfl) (by decide +kernel) (by decide +kernel) (by decide +kernel)
    (by first | exact .inl (by decide +kernel) | exact .inr (by decide +kernel)) (by rw [isSubtype_type]; kernel_rfl)
theorem entry_b_join : entryFor table "bytes.join" = some Builtin.«bytes.join» := entryFor_of_tree (by kernel_rfl)
theorem args_b_join (a b : Value) : argsOk "bytes.join" ⟨[a, b], []⟩ := by
  unfold argsOk; rw [signature?_of (id := "bytes.join") (n := ['n', 'i', 'o', 'j']) (o := ['s', 'e', 't', 'y', 'b']) (by kernel_rfl) FB.owner_bytes]; kernel_rfl

theorem bytesAre_of {h : Heap} {Ok : Addr → Prop} (ps : List (List Nat)) : ∀ {vs : List Value}, RepAll h Ok vs (ps.map (PV.txt true)) → ∃ bs, BytesAre vs bs ∧ bs.map nums = ps := by
  induction ps with
  | nil => intro vs r; rw [r.inv_nil]; exact ⟨[], .nil, rfl⟩
  | cons p ps ih =>
    intro vs r
    obtain ⟨v, ws, rfl, a, r⟩ := r.inv_cons
    obtain ⟨bs, h1, h2⟩ := ih r
    cases (show TxtIs v true p from a.inv) with
    | bytes b t => exact ⟨b.toArray :: bs, .cons h1, by rw [List.map_cons, h2]; rfl⟩
theorem BytesAre.get {vs : List Value} {bs : List (Array UInt8)} (r : BytesAre vs bs) : ∀ (i : Nat) (b : Array UInt8), bs[i]? = some b → ∃ t, vs[i]? = some (Value.bytes b t) := by
  induction r with
  | nil => exact fun i b h => nomatch h
  | cons r ih =>
    rename_i c t _ _
    intro i b h
    cases i with
    | zero => exact ⟨t, Option.some.inj h ▸ rfl⟩
    | succ i => exact ih i b h
theorem joined_fold (sep : Array UInt8) (ps : List (Array UInt8)) : ∀ (i : Nat) (out : Array UInt8),
    nums ((ps.zipIdx (i + 1)).foldl (fun out (x : Array UInt8 × Nat) => (if x.2 > 0 then out ++ sep else out) ++ x.1) out) = nums out ++ ((ps.map nums).map fun p => nums sep ++ p).flatten := by
  induction ps with
  | nil => exact fun i out => (List.append_nil _).symm
  | cons p ps ih =>
    intro i out
    rw [List.zipIdx_cons, List.foldl_cons, if_pos (Nat.succ_pos i), ih]
    unfold nums
    rw [Array.toList_append, Array.toList_append, List.map_append, List.map_append, List.map_cons, List.map_cons, List.flatten_cons, List.append_assoc, List.append_assoc, List.append_assoc]
theorem joined_nums (sep : Array UInt8) (ps : List (Array UInt8)) : nums (joined sep ps) = joinC (nums sep) (ps.map nums) := by
  cases ps with
  | nil => rfl
  | cons p ps =>
    refine (joined_fold sep ps 0 (#[] ++ p)).trans ?_
    rw [Array.empty_append]; rfl
theorem joinLetGo_bytes {M : Model} {A : Around} {E : Value → Shared → Prop} {s : Shared} {Q : Unit → Shared → Prop} (taken : List (Value × Option Value)) (keep : List Value) (hn : ∀ x ∈ taken, x.2 = none) (h : Q () s) :
    wpAny M A (joinLetGo taken keep) Q E s := by
  induction taken with
  | nil => exact wpAny_pure h
  | cons x rest ih =>
    obtain ⟨x, w⟩ := x
    have hw : w = none := hn _ (.head _)
    subst hw
    exact wpAny_bind (wpAny_letGo (ih fun y hy => hn y (.tail _ hy)))
theorem join_loop {M : Model} {A : Around} {E : Value → Shared → Prop} {s : Shared} (bs : List (Array UInt8)) (vs : List Value) (hv : BytesAre vs bs)
    (f : Nat → (Array (Array UInt8) × List (Value × Option Value)) → Sem (ForInStep (Array (Array UInt8) × List (Value × Option Value))))
    (hturn : ∀ i b t parts taken, vs[i]? = some (.bytes b t) → (∀ x ∈ taken, x.2 = none ∧ x.1.onHeap = false) → ∀ (Q : ForInStep (Array (Array UInt8) × List (Value × Option Value)) → Shared → Prop),
      Q (.yield (parts.push b, taken ++ [(.bytes b t, none)])) s → wpAny M A (f i (parts, taken)) Q E s)
    (Q : (Array (Array UInt8) × List (Value × Option Value)) → Shared → Prop) (q : ∀ parts taken, parts.toList = bs → (∀ x ∈ taken, x.2 = none ∧ x.1.onHeap = false) → Q (parts, taken) s) :
      wpAny M A (forIn [0:vs.toArray.size] (#[], []) f) Q E s := by
  rw [Std.Legacy.Range.forIn_eq_forIn_range']
  have e : ([0:vs.toArray.size] : Std.Legacy.Range).size = bs.length := by
    show (vs.toArray.size - 0 + 1 - 1) / 1 = _
    rw [List.size_toArray, hv.length, Nat.div_one]; rfl
  rw [e]
  refine wpAny_forIn_list f (fun rest x s' => s' = s ∧ ∃ k, rest = List.range' k rest.length ∧ k + rest.length = bs.length ∧ x.1.toList = bs.take k ∧ ∀ y ∈ x.2, y.2 = none ∧ y.1.onHeap = false) Q ?_ ?_ _ _ ?_
  · rintro i rest ⟨parts, taken⟩ s' ⟨rfl, k, hr, hk, hp, ht⟩
    rw [List.length_cons, List.range'_succ] at hr
    obtain ⟨h1, h2⟩ := List.cons.inj hr
    subst h1
    have hk' : i < bs.length := by rw [← hk, List.length_cons]; exact Nat.lt_add_of_pos_right (Nat.succ_pos _)
    obtain ⟨t, hg⟩ := hv.get i _ (List.getElem?_eq_getElem hk')
    refine hturn i _ t parts taken hg ht _ ⟨rfl, i + 1, h2, by rw [← hk, List.length_cons, Nat.add_assoc, Nat.add_comm 1], ?_, fun y hy => ?_⟩
    · rw [Array.toList_push, hp, List.take_add_one, List.getElem?_eq_getElem hk']; rfl
    · exact (List.mem_append.mp hy).elim (ht y) fun hy => by rw [List.mem_singleton.mp hy]; exact ⟨rfl, rfl⟩
  · rintro ⟨parts, taken⟩ s' ⟨rfl, k, hr, hk, hp, ht⟩
    exact q parts taken (by rw [hp, show k = bs.length from hk, List.take_length]) ht
  · exact ⟨rfl, 0, by rw [List.length_range'], by rw [List.length_range', Nat.zero_add], rfl, fun y hy => nomatch hy⟩
theorem getD_of {vs : List Value} {i : Nat} {x : Value} (h : vs[i]? = some x) : vs.toArray.getD i Value.none = x := by
  rw [Array.getD_eq_getD_getElem?, List.getElem?_toArray, h]; rfl
theorem parts_fold (ps : List (Array UInt8)) : ∀ n : Nat, ps.foldl (fun (a : Nat) (p : Array UInt8) => a + p.size) n = n + ((ps.map nums).map List.length).sum := by
  induction ps with
  | nil => exact fun n => rfl
  | cons p ps ih => intro n; rw [List.foldl_cons, ih, List.map_cons, List.map_cons, List.sum_cons, nums_length, Nat.add_assoc]
theorem parts_size {sep : Array UInt8} {parts : Array (Array UInt8)} {bs : List (Array UInt8)} (hp : parts.toList = bs) (hz : ((bs.map nums).map List.length).sum + bs.length * (nums sep).length ≤ LIM) :
    tooLong (parts.foldl (fun x1 x2 => x1 + x2.size) (sep.size * (parts.size - 1))) = false := by
  rw [← Array.foldl_toList, hp, parts_fold, ← Array.length_toList (xs := parts), hp, Nat.add_comm]
  refine decide_eq_false (Nat.not_lt.mpr (lim_size (Nat.le_trans (Nat.add_le_add_left ?_ _) hz)))
  rw [nums_length, Nat.mul_comm]
  exact Nat.mul_le_mul_right _ (Nat.sub_le _ _)
theorem taken_off {taken : List (Value × Option Value)} (ht : ∀ x ∈ taken, x.2 = none ∧ x.1.onHeap = false) : (Kind.bytes == Kind.bytearray || taken.any fun x => x.1.onHeap) = false :=
  (Bool.or_eq_false_iff).mpr ⟨by decide, List.any_eq_false.mpr fun x hx => by rw [(ht x hx).2]; exact Bool.false_ne_true⟩
theorem takeBuffer_at {M : Model} {A : Around} {E : Value → Shared → Prop} {s : Shared} {c : Array UInt8} {u : Tok} {x : Value} {id : String} {Q : Option (Array UInt8 × Option Value) → Shared → Prop} (hx : x = .bytes c u) (h : Q (some (c, none)) s) : wpAny M A (takeBufferQuiet? id x 0) Q E s := hx ▸ takeBuffer_bytes h
theorem payload_at {M : Model} {A : Around} {E : Value → Shared → Prop} {s : Shared} {c : Array UInt8} {u : Tok} {Q : Array UInt8 → Shared → Prop} (h : Q c s) : wpAny M A (payload (.bytes c u)) Q E s := wpAny_pure h
theorem meets_b_join (sep : Array UInt8) (t : Tok) (a : Addr) (vs : List Value) (bs : List (Array UInt8)) (hv : BytesAre vs bs) (hz : ((bs.map nums).map List.length).sum + bs.length * (nums sep).length ≤ LIM) :
    Meets («bytes.join» ⟨[.bytes sep t, .ref a], []⟩)
    (fun _ R s => s.heap.PlainList a vs.toArray ∧ ∀ r t' k, nums r = joinC (nums sep) (bs.map nums) → R (.ok (.ret (.bytes r t'))) { s with toks := k }) := by
  refine .of_wp fun prog w A R s h => ?_
  obtain ⟨⟨n, ho⟩, h⟩ := h
  have hs : ∀ {A : Around} {E : Value → Shared → Prop} {Q : Option (Array Value) → Shared → Prop}, Q (some vs.toArray) s → wpAny (model prog w) A (seqItems? (.ref a)) Q E s := fun q => wpAny_seqItems ho rfl q
  unfold «bytes.join» joinM
  refine wpAny_bind (wpAny_pure (a := (Value.bytes sep t, Value.ref a)) ?_)
  refine wpAny_bind ?_
  refine wpAny_bind (wpAny_typeOf (T := "list") ⟨_, ho, rfl⟩ ?_)
  refine wp_pos (by decide) ?_
  refine wpAny_pure ?_
  refine wpAny_bind (hs ?_)
  refine wp_pos (by decide) ?_
  have hv0 := hv
  rcases hv with _ | ⟨_ | _⟩
  rotate_left
  · show wpAny (model prog w) A.in1 (typeOf _ >>= fun r => _) _ _ s
    exact wpAny_bind (wpAny_typeOf (T := "bytes") rfl (wp_pos (by decide) (wpAny_bind (wpAny_rule (wpAny_pure ⟨_, rfl, h _ _ s.toks (List.append_nil _).symm⟩)))))
  all_goals
    show wpAny (model prog w) A.in1 (forIn [0:_] (#[], []) _ >>= fun r => _) _ _ s
    refine wpAny_bind (join_loop _ _ hv0 _ (fun i b t parts taken hg ht Q q => ?_) _ fun parts taken hp ht => ?_)
    · exact wpAny_bind (hs (wp_neg (by rw [taken_off ht]; exact Bool.false_ne_true) (wpAny_bind (wpAny_holding (takeBuffer_at (getD_of hg) (wpAny_bind (hs (wp_neg (by rw [bne_self_eq_false]; exact Bool.false_ne_true) (wpAny_pure (by rw [getD_of hg]; exact q))))))))))
    · refine wpAny_bind (payload_at (wp_neg (by rw [parts_size hp hz]; exact Bool.false_ne_true) (wpAny_bind (m := mkBytes (joined sep parts.toList)) (wpAny_mkBytes (wpAny_bind (wpAny_holding (wpAny_point (wpAny_bind (joinLetGo_bytes taken _ (fun x hx => (ht x hx).1) (wpAny_pure ⟨_, rfl, h _ _ _ (by rw [hp, joined_nums])⟩)))))) ?_))))
      rw [← nums_length, hp, joined_nums]
      refine lim_size (Nat.le_trans (joinC_length _ _) ?_)
      rw [List.length_map]; exact hz

section
variable {W : Wld} {A : Around} {s : Shared} {Ok Ok' : Addr → Prop} {v : Value} {k : Bool} {sep : List Nat}
theorem rep_strs {h : Heap} (ps : List (List Nat)) : ∀ {vs : List Value}, RepAll h Ok vs (ps.map (PV.txt false)) → ∃ l : List (Str × Tok), vs = strValues l ∧ l.map (·.1) = ps.map strL := by
  induction ps with
  | nil => intro vs r; exact ⟨[], r.inv_nil, rfl⟩
  | cons p ps ih =>
    intro vs r
    obtain ⟨v, ws, rfl, a, r⟩ := r.inv_cons
    obtain ⟨l, h1, h2⟩ := ih r
    cases (show TxtIs v false p from a.inv) with
    | str _ t => exact ⟨(strL p, t) :: l, by rw [h1]; rfl, by rw [List.map_cons, h2]; rfl⟩
theorem join_txt {ps : List (List Nat)} {a : Addr} {vs : List Value} (hz : (ps.map List.length).sum + ps.length * sep.length ≤ LIM) (hv : TxtIs v k sep)
    (hl : s.heap.PlainList a vs.toArray) (r : RepAll s.heap Ok' vs (ps.map (PV.txt k))) : Gets W A Ok s (call (.builtin (methId k "join")) [v, .ref a]) (.txt k (joinC sep ps)) := by
  intro E Q q
  cases hv with
  | str _ t =>
    obtain ⟨l, rfl, hl2⟩ := rep_strs ps r
    refine SC.join (x := strL sep) hl.isList hl2 ?_ fun t' k => ?_
    · unfold JoinOk Str.tooLong
      rw [show (ps.map strL).toArray.foldl (fun x1 x2 => x1 + x2.length + (strL sep).length) 0 = _ from StrLaws.joinTotal (strL sep) (ps.map strL), List.length_map, List.map_map]
      exact congrArg not (decide_eq_false (Nat.not_lt.mpr (lim_size hz)))
    · rw [show Txt.join (strL sep) (ps.map strL) = strL (joinC sep ps) from (StrLaws.glued_eq_join ..).trans (strL_join sep ps)]
      exact q _ _ (.toks _ _) (.str _ _)
  | bytes bs t =>
    obtain ⟨cs, hb, hn⟩ := bytesAre_of ps r
    refine call_meets slot_b_join (typeIs_bytes s _ _) entry_b_join (args_b_join _ _) (meets_b_join bs.toArray t a vs cs hb ?_) ⟨hl, fun r t' k hr => q _ _ (.toks _ _) ?_⟩
    · rw [hn, ← List.length_map (f := nums) (as := cs), hn]; exact hz
    · rw [hn] at hr
      exact hr ▸ rep_nums _ _
end
end Mine
end
noncomputable section
namespace Mine

/-! ## the small language, told by what must hold for an end to come -/
inductive BOp where
  | add | sub | mul | mulT | fdiv | fmod | pow
inductive COp where
  | eq | ne | lt | le | gt | ge | isin | notin | is_
inductive Meth where
  | split | join | startswith | endswith | lstrip | rstrip | rfind | count | index
inductive BI1 where
  | len | abs | chr | ord | sum | min | max | bytes | typ
inductive BI2 where
  | min | max | isinst | issub | sorted

inductive ME where
  | bad
  | var (i : Nat)
  | lit (x : PV)
  | and_ (a b : ME) | or_ (a b : ME) | not_ (a : ME) | neg (a : ME)
  | bin (o : BOp) (a b : ME) | cmp (o : COp) (a b : ME)
  | ite (c a b : ME)
  | idx (a i : ME) | cut (a lo hi : ME) | rev (a : ME)
  | list (es : ME) | tup (es : ME)
  | nil | cons (a r : ME) | star (a r : ME)
  | fn (f : Nat) (args : ME)
  | bi1 (b : BI1) (a : ME) | bi2 (b : BI2) (a c : ME)
  | meth (m : Meth) (r a : ME)
  | comp (elt src cond : ME)
  | range (lo hi : ME) | enum (a : ME)
  | mapfn (f : Nat) (a : ME)
  | sortset (a : ME)

abbrev Slt := Option (PV × Nat)
def getS : List Slt → Nat → Slt
  | [], _ => none
  | x :: _, 0 => x
  | _ :: r, n + 1 => getS r n
def setS : List Slt → Nat → Slt → List Slt
  | [], _, _ => []
  | _ :: r, 0, y => y :: r
  | x :: r, n + 1, y => x :: setS r n y
def thaw : Slt → Slt
  | none => none
  | some (.dict _, _) => none
  | some (x, _) => some (x, 0)
def freeze1 (ρ : List Slt) (i : Nat) : List Slt := setS ρ i (thaw (getS ρ i))
def freeze : List Nat → List Slt → List Slt
  | [], ρ => ρ
  | i :: r, ρ => freeze r (freeze1 ρ i)

/-! readers: what a value must be -/
def intP : PV → (Int → Prop) → Prop
  | .int i, Q => Q i
  | _, _ => False
def txtP : PV → (Bool → List Nat → Prop) → Prop
  | .txt k cs, Q => Q k cs
  | _, _ => False
def listP : PV → (List PV → Prop) → Prop
  | .list xs, Q => Q xs
  | _, _ => False
def truP : PV → (Bool → Prop) → Prop
  | .none, Q => Q false
  | .bool b, Q => Q b
  | .int i, Q => Q (i != 0)
  | .txt _ cs, Q => Q (!cs.isEmpty)
  | .list xs, Q => Q (!xs.isEmpty)
  | .tup xs, Q => Q (!xs.isEmpty)
  | _, _ => False
/-- level nought; a level below two -/
def l0 : Nat → Prop → Prop
  | 0, P => P
  | _, _ => False
def l1 : Nat → Prop → Prop
  | 0, P => P
  | 1, P => P
  | _, _ => False
def boolP : Bool → Prop → Prop → Prop
  | true, P, _ => P
  | false, _, P => P
def shortN {α : Type} : Nat → List α → Bool
  | _, [] => true
  | 0, _ :: _ => false
  | n + 1, _ :: r => shortN n r

/-! operations -/
def binP : BOp → PV → PV → (PV → Prop) → Prop
  | .add, .int a, y, Q => intP y fun b => Q (.int (a + b))
  | .add, .txt k a, y, Q => txtP y fun k' b => k' = k ∧ a.length + b.length ≤ LIM ∧ Q (.txt k (a ++ b))
  | .add, .list a, y, Q => listP y fun b => a.length + b.length ≤ LST ∧ Q (.list (a ++ b))
  | .sub, x, y, Q => intP x fun a => intP y fun b => Q (.int (a - b))
  | .mul, x, y, Q => listP x fun a => intP y fun n => (a.length * n.toNat ≤ LST ∧ -(2 ^ 40 : Int) ≤ n ∧ n < 2 ^ 40) ∧ Q (.list (List.replicate n.toNat a).flatten)
  | .mulT, .list a, y, Q => intP y fun n => (a.length * n.toNat ≤ LST ∧ -(2 ^ 40 : Int) ≤ n ∧ n < 2 ^ 40) ∧ Q (.list (List.replicate n.toNat a).flatten)
  | .mulT, .txt k a, y, Q => intP y fun n => (a.length ≤ 16 ∧ a ≠ [] ∧ 0 ≤ n ∧ n ≤ LIM ∧ a.length * n.toNat ≤ LIM) ∧ Q (.txt k (List.replicate n.toNat a).flatten)
  | .fdiv, x, y, Q => intP x fun a => intP y fun b => (b ≠ 0 ∧ b.natAbs < 2 ^ 64) ∧ Q (.int (a.fdiv b))
  | .fmod, x, y, Q => intP x fun a => intP y fun b => b ≠ 0 ∧ Q (.int (a.fmod b))
  | .pow, x, y, Q => intP x fun a => intP y fun b => (0 ≤ b ∧ b ≤ 1000 ∧ a.natAbs < 1000) ∧ Q (.int (a ^ b.toNat))
  | _, _, _, _ => False

def eqP (x y : PV) (Q : Bool → Prop) : Prop := match x with
  | .none => (match y with | .none => Q true | _ => False)
  | .bool a => (match y with | .bool b => Q (a == b) | _ => False)
  | .int a => intP y fun b => Q (a == b)
  | .txt k a => txtP y fun k' b => k' = k ∧ Q (a == b)
  | .list a => listP y fun b => ∃ t, pvEq 4 (.list a) (.list b) = some t ∧ Q t
  | _ => False
def nd : PV → Prop → Prop
  | .dict _, _ => False
  | _, P => P
def seqP : PV → (List PV → Prop) → Prop
  | .list xs, Q => Q xs
  | .tup xs, Q => Q xs
  | _, _ => False
/-- whether a value is None -/
def noneP : PV → (Bool → Prop) → Prop
  | .none, Q => Q true
  | .txt _ _, Q => Q false
  | _, _ => False
def cmpP : COp → PV → PV → (Bool → Prop) → Prop
  | .is_, x, y, Q => y = .none ∧ noneP x Q
  | .eq, x, y, Q => eqP x y Q
  | .ne, x, y, Q => eqP x y fun t => Q (!t)
  | .lt, x, y, Q => intP x fun a => intP y fun b => Q (decide (a < b))
  | .le, x, y, Q => intP x fun a => intP y fun b => Q (decide (a ≤ b))
  | .gt, x, y, Q => intP x fun a => intP y fun b => Q (decide (b < a))
  | .ge, x, y, Q => intP x fun a => intP y fun b => Q (decide (b ≤ a))
  | .isin, x, y, Q => nd x (seqP y fun xs => allEq x xs ∧ Q (xs.any (likeB x)))
  | .notin, x, y, Q => nd x (seqP y fun xs => allEq x xs ∧ Q (!(xs.any (likeB x))))

def lookD (es : List (Int × PV)) (j : Int) : Option PV := (es.find? fun e => e.1 == j).map (·.2)
def idxP : PV → Nat → PV → (PV → Nat → Prop) → Prop
  | .list xs, l, y, Q => intP y fun i => ∃ x, idxAt xs i = some x ∧ Q x (l - 1)
  | .tup xs, _, y, Q => intP y fun i => ∃ n : Nat, i = n ∧ ∃ x, xs[n]? = some x ∧ Q x 0
  | .dict es, _, y, Q => intP y fun i => ∃ x, lookD es i = some x ∧ Q x 0
  | .txt k cs, _, y, Q => intP y fun i => k = false ∧ ∃ c, idxAt cs i = some c ∧ Q (.txt false [c]) 0
  | _, _, _, _ => False
def partP : PV → (Option Int → Prop) → Prop
  | .none, Q => Q none
  | .int i, Q => Q (some i)
  | _, _ => False
def cutP : PV → PV → PV → (PV → Prop) → Prop
  | .list xs, a, b, Q => partP a fun lo => partP b fun hi => Q (.list (cut xs lo hi))
  | .txt k cs, a, b, Q => partP a fun lo => partP b fun hi => Q (.txt k (cut cs lo hi))
  | _, _, _, _ => False

def rfindC (c : Nat) : List Nat → Int
  | [] => -1
  | x :: r => if 0 ≤ rfindC c r then rfindC c r + 1 else if x = c then 0 else -1
def rstripC (c : Nat) (cs : List Nat) : List Nat := (cs.reverse.dropWhile (· == c)).reverse
def methP : Meth → PV → Nat → PV → (PV → Prop) → Prop
  | .split, x, _, y, Q => txtP x fun k cs => y = .txt k [47] ∧ Q (.list ((splitC 47 cs).map (PV.txt k)))
  | .join, x, _, y, Q => txtP x fun k sep => listP y fun xs => ∃ ps, xs = ps.map (PV.txt k) ∧ (ps.map List.length).sum + ps.length * sep.length ≤ LIM ∧ Q (.txt k (joinC sep ps))
  | .startswith, x, _, y, Q => txtP x fun k a => txtP y fun k' b => k' = k ∧ Q (.bool (b.isPrefixOf a))
  | .endswith, x, _, y, Q => txtP x fun k a => txtP y fun k' b => k' = k ∧ Q (.bool (b.isSuffixOf a))
  | .lstrip, x, _, y, Q => txtP x fun k a => y = .txt k [47] ∧ Q (.txt k (a.dropWhile (· == 47)))
  | .rstrip, x, _, y, Q => txtP x fun k a => y = .txt k [47] ∧ Q (.txt k (rstripC 47 a))
  | .rfind, x, _, y, Q => txtP x fun k a => y = .txt k [47] ∧ Q (.int (rfindC 47 a))
  | .count, x, _, y, Q => nd y (listP x fun xs => allEq y xs ∧ Q (.int (List.countP (likeB y) xs)))
  | .index, x, _, y, Q => nd y (listP x fun xs => allEq y xs ∧ ∃ i : Nat, xs.findIdx? (likeB y) = some i ∧ Q (.int i))

/-- the receiver of a method -/
def txtR : PV → Prop → Prop
  | .txt _ _, P => P
  | _, _ => False
def listR : PV → Prop → Prop
  | .list _, P => P
  | _, _ => False
def recvP (m : Meth) (x : PV) (P : Prop) : Prop := match m with
  | .count => listR x P
  | .index => listR x P
  | _ => txtR x P
/-- the order of texts and of lists of texts; the first best of a row -/
def tlt : List Nat → List Nat → Bool
  | _, [] => false
  | [], _ :: _ => true
  | a :: x, b :: y => if a < b then true else if b < a then false else tlt x y
def rlt : List (List Nat) → List (List Nat) → Bool
  | _, [] => false
  | [], _ :: _ => true
  | a :: x, b :: y => if a = b then rlt x y else tlt a b
def bestOf {α : Type} (f : α → α → Bool) (b : α) : List α → α
  | [] => b
  | x :: xs => bestOf f (if f x b then x else b) xs
def turnB {α : Type} : Bool → (α → α → Bool) → α → α → Bool
  | false, f, x, y => f x y
  | true, f, x, y => f y x
def rowV (k : Bool) (r : List (List Nat)) : PV := .list (r.map (PV.txt k))
def bestP (g : Bool) (xs : List PV) (Q : PV → Prop) : Prop :=
  (∃ (i : Int) (is : List Int), xs = (i :: is).map .int ∧ Q (.int (bestOf (turnB g fun a b => decide (a < b)) i is))) ∨
  (∃ (k : Bool) (r : List (List Nat)) (rs : List (List (List Nat))), xs = (r :: rs).map (rowV k) ∧ Q (rowV k (bestOf (turnB g rlt) r rs)))
def bi1P : BI1 → PV → Nat → (PV → Prop) → Prop
  | .min, x, l, Q => listP x fun xs => l1 l (bestP false xs Q)
  | .max, x, l, Q => listP x fun xs => l1 l (bestP true xs Q)
  | .len, .txt _ cs, _, Q => Q (.int cs.length)
  | .len, .list xs, _, Q => Q (.int xs.length)
  | .len, .tup xs, l, Q => l0 l (Q (.int xs.length))
  | .abs, x, _, Q => intP x fun i => Q (.int (if i < 0 then -i else i))
  | .chr, x, _, Q => intP x fun i => (0 ≤ i ∧ i ≤ 1114111) ∧ Q (.txt false [i.toNat])
  | .ord, x, _, Q => txtP x fun k cs => ∃ c, k = false ∧ cs = [c] ∧ Q (.int c)
  | .sum, x, l, Q => listP x fun xs => l1 l (∃ is : List Int, xs = is.map .int ∧ Q (.int is.sum))
  | .bytes, x, l, Q => listP x fun xs => l1 l (∃ cs : List Nat, xs = (cs.map fun (c : Nat) => PV.int (c : Int)) ∧ cs.length ≤ LIM ∧ (∀ c ∈ cs, c < 256) ∧ Q (.txt true cs))
  | .typ, .txt false _, _, Q => Q (.cls "str")
  | .typ, .txt true _, _, Q => Q (.cls "bytes")
  | _, _, _, _ => False
def bi2P : BI2 → PV → PV → (PV → Prop) → Prop
  | .min, x, y, Q => intP x fun a => intP y fun b => Q (.int (if b < a then b else a))
  | .max, x, y, Q => intP x fun a => intP y fun b => Q (.int (if b > a then b else a))
  | .isinst, .txt k _, y, Q => y = .cls "bytes" ∧ Q (.bool k)
  | .isinst, .bool _, y, Q => y = .cls "bool" ∧ Q (.bool true)
  | .isinst, .list _, y, Q => y = .tup [.cls "list", .cls "tuple"] ∧ Q (.bool true)
  | .issub, x, y, Q => (x = .cls "str" ∨ x = .cls "bytes") ∧ y = .tup [.cls "str", .cls "bytes"] ∧ Q (.bool true)
  | _, _, _, _ => False

def itsP : PV → Nat → (List PV → Nat → Prop) → Prop
  | .list xs, l, Q => l1 l (Q xs l)
  | .tup xs, l, Q => l0 l (Q xs 0)
  | .txt k cs, _, Q => k = false ∧ Q (cs.map fun c => .txt false [c]) 0
  | _, _, _ => False

abbrev Fn := List PV → (PV → Prop) → Prop
abbrev FEnv := List Fn
def getF : FEnv → Nat → Fn
  | [], _ => fun _ _ => False
  | F :: _, 0 => F
  | _ :: r, n + 1 => getF r n

structure Ans where
  val : (PV → Nat → Prop) → Prop
  tru : (Bool → Prop) → Prop
  its : (List PV → Nat → Prop) → Prop
  lst : (List PV → Prop) → Prop
def Ans.of (v : (PV → Nat → Prop) → Prop) : Ans := ⟨v, fun Q => v fun x _ => truP x Q, fun Q => v fun x l => itsP x l Q, fun _ => False⟩
def Ans.none : Ans := ⟨fun _ => False, fun _ => False, fun _ => False, fun _ => False⟩

def compP (f : PV → (Bool → Prop) → Prop) (g : PV → (PV → Nat → Prop) → Prop) : List PV → (List PV → Prop) → Prop
  | [], Q => Q []
  | x :: xs, Q => f x fun t => boolP t (g x fun y l => l0 l (compP f g xs fun ys => Q (y :: ys))) (compP f g xs Q)
def enumF : Nat → List PV → List PV
  | _, [] => []
  | n, x :: xs => .tup [.int n, x] :: enumF (n + 1) xs
/-- all items give the same bool, and there is one -/
def onesP (g : PV → (PV → Nat → Prop) → Prop) (b : Bool) : Bool → List PV → Prop → Prop
  | seen, [], P => seen = true ∧ P
  | _, x :: xs, P => g x fun y l => l0 l (y = .bool b ∧ onesP g b true xs P)
def rangeF (a b : Int) : List PV := (List.range (b - a).toNat).map fun (k : Nat) => .int (a + (k : Int))

def evA (Γ : FEnv) : ME → List Slt → Ans
  | .var i, ρ => .of fun Q => (match getS ρ i with | some (x, l) => Q x l | none => False)
  | .lit x, _ => .of fun Q => Q x 0
  | .and_ a b, ρ => { (Ans.of fun Q => (evA Γ a ρ).val fun x l => l0 l (truP x fun t => boolP t ((evA Γ b ρ).val Q) (Q x 0))) with tru := fun Q => (evA Γ a ρ).tru fun t => boolP t ((evA Γ b ρ).tru Q) (Q false) }
  | .or_ a b, ρ => { (Ans.of fun Q => (evA Γ a ρ).val fun x l => l0 l (truP x fun t => boolP t (Q x 0) ((evA Γ b ρ).val Q))) with tru := fun Q => (evA Γ a ρ).tru fun t => boolP t (Q true) ((evA Γ b ρ).tru Q) }
  | .not_ a, ρ => { (Ans.of fun Q => (evA Γ a ρ).val fun x _ => truP x fun t => Q (.bool (!t)) 0) with tru := fun Q => (evA Γ a ρ).tru fun t => Q (!t) }
  | .neg a, ρ => .of fun Q => (evA Γ a ρ).val fun x _ => intP x fun i => Q (.int (-i)) 0
  | .bin o a b, ρ => .of fun Q => (evA Γ a ρ).val fun x l => (evA Γ b ρ).val fun y l' => l1 l (l1 l' (binP o x y fun z => Q z 0))
  | .cmp o a b, ρ => .of fun Q => (evA Γ a ρ).val fun x _ => (evA Γ b ρ).val fun y _ => cmpP o x y fun t => Q (.bool t) 0
  | .ite c a b, ρ => { (Ans.of fun Q => (evA Γ c ρ).tru fun t => boolP t ((evA Γ a ρ).val Q) ((evA Γ b ρ).val Q)) with tru := fun Q => (evA Γ c ρ).tru fun t => boolP t ((evA Γ a ρ).tru Q) ((evA Γ b ρ).tru Q) }
  | .idx a i, ρ => .of fun Q => (evA Γ a ρ).val fun x l => (evA Γ i ρ).val fun y _ => idxP x l y Q
  | .cut a lo hi, ρ => .of fun Q => (evA Γ a ρ).val fun x l => (evA Γ lo ρ).val fun y ly => (evA Γ hi ρ).val fun z lz => l1 l (l0 ly (l0 lz (cutP x y z fun r => Q r 0)))
  | .rev a, ρ => .of fun Q => (evA Γ a ρ).val fun x l => l1 l (listP x fun xs => Q (.list xs.reverse) 0)
  | .list es, ρ => .of fun Q => (evA Γ es ρ).lst fun xs => shortN 64 xs = true ∧ Q (.list xs) 0
  | .tup es, ρ => .of fun Q => (evA Γ es ρ).lst fun xs => shortN 64 xs = true ∧ Q (.tup xs) 0
  | .nil, _ => { Ans.none with lst := fun Q => Q [] }
  | .cons a r, ρ => { Ans.none with lst := fun Q => (evA Γ a ρ).val fun x l => l0 l ((evA Γ r ρ).lst fun xs => Q (x :: xs)) }
  | .star a r, ρ => { Ans.none with lst := fun Q => (evA Γ a ρ).val fun x l => l1 l (listP x fun ys => (evA Γ r ρ).lst fun xs => Q (ys ++ xs)) }
  | .fn f args, ρ => .of fun Q => (evA Γ args ρ).lst fun xs => getF Γ f xs fun z => Q z 0
  | .bi1 b a, ρ => .of fun Q => (evA Γ a ρ).val fun x l => bi1P b x l fun z => Q z 0
  | .bi2 b a c, ρ => .of fun Q => (evA Γ a ρ).val fun x l => (evA Γ c ρ).val fun y l' => l0 l (l0 l' (bi2P b x y fun z => Q z 0))
  | .meth m r a, ρ => .of fun Q => (evA Γ r ρ).val fun x l => recvP m x ((evA Γ a ρ).val fun y l' => l1 l' (methP m x l y fun z => Q z 0))
  | .comp elt src cond, ρ => .of fun Q => (evA Γ src ρ).its fun xs _ => compP (fun x => (evA Γ cond (ρ ++ [some (x, 0)])).tru) (fun x => (evA Γ elt (ρ ++ [some (x, 0)])).val) xs fun ys => Q (.list ys) 0
  | .range lo hi, ρ => { Ans.none with its := fun Q => (evA Γ lo ρ).val fun x _ => (evA Γ hi ρ).val fun y _ => intP x fun a => intP y fun b => (-(2 ^ 40 : Int) ≤ a ∧ a ≤ 2 ^ 40 ∧ -(2 ^ 40 : Int) ≤ b ∧ b ≤ LIM ∧ (b - a).toNat ≤ LIM) ∧ Q (rangeF a b) 0 }
  | .enum a, ρ => { Ans.none with its := fun Q => (evA Γ a ρ).val fun x l => l1 l (listP x fun xs => Q (enumF 0 xs) l) }
  | .mapfn f a, ρ => .of fun Q => (evA Γ a ρ).val fun x l => l1 l (listP x fun xs => ∃ ks : List (Bool × List Nat), xs = (ks.map fun p => PV.txt p.1 p.2) ∧ (∀ p ∈ ks, ∀ Z : PV → Prop, Z (.txt p.1 p.2) → getF Γ f [.txt p.1 p.2] Z) ∧ Q (.tup xs) 0)
  | .sortset a, ρ => .of fun Q => (evA Γ a ρ).val fun x l => l1 l (listP x fun xs => ∃ ts : List (List Nat), xs = ts.map (PV.txt false) ∧ ts.length < 64 ∧ ∀ us : List (List Nat), us.Nodup → (∀ t, t ∈ us ↔ t ∈ ts) → us.length ≤ ts.length → Q (.list (us.map (PV.txt false))) 0)
  | .bad, _ => Ans.none

/-- the names whose values must not be turned any more, where a value of the expression goes on (v), or is looked at alone -/
def esc : Bool → ME → List Nat
  | v, .var i => (match v with | true => [i] | false => [])
  | v, .and_ a b => esc v a ++ esc v b
  | v, .or_ a b => esc v a ++ esc v b
  | _, .not_ a => esc false a
  | _, .neg a => esc false a
  | _, .bin _ a b => esc false a ++ esc false b
  | _, .cmp _ a b => esc false a ++ esc false b
  | _, .idx a b => esc false a ++ esc false b
  | v, .ite c a b => esc false c ++ (esc v a ++ esc v b)
  | _, .cut a b c => esc false a ++ (esc false b ++ esc false c)
  | _, .rev a => esc false a
  | _, .list es => esc true es
  | _, .tup es => esc true es
  | _, .cons a r => esc true a ++ esc true r
  | _, .star a r => esc false a ++ esc true r
  | _, .fn _ args => esc true args
  | _, .bi1 _ a => esc false a
  | _, .bi2 _ a c => esc false a ++ esc false c
  | _, .meth _ r a => esc false r ++ esc false a
  | _, .comp elt src cond => esc true elt ++ (esc false src ++ esc false cond)
  | _, .range lo hi => esc false lo ++ esc false hi
  | _, .enum a => esc true a
  | _, .mapfn _ a => esc false a
  | _, .sortset a => esc false a
  | _, .bad => []
  | _, .lit _ => []
  | _, .nil => []

inductive MS where
  | bad | skip | seq (a b : MS)
  | brk | cont | ret (e : ME)
  | asg (x : Nat) (own : Bool) (e : ME)
  | newDict (x : Nat)
  | unpack (xs : List Nat) (e : ME)
  | multi (xs : List Nat) (owns : List Nat) (es : ME)
  | aug (x : Nat) (o : BOp) (e : ME)
  | append (x : Nat) (e : ME) | pop (x : Nat) | extend (x : Nat) (e : ME)
  | setIdx (x : Nat) (i e : ME) | augIdx (x : Nat) (i : ME) (o : BOp) (e : ME)
  | ite (c : ME) (a b : MS) | while_ (c : ME) (b : MS) | for_ (xs : List Nat) (src : ME) (b : MS)
  | try_ (b : MS)
  | oneOf (x : Nat) (elt src : ME)
  | push2 (x : Nat) (e : ME) | append2 (x : Nat) (i e : ME)
  | rows (x : Nat) (src : ME)
inductive Fl where
  | next | brk | cont | ret (v : PV)

def ownOf : Bool → PV → Nat
  | true, .list _ => 1
  | _, _ => 0
/-- the level of a list that is made anew -/
def ownL : Nat → PV → Nat
  | 1, .list _ => 1
  | 2, .list _ => 2
  | _, _ => 0
def setAll : List Nat → List PV → List Slt → List Slt
  | x :: xs, v :: vs, ρ => setAll xs vs (setS ρ x (some (v, 0)))
  | _, _, ρ => ρ
def setOwns : List Nat → List Nat → List PV → List Slt → List Slt
  | x :: xs, o :: os, v :: vs, ρ => setOwns xs os vs (setS ρ x (some (v, ownL o v)))
  | _, _, _, ρ => ρ
def sameLen : List Nat → List PV → Prop → Prop
  | [], [], P => P
  | _ :: xs, _ :: vs, P => sameLen xs vs P
  | _, _, _ => False
def bindP (xs : List Nat) (v : PV) (ρ : List Slt) (Q : List Slt → Prop) : Prop := match xs with
  | [x] => Q (setS ρ x (some (v, 0)))
  | xs => (match v with | .tup vs => sameLen xs vs (Q (setAll xs vs ρ)) | _ => False)
abbrev Post := Fl → List Slt → Prop
def seqK (f : List Slt → Prop) (Q : Post) : Post
  | .next, ρ => f ρ
  | .brk, ρ => Q .brk ρ
  | .cont, ρ => Q .cont ρ
  | .ret v, ρ => Q (.ret v) ρ
def loopK (f : List Slt → Prop) (Q : Post) : Post
  | .next, ρ => f ρ
  | .cont, ρ => f ρ
  | .brk, ρ => Q .next ρ
  | .ret v, ρ => Q (.ret v) ρ
def forP (f : List Slt → Post → Prop) (xs : List Nat) : List PV → List Slt → Post → Prop
  | [], ρ, Q => Q .next ρ
  | v :: vs, ρ, Q => bindP xs v ρ fun ρ1 => f ρ1 (loopK (fun ρ' => forP f xs vs ρ' Q) Q)
def whileP (c : List Slt → (Bool → List Slt → Prop) → Prop) (f : List Slt → Post → Prop) : Nat → List Slt → Post → Prop
  | 0, _, _ => False
  | n + 1, ρ, Q => c ρ fun t ρ1 => boolP t (f ρ1 (loopK (fun ρ' => whileP c f n ρ' Q) Q)) (Q .next ρ1)
def setDict (es : List (Int × PV)) (i : Int) (v : PV) : List (Int × PV) :=
  if es.any (fun e => e.1 = i) then es.map (fun e => if e.1 = i then (e.1, v) else e) else es ++ [(i, v)]
/-- what is turned in place: texts and numbers -/
def augP : BOp → PV → PV → (PV → Prop) → Prop
  | .add, .int a, y, Q => intP y fun b => Q (.int (a + b))
  | .add, .txt k a, y, Q => txtP y fun k' b => k' = k ∧ a.length + b.length ≤ LIM ∧ Q (.txt k (a ++ b))
  | .sub, x, y, Q => intP x fun a => intP y fun b => Q (.int (a - b))
  | .fdiv, x, y, Q => intP x fun a => intP y fun b => (b ≠ 0 ∧ b.natAbs < 2 ^ 64) ∧ Q (.int (a.fdiv b))
  | _, _, _, _ => False
/-- a slot that holds a list of its own -/
def ownP : Slt → (List PV → Prop) → Prop
  | some (.list xs, 1), Q => Q xs
  | _, _ => False
def dictP : Slt → (List (Int × PV) → Prop) → Prop
  | some (.dict es, 1), Q => Q es
  | _, _ => False
/-- a slot that holds a list of its own, of lists of its own -/
def rowsP : Slt → (List PV → Prop) → Prop
  | some (.list xs, 2), Q => Q xs
  | _, _ => False
def slot0 : Slt → (PV → Prop) → Prop
  | some (x, 0), Q => Q x
  | _, _ => False
def placeOfI (xs : List PV) (k : Int) : Nat := if 0 ≤ k then k.toNat else (k + xs.length).toNat

def wp (Γ : FEnv) : MS → List Slt → Post → Prop
  | .skip, ρ, Q => Q .next ρ
  | .seq a b, ρ, Q => wp Γ a ρ (seqK (fun ρ' => wp Γ b ρ' Q) Q)
  | .brk, ρ, Q => Q .brk ρ
  | .cont, ρ, Q => Q .cont ρ
  | .ret e, ρ, Q => (evA Γ e (freeze (esc true e) ρ)).val fun v l => l0 l (Q (.ret v) (freeze (esc true e) ρ))
  | .asg x own e, ρ, Q => (evA Γ e (freeze (esc true e) ρ)).val fun v l => l0 l (Q .next (setS (freeze (esc true e) ρ) x (some (v, ownOf own v))))
  | .newDict x, ρ, Q => Q .next (setS ρ x (some (.dict [], 1)))
  | .unpack xs e, ρ, Q => (evA Γ e (freeze (esc true e) ρ)).val fun v l => l0 l (match v with | .tup vs => sameLen xs vs (Q .next (setAll xs vs (freeze (esc true e) ρ))) | _ => False)
  | .multi xs owns es, ρ, Q => (evA Γ es (freeze (esc true es) ρ)).lst fun vs => shortN 64 vs = true ∧ sameLen xs vs (Q .next (setOwns xs owns vs (freeze (esc true es) ρ)))
  | .aug x o e, ρ, Q => slot0 (getS (freeze (esc false e) ρ) x) fun v => (evA Γ e (freeze (esc false e) ρ)).val fun w l => l0 l (augP o v w fun z => Q .next (setS (freeze (esc false e) ρ) x (some (z, 0))))
  | .append x e, ρ, Q => ownP (getS (freeze (esc true e) ρ) x) fun xs => (evA Γ e (freeze (esc true e) ρ)).val fun v l => l0 l (xs.length < LST ∧ Q .next (setS (freeze (esc true e) ρ) x (some (.list (xs ++ [v]), 1))))
  | .pop x, ρ, Q => ownP (getS ρ x) fun xs => ∃ ys k cs, xs = ys ++ [.txt k cs] ∧ Q .next (setS ρ x (some (.list ys, 1)))
  | .extend x e, ρ, Q => ownP (getS (freeze (esc false e) ρ) x) fun xs => (evA Γ e (freeze (esc false e) ρ)).val fun v l => l0 l (listP v fun ys => xs.length + ys.length ≤ LST ∧ Q .next (setS (freeze (esc false e) ρ) x (some (.list (xs ++ ys), 1))))
  | .setIdx x i e, ρ, Q => dictP (getS (freeze (esc true e) ρ) x) fun es => (evA Γ e (freeze (esc true e) ρ)).val fun v l => l0 l ((evA Γ i (freeze (esc true e) ρ)).val fun iv _ => intP iv fun j => es.length < 1000 ∧ Q .next (setS (freeze (esc true e) ρ) x (some (.dict (setDict es j v), 1))))
  | .augIdx x i o e, ρ, Q => ownP (getS ρ x) fun xs => (evA Γ i ρ).val fun iv _ => intP iv fun j => ∃ v, idxAt xs j = some v ∧ (evA Γ e ρ).val fun w l => l0 l (augP o v w fun z => Q .next (setS ρ x (some (.list (xs.set (placeOfI xs j) z), 1))))
  | .ite c a b, ρ, Q => (evA Γ c (freeze (esc false c) ρ)).tru fun t => boolP t (wp Γ a (freeze (esc false c) ρ) Q) (wp Γ b (freeze (esc false c) ρ) Q)
  | .while_ c b, ρ, Q => ∃ n, whileP (fun ρ K => (evA Γ c (freeze (esc false c) ρ)).tru fun t => K t (freeze (esc false c) ρ)) (wp Γ b) n ρ Q
  | .for_ xs src b, ρ, Q => (evA Γ src (freeze (esc true src) ρ)).its fun vs l => l0 l (forP (wp Γ b) xs vs (freeze (esc true src) ρ) Q)
  | .try_ b, ρ, Q => wp Γ b ρ Q
  | .oneOf x elt src, ρ, Q => (evA Γ src (freeze (esc true elt ++ esc false src) ρ)).its fun xs _ => ∃ b, onesP (fun y => (evA Γ elt (freeze (esc true elt ++ esc false src) ρ ++ [some (y, 0)])).val) b false xs (Q .next (setS (freeze (esc true elt ++ esc false src) ρ) x (some (.bool b, 0))))
  | .push2 x e, ρ, Q => rowsP (getS (freeze (esc true e) ρ) x) fun xs => (evA Γ e (freeze (esc true e) ρ)).val fun v l => l0 l (listP v fun ys => xs.length < LST ∧ Q .next (setS (freeze (esc true e) ρ) x (some (.list (xs ++ [.list ys]), 2))))
  | .append2 x i e, ρ, Q => rowsP (getS (freeze (esc true e) ρ) x) fun xs => (evA Γ i (freeze (esc true e) ρ)).val fun iv _ => intP iv fun j => ∃ ys, idxAt xs j = some (.list ys) ∧ (evA Γ e (freeze (esc true e) ρ)).val fun v l => l0 l (ys.length < LST ∧ Q .next (setS (freeze (esc true e) ρ) x (some (.list (xs.set (placeOfI xs j) (.list (ys ++ [v]))), 2))))
  | .rows x src, ρ, Q => (evA Γ src (freeze (esc false src) ρ)).its fun xs _ => Q .next (setS (freeze (esc false src) ρ) x (some (.list (List.replicate xs.length (.list [])), 2)))
  | .bad, _, _ => False

/-- the slots of a call -/
def slotsOf : List PV → Nat → List Slt
  | [], n => List.replicate n none
  | v :: vs, 0 => []
  | v :: vs, n + 1 => some (v, 0) :: slotsOf vs n
def retK (Q : PV → Prop) : Post
  | .ret v, _ => Q v
  | .next, _ => Q .none
  | _, _ => False
/-- what a def hands back -/
def callP (Γ : FEnv) (n : Nat) (body : MS) (args : List PV) (Q : PV → Prop) : Prop := wp Γ body (slotsOf args n) (retK Q)
end Mine
end
noncomputable section
namespace Mine
open SeqAt

/-! values that stand in a name: level 0 is never turned; at level 1 the list (or dict) itself may be, at level 2 its lists too -/
inductive RowsRep (h : Heap) (Ok : Addr → Prop) : List Addr → List PV → Prop
  | nil : RowsRep h Ok [] []
  | cons {b : Addr} {bs : List Addr} {vs : List Value} {ys xs : List PV} : h.PlainList b vs.toArray → RepAll h Ok vs ys → RowsRep h Ok bs xs → RowsRep h Ok (b :: bs) (.list ys :: xs)
/-- a dict by ints -/
def IsDictI (W : Wld) (h : Heap) (Ok : Addr → Prop) (a : Addr) (es : List (Int × PV)) : Prop :=
  ∃ kvs : List (Int × Value), h.DictOf (intKind W.prog W.w) a kvs ∧ kvs.map (·.1) = es.map (·.1) ∧ RepAll h Ok (kvs.map (·.2)) (es.map (·.2))
inductive BRep (W : Wld) (h : Heap) (Ok : Addr → Prop) : Nat → Value → PV → Prop
  | zero {v : Value} {x : PV} : Rep h Ok v x → BRep W h Ok 0 v x
  | one {a : Addr} {vs : List Value} {xs : List PV} : h.PlainList a vs.toArray → RepAll h Ok vs xs → BRep W h Ok 1 (.ref a) (.list xs)
  | two {a : Addr} {bs : List Addr} {xs : List PV} : h.PlainList a (bs.map Value.ref).toArray → RowsRep h Ok bs xs → BRep W h Ok 2 (.ref a) (.list xs)
  | dict {a : Addr} {es : List (Int × PV)} : IsDictI W h Ok a es → BRep W h Ok 1 (.ref a) (.dict es)
/-- a value at a level, of a size -/
structure Val (W : Wld) (h : Heap) (Ok : Addr → Prop) (l : Nat) (v : Value) (x : PV) : Prop where
  r : BRep W h Ok l v x
  z : Sz x

section
variable {W : Wld} {A : Around} {s s' : Shared} {h h' : Heap} {Ok Ok' : Addr → Prop} {v u : Value} {x y : PV} {l l' : Nat}
theorem RowsRep.any {bs : List Addr} {xs : List PV} (r : RowsRep h Ok bs xs) : RepAll h (fun _ => True) (bs.map Value.ref) xs := by
  induction r with
  | nil => exact .nil
  | cons q r _ ih => exact .cons (.list trivial q (r.weaken fun _ _ => trivial)) ih
theorem RowsRep.mono (hk : Moves h h' Ok Ok') {bs : List Addr} {xs : List PV} (r : RowsRep h Ok bs xs) (hb : ∀ b ∈ bs, ∀ o, h.get? b = some o → h'.get? b = some o) : RowsRep h' Ok' bs xs := by
  induction r with
  | nil => exact .nil
  | cons q r _ ih => exact .cons (q.at (hb _ (.head _))) (r.mono hk) (ih fun b hm => hb b (.tail _ hm))
theorem IsDictI.mono (hk : Moves h h' Ok Ok') {a : Addr} {es : List (Int × PV)} (ha : ∀ o, h.get? a = some o → h'.get? a = some o) (q : IsDictI W h Ok a es) : IsDictI W h' Ok' a es := by
  obtain ⟨kvs, h1, h3, h4⟩ := q
  exact ⟨kvs, h1.at fun o => ha o, h3, h4.mono hk⟩
theorem BRep.ext (r : BRep W s.heap Ok l v x) (e : Ext s s') : BRep W s'.heap Ok l v x := by
  cases r with
  | zero r => exact .zero (r.ext e)
  | one q r => exact .one (q.at fun o => e.keep _ o) (r.ext e)
  | two q r => exact .two (q.at fun o => e.keep _ o) (r.mono e.moves fun b _ o => e.keep b o)
  | dict q => exact .dict (q.mono e.moves fun o => e.keep _ o)
theorem Val.ext (r : Val W s.heap Ok l v x) (e : Ext s s') : Val W s'.heap Ok l v x := ⟨r.r.ext e, r.z⟩
/-- what a value at a level is -/
def BInv (W : Wld) (h : Heap) (Ok : Addr → Prop) (l : Nat) (v : Value) : PV → Prop
  | .list xs => ∃ a vs, v = .ref a ∧ h.PlainList a vs.toArray ∧ RepAll h (fun _ => True) vs xs ∧ (l ≤ 1 → RepAll h Ok vs xs) ∧ (l = 0 → Ok a)
  | .dict es => ∃ a, v = .ref a ∧ IsDictI W h Ok a es
  | x => Rep h Ok v x
theorem BRep.inv (r : BRep W h Ok l v x) : BInv W h Ok l v x := by
  cases r with
  | zero r =>
    cases x with
    | list xs => obtain ⟨a, vs, e, o, q, r⟩ := r.inv; exact ⟨a, vs, e, q, r.weaken fun _ _ => trivial, fun _ => r, fun _ => o⟩
    | dict es => exact r.inv.elim
    | _ => exact r
  | one q r => exact ⟨_, _, rfl, q, r.weaken fun _ _ => trivial, fun _ => r, fun e => nomatch e⟩
  | two q r => exact ⟨_, _, rfl, q, r.any, fun e => absurd e (by decide), fun e => nomatch e⟩
  | dict q => exact ⟨_, rfl, q⟩
theorem BRep.rep0 (r : BRep W h Ok 0 v x) : Rep h Ok v x := by cases r; assumption
/-- to be looked at, a value at any level is one that stands -/
theorem BRep.any (r : BRep W h Ok l v x) (hx : ∀ es, x ≠ .dict es) : Rep h (fun _ => True) v x := by
  cases r with
  | zero r => exact r.weaken fun _ _ => trivial
  | one q r => exact .list trivial q (r.weaken fun _ _ => trivial)
  | two q r => exact .list trivial q r.any
  | dict q => exact absurd rfl (hx _)

/-! what the readers tell -/
theorem int_inv {Q : Int → Prop} (h : intP x Q) : ∃ i, x = .int i ∧ Q i := by
  cases x with
  | int i => exact ⟨i, rfl, h⟩
  | _ => exact h.elim
theorem txt_inv {Q : Bool → List Nat → Prop} (h : txtP x Q) : ∃ k cs, x = .txt k cs ∧ Q k cs := by
  cases x with
  | txt k cs => exact ⟨k, cs, rfl, h⟩
  | _ => exact h.elim
theorem list_inv {Q : List PV → Prop} (h : listP x Q) : ∃ xs, x = .list xs ∧ Q xs := by
  cases x with
  | list xs => exact ⟨xs, rfl, h⟩
  | _ => exact h.elim
theorem l0_inv {P : Prop} (h : l0 l P) : l = 0 ∧ P := by
  cases l with
  | zero => exact ⟨rfl, h⟩
  | succ l => exact h.elim
theorem l1_inv {P : Prop} (h : l1 l P) : l ≤ 1 ∧ P := by
  match l, h with
  | 0, h => exact ⟨Nat.zero_le _, h⟩
  | 1, h => exact ⟨Nat.le_refl _, h⟩
theorem part_inv {Q : Option Int → Prop} (hx : partP x Q) (r : Rep h Ok v x) : ∃ o, PartIs v o ∧ Q o := by
  cases x with
  | none => rw [show v = _ from r.inv]; exact ⟨_, .none, hx⟩
  | int i => obtain ⟨t, rfl⟩ := r.inv; exact ⟨_, .int i t, hx⟩
  | _ => exact hx.elim

/-! truth -/
theorem truth_sound {Z : Bool → Prop} (hv : Val W s.heap Ok l v x) (h : truP x Z) : Tells W A s (truthy v) Z := by
  cases x with
  | none => rw [show v = _ from hv.r.inv.inv]; exact fun E Q q => truthy_none (q _ _ (.refl _) h)
  | bool c => rw [show v = _ from hv.r.inv.inv]; exact fun E Q q => wpAny_truthy_bool (q _ _ (.refl _) h)
  | int i => obtain ⟨t, rfl⟩ := hv.r.inv.inv; exact fun E Q q => truthy_int (q _ _ (.refl _) h)
  | txt k cs => exact truthy_txt hv.r.inv.inv hv.z.txt_len h
  | list xs => obtain ⟨a, vs, rfl, q, r, _⟩ := hv.r.inv; exact truthy_list q r.length hv.z.list_len h
  | tup xs =>
    obtain ⟨a, vs, rfl, _, ql, r⟩ := hv.r.inv.inv
    have hl := r.length
    refine fun E Q q => truthy_tuple ql.isTup (by rw [List.size_toArray, hl]; exact lst_63 hv.z.tup_len) ?_
    have e : vs.toArray.isEmpty = xs.isEmpty := by rw [← len_isEmpty, ← hl, len_isEmpty]; exact List.isEmpty_toArray ..
    rw [e]
    exact q _ _ (.toks _ _) h
  | _ => exact h.elim

/-! operations -/
structure At (A : Around) (Ok : Addr → Prop) (s : Shared) : Prop where
  hd : A.handled = none
  un : A.units + 10 < cLine
  fr : Fresh Ok s
theorem At.ext (H : At A Ok s) (e : Ext s s') : At A Ok s' := ⟨H.hd, H.un, H.fr.ext e⟩
def BOp.op : BOp → Operator
  | .add => .Add | .sub => .Sub | .mul => .Mult | .mulT => .Mult | .fdiv => .FloorDiv | .fmod => .Mod | .pow => .Pow
def BinOk (W : Wld) (o : BOp) : Prop := ∀ A s Ok l l' v u x y Z, At A Ok s → Val W s.heap Ok l v x → Val W s.heap Ok l' u y → l ≤ 1 → l' ≤ 1 → binP o x y Z → Yld W A Ok s (binaryOp o.op v u) Z
theorem sz_append {xs ys : List PV} (h : xs.length + ys.length ≤ LST) (a : Sz (.list xs)) (b : Sz (.list ys)) : Sz (.list (xs ++ ys)) :=
  .list (by rw [List.length_append]; exact h) fun z hz => (List.mem_append.mp hz).elim (a.list_all z) (b.list_all z)
theorem sz_sub {xs ys : List PV} (h : ys.Sublist xs) (a : Sz (.list xs)) : Sz (.list ys) := .list (Nat.le_trans h.length_le a.list_len) fun z hz => a.list_all z (h.subset hz)
theorem sz_sub_txt {k : Bool} {a b : List Nat} (h : b.Sublist a) (z : Sz (.txt k a)) : Sz (.txt k b) := .txt k (Nat.le_trans h.length_le z.txt_len)
theorem sz_cat {k : Bool} {a b : List Nat} (h : a.length + b.length ≤ LIM) : Sz (.txt k (a ++ b)) := .txt k (by rw [List.length_append]; exact h)

theorem add_txt {k : Bool} {a b : List Nat} (hz : a.length + b.length ≤ LIM) (hv : TxtIs v k a) (hu : TxtIs u k b) : Gets W A Ok s (binaryOp .Add v u) (.txt k (a ++ b)) := by
  intro E Q q
  cases hv with
  | str _ t => cases hu with
    | str _ t' => exact PyProof.Rows.add_str (fun t' tk => by rw [str_append]; exact q _ _ (.toks _ _) (.str _ _)) (lim_size hz)
  | bytes bs t => cases hu with
    | bytes bs' t' =>
      rw [List.length_map, List.length_map] at hz
      exact KBy.add_bytes (Nat.le_trans hz (by decide)) fun t' k => by rw [List.append_toArray]; exact q _ _ (.toks _ _) (.bytes _ _ List.map_append.symm)
theorem bin_add : BinOk W .add := by
  intro A s Ok l l' v u x y Z H hv hu hl hl' h
  cases x with
  | int a => obtain ⟨b, rfl, z⟩ := int_inv h; exact (add_ints hv.r.inv hu.r.inv).yld (.int _) z
  | txt k a => obtain ⟨_, b, rfl, rfl, hz, z⟩ := txt_inv h; exact (add_txt hz hv.r.inv.inv hu.r.inv.inv).yld (sz_cat hz) z
  | list a =>
    obtain ⟨b, rfl, hz, z⟩ := list_inv h
    obtain ⟨a1, vs, rfl, q1, _, r1, _⟩ := hv.r.inv
    obtain ⟨a2, ws, rfl, q2, _, r2, _⟩ := hu.r.inv
    exact ((add_lists hz q1 q2 (r1 hl) (r2 hl')).gets H.fr).yld (sz_append hz hv.z hu.z) z
  | _ => exact h.elim
theorem bin_sub : BinOk W .sub := by
  intro A s Ok l l' v u x y Z H hv hu hl hl' h
  obtain ⟨a, rfl, h⟩ := int_inv h
  obtain ⟨b, rfl, z⟩ := int_inv h
  exact (sub_ints hv.r.inv hu.r.inv).yld (.int _) z
theorem bin_fdiv : BinOk W .fdiv := by
  intro A s Ok l l' v u x y Z H hv hu hl hl' h
  obtain ⟨a, rfl, h⟩ := int_inv h
  obtain ⟨b, rfl, hb, z⟩ := int_inv h
  exact (fdiv_ints hb.2 hb.1 hv.r.inv hu.r.inv).yld (.int _) z
theorem bin_fmod : BinOk W .fmod := by
  intro A s Ok l l' v u x y Z H hv hu hl hl' h
  obtain ⟨a, rfl, h⟩ := int_inv h
  obtain ⟨b, rfl, hb, z⟩ := int_inv h
  exact (fmod_ints hb hv.r.inv hu.r.inv).yld (.int _) z
theorem bin_pow : BinOk W .pow := by
  intro A s Ok l l' v u x y Z H hv hu hl hl' h
  obtain ⟨a, rfl, h⟩ := int_inv h
  obtain ⟨b, rfl, hb, z⟩ := int_inv h
  exact (pow_ints hb.1 hb.2.1 hb.2.2 hv.r.inv hu.r.inv).yld (.int _) z

/-! comparisons -/
def COp.op : COp → CmpOp
  | .eq => .Eq | .ne => .NotEq | .lt => .Lt | .le => .LtE | .gt => .Gt | .ge => .GtE | .isin => .In | .notin => .NotIn | .is_ => .Is
def CmpOk (W : Wld) (o : COp) : Prop := ∀ A s Ok l l' v u x y (Z : Bool → Prop), At A Ok s → Val W s.heap Ok l v x → Val W s.heap Ok l' u y → cmpP o x y Z → ∃ b, Gets W A Ok s (compareOp o.op v u) (.bool b) ∧ Z b
theorem eq_inv {Z : Bool → Prop} (h : eqP x y Z) : ∃ b, EqIs (eqL 4) x y b ∧ Z b := by
  cases x with
  | none => cases y with
    | none => exact ⟨_, .none, h⟩
    | _ => exact h.elim
  | bool a => cases y with
    | bool b => exact ⟨_, .bool a b, h⟩
    | _ => exact h.elim
  | int a => obtain ⟨b, rfl, z⟩ := int_inv h; exact ⟨_, .int a b, z⟩
  | txt k a => obtain ⟨_, b, rfl, rfl, z⟩ := txt_inv h; exact ⟨_, .txt _ a b, z⟩
  | list a => obtain ⟨b, rfl, t, ht, z⟩ := list_inv h; exact ⟨t, eqV_is ht, z⟩
  | _ => exact h.elim
theorem EqIs.nd {f : List PV → List PV → Option Bool} {t : Bool} (h : EqIs f x y t) : (∀ es, x ≠ .dict es) ∧ ∀ es, y ≠ .dict es := by
  cases h <;> exact ⟨(fun _ e => nomatch e), (fun _ e => nomatch e)⟩
theorem nd_inv {P : Prop} (h : nd x P) : (∀ es, x ≠ .dict es) ∧ P := by
  cases x with
  | dict es => exact h.elim
  | _ => exact ⟨(fun _ e => nomatch e), h⟩
theorem At.un4 (H : At A Ok s) : A.units + 4 < cLine := Nat.lt_of_le_of_lt (Nat.add_le_add_left (by decide : 4 ≤ 10) _) H.un
theorem cmp_eq : CmpOk W .eq := by
  intro A s Ok l l' v u x y Z H hv hu h
  obtain ⟨b, e, z⟩ := eq_inv h
  exact ⟨b, fun E Q q => (eq_is 4 H.un4 e (hv.r.any e.nd.1) (hu.r.any e.nd.2)).1 W.prog W.w E Q (q _ _ (.refl _) (.bool _)), z⟩
theorem cmp_ne : CmpOk W .ne := by
  intro A s Ok l l' v u x y Z H hv hu h
  obtain ⟨b, e, z⟩ := eq_inv (Z := fun t => Z (!t)) h
  exact ⟨!b, fun E Q q => ne_is 4 H.un4 e (hv.r.any e.nd.1) (hu.r.any e.nd.2) W.prog W.w E Q (q _ _ (.refl _) (.bool _)), z⟩
theorem seq_look {Q : List PV → Prop} (hu : Val W s.heap Ok l u y) (h : seqP y Q) : ∃ xs a vs, u = .ref a ∧ Q xs ∧ (s.heap.PlainList a vs.toArray ∨ PlainTup s.heap a vs.toArray) ∧ RepAll s.heap (fun _ => True) vs xs := by
  cases y with
  | list xs => obtain ⟨a, vs, rfl, q, r, _⟩ := hu.r.inv; exact ⟨xs, a, vs, rfl, h, .inl q, r⟩
  | tup xs => obtain ⟨a, vs, rfl, _, q, r⟩ := hu.r.inv.inv; exact ⟨xs, a, vs, rfl, h, .inr q, r.weaken fun _ _ => trivial⟩
  | _ => exact h.elim
theorem cmp_in : CmpOk W .isin := by
  intro A s Ok l l' v u x y Z H hv hu h
  obtain ⟨n, h⟩ := nd_inv h
  obtain ⟨xs, a, vs, rfl, ⟨hd, z⟩, q, r⟩ := seq_look hu h
  exact ⟨_, (in_seq H.un q r (hv.r.any n) hd).1, z⟩
theorem cmp_notin : CmpOk W .notin := by
  intro A s Ok l l' v u x y Z H hv hu h
  obtain ⟨n, h⟩ := nd_inv h
  obtain ⟨xs, a, vs, rfl, ⟨hd, z⟩, q, r⟩ := seq_look hu h
  exact ⟨_, (in_seq H.un q r (hv.r.any n) hd).2, z⟩

/-! in place: texts and numbers -/
def AugOk (W : Wld) (o : BOp) : Prop := ∀ A s Ok v u x y Z, Rep s.heap Ok v x → Rep s.heap Ok u y → augP o x y Z → Yld W A Ok s (inplaceOp o.op v u) Z
theorem noI_bytes_add : typeLookup (.type "bytes") (dunderI "add") = pure none := by rw [typeLookup_type, builtinLookup_eq_fast]; kernel_rfl
theorem iadd_txt {k : Bool} {a b : List Nat} (hz : a.length + b.length ≤ LIM) (hv : TxtIs v k a) (hu : TxtIs u k b) : Gets W A Ok s (inplaceOp .Add v u) (.txt k (a ++ b)) := by
  intro E Q q
  cases hv with
  | str _ t => cases hu with
    | str _ t' => exact PyProof.Rows.iadd_str (fun t' tk => by rw [str_append]; exact q _ _ (.toks _ _) (.str _ _)) (lim_size hz)
  | bytes bs t => cases hu with
    | bytes bs' t' =>
      rw [List.length_map, List.length_map] at hz
      have hz2 : bs.length + bs'.length ≤ sizeLine := lim_size hz
      have q' : ∀ t' k, Q (.bytes (bs ++ bs').toArray t') { s with toks := k } := fun t' k => q _ _ (.toks _ _) (.bytes _ _ List.map_append.symm)
      refine iconcat_gives (typeIs_bytes s _ _) (typeIs_bytes s _ _) noI_bytes_add KBy.noFill_bytes_add KBy.seq_bytes_add FB.slot_bytes_add FB.entry_bytes_add (FB.args_bytes_add_2 _ _)
        (KBy.gives_bytes_add (KBy.tooLong_not hz2)) ?_
      cases bs with
      | nil => exact q' t' s.toks
      | cons b bs =>
        rw [if_neg (show ¬ (b :: bs).toArray.isEmpty = true from fun h => nomatch h)]
        cases bs' with
        | nil => have := q' t s.toks; rw [List.append_nil] at this; exact this
        | cons c bs' =>
          rw [if_neg (show ¬ (c :: bs').toArray.isEmpty = true from fun h => nomatch h), List.append_toArray]
          exact ⟨by rw [List.size_toArray, List.length_append]; exact hz2, q' _ _⟩
theorem aug_add : AugOk W .add := by
  intro A s Ok v u x y Z hv hu h
  cases x with
  | int a =>
    obtain ⟨b, rfl, z⟩ := int_inv h
    obtain ⟨_, rfl⟩ := rep_int hv; obtain ⟨_, rfl⟩ := rep_int hu
    exact Gets.yld (fun E Q q => PySem.P.iadd_int (q _ _ (.toks _ _) (.int _ _))) (.int _) z
  | txt k a => obtain ⟨_, b, rfl, rfl, hz, z⟩ := txt_inv h; exact (iadd_txt hz hv.inv hu.inv).yld (sz_cat hz) z
  | _ => exact h.elim
end
end Mine
end
noncomputable section
namespace Mine
open Builtin
section
variable {W : Wld} {A : Around} {s s' : Shared} {h h' : Heap} {Ok Ok' : Addr → Prop} {v u : Value} {x y : PV} {l l' : Nat}
/-- a tree that hands back a value, of which and of its level Q holds -/
def Ev (W : Wld) (A : Around) (Ok : Addr → Prop) (s : Shared) (t : Sem Value) (Q : PV → Nat → Prop) : Prop :=
  ∀ (E R : Value → Shared → Prop), (∀ v s' x l, Ext s s' → Val W s'.heap Ok l v x → Q x l → R v s') → wpAny W.M A t R E s
theorem Yld.ev {t : Sem Value} {Q : PV → Nat → Prop} (g : Yld W A Ok s t fun z => Q z 0) : Ev W A Ok s t Q := fun E R q => g E R fun v s' x e r z h => q v s' x 0 e ⟨.zero r, z⟩ h

/-! items -/
theorem RowsRep.get {bs : List Addr} {xs : List PV} (r : RowsRep h Ok bs xs) : ∀ (i : Nat) (x : PV), xs[i]? = some x → ∃ b vs ys, bs[i]? = some b ∧ x = .list ys ∧ h.PlainList b vs.toArray ∧ RepAll h Ok vs ys := by
  induction r with
  | nil => exact fun i x e => nomatch e
  | cons q r _ ih =>
    intro i x e
    cases i with
    | zero => exact ⟨_, _, _, rfl, (Option.some.inj e).symm, q, r⟩
    | succ i => exact ih i x e
theorem item_at {a : Addr} {vs : List Value} {xs : List PV} {i : Int} {t : Tok} (ha : s.heap.PlainList a vs.toArray) (hl : vs.length = xs.length) (hz : xs.length ≤ LST) (hx : idxAt xs i = some x) {E R : Value → Shared → Prop}
    (q : ∀ n : Nat, xs[n]? = some x → ∃ v, vs[n]? = some v ∧ R v s) : wpAny W.M A (getItem (.ref a) (.int i t)) R E s := by
  obtain ⟨n, hn, hi⟩ := idxAt_at hx
  obtain ⟨v, hv, q⟩ := q n hn
  exact getItem_raw ha (hl ▸ hz) hv (hl ▸ hi) q
theorem dict_find {kvs : List (Int × Value)} : ∀ {es : List (Int × PV)}, kvs.map (·.1) = es.map (·.1) → RepAll h Ok (kvs.map (·.2)) (es.map (·.2)) → ∀ {i : Int} {z : PV}, lookD es i = some z →
    ∃ v, (kvs.find? fun p => p.1 == i) = some (i, v) ∧ Rep h Ok v z ∧ ∃ k, (k, z) ∈ es := by
  induction kvs with
  | nil => intro es hk hr i z he; cases es with
    | nil => exact nomatch he
    | cons _ _ => exact nomatch hk
  | cons p kvs ih => intro es hk hr i z he; cases es with
    | nil => exact nomatch hk
    | cons p' es =>
      obtain ⟨v, ws, e1, r, rs⟩ := hr.inv_cons
      obtain ⟨k, u⟩ := p
      obtain ⟨k', x⟩ := p'
      obtain ⟨rfl, rfl⟩ := List.cons.inj e1
      obtain ⟨rfl, hk2⟩ := List.cons.inj (show k :: kvs.map (·.1) = k' :: es.map (·.1) from hk)
      unfold lookD at he
      rw [List.find?_cons] at he ⊢
      cases hki : k == i with
      | true =>
        dsimp only at he
        rw [hki] at he
        have hx : x = z := Option.some.inj he
        exact ⟨u, congrArg (fun j => some (j, u)) (beq_iff_eq.mp hki), hx ▸ r, k, hx ▸ .head _⟩
      | false =>
        dsimp only at he
        rw [hki] at he
        obtain ⟨w, h1, h2, k2, h3⟩ := ih hk2 rs he
        exact ⟨w, h1, h2, k2, .tail _ h3⟩
theorem idx_sound {Q : PV → Nat → Prop} (hv : Val W s.heap Ok l v x) (hu : Val W s.heap Ok l' u y) (h : idxP x l y Q) : Ev W A Ok s (getItem v u) Q := by
  intro E R q
  cases x with
  | list xs =>
    obtain ⟨i, rfl, z, hz, hq⟩ := int_inv h
    obtain ⟨t, rfl⟩ := hu.r.inv.inv
    have hs : ∀ n : Nat, xs[n]? = some z → Sz z := fun n hn => hv.z.list_all _ (List.mem_of_getElem? hn)
    cases hv.r with
    | zero r =>
      obtain ⟨a, vs, rfl, o, ql, r⟩ := r.inv
      refine item_at ql r.length hv.z.list_len hz fun n hn => ?_
      obtain ⟨w, hw, rw_⟩ := r.get n _ hn
      exact ⟨w, hw, q w s z 0 (.refl _) ⟨.zero rw_, hs n hn⟩ hq⟩
    | one ql r =>
      refine item_at ql r.length hv.z.list_len hz fun n hn => ?_
      obtain ⟨w, hw, rw_⟩ := r.get n _ hn
      exact ⟨w, hw, q w s z 0 (.refl _) ⟨.zero rw_, hs n hn⟩ hq⟩
    | two ql r =>
      refine item_at ql r.any.length hv.z.list_len hz fun n hn => ?_
      obtain ⟨b, vs, ys, h1, rfl, q2, r2⟩ := r.get n _ hn
      exact ⟨.ref b, by rw [List.getElem?_map, h1]; rfl, q _ s _ 1 (.refl _) ⟨.one q2 r2, hs n hn⟩ hq⟩
  | tup xs =>
    obtain ⟨i, rfl, n, rfl, z, hz, hq⟩ := int_inv h
    obtain ⟨a, vs, rfl, o, ql, r⟩ := hv.r.inv.inv
    exact getItem_tup ql r hv.z.tup_len hu.r.inv hz E R fun w s' e rw_ => q w s' z 0 e ⟨.zero rw_, hv.z.tup_all _ (List.mem_of_getElem? hz)⟩ hq
  | dict es =>
    obtain ⟨i, rfl, z, hz, hq⟩ := int_inv h
    obtain ⟨t, rfl⟩ := hu.r.inv.inv
    obtain ⟨a, rfl, kvs, h1, h3, h4⟩ := hv.r.inv
    obtain ⟨w, h5, h6, k, hk⟩ := dict_find h3 h4 hz
    have sz : Sz z := by cases hv.z with | dict hd => exact hd _ hk
    refine wpAny_getItem_of (intKind_is W.prog W.w _ _) h1.mapOf ?_ (q w _ z 0 (.toks _ _) ⟨.zero (h6.ext (.toks _ _)), sz⟩ hq)
    exact congrArg (Option.map Prod.snd) ((congrArg (fun f => List.find? f kvs) (funext fun p => rfl)).trans h5)
  | txt k cs =>
    obtain ⟨i, rfl, rfl, c, hc, hq⟩ := int_inv h
    obtain ⟨t, rfl⟩ := hu.r.inv.inv
    have hz := hv.z.txt_len
    cases (hv.r.inv.inv : TxtIs v false cs) with
    | str _ t' =>
      obtain ⟨n, hn, hi⟩ := idxAt_at hc
      have hl : (strL cs).length = cs.length := List.size_toArray ..
      have hlt := (List.getElem?_eq_some_iff.mp hn).1
      have hz2 : cs.length ≤ 1048576 := hz
      have hsi : seqIndex? i (strL cs).length = some n := by
        rw [hl]
        unfold seqIndex?
        rcases hi with ⟨h1, h2, h3⟩ | ⟨h1, h2, h3⟩
        · rw [if_neg (Int.not_lt.mpr h1)]
          dsimp only
          rw [decide_eq_true h1, decide_eq_true h3, h2]; rfl
        · rw [if_pos h1]
          dsimp only
          rw [decide_eq_true (by omega : (0 : Int) ≤ i + cs.length), decide_eq_true (by omega : i + (cs.length : Int) < cs.length), h3]; rfl
      refine P.getItem_str (x := strL cs) (c := c) (by rw [decide_eq_false (by omega), decide_eq_false (by omega)]; rfl) ?_ (q _ _ _ _ (.toks _ _) ⟨.zero (.str [c] _), .txt false (by show 1 ≤ LIM; decide)⟩ hq)
      rw [hsi]
      show cs.toArray[n]? = some c
      rw [List.getElem?_toArray]; exact hn
  | _ => exact h.elim

/-! cuts -/
theorem strSlice_eq (lo hi : Option Int) (n : Nat) : Str.strSliceIndices lo hi 1 n = sliceRange ((lo.elim 0 (clipAt n) : Nat) : Int) ((hi.elim n (clipAt n) : Nat) : Int) 1 := by
  unfold Str.strSliceIndices
  cases lo <;> cases hi <;> simp only [clipAt_cast, Option.elim] <;> rfl
theorem clip_le (n : Nat) (i : Int) : clipAt n i ≤ n := by have := clipAt_cast n i; omega
theorem cut_txt {k : Bool} {cs : List Nat} {c : Addr} {a b : Value} {lo hi : Option Int} (hz : cs.length ≤ LIM) (hv : TxtIs v k cs) (pa : PartIs a lo) (pb : PartIs b hi) (hs : s.heap.IsSliceOf c a b .none) :
    Gets W A Ok s (getItem v (.ref c)) (.txt k (cut cs lo hi)) := by
  intro E Q q
  have hle := Nat.le_trans (cut_sub cs lo hi).length_le hz
  cases hv with
  | str _ t =>
    have pv : ∀ {v : Value} {lo : Option Int}, PartIs v lo → ∃ p : Option (Int × Tok), v = partValue p ∧ p.map (·.1) = lo := fun h => by
      cases h with
      | none => exact ⟨none, rfl, rfl⟩
      | int i t => exact ⟨some (i, t), rfl, rfl⟩
    obtain ⟨p, rfl, rfl⟩ := pv pa
    obtain ⟨p', rfl, rfl⟩ := pv pb
    refine wpAny_getItem_str_slice (x := strL cs) (l := p) (u := p') (st := none) hs rfl ?_
    have e : (Str.strSliceIndices (p.map (·.1)) (p'.map (·.1)) 1 cs.length).filterMap (cs.toArray[·]?) = cut cs (p.map (·.1)) (p'.map (·.1)) := by
      rw [strSlice_eq, sliceRange_one, pick_run]; rfl
    unfold sliceMade slicePicked
    split
    · rename_i h
      have h2 : cut cs (p.map (·.1)) (p'.map (·.1)) = cs := by
        refine (cut_sub _ _ _).eq_of_length_le ?_
        have h3 : (Str.strSliceIndices (p.map (·.1)) (p'.map (·.1)) 1 cs.length).length = cs.length := beq_iff_eq.mp (Bool.and_eq_true_iff.mp h).2
        rw [strSlice_eq, sliceRange_one, List.length_map, List.length_range] at h3
        unfold cut
        rw [List.length_take, List.length_drop]
        refine Nat.le_min.mpr ⟨Nat.le_of_eq h3.symm, ?_⟩
        refine Nat.le_trans (Nat.le_of_eq h3.symm) (Nat.sub_le_sub_right ?_ _)
        cases p' with
        | none => exact Nat.le_refl _
        | some j => exact clip_le _ _
      rw [h2] at q
      exact q _ _ (.refl _) (.str _ _)
    · rw [show (Str.strSliceIndices (p.map (·.1)) (p'.map (·.1)) ((none : Option (Int × Tok)).map (·.1) |>.getD 1) (strL cs).length).filterMap ((strL cs).cps[·]?) = cut cs (p.map (·.1)) (p'.map (·.1)) from e]
      exact ⟨lim_size hle, q _ _ (.toks _ _) (.str _ _)⟩
  | bytes bs t =>
    rw [List.length_map] at hz
    refine getItem_meets (typeIs_bytes s _ _) (by decide) FB.slot_bytes_getitem FB.entry_bytes_getitem (FB.args_bytes_getitem_2 _ _) (KBc.meets_slice2 bs.toArray t c pa.isPart pb.isPart) ⟨hs, ?_, fun t' k => ?_⟩
    · exact Nat.le_trans (KBc.size_picked_le _ _ _) (lim_size hz)
    · rw [KBc.picked_eq]
      refine q _ _ (.toks _ _) (.bytes _ _ ?_)
      unfold cut
      rw [List.size_toArray, List.toList_toArray, List.map_take, List.map_drop, List.length_map]
theorem cut_sound {c : Addr} {a b : Value} {p p' : PV} {Z : PV → Prop} (H : At A Ok s) (hv : Val W s.heap Ok l v x) (hl : l ≤ 1) (ha : Rep s.heap Ok a p) (hb : Rep s.heap Ok b p') (hs : s.heap.IsSliceOf c a b .none) (h : cutP x p p' Z) :
    Yld W A Ok s (getItem v (.ref c)) Z := by
  cases x with
  | list xs =>
    obtain ⟨lo, p1, h⟩ := part_inv h ha
    obtain ⟨hi, p2, z⟩ := part_inv h hb
    obtain ⟨a', vs, rfl, q, _, r, _⟩ := hv.r.inv
    exact ((cut_list q (r hl) hv.z.list_len hs p1 p2).gets H.fr).yld (sz_sub (cut_sub _ _ _) hv.z) z
  | txt k cs =>
    obtain ⟨lo, p1, h⟩ := part_inv h ha
    obtain ⟨hi, p2, z⟩ := part_inv h hb
    exact (cut_txt hv.z.txt_len hv.r.inv.inv p1 p2 hs).yld (sz_sub_txt (cut_sub _ _ _) hv.z) z
  | _ => exact h.elim
/-- what kinds of objects an item may be taken of -/
def itemable : PV → Prop → Prop
  | .list _, P => P
  | .tup _, P => P
  | .dict _, P => P
  | .txt _ _, P => P
  | _, _ => False
theorem getitem_builtin {P : Prop} (r : BRep W s.heap Ok l v x) (h : itemable x P) : (∃ T id, s.TypeIs v T ∧ typeLookup (.type T) "__getitem__" = pure (some (.builtin id))) ∧ P := by
  cases x with
  | list xs => obtain ⟨a, vs, rfl, q, _⟩ := r.inv; exact ⟨⟨_, _, q.isList.typeIs, slot_list_getitem.lookup⟩, h⟩
  | tup xs => obtain ⟨a, vs, rfl, _, q, _⟩ := r.inv.inv; exact ⟨⟨_, _, q.typeIs, slot_tuple_getitem.lookup⟩, h⟩
  | dict es => obtain ⟨a, rfl, kvs, h1, _⟩ := r.inv; exact ⟨⟨_, _, h1.mapOf.typeIs, slot_dict_getitem.lookup⟩, h⟩
  | txt k cs =>
    cases (show TxtIs v k cs from r.inv.inv) with
    | str _ t => exact ⟨⟨_, _, typeIs_str s _ _, F.slot_str_getitem.lookup⟩, h⟩
    | bytes bs t => exact ⟨⟨_, _, typeIs_bytes s _ _, FB.slot_bytes_getitem.lookup⟩, h⟩
  | _ => exact h.elim
end
end Mine
end
noncomputable section
namespace Mine
open Builtin
def Meth.nameS : Meth → Str
  | .split => "split" | .join => "join" | .startswith => "startswith" | .endswith => "endswith" | .lstrip => "lstrip" | .rstrip => "rstrip" | .rfind => "rfind" | .count => "count" | .index => "index"
def Meth.id : Meth → PV → String
  | .split, .txt k _ => methId k "split"
  | .join, .txt k _ => methId k "join"
  | .startswith, .txt k _ => methId k "startswith"
  | .endswith, .txt k _ => methId k "endswith"
  | .lstrip, .txt k _ => methId k "lstrip"
  | .rstrip, .txt k _ => methId k "rstrip"
  | .rfind, .txt k _ => methId k "rfind"
  | .count, _ => "list.count"
  | .index, _ => "list.index"
  | _, _ => ""
def BI1.nameS : BI1 → Str
  | .len => "len" | .abs => "abs" | .chr => "chr" | .ord => "ord" | .sum => "sum" | .min => "min" | .max => "max" | .bytes => "bytes" | .typ => "type"
def BI1.valV : BI1 → Value
  | .len => .builtin "len" | .abs => .builtin "abs" | .chr => .builtin "chr" | .ord => .builtin "ord" | .sum => .builtin "sum" | .min => .builtin "min" | .max => .builtin "max" | .bytes => .type "bytes" | .typ => .type "type"
def BI2.nameS : BI2 → Str
  | .min => "min" | .max => "max" | .isinst => "isinstance" | .issub => "issubclass" | .sorted => "sorted"
def BI2.valV : BI2 → Value
  | .min => .builtin "min" | .max => .builtin "max" | .isinst => .builtin "isinstance" | .issub => .builtin "issubclass" | .sorted => .builtin "sorted"

/-- a method that is walked -/
structure MethOk (W : Wld) (m : Meth) : Prop where
  get : ∀ A s Ok l v x (P : Prop) pl (E : Value → Shared → Prop) (Q : Value × List Value → Shared → Prop), Val W s.heap Ok l v x → recvP m x P → (P → Q (.builtin (m.id x), [v]) s) → wpAny W.M A (getMethod v m.nameS pl) Q E s
  run : ∀ A s Ok l l' v u x y Z, At A Ok s → Val W s.heap Ok l v x → Val W s.heap Ok l' u y → l' ≤ 1 → methP m x l y Z → Yld W A Ok s (call (.builtin (m.id x)) [v, u]) Z
def Bi1Ok (W : Wld) (b : BI1) : Prop := ∀ A s Ok l v x Z, At A Ok s → Val W s.heap Ok l v x → bi1P b x l Z → Yld W A Ok s (call b.valV [v]) Z
def Bi2Ok (W : Wld) (b : BI2) : Prop := ∀ A s Ok v u x y Z, At A Ok s → Val W s.heap Ok 0 v x → Val W s.heap Ok 0 u y → bi2P b x y Z → Yld W A Ok s (call b.valV [v, u]) Z

section
variable {W : Wld} {A : Around} {s s' : Shared} {h h' : Heap} {Ok Ok' : Addr → Prop} {v u : Value} {x y : PV} {l l' : Nat} {P : Prop}
theorem get_txt {n : Str} {ids idb : String} {k : Bool} {cs : List Nat} {pl : Sem Bool} {E : Value → Shared → Prop} {Q : Value × List Value → Shared → Prop} (s1 : Slot "str" n ids) (t1 : typeOf (.builtin ids) = pure (.type "method_descriptor"))
    (s2 : Slot "bytes" n idb) (t2 : typeOf (.builtin idb) = pure (.type "method_descriptor")) (hv : TxtIs v k cs) (q : Q (.builtin (match k with | true => idb | false => ids), [v]) s) : wpAny W.M A (getMethod v n pl) Q E s := by
  cases hv with
  | str _ t =>
    with_reducible refine getMethod_builtin (typeIs_str _ _ _) F.plainAttrs_str s1 t1 (fun a e => nomatch e) ?_
    exact q
  | bytes bs t =>
    with_reducible refine getMethod_builtin (typeIs_bytes _ _ _) FB.plainAttrs_bytes s2 t2 (fun a e => nomatch e) ?_
    exact q
theorem txtR_inv (h : txtR x P) : (∃ k cs, x = .txt k cs) ∧ P := by
  cases x with
  | txt k cs => exact ⟨⟨k, cs, rfl⟩, h⟩
  | _ => exact h.elim
theorem type_b_split : typeOf (.builtin "bytes.split") = pure (.type "method_descriptor") := by show builtinType _ = _; rw [builtinType_eq_fast]; kernel_rfl
theorem type_b_join : typeOf (.builtin "bytes.join") = pure (.type "method_descriptor") := by show builtinType _ = _; rw [builtinType_eq_fast]; kernel_rfl
theorem txt_eq {k : Bool} {cs : List Nat} (hu : Val W s.heap Ok l u y) (e : y = .txt k cs) : TxtIs u k cs := by subst e; exact hu.r.inv.inv
theorem ok_split : MethOk W .split where
  get A s Ok l v x P pl E Q hv h q := by
    obtain ⟨⟨k, cs, rfl⟩, p⟩ := txtR_inv h
    exact get_txt F.slot_str_split F.type_str_split slot_b_split type_b_split hv.r.inv.inv (by cases k <;> exact q p)
  run A s Ok l l' v u x y Z H hv hu hl h := by
    obtain ⟨k, cs, rfl, e, z⟩ := txt_inv h
    refine ((split_txt hv.z.txt_len hv.r.inv.inv (txt_eq hu e)).gets H.fr).yld (.list ?_ fun w hw => ?_) z
    · rw [List.length_map]; exact Nat.le_trans (splitC_length _ _) (Nat.le_trans (Nat.succ_le_succ hv.z.txt_len) (by decide))
    · obtain ⟨p, hp, rfl⟩ := List.mem_map.mp hw
      exact .txt k (Nat.le_trans (split_le 47 cs hp) hv.z.txt_len)
theorem ok_join : MethOk W .join where
  get A s Ok l v x P pl E Q hv h q := by
    obtain ⟨⟨k, cs, rfl⟩, p⟩ := txtR_inv h
    exact get_txt F.slot_str_join F.type_str_join slot_b_join type_b_join hv.r.inv.inv (by cases k <;> exact q p)
  run A s Ok l l' v u x y Z H hv hu hl h := by
    obtain ⟨k, sep, rfl, h⟩ := txt_inv h
    obtain ⟨xs, rfl, ps, rfl, hz, z⟩ := list_inv h
    obtain ⟨a, vs, rfl, q, _, r, _⟩ := hu.r.inv
    exact (join_txt hz hv.r.inv.inv q (r hl)).yld (.txt k (Nat.le_trans (joinC_length _ _) hz)) z
theorem ok_startswith : MethOk W .startswith where
  get A s Ok l v x P pl E Q hv h q := by
    obtain ⟨⟨k, cs, rfl⟩, p⟩ := txtR_inv h
    exact get_txt F.slot_str_startswith F.type_str_startswith FB.slot_bytes_startswith FB.type_bytes_startswith hv.r.inv.inv (by cases k <;> exact q p)
  run A s Ok l l' v u x y Z H hv hu hl h := by
    obtain ⟨k, cs, rfl, h⟩ := txt_inv h
    obtain ⟨_, b, rfl, rfl, z⟩ := txt_inv h
    exact (startswith_txt hv.r.inv.inv hu.r.inv.inv).yld (.bool _) z
/-! built-in functions -/
theorem b1_len : Bi1Ok W .len := by
  intro A s Ok l v x Z H hv h
  cases x with
  | txt k cs => exact (len_txt hv.r.inv.inv hv.z.txt_len).yld (.int _) h
  | list xs => obtain ⟨a, vs, rfl, q, r, _⟩ := hv.r.inv; exact (len_list q r.length hv.z.list_len).yld (.int _) h
  | tup xs => obtain ⟨a, vs, rfl, _, q, r⟩ := hv.r.inv.inv; exact (len_tup q r hv.z.tup_len).yld (.int _) (l0_inv h).2
  | _ => exact h.elim
theorem b1_chr : Bi1Ok W .chr := by
  intro A s Ok l v x Z H hv h
  obtain ⟨i, rfl, hi, z⟩ := int_inv h
  obtain ⟨t, rfl⟩ := hv.r.inv.inv
  exact Gets.yld (fun E Q q => chr_of_range hi.1 hi.2 (q _ _ (.toks _ _) (.str [i.toNat] _))) (.txt _ (by show 1 ≤ LIM; decide)) z
theorem b1_ord : Bi1Ok W .ord := by
  intro A s Ok l v x Z H hv h
  obtain ⟨k, cs, rfl, c, rfl, rfl, z⟩ := txt_inv h
  rcases (show TxtIs v false [c] from hv.r.inv.inv).one with ⟨t, _, rfl⟩ | ⟨_, _, e, _⟩
  · exact Gets.yld (fun E Q q => PySem.P.ord_of_char (q _ _ (.toks _ _) (.int _ _))) (.int _) z
  · exact nomatch e
theorem ints_of {h : Heap} (is : List Int) : ∀ {vs : List Value}, RepAll h Ok vs (is.map .int) → IntsAre vs is := by
  induction is with
  | nil => intro vs r; rw [r.inv_nil]; exact .nil
  | cons i is ih =>
    intro vs r
    obtain ⟨v, ws, rfl, a, r'⟩ := r.inv_cons
    obtain ⟨t, rfl⟩ := a.inv
    exact .cons _ _ (ih r')
theorem b1_bytes : Bi1Ok W .bytes := by
  intro A s Ok l v x Z H hv h
  obtain ⟨xs, rfl, h⟩ := list_inv h
  obtain ⟨hl, cs, rfl, hz, hc, z⟩ := l1_inv h
  obtain ⟨a, vs, rfl, q, _, r, _⟩ := hv.r.inv
  have r' := r hl
  rw [show (cs.map fun (c : Nat) => PV.int (c : Int)) = (cs.map fun (c : Nat) => (c : Int)).map PV.int from (List.map_map ..).symm] at r'
  refine Gets.yld (fun E Q qq => ?_) (.txt _ hz) z
  obtain ⟨n, ho⟩ := q
  have hlen : vs.length = cs.length := by rw [r'.length, List.length_map, List.length_map]
  refine call_bytes_ints ⟨_, ho, rfl, n, rfl⟩ (ints_of _ r') (fun i hi => ?_) (by rw [hlen]; exact lim_size hz) H.hd fun h' t k hk => ?_
  · obtain ⟨c, hm, rfl⟩ := List.mem_map.mp hi
    exact ⟨Int.natCast_nonneg c, Int.ofNat_lt.mpr (hc c hm)⟩
  · refine qq _ _ ⟨⟨rfl, rfl⟩, hk⟩ (.bytes _ _ ?_)
    rw [List.map_map, List.map_map]
    refine (List.map_id cs).symm.trans (List.map_congr_left fun c hm => ?_)
    show c = UInt8.toNat (UInt8.ofNat (Int.toNat (c : Int)))
    rw [Int.toNat_natCast, UInt8.toNat_ofNat', Nat.mod_eq_of_lt (hc c hm)]
theorem b1_typ : Bi1Ok W .typ := by
  intro A s Ok l v x Z H hv h
  cases x with
  | txt k cs =>
    cases (show TxtIs v k cs from hv.r.inv.inv) with
    | str _ t => exact Gets.yld (fun E Q q => call_type_of (Tx := "str") rfl (by decide) (q _ _ (.refl _) (.cls _))) (.cls _) h
    | bytes bs t => exact Gets.yld (fun E Q q => call_type_of (Tx := "bytes") rfl (by decide) (q _ _ (.refl _) (.cls _))) (.cls _) h
  | _ => exact h.elim
theorem b2_min : Bi2Ok W .min := by
  intro A s Ok v u x y Z H hv hu h
  obtain ⟨a, rfl, h⟩ := int_inv h
  obtain ⟨b, rfl, z⟩ := int_inv h
  obtain ⟨t, rfl⟩ := hv.r.inv.inv; obtain ⟨t', rfl⟩ := hu.r.inv.inv
  exact Gets.yld (fun E Q q => min_two_ints H.hd fun h' tk hk => q _ _ ⟨⟨rfl, rfl⟩, hk⟩ (by split <;> exact .int _ _)) (.int _) z
theorem frag_nil {h : Heap} : Frag.In ([] : Frag) h := fun a o e => nomatch e
theorem b2_isinst : Bi2Ok W .isinst := by
  intro A s Ok v u x y Z H hv hu h
  cases x with
  | txt k cs =>
    obtain ⟨rfl, z⟩ := h
    rw [show u = _ from hu.r.inv.inv]
    cases (show TxtIs v k cs from hv.r.inv.inv) with
    | str _ t => exact Gets.yld (fun E Q q => kia_one kitx_str frag_nil trivial (b := false) (by kernel_rfl) (fun e => nomatch e) fun tk => q _ _ (.toks _ _) (.bool _)) (.bool _) z
    | bytes bs t => exact Gets.yld (fun E Q q => kia_one kitx_bytes frag_nil trivial (b := true) (by kernel_rfl) (fun e => nomatch e) fun tk => q _ _ (.toks _ _) (.bool _)) (.bool _) z
  | bool b =>
    obtain ⟨rfl, z⟩ := h
    rw [show u = _ from hu.r.inv.inv, show v = _ from hv.r.inv.inv]
    exact Gets.yld (fun E Q q => kia_one kitx_bool frag_nil trivial (b := true) (by kernel_rfl) (fun e => nomatch e) fun tk => q _ _ (.toks _ _) (.bool _)) (.bool _) z
  | list xs =>
    obtain ⟨rfl, z⟩ := h
    obtain ⟨a, vs, rfl, _, ⟨n, ht⟩, r⟩ := hu.r.inv.inv
    obtain ⟨v1, v2, rfl, r1, r2⟩ := r.inv_two
    rw [show v1 = _ from r1.inv, show v2 = _ from r2.inv] at ht
    obtain ⟨b, ws, rfl, ⟨m, hl⟩, _⟩ := hv.r.inv
    exact Gets.yld (fun E Q q => kia_tup kitx_list frag_nil ⟨_, hl, rfl⟩ ht (b := true) (by kernel_rfl) (fun e => nomatch e) fun tk => q _ _ (.toks _ _) (.bool _)) (.bool _) z
  | _ => exact h.elim

theorem entry_isn : entryFor table "issubclass.nested" = some Builtin.«issubclass.nested» := entryFor_of_tree (by kernel_rfl)
theorem kind_isn : builtinKind "issubclass.nested" = none := by decide +kernel
theorem plain_isn : plainId "issubclass.nested" = true := by decide +kernel
theorem args_isn (a b c : Value) : argsOk "issubclass.nested" ⟨[a, b, c], []⟩ := by unfold argsOk; kernel_rfl
theorem issub_type {prog : Program} {w : World} {Q : Fin → Shared → Prop} {E : Value → Shared → Prop} {t : Tok} {i : Int} {c d : String} {b : Bool} (e : kitCls ([] : Frag) (.type c) (.type d) = some b) (q : Q (.done (.ret (.bool b))) s) :
   wpAny (model prog w) A (Builtin.«issubclass.nested» ⟨[.type c, .type d, .int i t], []⟩) Q E s := by
  obtain ⟨h1, h2, h3⟩ := kit_cls (M := model prog w) (h := s.heap) frag_nil e
  unfold Builtin.«issubclass.nested»
  refine wpAny_bind (h1.at (wp_pos (by decide) ?_))
  repeat (any_goals (first | assumption | (refine h2.at ?_) | (refine h3.at ?_) | wp_step))
/-- the model's own turn over a class of the tuple -/
theorem issub_call {E : Value → Shared → Prop} {Q : Value → Shared → Prop} {i : Int} {t : Tok} {c d : String} {b : Bool} (e : kitCls ([] : Frag) (.type c) (.type d) = some b) (q : Q (.bool b) s) :
    wpAny W.M A (call (.builtin "issubclass.nested") [.type c, .type d, .int i t]) Q E s :=
  Calls.call_function_entry kind_isn plain_isn entry_isn (args_isn _ _ _) (issub_type e ⟨_, rfl, q⟩)
end
end Mine
end
noncomputable section
namespace Mine
open Builtin

/-- iterators that keep a tuple of their own -/
def ownsTup (n : String) : Bool := ["enumerate", "zip", "dict_itemiterator", "dict_reverseitemiterator", "odict_iterator", "itertools.zip_longest", "itertools.pairwise"].contains n
/-- an iterator stands before the items: its place, what it looks at, what it turns -/
structure Itr (W : Wld) (Ok : Addr → Prop) (z : Prop) (s s' : Shared) (xs : List PV) (I : Addr) (fp wr : List Addr) (P : Nat → Value → Prop) (St : Nat → Heap → Prop) : Prop where
  walks : ∀ A' : Around, A'.handled = none → Walks W.prog W.w A' I fp wr xs.length P St
  st : St 0 s'.heap
  old : ∀ b ∈ fp, b < s'.heap.objs.size
  new : ∀ b ∈ wr, s.heap.get? b = none
  kept : z → ∀ b ∈ fp, b ∈ wr ∨ (Ok b ∧ SeqAt s'.heap b)
  item : ∀ i v x, xs[i]? = some x → P i v → Rep s'.heap (fun b => Ok b ∧ b ∉ wr) v x
  there : ∀ i h, St i h → ∀ b ∈ wr, h.get? b ≠ none
  kind : ∀ i h, St i h → ∃ o n, h.get? I = some o ∧ o.cls = .type n ∧ ownsTup n = false
def IterAt (W : Wld) (Ok : Addr → Prop) (z : Prop) (s s' : Shared) (it : Value) (xs : List PV) : Prop := ∃ I fp wr P St, it = .ref I ∧ Itr W Ok z s s' xs I fp wr P St

section
variable {W : Wld} {A : Around} {Ok : Addr → Prop} {s : Shared} {z : Prop} {xs : List PV} {E : Value → Shared → Prop} {Q : Value → Shared → Prop} {v u : Value}
theorem IterAt.back {s0 s' : Shared} {it : Value} (e : Ext s0 s) (h : IterAt W Ok z s s' it xs) : IterAt W Ok z s0 s' it xs := by
  obtain ⟨I, fp, wr, P, St, h1, h⟩ := h
  exact ⟨I, fp, wr, P, St, h1, { h with new := fun b hb => e.fresh (h.new b hb) }⟩
theorem size_ne' {h : Heap} {a : Addr} {o : Obj} (e : h.get? a = some o) : a ≠ h.objs.size := fun q => Nat.lt_irrefl a (Nat.lt_of_lt_of_eq (Heap.lt_size e) q.symm)
theorem some_ne {α : Type} {o : Option α} {x : α} (h : o = some x) : o ≠ none := fun e => nomatch h.symm.trans e
theorem one_of {α : Type} {a b : α} {P : α → Prop} (h : b ∈ [a]) (p : P a) : P b := List.mem_singleton.mp h ▸ p
theorem two_of {α : Type} {a c b : α} {P : α → Prop} (h : b ∈ [a, c]) (p : P a) (q : P c) : P b := (List.mem_cons.mp h).elim (fun e => e ▸ p) fun h => one_of h q
/-- an iterator over a sequence that stands -/
theorem seq_itr {a : Addr} {vs : List Value} {o so : Obj} {T : String} {St : Nat → Heap → Prop} (ho : s.heap.get? a = some so) (hso : SeqAt s.heap a) (hc : o.cls = .type T) (hT : ownsTup T = false) (r : RepAll s.heap Ok vs xs) (hz : z → Ok a)
    (hw : ∀ A' : Around, A'.handled = none → Walks W.prog W.w A' s.heap.objs.size [s.heap.objs.size, a] [s.heap.objs.size] vs.toArray.size (fun i v => vs.toArray[i]? = some v) St) (h0 : St 0 (s.heap.push o)) (hst : ∀ i h, St i h → ∃ o, h.get? s.heap.objs.size = some o ∧ o.cls = .type T) :
    IterAt W Ok z s { s with heap := s.heap.push o } (.ref s.heap.objs.size) xs := by
  have ep := Ext.push s o
  refine ⟨_, _, _, _, St, rfl, fun A' hA => by rw [← r.length]; exact hw A' hA, h0, fun b hb => two_of (P := fun b => b < (s.heap.push o).objs.size) hb ?_ ?_, fun b hb => one_of (P := fun b => s.heap.get? b = none) hb (get_size _), fun hz' b hb => two_of (P := fun b => b ∈ [s.heap.objs.size] ∨ (Ok b ∧ SeqAt (s.heap.push o) b)) hb (.inl (.head _)) (.inr ⟨hz hz', ?_⟩), fun i v x hx hv => ?_, fun i h hs b hb => one_of (P := fun b => h.get? b ≠ none) hb ?_, fun i h hs => ?_⟩
  · rw [Heap.size_push]; exact Nat.lt_succ_self _
  · rw [Heap.size_push]; exact Nat.lt_succ_of_lt (Heap.lt_size ho)
  · obtain ⟨o, xs, n, e, d⟩ := hso; exact ⟨o, xs, n, ep.keep _ _ e, d⟩
  · exact (r.at (by rw [← List.getElem?_toArray]; exact hv) hx).mono fun b hb hs => ⟨⟨hb, fun h => Nat.lt_irrefl _ (List.mem_singleton.mp h ▸ hs.lt)⟩, fun o => ep.keep b o⟩
  · obtain ⟨o, ho, _⟩ := hst i h hs; exact some_ne ho
  · obtain ⟨o, ho, hc⟩ := hst i h hs; exact ⟨o, T, ho, hc, hT⟩
theorem iter_list {a : Addr} {vs : List Value} (hl : s.heap.PlainList a vs.toArray) (r : RepAll s.heap Ok vs xs) (hz : z → Ok a)
    (q : ∀ it s', Ext s s' → IterAt W Ok z s s' it xs → Q it s') : wpAny W.M A (pyIter (.ref a)) Q E s := by
  obtain ⟨n, ho⟩ := hl
  exact wpAny_pyIter_list ⟨_, ho, rfl, n, rfl⟩ (q _ _ (.push _ _) (seq_itr ho ⟨_, _, _, ho, rfl⟩ (T := "list_iterator") (St := fun i h => h.IsListIter s.heap.objs.size a i ∧ h.IsList a vs.toArray) rfl (by decide) r hz (fun A' hA => Walks.list hA _ a (size_ne' ho) _)
    ⟨⟨_, Heap.get?_push_size _ rfl, rfl, rfl⟩, ⟨_, (Ext.push s _).keep _ _ ho, rfl, n, rfl⟩⟩ fun i h hs => let ⟨⟨o, ho, hc, _⟩, _⟩ := hs; ⟨o, ho, hc⟩))
theorem iter_tup {a : Addr} {vs : List Value} (hl : PlainTup s.heap a vs.toArray) (r : RepAll s.heap Ok vs xs) (hz : z → Ok a)
    (q : ∀ it s', Ext s s' → IterAt W Ok z s s' it xs → Q it s') : wpAny W.M A (pyIter (.ref a)) Q E s := by
  obtain ⟨n, ho⟩ := hl
  exact wpAny_pyIter_tuple ⟨_, ho, rfl, n, rfl⟩ (q _ _ (.push _ _) (seq_itr ho ⟨_, _, _, ho, rfl⟩ (T := "tuple_iterator") (St := fun i h => h.IsTupleIter s.heap.objs.size a i ∧ h.IsTuple a vs.toArray) rfl (by decide) r hz (fun A' hA => Walks.tuple hA _ a (size_ne' ho) _)
    ⟨⟨_, Heap.get?_push_size _ rfl, rfl, rfl⟩, ⟨_, (Ext.push s _).keep _ _ ho, rfl, n, rfl⟩⟩ fun i h hs => let ⟨⟨o, ho, hc, _⟩, _⟩ := hs; ⟨o, ho, hc⟩))
/-- an iterator of its own -/
theorem own_itr {o : Obj} {T : String} {n : Nat} {P : Nat → Value → Prop} {St : Nat → Heap → Prop} (hT : ownsTup T = false) (hn : n = xs.length)
    (hw : ∀ A' : Around, A'.handled = none → Walks W.prog W.w A' s.heap.objs.size [s.heap.objs.size] [s.heap.objs.size] n P St) (h0 : St 0 (s.heap.push o)) (hst : ∀ i h, St i h → ∃ o, h.get? s.heap.objs.size = some o ∧ o.cls = .type T)
    (hi : ∀ i v x, xs[i]? = some x → P i v → ∀ (h : Heap) (Ok : Addr → Prop), Rep h Ok v x) : IterAt W Ok z s { s with heap := s.heap.push o } (.ref s.heap.objs.size) xs := by
  refine ⟨_, _, _, P, St, rfl, fun A' hA => hn ▸ hw A' hA, h0, fun b hb => one_of (P := fun b => b < (s.heap.push o).objs.size) hb ?_, fun b hb => one_of (P := fun b => s.heap.get? b = none) hb (get_size _), fun _ b hb => .inl hb, fun i v x hx hv => hi i v x hx hv _ _, fun i h hs b hb => one_of (P := fun b => h.get? b ≠ none) hb ?_, fun i h hs => ?_⟩
  · rw [Heap.size_push]; exact Nat.lt_succ_self _
  · obtain ⟨o, ho, _⟩ := hst i h hs; exact some_ne ho
  · obtain ⟨o, ho, hc⟩ := hst i h hs; exact ⟨o, T, ho, hc, hT⟩
theorem iter_str {cs : List Nat} {t : Tok} (q : ∀ it s', Ext s s' → IterAt W Ok z s s' it (cs.map fun c => .txt false [c]) → Q it s') : wpAny W.M A (pyIter (.str ⟨cs.toArray⟩ t)) Q E s := by
  have hi : ∀ i v x, (cs.map fun c => PV.txt false [c])[i]? = some x → SignAt ⟨cs.toArray⟩ i v → ∀ (h : Heap) (Ok : Addr → Prop), Rep h Ok v x := by
    rintro i v x hx ⟨c, u, h1, rfl⟩ h Ok
    rw [List.getElem?_map, ← List.getElem?_toArray, show cs.toArray[i]? = some c from h1] at hx
    exact Option.some.inj hx ▸ Rep.str [c] u
  cases ha : (⟨cs.toArray⟩ : Str).cps.all (· < 128)
  · exact wpAny_pyIter_wide ha (q _ _ (.push _ _) (own_itr (by decide) (List.length_map _).symm (fun A' hA => Walks.strWide hA _ ⟨cs.toArray⟩ t) ⟨_, Heap.get?_push_size _ rfl, rfl, rfl⟩ (fun i h ⟨o, ho, hc, _⟩ => ⟨o, ho, hc⟩) hi))
  · exact wpAny_pyIter_ascii ha (q _ _ (.push _ _) (own_itr (by decide) (List.length_map _).symm (fun A' hA => Walks.strAscii hA _ ⟨cs.toArray⟩ t) ⟨_, Heap.get?_push_size _ rfl, rfl, rfl⟩ (fun i h ⟨o, ho, hc, _⟩ => ⟨o, ho, hc⟩) hi))
def RangeOk (a b : Int) : Prop := -(2 ^ 40 : Int) ≤ a ∧ a ≤ 2 ^ 40 ∧ -(2 ^ 40 : Int) ≤ b ∧ b ≤ LIM ∧ (b - a).toNat ≤ LIM
theorem iter_rangeobj {r : Addr} {a b : Int} {t u v : Tok} (hr : IsRange s.heap r a b 1 t u v) (hb : RangeOk a b)
    (q : ∀ it s', Ext s s' → IterAt W Ok z s s' it (rangeF a b) → Q it s') : wpAny W.M A (pyIter (.ref r)) Q E s := by
  obtain ⟨h1, h2, h3, h4, _⟩ := hb
  have hsz : Builtin.Range.rangeSize a b 1 = ((b - a).toNat : Int) := by
    unfold Builtin.Range.rangeSize
    rw [if_pos (by decide), Int.ediv_one]
    split <;> omega
  have hl : (b : Int) < 2 ^ 62 := Int.lt_of_le_of_lt h4 (by decide)
  refine wpAny_pyIter_range hr (small_one (by omega) (by omega) (by omega) hl) ?_
  rw [hsz]
  refine q _ _ (.push _ _) (own_itr (P := fun i v => i < (b - a).toNat ∧ ∃ t, v = .int (a + i * 1) t) (St := fun i h => IsRangeIter h s.heap.objs.size (a + (i : Nat) * 1) (((b - a).toNat : Int) - (i : Nat)) 1) (T := "range_iterator") (by decide) ?_ (fun A' hA => (Walks.range hA s.heap.objs.size a 1 (b - a).toNat).bound) ?_ (fun i h hs => ⟨_, hs, rfl⟩) ?_)
  · unfold rangeF; rw [List.length_map, List.length_range]
  · show IsRangeIter _ _ _ _ _
    rw [Int.mul_one, Int.natCast_zero, Int.add_zero, Int.sub_zero]
    exact Heap.get?_push_size _ rfl
  · rintro i v x hx ⟨hi, t, rfl⟩ h Ok
    unfold rangeF at hx
    rw [List.getElem?_map, List.getElem?_range hi] at hx
    rw [Int.mul_one]
    exact Option.some.inj hx ▸ Rep.int _ _
theorem iter_range {a b : Int} (hb : RangeOk a b) (ha : Rep s.heap Ok v (.int a)) (hb' : Rep s.heap Ok u (.int b))
    (q : ∀ it s', Ext s s' → IterAt W Ok z s s' it (rangeF a b) → Q it s') :
    wpAny W.M A (call (.type "range") [v, u]) (fun x s₁ => wpAny W.M A (pyIter x) Q E s₁) E s := by
  obtain ⟨_, rfl⟩ := rep_int ha; obtain ⟨_, rfl⟩ := rep_int hb'
  exact call_range_2 (iter_rangeobj (Heap.get?_push_size _ rfl) hb fun it s' e hi => q _ _ (Ext.trans (Ext.push_toks s _ _) e) (hi.back (Ext.push_toks s _ _)))
theorem iter_range1 {b : Int} (hb : RangeOk 0 b) (hb' : Rep s.heap Ok u (.int b))
    (q : ∀ it s', Ext s s' → IterAt W Ok z s s' it (rangeF 0 b) → Q it s') :
    wpAny W.M A (call (.type "range") [u]) (fun x s₁ => wpAny W.M A (pyIter x) Q E s₁) E s := by
  obtain ⟨_, rfl⟩ := rep_int hb'
  exact call_range_1 (iter_rangeobj (Heap.get?_push_size _ rfl) hb fun it s' e hi => q _ _ (Ext.trans (Ext.push_toks s _ _) e) (hi.back (Ext.push_toks s _ _)))
/-- an iterator over a value -/
theorem its_inv {Z : List PV → Nat → Prop} {x : PV} {l : Nat} (hv : Val W s.heap Ok l v x) (h : itsP x l Z) (q : ∀ it s' xs l', Ext s s' → IterAt W Ok (l' = 0) s s' it xs → Sz (.list xs) → Z xs l' → Q it s') : wpAny W.M A (pyIter v) Q E s := by
  cases x with
  | list xs =>
    obtain ⟨hl, z⟩ := l1_inv h
    obtain ⟨a, vs, rfl, ql, _, r, o⟩ := hv.r.inv
    exact iter_list ql (r hl) o fun it s' e i => q it s' xs l e i hv.z z
  | tup xs =>
    obtain ⟨_, z⟩ := l0_inv h
    obtain ⟨a, vs, rfl, o, ql, r⟩ := hv.r.inv.inv
    exact iter_tup ql r (fun _ => o) fun it s' e i => q it s' xs 0 e i (.list hv.z.tup_len hv.z.tup_all) z
  | txt k cs =>
    obtain ⟨rfl, z⟩ := h
    cases (show TxtIs v false cs from hv.r.inv.inv) with
    | str _ t =>
      refine iter_str fun it s' e i => q it s' _ 0 e i (.list ?_ fun w hw => ?_) z
      · rw [List.length_map]; exact lim_lst hv.z.txt_len
      · obtain ⟨c, _, rfl⟩ := List.mem_map.mp hw; exact .txt _ (by show 1 ≤ LIM; decide)
  | _ => exact h.elim

/-! sum -/
theorem b1_sum : Bi1Ok W .sum := by
  intro A s Ok l v x Z H hv h
  obtain ⟨xs, rfl, h⟩ := list_inv h
  obtain ⟨hl, is, rfl, z⟩ := l1_inv h
  obtain ⟨a, vs, rfl, ql, _, r, _⟩ := hv.r.inv
  refine Gets.yld (fun E Q q => call_sum_walkG (iter_list (z := False) ql (r hl) (fun h => h.elim) fun it s' e hi => ?_)) (.int _) z
  obtain ⟨I, fp, wr, P, St, rfl, hi⟩ := hi
  refine ⟨I, fp, wr, _, _, St, (fun j => is.getD j 0), rfl, (hi.walks A.in1 H.hd).bound, hi.st, hi.old, ?_, fun h' tk t' hk => ?_⟩
  · rintro i v ⟨hlt, hp⟩
    rw [List.length_map] at hlt
    exact (hi.item i v (.int (is.getD i 0)) (by rw [List.getElem?_map, List.getD_eq_getElem?_getD, List.getElem?_eq_getElem hlt]; rfl) hp).inv
  · rw [List.length_map, PySem.W.KBmo.pre_take is is.length (Nat.le_refl _), List.take_length]
    refine q _ _ ⟨?_, fun b o ho => hk b o (fun hb => nomatch (hi.new b hb).symm.trans ho) (e.keep b o ho)⟩ (.int _ _)
    exact e.same.trans ⟨rfl, rfl⟩

/-! issubclass of a text's class -/
theorem b2_issub : Bi2Ok W .issub := by
  intro A s Ok v u x y Z H hv hu h
  obtain ⟨hx, rfl, z⟩ := h
  obtain ⟨tp, vs, rfl, _, ht, r⟩ := hu.r.inv.inv
  obtain ⟨v1, v2, rfl, r1, r2⟩ := r.inv_two
  obtain ⟨cs, hcs⟩ : ∃ cs, cs = [v1, v2] := ⟨_, rfl⟩
  rw [← hcs] at ht
  rw [show v1 = _ from r1.inv, show v2 = _ from r2.inv] at hcs
  refine Gets.yld (fun E Q q => ?_) (.bool _) z
  have hv' : ∃ c, v = .type c ∧ (c = "str" ∨ c = "bytes") := hx.elim (fun e => by subst e; exact ⟨_, hv.r.inv.inv, .inl rfl⟩) fun e => by subst e; exact ⟨_, hv.r.inv.inv, .inr rfl⟩
  obtain ⟨c, rfl, hc⟩ := hv'
  refine call_issubclass (S := fun _ R s' => s' = s ∧ ∀ tk, R (.ok (.ret (.bool true))) { s with toks := tk }) (fun prog w A R s' hs => ?_) ⟨rfl, fun tk => q _ _ (.toks _ _) (.bool true)⟩
  obtain ⟨rfl, hq⟩ := hs
  refine issubclass_outer ?_
  obtain ⟨h, g, d, tt, os⟩ := s'
  have hT2 : (⟨h, g, d, tt, os⟩ : Shared).TypeIs (.ref tp) "tuple" := ht.typeIs
  obtain ⟨n, htp⟩ := ht
  have f1 := F.isi_sub_tuple
  unfold Builtin.«issubclass.nested»
  repeat (any_goals (first | assumption | wp_step))
  refine wpAny_arrayLoop ?_
  rw [Option.getD_some, List.toList_toArray, hcs, List.forIn_cons]
  rcases hc with rfl | rfl
  · exact wpAny_bind (wpAny_bind (issub_call (W := ⟨prog, w, W.mg, W.mb, W.K⟩) (b := true) (by kernel_rfl) (wpAny_bind (wpAny_truthy_bool (wpAny_bind (wpAny_pure (wpAny_pure (wpAny_pure (wpAny_pure (hq _))))))))))
  · refine wpAny_bind (wpAny_bind (issub_call (W := ⟨prog, w, W.mg, W.mb, W.K⟩) (b := false) (by kernel_rfl) (wpAny_bind (wpAny_truthy_bool (wpAny_pure ?_)))))
    show wpAny (model prog w) _ (forIn [Value.type "bytes"] _ _) _ _ _
    rw [List.forIn_cons]
    exact wpAny_bind (wpAny_bind (issub_call (W := ⟨prog, w, W.mg, W.mb, W.K⟩) (b := true) (by kernel_rfl) (wpAny_bind (wpAny_truthy_bool (wpAny_bind (wpAny_pure (wpAny_pure (wpAny_pure (wpAny_pure (hq _))))))))))
end
end Mine
end
noncomputable section
namespace Mine
open Builtin

/-! ## expressions, node by node -/
structure CC where
  σ : Str → Option Nat
  gl : Str → Bool
  cl : Str → Bool
  n : Nat
structure Cx where
  W : Wld
  Γ : FEnv
  k : Nat
  cc : CC
structure Here (C : Cx) (A : Around) (env : Env) (Ok : Addr → Prop) (ρ : List Slt) (s : Shared) : Prop where
  room : Room A C.k
  on : C.W.On s.heap
  fresh : Fresh Ok s
  kind : env.scope.kind = .function
  globals : env.globals = mainGlobals
  builtins : env.builtins = builtinsNs
  len : ρ.length = C.cc.n
  get : ∀ x i pv l, C.cc.σ x = some i → getS ρ i = some (pv, l) → ∃ v, Holds s.heap env x v ∧ Val C.W s.heap Ok l v pv
  gl : ∀ x, C.cc.gl x = true → env.kindOf x = some .globalImplicit
  cl : ∀ x, C.cc.cl x = true → (env.kindOf x = some .cell ∨ env.kindOf x = some .free) ∧ ∃ c, env.cells.lookup x = some c
def Vals (h : Heap) (Ok : Addr → Prop) (vs : List Value) (xs : List PV) : Prop := RepAll h Ok vs xs ∧ ∀ x ∈ xs, Sz x

section
variable (C : Cx)
/-- the evaluator tells what the expression gives -/
def SE (me : ME) (e : Expr) : Prop := ∀ A env Ok ρ s Q, Here C A env Ok ρ s → (evA C.Γ me ρ).val Q → Ev C.W A Ok s (eval e env) Q
/-- and whether it is true -/
def ST (me : ME) (e : Expr) : Prop := ∀ A env Ok ρ s Z, Here C A env Ok ρ s → (evA C.Γ me ρ).tru Z → Tells C.W A s (isTrue e env (eval e env)) Z
/-- arguments, display elements -/
def SL (me : ME) (es : List Expr) : Prop := ∀ A env Ok ρ s pos Z, Here C A env Ok ρ s → (evA C.Γ me ρ).lst Z →
  ∀ (E : Value → Shared → Prop) (R : List Value → Shared → Prop), (∀ vs s' xs, Ext s s' → Vals s'.heap Ok vs xs → Z xs → R vs s') → wpAny C.W.M A (spliced (backTo pos (starEach es env))) R E s
/-- sources of loops -/
def SI (me : ME) (e : Expr) : Prop := ∀ A env Ok ρ s Z, Here C A env Ok ρ s → (evA C.Γ me ρ).its Z →
  ∀ (E R : Value → Shared → Prop), (∀ it s' xs l, Ext s s' → IterAt C.W Ok (l = 0) s s' it xs → Sz (.list xs) → Z xs l → R it s') → wpAny C.W.M A (eval e env) (fun v s' => wpAny C.W.M A (pyIter v) R E s') E s
/-- a part of a cut -/
def SPt (me : ME) (e : Option Expr) : Prop := ∀ A env Ok ρ s Q, Here C A env Ok ρ s → (evA C.Γ me ρ).val Q → Ev C.W A Ok s (evalPart e env) Q
structure Both (me : ME) (e : Expr) : Prop where
  se : SE C me e
  st : ST C me e
end

section
variable {C : Cx} {A : Around} {env : Env} {Ok : Addr → Prop} {ρ : List Slt} {s s' : Shared}
theorem Here.ext (H : Here C A env Ok ρ s) (e : Ext s s') : Here C A env Ok ρ s' :=
  { H with on := H.on.ext e, fresh := H.fresh.ext e, get := fun x i pv l h1 h2 => let ⟨v, a, b⟩ := H.get x i pv l h1 h2; ⟨v, a.keeps e.keep, b.ext e⟩ }
theorem Here.at (H : Here C A env Ok ρ s) : At A Ok s := ⟨H.room.hd, by have := H.room.un; omega, H.fresh⟩
theorem both_bad {e : Expr} : Both C .bad e := ⟨fun _ _ _ _ _ _ _ h => h.elim, fun _ _ _ _ _ _ _ h => h.elim⟩
theorem name_global {x : Str} {pos : Pos} {v : Value} {E Q : Value → Shared → Prop} (H : Here C A env Ok ρ s) (hx : C.cc.gl x = true) (hg : C.W.glob x = some v) (hd : (x == ("__debug__" : Str)) = false) (q : Q v s) :
    wpAny C.W.M A (eval (.Name x pos) env) Q E s :=
  Calls.Name_function_global H.kind (H.gl x hx) (Wld.loadGlobal H.on H.globals H.builtins hg q) hd
/-- where truth is the value's truth -/
theorem both_plain {me : ME} {e : Expr} (h : SE C me e) (hm : ∀ ρ Z, (evA C.Γ me ρ).tru Z = (evA C.Γ me ρ).val fun x _ => truP x Z)
    (he : ∀ env, isTrue e env (eval e env) = (do let v ← eval e env; standAt e.pos; holding [v] (truthy v))) : Both C me e :=
  ⟨h, fun A env Ok ρ s Z H hz E R q => isTrue_plain (h A env Ok ρ s _ H (hm ρ Z ▸ hz) E _ fun v s1 x l e1 r1 z => truth_sound r1 z E R fun b s2 e2 => q b s2 (e1.trans e2)) (he env)⟩

theorem se_name {x : Str} {i : Nat} {pos : Pos} (hx : C.cc.σ x = some i) (hd : (x == ("__debug__" : Str)) = false) (hcd : (x == ("__classdict__" : Str)) = false) : SE C (.var i) (.Name x pos) := by
  intro A env Ok ρ s Q H h E R q
  have h : (match getS ρ i with | some (x, l) => Q x l | none => False) := h
  cases hs : getS ρ i with
  | none => rw [hs] at h; exact h.elim
  | some p =>
    rw [hs] at h
    obtain ⟨v, h1, h2⟩ := H.get x i p.1 p.2 hx hs
    exact Holds.load (h := s.heap) h1 H.kind hd hcd (q _ _ _ _ (.refl _) h2 h)
theorem se_cls {x : Str} {c : String} {pos : Pos} (hx : C.cc.gl x = true) (hg : C.W.glob x = some (.type c)) (hd : (x == ("__debug__" : Str)) = false) : SE C (.lit (.cls c)) (.Name x pos) :=
  fun A env Ok ρ s Q H h E R q => name_global H hx hg hd (q _ _ _ _ (.refl _) ⟨.zero (.cls _), .cls _⟩ h)
def cConst : Const → ME
  | .none => .lit .none
  | .bool b => .lit (.bool b)
  | .int i => .lit (.int i)
  | .str s => if s.cps.toList.length ≤ LIM then .lit (.txt false s.cps.toList) else .bad
  | .bytes b => if b.length ≤ LIM then .lit (.txt true (b.map UInt8.toNat)) else .bad
  | _ => .bad
theorem se_const (c : Const) {n : Nat} {pos : Pos} : SE C (cConst c) (.Constant c n pos) := by
  intro A env Ok ρ s Q H h E R q
  rw [eval_Constant]
  cases c with
  | none => exact wpAny_pure (q _ _ _ _ (.refl _) ⟨.zero .none, .none⟩ h)
  | bool b => exact wpAny_pure (q _ _ _ _ (.refl _) ⟨.zero (.bool _), .bool _⟩ h)
  | int i => exact wpAny_mkInt (q _ _ _ _ (.toks _ _) ⟨.zero (.int _ _), .int _⟩ h)
  | str x =>
    by_cases hz : x.cps.toList.length ≤ LIM
    · rw [show cConst (.str x) = .lit (.txt false x.cps.toList) from if_pos hz] at h
      exact wpAny_mkText (q _ _ _ _ (.toks _ _) ⟨.zero (.str x.cps.toList s.toks), .txt _ hz⟩ h)
    · rw [show cConst (.str x) = .bad from if_neg hz] at h; exact h.elim
  | bytes b =>
    by_cases hz : b.length ≤ LIM
    · rw [show cConst (.bytes b) = .lit (.txt true (b.map UInt8.toNat)) from if_pos hz] at h
      exact wpAny_mkTextBytes (q _ _ _ _ (.toks _ _) ⟨.zero (.bytes _ _ rfl), .txt _ (by rw [List.length_map]; exact hz)⟩ h)
    · rw [show cConst (.bytes b) = .bad from if_neg hz] at h; exact h.elim
  | _ => exact h.elim

theorem se_bin {o : BOp} {a b : ME} {l r : Expr} {pos : Pos} (ok : BinOk C.W o) (ha : SE C a l) (hb : SE C b r) : SE C (.bin o a b) (.BinOp l o.op r pos) :=
  fun A env Ok ρ s Q H h E R q => wpAny_BinOp (ha A env Ok ρ s _ H h E _ fun v s1 x lx e1 r1 h1 => hb A env Ok ρ s1 _ (H.ext e1) h1 E _ fun u s2 y ly e2 r2 h2 =>
    have h3 := l1_inv h2
    have h4 := l1_inv h3.2
    (ok A s2 Ok lx ly v u x y _ ((H.ext e1).ext e2).at (r1.ext e2) r2 h3.1 h4.1 h4.2).ev E _ fun w s3 z lz e3 => q w s3 z lz ((e1.trans e2).trans e3))
theorem cmp_run {o : COp} {a b : ME} {l r : Expr} {Z : Bool → Prop} (ok : CmpOk C.W o) (ha : SE C a l) (hb : SE C b r) (H : Here C A env Ok ρ s)
    (h : (evA C.Γ a ρ).val fun x _ => (evA C.Γ b ρ).val fun y _ => cmpP o x y Z) {E R : Value → Shared → Prop} (q : ∀ t s', Ext s s' → Z t → R (.bool t) s') :
    wpAny C.W.M A (eval l env) (fun v s₁ => wpAny C.W.M A (eval r env) (fun u s₂ => wpAny C.W.M A (compareOp o.op v u) R E s₂) E s₁) E s :=
  ha A env Ok ρ s _ H h E _ fun v s1 x lx e1 r1 h1 => hb A env Ok ρ s1 _ (H.ext e1) h1 E _ fun u s2 y ly e2 r2 h2 =>
    let ⟨t, g, z⟩ := ok A s2 Ok lx ly v u x y _ ((H.ext e1).ext e2).at (r1.ext e2) r2 h2
    g E R fun w s3 e3 rw_ => (show w = .bool t from rw_.inv) ▸ q t s3 ((e1.trans e2).trans e3) z
theorem both_cmp {o : COp} {a b : ME} {l r : Expr} {pos : Pos} (ok : CmpOk C.W o) (ha : SE C a l) (hb : SE C b r) (hm : behindInMarks o.op r = false) : Both C (.cmp o a b) (.Compare l [o.op] [r] pos) :=
  ⟨fun A env Ok ρ s Q H h E R q => wpAny_Compare1 (cmp_run ok ha hb H h fun t s' e z => q _ s' _ 0 e ⟨.zero (.bool t), .bool t⟩ z) hm,
   fun A env Ok ρ s Z H h E R q => wpAny_isTrue_Compare1 (cmp_run ok ha hb H h fun t s' e z => wpAny_truthy_bool (q t s' e z)) hm⟩
theorem both_not {a : ME} {x : Expr} {pos : Pos} (ha : Both C a x) : Both C (.not_ a) (.UnaryOp .Not x pos) := ⟨
  fun A env Ok ρ s Q H h E R q => UnaryOp_ (ha.se A env Ok ρ s _ H h E _ fun v s1 x l e1 r1 h1 => not_of (truth_sound r1 h1 E _ fun b s2 e2 z => q _ s2 _ 0 (e1.trans e2) ⟨.zero (.bool _), .bool _⟩ z)),
  fun A env Ok ρ s Z H h E R q => isTrue_not (ha.st A env Ok ρ s _ H h E _ fun b s1 e1 z => q _ s1 e1 z)⟩
theorem se_neg {a : ME} {x : Expr} {pos : Pos} (ha : SE C a x) : SE C (.neg a) (.UnaryOp .USub x pos) :=
  fun A env Ok ρ s Q H h E R q => UnaryOp_ (ha A env Ok ρ s _ H h E _ fun v s1 x l e1 r1 h1 => by
    obtain ⟨i, rfl, z⟩ := int_inv h1
    exact neg_ints r1.r.inv E _ fun w s2 e2 r2 => q w s2 _ 0 (e1.trans e2) ⟨.zero r2, .int _⟩ z)

/-! and, or, if -/
theorem ite_bool {b : Bool} {P1 P2 X Y : Prop} (z : boolP b P1 P2) (h1 : P1 → X) (h2 : P2 → Y) : if b = true then X else Y := by
  cases b with
  | true => rw [if_pos rfl]; exact h1 z
  | false => rw [if_neg Bool.false_ne_true]; exact h2 z
theorem both_and {a b : ME} {e1 e2 : Expr} {rest : List Expr} {pos : Pos} (ha : Both C a e1) (hb : Both C b (.BoolOp .And (e2 :: rest) pos)) : Both C (.and_ a b) (.BoolOp .And (e1 :: e2 :: rest) pos) := ⟨
  fun A env Ok ρ s Q H h E R q => BoolOp_and (ha.se A env Ok ρ s _ H h E _ fun v s1 x l e1 r1 h1 => by
    obtain ⟨rfl, h1⟩ := l0_inv h1
    exact truth_sound r1 h1 E _ fun b s2 e2 z => ite_bool z (fun z => hb.se A env Ok ρ s2 _ ((H.ext e1).ext e2) z E _ fun w s3 y l e3 => q w s3 y l ((e1.trans e2).trans e3)) fun z => q v s2 x 0 (e1.trans e2) (r1.ext e2) z),
  fun A env Ok ρ s Z H h E R q => isTrue_and (ha.st A env Ok ρ s _ H h E _ fun b s1 e1 z => ite_bool z (fun z => hb.st A env Ok ρ s1 _ (H.ext e1) z E _ fun b s2 e2 => q b s2 (e1.trans e2)) fun z => q _ s1 e1 z)⟩
theorem both_or {a b : ME} {e1 e2 : Expr} {rest : List Expr} {pos : Pos} (ha : Both C a e1) (hb : Both C b (.BoolOp .Or (e2 :: rest) pos)) : Both C (.or_ a b) (.BoolOp .Or (e1 :: e2 :: rest) pos) := ⟨
  fun A env Ok ρ s Q H h E R q => BoolOp_or (ha.se A env Ok ρ s _ H h E _ fun v s1 x l e1 r1 h1 => by
    obtain ⟨rfl, h1⟩ := l0_inv h1
    exact truth_sound r1 h1 E _ fun b s2 e2 z => ite_bool z (fun z => q v s2 x 0 (e1.trans e2) (r1.ext e2) z) fun z => hb.se A env Ok ρ s2 _ ((H.ext e1).ext e2) z E _ fun w s3 y l e3 => q w s3 y l ((e1.trans e2).trans e3)),
  fun A env Ok ρ s Z H h E R q => isTrue_or (ha.st A env Ok ρ s _ H h E _ fun b s1 e1 z => ite_bool z (fun z => q _ s1 e1 z) fun z => hb.st A env Ok ρ s1 _ (H.ext e1) z E _ fun b s2 e2 => q b s2 (e1.trans e2))⟩
theorem both_one {op : BoolOp} {a : ME} {e1 : Expr} {pos : Pos} (ha : Both C a e1) : Both C a (.BoolOp op [e1] pos) := by
  refine ⟨fun A env Ok ρ s Q H h E R q => BoolOp_one (ha.se A env Ok ρ s Q H h E R q), fun A env Ok ρ s Z H h E R q => ?_⟩
  cases op with
  | And => exact isTrue_and (ha.st A env Ok ρ s _ H h E _ fun b s1 e1 z => by
      cases b with
      | true => rw [if_pos rfl]; exact isTrue_and_nil (q _ s1 e1 z)
      | false => rw [if_neg Bool.false_ne_true]; exact q _ s1 e1 z)
  | Or => exact isTrue_or (ha.st A env Ok ρ s _ H h E _ fun b s1 e1 z => by
      cases b with
      | true => rw [if_pos rfl]; exact q _ s1 e1 z
      | false => rw [if_neg Bool.false_ne_true]; exact isTrue_or_nil (q _ s1 e1 z))
theorem both_ite {c a b : ME} {t e1 e2 : Expr} {pos : Pos} (hc : Both C c t) (ha : Both C a e1) (hb : Both C b e2) : Both C (.ite c a b) (.IfExp t e1 e2 pos) := ⟨
  fun A env Ok ρ s Q H h E R q => IfExp_ (hc.st A env Ok ρ s _ H h E _ fun b s1 x1 z => ite_bool z (fun z => ha.se A env Ok ρ s1 _ (H.ext x1) z E _ fun w s2 y l x2 => q w s2 y l (x1.trans x2)) fun z => hb.se A env Ok ρ s1 _ (H.ext x1) z E _ fun w s2 y l x2 => q w s2 y l (x1.trans x2)),
  fun A env Ok ρ s Z H h E R q => isTrue_IfExp (hc.st A env Ok ρ s _ H h E _ fun b s1 x1 z => ite_bool z (fun z => ha.st A env Ok ρ s1 _ (H.ext x1) z E _ fun t s2 x2 => q t s2 (x1.trans x2)) fun z => hb.st A env Ok ρ s1 _ (H.ext x1) z E _ fun t s2 x2 => q t s2 (x1.trans x2))⟩

/-! arguments, displays -/
theorem sl_nil : SL C .nil [] := fun A env Ok ρ s pos Z H h E R q => Calls.spliced_nil (q _ _ _ (.refl _) ⟨.nil, fun _ h => nomatch h⟩ h)
def notStar : Expr → Bool
  | .Starred _ _ => false
  | _ => true
theorem starEach_plain {e : Expr} (h : notStar e = true) (rest : List Expr) (env : Env) : starEach (e :: rest) env = (false, eval e env) :: starEach rest env := by
  cases e with
  | Starred _ _ => exact nomatch h
  | _ => rfl
theorem mem_cons_all {P : PV → Prop} {x : PV} {xs : List PV} (h : P x) (hs : ∀ y ∈ xs, P y) : ∀ y ∈ x :: xs, P y := fun y hy => (List.mem_cons.mp hy).elim (fun e => e ▸ h) (hs y)
theorem sl_cons {a r : ME} {e : Expr} {rest : List Expr} (hn : notStar e = true) (ha : SE C a e) (hr : SL C r rest) : SL C (.cons a r) (e :: rest) := by
  intro A env Ok ρ s pos Z H h E R q
  rw [starEach_plain hn]
  exact Calls.spliced_cons (ha A env Ok ρ s _ H h E _ fun v s1 x l e1 r1 h1 => by
    obtain ⟨rfl, h1⟩ := l0_inv h1
    exact hr A env Ok ρ s1 pos _ (H.ext e1) h1 E _ fun vs s2 xs e2 r2 h2 => q _ s2 _ (e1.trans e2) ⟨.cons (r1.ext e2).r.rep0 r2.1, mem_cons_all r1.z r2.2⟩ h2)
theorem starOf_list {W : Wld} {a : Addr} {vs : List Value} {E : Value → Shared → Prop} {Q : List Value → Shared → Prop} (ha : s.heap.PlainList a vs.toArray) (hz : vs.length ≤ LST) (q : ∀ s', Ext s s' → Q vs s') : StarOf W.M A E (.ref a) Q s := by
  obtain ⟨n, ho⟩ := ha
  exact wpAny_bind (wpAny_specialOf ⟨_, ho, rfl⟩ F.slot_list_iter.lookup (wpAny_pure ⟨rfl, wpAny_collect_seq a (T := "list") (.inl rfl) ho rfl rfl (fun h' hk => q _ ⟨⟨rfl, rfl⟩, hk⟩) (lst_size hz)⟩))
theorem star_run {a : ME} {e : Expr} {Z : List PV → Prop} (ha : SE C a e) (H : Here C A env Ok ρ s) (h : (evA C.Γ a ρ).val fun x l => l1 l (listP x Z)) {E : Value → Shared → Prop} {Q : List Value → Shared → Prop}
    (q : ∀ vs s' xs, Ext s s' → Vals s'.heap Ok vs xs → Z xs → Q vs s') : wpAny C.W.M A (eval e env) (fun v s' => StarOf C.W.M A E v Q s') E s :=
  ha A env Ok ρ s _ H h E _ fun v s1 x l e1 r1 h1 => by
    obtain ⟨hl, h1⟩ := l1_inv h1
    obtain ⟨xs, rfl, h1⟩ := list_inv h1
    obtain ⟨a', vs, rfl, q1, _, q2, _⟩ := r1.r.inv
    exact starOf_list q1 ((q2 hl).length ▸ r1.z.list_len) fun s2 e2 => q vs s2 xs (e1.trans e2) ⟨(q2 hl).ext e2, r1.z.list_all⟩ h1
theorem sl_star {a r : ME} {e : Expr} {p : Pos} {rest : List Expr} (ha : SE C a e) (hr : SL C r rest) : SL C (.star a r) (.Starred e p :: rest) :=
  fun A env Ok ρ s pos Z H h E R q => ks_spliced (star_run ha H h fun vs s1 xs e1 r1 h1 =>
    hr A env Ok ρ s1 pos _ (H.ext e1) h1 E _ fun ws s2 ys e2 r2 h2 => q _ s2 _ (e1.trans e2) ⟨.append (r1.1.ext e2) r2.1, fun y hy => (List.mem_append.mp hy).elim (r1.2 y) (r2.2 y)⟩ h2)
end
end Mine
end
noncomputable section
namespace Mine
open Builtin

/-- what a def of the program does, told by a plain function -/
def FunOk (W : Wld) (k : Nat) (fa : Addr) (F : Fn) : Prop :=
  ∀ A s Ok vs xs Z, RoomF A k → W.On s.heap → Fresh Ok s → Vals s.heap Ok vs xs → F xs Z →
    ∀ R : Result → Shared → Prop, (∀ v s' z, Ext s s' → Rep s'.heap Ok v z → Sz z → Z z → R (.ok (.ret v)) s') → codeAny W.M A (.call (.ref fa) ⟨vs, []⟩) R s
theorem RoomF.mono {A : Around} {k k' : Nat} (r : RoomF A k') (h : k ≤ k') : RoomF A k := ⟨r.hd, by have := r.dep; omega, by have := r.un; omega⟩
theorem FunOk.mono {W : Wld} {k k' : Nat} {fa : Addr} {F : Fn} (f : FunOk W k fa F) (h : k ≤ k') : FunOk W k' fa F :=
  fun A s Ok vs xs z hr => f A s Ok vs xs z (hr.mono h)
/-- the names of the defs that the evaluator may call, and what stands behind them -/
def GOk (W : Wld) (k : Nat) (Γ : FEnv) (fns : List Str) : Prop :=
  ∀ (f : Nat) (name : Str), fns[f]? = some name → ∃ fa o fd, W.glob name = some (.ref fa) ∧ W.K.lookup fa = some o ∧ o.data = .func fd ∧ FunOk W k fa (getF Γ f)

section
variable {C : Cx} {A : Around} {env : Env} {Ok : Addr → Prop} {ρ : List Slt} {s s' : Shared}
theorem evalArgs_of {M : Model} {E : Value → Shared → Prop} {f : Value} {args : List (Bool × Sem Value)} {Q : Args → Shared → Prop} (hne : ∀ x, args ≠ [(true, x)])
    (h : wpAny M A (spliced args) (fun vs s' => Q ⟨vs, []⟩ s') E s) : wpAny M A (evalArgs f true args []) Q E s := by
  have go : ∀ (a : Bool × Sem Value) (r : List (Bool × Sem Value)), a.1 = false ∨ r ≠ [] → wpAny M A (spliced (a :: r)) (fun vs s' => Q ⟨vs, []⟩ s') E s → wpAny M A (evalArgs f true (a :: r) []) Q E s := by
    rintro ⟨b, x⟩ r hb h
    cases b with
    | false => exact Calls.evalArgs_plain h
    | true =>
      cases r with
      | nil => exact hb.elim (fun e => nomatch e) fun e => absurd rfl e
      | cons y rest =>
        unfold evalArgs
        show wpAny M A (spliced ((true, x) :: y :: rest) >>= _) Q E s
        exact wpAny_bind (wpAny_mono h (fun vs s' h' => wpAny_holding (wpAny_bind (wpAny_pure (wpAny_bind (wpAny_pure (wpAny_pure h')))))) fun _ _ x => x)
  cases args with
  | nil =>
    unfold evalArgs
    show wpAny M A (spliced [] >>= _) Q E s
    exact wpAny_bind (wpAny_mono h (fun vs s' h' => wpAny_holding (wpAny_bind (wpAny_pure (wpAny_bind (wpAny_pure (wpAny_pure h')))))) fun _ _ x => x)
  | cons a r =>
    refine go a r ?_ h
    obtain ⟨b, x⟩ := a
    cases b with
    | false => exact .inl rfl
    | true => exact .inr fun e => hne x (by rw [e])
/-- arguments, as a call takes them -/
def SA (C : Cx) (me : ME) (es : List Expr) : Prop := ∀ A env Ok ρ s pos f Z, Here C A env Ok ρ s → (evA C.Γ me ρ).lst Z →
  ∀ (E : Value → Shared → Prop) (R : Args → Shared → Prop), (∀ vs s' xs, Ext s s' → Vals s'.heap Ok vs xs → Z xs → R ⟨vs, []⟩ s') → wpAny C.W.M A (evalArgs f true (backTo pos (starEach es env)) []) R E s
theorem sa_lone {a : ME} {e : Expr} {p : Pos} (ha : SE C a e) : SA C (.star a .nil) [.Starred e p] :=
  fun A env Ok ρ s pos f Z H h E R q => ks_lone (star_run ha H h fun vs s1 xs e1 r1 h1 => q vs s1 xs e1 r1 (List.append_nil xs ▸ show Z (xs ++ []) from h1))
theorem starEach_len (es : List Expr) : (starEach es env).length = es.length := by
  induction es with
  | nil => rfl
  | cons e es ih => cases hs : notStar e with
    | true => rw [starEach_plain hs]; exact congrArg (· + 1) ih
    | false => cases e with
      | Starred _ _ => exact congrArg (· + 1) ih
      | _ => exact nomatch hs
theorem sa_of {me : ME} {es : List Expr} (h : SL C me es) (hl : es.length ≠ 1 ∨ ∃ e, es = [e] ∧ notStar e = true) : SA C me es :=
  fun A env Ok ρ s pos f Z H hz E R q => evalArgs_of (fun x hx => by
    have h1 := congrArg List.length hx
    unfold backTo at h1
    rw [List.length_map, starEach_len] at h1
    rcases hl with hl | ⟨e, rfl, hn⟩
    · exact hl h1
    · rw [starEach_plain hn] at hx; exact nomatch (Prod.mk.inj (List.cons.inj hx).1).1) (h A env Ok ρ s pos Z H hz E _ q)
/-- a def of the program, called by its name -/
theorem se_fn {fns : List Str} {f : Nat} {me : ME} {name : Str} {p pos : Pos} {es : List Expr} (G : GOk C.W C.k C.Γ fns) (hf : fns[f]? = some name) (hgl : C.cc.gl name = true) (hd : (name == ("__debug__" : Str)) = false)
    (h : SA C me es) : SE C (.fn f me) (.Call (.Name name p) es [] pos) := by
  intro A env Ok ρ s Q H hz E R q
  obtain ⟨fa, o, fd, hg, ho, hfd, hok⟩ := G f name hf
  refine wpAny_Call_ofName (name_global H hgl hg hd (Calls.callWith_function (o := o) (fd := fd) (h A env Ok ρ s pos _ _ H hz E _ fun vs s1 xs e1 r1 h1 => ?_)))
  have on' := H.on.ext e1
  exact ⟨⟨on'.frag _ _ ho, hfd⟩, wpAny_call (hok A s1 Ok vs xs _ H.room.toF on' (H.fresh.ext e1) r1 h1 _ fun v s2 z e2 r2 hz h2 => q v s2 z 0 (e1.trans e2) ⟨.zero r2, hz⟩ h2)⟩

/-! displays -/
theorem short_len {α : Type} (n : Nat) : ∀ xs : List α, shortN n xs = true → xs.length ≤ n := by
  induction n with
  | zero => intro xs h; cases xs with
    | nil => exact Nat.le_refl _
    | cons _ _ => exact nomatch h
  | succ n ih => intro xs h; cases xs with
    | nil => exact Nat.zero_le _
    | cons x r => exact Nat.succ_le_succ (ih r h)
theorem short_lst {xs : List PV} (h : shortN 64 xs = true) : xs.length ≤ LST := Nat.le_trans (short_len 64 xs h) (by decide)
/-- a list made anew -/
def SN (C : Cx) (me : ME) (e : Expr) : Prop := ∀ A env Ok ρ s Q, Here C A env Ok ρ s → (evA C.Γ me ρ).val Q →
  ∀ E R : Value → Shared → Prop, (∀ a vs s' xs, Ext s s' → s.heap.get? a = none → s'.heap.PlainList a vs.toArray → RepAll s'.heap (fun b => Ok b ∧ b ≠ a) vs xs → Sz (.list xs) → Q (.list xs) 0 → R (.ref a) s') → wpAny C.W.M A (eval e env) R E s
theorem sn_list {me : ME} {es : List Expr} {pos : Pos} (h : SL C me es) : SN C (.list me) (.List es pos) :=
  fun A env Ok ρ s Q H hz E R q => List_ (h A env Ok ρ s pos _ H hz E _ fun vs s1 xs e1 r1 h1 =>
    have hl := short_lst h1.1
    wpAny_newList (newlist_at 0 s1.toks r1.1 E _ fun a vs s2 e2 ha hp r => q a vs s2 xs (e1.trans e2) (e1.fresh ha) hp r (.list hl r1.2) h1.2) (by rw [r1.1.length]; exact lst_size hl))
theorem se_list {me : ME} {es : List Expr} {pos : Pos} (h : SL C me es) : SE C (.list me) (.List es pos) :=
  fun A env Ok ρ s Q H hz E R q => sn_list h A env Ok ρ s Q H hz E R fun a vs s1 xs e1 ha hp r hs h1 => q _ s1 _ 0 e1 ⟨.zero (.list (H.fresh a ha) hp (r.weaken fun _ x => x.1)), hs⟩ h1
theorem se_tup {me : ME} {es : List Expr} {n : Nat} {pos : Pos} (h : SL C me es) : SE C (.tup me) (.Tuple es n pos) :=
  fun A env Ok ρ s Q H hz E R q => Tuple_ (h A env Ok ρ s pos _ H hz E _ fun vs s1 xs e1 r1 h1 =>
    have hl := short_lst h1.1
    wpAny_newTuple (q _ _ _ 0 (e1.trans (.push _ _)) ⟨.zero (.tup (H.fresh.ext e1 _ (get_size _)) ⟨0, Heap.get?_push_size _ rfl⟩ (r1.1.ext (.push _ _))), .tup hl r1.2⟩ h1.2) (by rw [r1.1.length]; exact lst_size hl))

/-! items and cuts -/
theorem letGo_is (P : Sem Unit → Prop) (base : Expr) (o r : Value) (h1 : P (pure ())) (h2 : P (do let _ ← holding [r] (runValue (.builtin "proto.let_go" {})); pure ())) : P (letTemporaryGo base o r) := by
  cases base with
  | Name _ _ => exact h1
  | _ =>
    cases o with
    | ref a => exact h2
    | _ => exact h1
theorem letGo_ok {E : Value → Shared → Prop} {base : Expr} {o r : Value} {Q : Unit → Shared → Prop} (q : Q () s) : wpAny C.W.M A (letTemporaryGo base o r) Q E s := by
  refine letGo_is (fun t => wpAny C.W.M A t Q E s) base o r (wpAny_pure q) (wpAny_bind (wpAny_holding (wpAny_runValue (codeAny_builtin entry_let_go ?_))))
  rw [Around.under_plainId plain_let_go]
  exact wpAny_pure (wpAny_pure q)
theorem sub_is (slice : Expr) (o i : Value) : ∃ l, subscripted slice false o i = operate l (getItem o i) := by
  cases slice with
  | Slice l u st p => cases st <;> exact ⟨_, rfl⟩
  | _ => exact ⟨_, rfl⟩
theorem subscript_of {value slice : Expr} {pos : Pos} {E Q : Value → Shared → Prop}
    (h : wpAny C.W.M A (eval value env) (fun o s₁ => wpAny C.W.M A (eval slice env) (fun i s₂ => (∃ T id, s₂.TypeIs o T ∧ typeLookup (.type T) "__getitem__" = pure (some (.builtin id))) ∧ wpAny C.W.M A (getItem o i) Q E s₂) E s₁) E s) :
    wpAny C.W.M A (eval (.Subscript value slice pos) env) Q E s := by
  rw [eval_Subscript]
  refine wpAny_bind (wpAny_mono h (fun o s₁ h₁ => wpAny_bind (wpAny_holding (wpAny_mono h₁ (fun i s₂ h₂ => wpAny_bind (wpAny_standAt ?_)) fun _ _ x => x))) fun _ _ x => x)
  obtain ⟨⟨T, id, hT, hl⟩, hg⟩ := h₂
  obtain ⟨l, el⟩ := sub_is slice o i
  refine wpAny_bind ?_
  rw [getitemInPython_of_ne hT.not_modules]
  refine wpAny_bind (wpAny_specialOf hT hl (wpAny_pure (wpAny_bind ?_)))
  show wpAny C.W.M A (subscripted slice false o i) _ E s₂
  rw [el]
  exact wpAny_operating (wpAny_mono hg (fun r s₃ h₃ => wpAny_bind (letGo_ok (wpAny_pure h₃))) fun _ _ x => x)
theorem idx_itemable {x y : PV} {l : Nat} {Q : PV → Nat → Prop} (h : idxP x l y Q) : itemable x True := by
  cases x <;> first | exact trivial | exact h.elim
theorem cut_itemable {x y z : PV} {Q : PV → Prop} (h : cutP x y z Q) : itemable x True := by
  cases x <;> first | exact trivial | exact h.elim
theorem se_idx {a i : ME} {value slice : Expr} {pos : Pos} (ha : SE C a value) (hi : SE C i slice) : SE C (.idx a i) (.Subscript value slice pos) :=
  fun A env Ok ρ s Q H h E R q => subscript_of (C := C) (ha A env Ok ρ s _ H h E _ fun v s1 x lx e1 r1 h1 => hi A env Ok ρ s1 _ (H.ext e1) h1 E _ fun u s2 y ly e2 r2 h2 =>
    ⟨(getitem_builtin (r1.ext e2).r (idx_itemable h2)).1, idx_sound (r1.ext e2) r2 h2 E R fun w s3 z lz e3 => q w s3 z lz ((e1.trans e2).trans e3)⟩)
theorem spt_none : SPt C (.lit .none) none := fun A env Ok ρ s Q H h E R q => wpAny_pure (q _ _ _ _ (.refl _) ⟨.zero .none, .none⟩ h)
theorem spt_some {me : ME} {e : Expr} (h : SE C me e) : SPt C me (some e) := h
theorem se_cut {a lo hi : ME} {value : Expr} {l u : Option Expr} {p pos : Pos} (ha : SE C a value) (hl : SPt C lo l) (hu : SPt C hi u) : SE C (.cut a lo hi) (.Subscript value (.Slice l u none p) pos) :=
  fun A env Ok ρ s Q H h E R q => subscript_of (C := C) (ha A env Ok ρ s _ H h E _ fun v s1 x lx e1 r1 h1 => wpAny_Slice (hl A env Ok ρ s1 _ (H.ext e1) h1 E _ fun v2 s2 y ly e2 r2 h2 => hu A env Ok ρ s2 _ ((H.ext e1).ext e2) h2 E _ fun v3 s3 z lz e3 r3 h3 => by
    show wpAny C.W.M A (pure Value.none) _ E s3
    refine wpAny_pure ?_
    obtain ⟨hlx, h4⟩ := l1_inv h3
    obtain ⟨rfl, h5⟩ := l0_inv h4
    obtain ⟨rfl, h6⟩ := l0_inv h5
    have ep := Ext.push s3 { cls := .type "slice", data := .fields #[v2, v3, .none] }
    have r1' := ((r1.ext e2).ext e3).ext ep
    refine ⟨(getitem_builtin r1'.r (cut_itemable h6)).1, (cut_sound ((((H.ext e1).ext e2).ext e3).at.ext ep) r1' hlx ((r2.ext e3).ext ep).r.rep0 (r3.ext ep).r.rep0 ⟨_, Heap.get?_push_size _ rfl, rfl, rfl⟩ h6).ev E R fun w s5 z lz e5 => q w s5 z lz ((((e1.trans e2).trans e3).trans ep).trans e5)⟩))
end
end Mine
end
noncomputable section
namespace Mine
open Builtin
section
variable {C : Cx} {A : Around} {env : Env} {Ok : Addr → Prop} {ρ : List Slt} {s s' : Shared}

/-! a call of a builtin function or class by its name, with plain arguments -/
theorem call_named {name : Str} {f : Value} {p pos : Pos} {es : List Expr} {E Q : Value → Shared → Prop} (H : Here C A env Ok ρ s) (hgl : C.cc.gl name = true) (hg : C.W.glob name = some f) (hd : (name == ("__debug__" : Str)) = false)
    (hf : (∃ id, f = .builtin id) ∨ ∃ T, f = .type T) (hpl : (backTo pos (starEach es env)).any (·.1) = false)
    (h : wpAny C.W.M A (spliced (backTo pos (starEach es env))) (fun vs s' => wpAny C.W.M A (call f vs) Q E s') E s) :
    wpAny C.W.M A (eval (.Call (.Name name p) es [] pos) env) Q E s := by
  refine wpAny_Call_ofName (name_global H hgl hg hd ?_)
  have ha : wpAny C.W.M A (evalArgs f true (backTo pos (starEach es env)) []) (fun a s₁ => wpAny C.W.M A (call f ([] ++ a.pos) a.kw) Q E s₁) E s :=
    evalArgs_of (fun x hx => nomatch (hx ▸ hpl : ([(true, x)] : List (Bool × Sem Value)).any (·.1) = false)) h
  rcases hf with ⟨id, rfl⟩ | ⟨T, rfl⟩
  · exact Calls.callWith_builtin hpl ha
  · exact PySem.callWith_type hpl ha
theorem plain_one {e : Expr} {pos : Pos} (h : notStar e = true) : (backTo pos (starEach [e] env)).any (·.1) = false := by
  rw [starEach_plain h]; rfl
theorem plain_two {e e' : Expr} {pos : Pos} (h : notStar e = true) (h' : notStar e' = true) : (backTo pos (starEach [e, e'] env)).any (·.1) = false := by
  rw [starEach_plain h, starEach_plain h']; rfl
theorem spliced_one {M : Model} {e : Expr} {pos : Pos} {E : Value → Shared → Prop} {Q : List Value → Shared → Prop} (h : notStar e = true) (q : wpAny M A (eval e env) (fun v s' => Q [v] s') E s) :
    wpAny M A (spliced (backTo pos (starEach [e] env))) Q E s := by
  rw [starEach_plain h]
  exact Calls.spliced_cons (wpAny_mono q (fun v s' hq => Calls.spliced_nil hq) fun _ _ x => x)
theorem spliced_two {M : Model} {e e' : Expr} {pos : Pos} {E : Value → Shared → Prop} {Q : List Value → Shared → Prop} (h : notStar e = true) (h' : notStar e' = true) (q : wpAny M A (eval e env) (fun v s' => wpAny M A (eval e' env) (fun u s'' => Q [v, u] s'') E s') E s) :
    wpAny M A (spliced (backTo pos (starEach [e, e'] env))) Q E s := by
  rw [starEach_plain h, starEach_plain h']
  exact Calls.spliced_cons (wpAny_mono q (fun v s' hq => Calls.spliced_cons (wpAny_mono hq (fun u s'' hq => Calls.spliced_nil hq) fun _ _ x => x)) fun _ _ x => x)
theorem se_bi1 {b : BI1} {a : ME} {e : Expr} {p pos : Pos} (ok : Bi1Ok C.W b) (hgl : C.cc.gl b.nameS = true) (hg : C.W.glob b.nameS = some b.valV) (hn : notStar e = true) (ha : SE C a e) :
    SE C (.bi1 b a) (.Call (.Name b.nameS p) [e] [] pos) :=
  fun A env Ok ρ s Q H h E R q => call_named H hgl hg (by cases b <;> decide) (by cases b <;> first | exact .inl ⟨_, rfl⟩ | exact .inr ⟨_, rfl⟩) (plain_one hn) (spliced_one hn (ha A env Ok ρ s _ H h E _ fun v s1 x l e1 r1 h1 =>
    (ok A s1 Ok l v x _ (H.ext e1).at r1 h1).ev E R fun w s2 z lz e2 => q w s2 z lz (e1.trans e2)))
theorem se_bi2 {b : BI2} {a c : ME} {e f : Expr} {p pos : Pos} (ok : Bi2Ok C.W b) (hgl : C.cc.gl b.nameS = true) (hg : C.W.glob b.nameS = some b.valV) (hn : notStar e = true) (hn' : notStar f = true) (ha : SE C a e) (hc : SE C c f) :
    SE C (.bi2 b a c) (.Call (.Name b.nameS p) [e, f] [] pos) :=
  fun A env Ok ρ s Q H h E R q => call_named H hgl hg (by cases b <;> decide) (by cases b <;> exact .inl ⟨_, rfl⟩) (plain_two hn hn') (spliced_two hn hn' (ha A env Ok ρ s _ H h E _ fun v s1 x l e1 r1 h1 => hc A env Ok ρ s1 _ (H.ext e1) h1 E _ fun u s2 y l' e2 r2 h2 => by
    obtain ⟨rfl, h3⟩ := l0_inv h2
    obtain ⟨rfl, h4⟩ := l0_inv h3
    exact (ok A s2 Ok v u x y _ ((H.ext e1).ext e2).at (r1.ext e2) r2 h4).ev E R fun w s3 z lz e3 => q w s3 z lz ((e1.trans e2).trans e3)))
/-- the receiver is not the call of a name without arguments -/
def notSuper : Expr → Bool
  | .Call _ (_ :: _) _ _ => true
  | .Call _ [] _ _ => false
  | _ => true
theorem base_plain {o : Expr} {name : Str} {whole : Sem Value} (h : notSuper o = true) : attributeBase o name env whole = whole := by
  cases o with
  | Call f as _ _ => cases as with
    | nil => exact nomatch h
    | cons _ _ => cases f <;> rfl
  | _ => rfl
theorem se_meth {m : Meth} {r a : ME} {o e : Expr} {apos pos : Pos} (ok : MethOk C.W m) (ho : notSuper o = true) (hline : (apos.endLine == pos.line) = true) (hn : notStar e = true) (hr : SE C r o) (ha : SE C a e) :
    SE C (.meth m r a) (.Call (.Attribute o m.nameS apos) [e] [] pos) := by
  intro A env Ok ρ s Q H h E R q
  rw [arm_eval_Call, base_plain ho]
  refine wpAny_bind (hr A env Ok ρ s _ H h E _ fun ov s1 x lx e1 r1 h1 => wpAny_bind (wpAny_standAt ?_))
  have hform : methodCallForm (([e] : List Expr).length + ([] : List Keyword).length) (backTo pos (starEach [e] env)) (backToKw pos (keywordEach [] env)) = true := by
    rw [starEach_plain hn]; rfl
  have hpos : methodCallPos true o env apos pos = pure pos := if_pos (by rw [hline]; rfl)
  unfold methodCall
  rw [hform]
  refine wpAny_bind (wpAny_holding (ok.get A s1 Ok lx ov x _ _ E _ r1 h1 fun h1 => wpAny_bind (wpAny_of_eq hpos ?_)))
  refine Calls.callWith_builtin (plain_one hn) (evalArgs_of (fun y hy => ?_) (spliced_one hn (ha A env Ok ρ s1 _ (H.ext e1) h1 E _ fun u s2 y ly e2 r2 h2 => ?_)))
  · rw [starEach_plain hn] at hy; exact nomatch (Prod.mk.inj (List.cons.inj hy).1).1
  · obtain ⟨hl, h3⟩ := l1_inv h2
    exact (ok.run A s2 Ok lx ly ov u x y _ ((H.ext e1).ext e2).at (r1.ext e2) r2 hl h3).ev E R fun w s3 z lz e3 => q w s3 z lz ((e1.trans e2).trans e3)

/-! sources of loops -/
theorem si_val {me : ME} {e : Expr} (h : SE C me e) (hm : ∀ ρ Z, (evA C.Γ me ρ).its Z = (evA C.Γ me ρ).val fun x l => itsP x l Z) : SI C me e :=
  fun A env Ok ρ s Z H hz E R q => h A env Ok ρ s _ H (hm ρ Z ▸ hz) E _ fun v s1 x l e1 r1 h1 => its_inv r1 h1 fun it s2 xs l' e2 hi sz z => q it s2 xs l' (e1.trans e2) (hi.back e1) sz z
theorem range_sz {a b : Int} (h : RangeOk a b) : Sz (.list (rangeF a b)) :=
  .list (by unfold rangeF; rw [List.length_map, List.length_range]; exact lim_lst h.2.2.2.2) fun x hx => by
    obtain ⟨k, _, rfl⟩ := List.mem_map.mp hx
    exact .int _
theorem si_range {lo hi : ME} {e f : Expr} {p pos : Pos} (hgl : C.cc.gl "range" = true) (hg : C.W.glob "range" = some (.type "range")) (hn : notStar e = true) (hn' : notStar f = true) (ha : SE C lo e) (hc : SE C hi f) :
    SI C (.range lo hi) (.Call (.Name "range" p) [e, f] [] pos) :=
  fun A env Ok ρ s Z H h E R q => call_named H hgl hg (by decide) (.inr ⟨_, rfl⟩) (plain_two hn hn') (spliced_two hn hn' (ha A env Ok ρ s _ H h E _ fun v s1 x l e1 r1 h1 => hc A env Ok ρ s1 _ (H.ext e1) h1 E _ fun u s2 y l' e2 r2 h2 => by
    obtain ⟨a, rfl, h3⟩ := int_inv h2
    obtain ⟨b, rfl, hb, z⟩ := int_inv h3
    exact iter_range hb (r1.ext e2).r.inv r2.r.inv fun it s3 e3 hi => q it s3 _ 0 ((e1.trans e2).trans e3) (hi.back (e1.trans e2)) (range_sz hb) z))
theorem si_range1 {hi : ME} {f : Expr} {p pos : Pos} (hgl : C.cc.gl "range" = true) (hg : C.W.glob "range" = some (.type "range")) (hn' : notStar f = true) (hc : SE C hi f) :
    SI C (.range (.lit (.int 0)) hi) (.Call (.Name "range" p) [f] [] pos) :=
  fun A env Ok ρ s Z H h E R q => call_named H hgl hg (by decide) (.inr ⟨_, rfl⟩) (plain_one hn') (spliced_one hn' (hc A env Ok ρ s _ H h E _ fun u s2 y l' e2 r2 h2 => by
    obtain ⟨b, rfl, hb, z⟩ := int_inv (x := y) h2
    exact iter_range1 hb r2.r.inv fun it s3 e3 hi => q it s3 _ 0 (e2.trans e3) (hi.back e2) (range_sz hb) z))
end

/-! ## keeping all but some places -/
structure KeepBut (X : Addr → Prop) (s s' : Shared) : Prop where
  same : Same s s'
  keep : ∀ b o, ¬ X b → s.heap.get? b = some o → s'.heap.get? b = some o
section
variable {X Y Ok Ok' : Addr → Prop} {s s' s1 a b c : Shared} {v : Value} {x : PV} {vs : List Value} {xs : List PV}
theorem KeepBut.refl (X : Addr → Prop) (s : Shared) : KeepBut X s s := ⟨⟨rfl, rfl⟩, fun _ _ _ e => e⟩
theorem KeepBut.trans (x : KeepBut X a b) (y : KeepBut X b c) : KeepBut X a c :=
  ⟨x.same.trans y.same, fun b o hb e => y.keep b o hb (x.keep b o hb e)⟩
theorem Ext.but (e : Ext s s') : KeepBut X s s' := ⟨e.same, fun b o _ => e.keep b o⟩
theorem KeepBut.mono (e : KeepBut X s s') (h : ∀ b, X b → Y b) : KeepBut Y s s' := ⟨e.same, fun b o hb => e.keep b o fun hx => hb (h b hx)⟩
theorem KeepBut.of_same {a : Addr} {h' : Heap} (h : Heap.SameBut a s.heap h') (hx : X a) (t : Nat) : KeepBut X s { s with heap := h', toks := t } :=
  ⟨⟨rfl, rfl⟩, fun b o hb e => h.extBut b o (fun q => hb (q ▸ hx)) e⟩
/-- what is new to a state may be changed -/
theorem KeepBut.after (e1 : Ext s s1) (e : KeepBut X s1 s') (h : ∀ b, X b → s.heap.get? b = none) : Ext s s' :=
  ⟨(e1.but.trans e).same, fun b o ho => e.keep b o (fun hx => nomatch (h b hx).symm.trans ho) (e1.keep b o ho)⟩
theorem KeepBut.moves (e : KeepBut X s s') (h : ∀ b, Ok b → SeqAt s.heap b → Ok' b ∧ ¬ X b) : Moves s.heap s'.heap Ok Ok' := fun a ha hs => ⟨(h a ha hs).1, fun o => e.keep a o (h a ha hs).2⟩
end
end Mine
end
noncomputable section
namespace Mine
open Builtin

/-! ## comprehensions -/
def CC.comp (cc : CC) (scope : Scope) (x : Str) : CC where
  σ := fun y => if y = x then some cc.n else if scope.names.lookup y = some .free then cc.σ y else none
  gl := fun y => decide (scope.names.lookup y = some .globalImplicit)
  cl := fun y => decide (scope.names.lookup y = some .free)
  n := cc.n + 1
def Cx.comp (C : Cx) (scope : Scope) (x : Str) : Cx := { C with cc := C.cc.comp scope x }
structure CompOk (cc : CC) (scope : Scope) (x : Str) : Prop where
  kind : scope.kind = .function
  free : ∀ y ∈ scope.names, y.2 = .free → cc.cl y.1 = true
  nocell : ∀ y ∈ scope.names, y.2 ≠ .cell
  names : ∀ y ∈ scope.names, y.2 = .local → scope.names.lookup y.1 = some .local
  loc : scope.names.lookup x = some .local
  lt : ∀ y i, cc.σ y = some i → i < cc.n

section
variable {α β : Type} [BEq α] [LawfulBEq α] {a : α} {b : β} {l : List (α × β)}
theorem lookup_mem (h : l.lookup a = some b) : (a, b) ∈ l := by
  induction l with
  | nil => exact nomatch h
  | cons p r ih =>
    rw [List.lookup_cons] at h
    cases q : a == p.1 with
    | true => rw [q] at h; rw [eq_of_beq q, ← Option.some.inj h]; exact .head _
    | false => rw [q] at h; exact .tail _ (ih h)
theorem lookup_map {f : α × β → α × β} (hf : ∀ p, (f p).1 = p.1) (h : l.lookup a = some b) : (l.map f).lookup a = some (f (a, b)).2 := by
  induction l with
  | nil => exact nomatch h
  | cons p r ih =>
    obtain ⟨x, y⟩ := p
    rw [List.lookup_cons] at h
    rw [List.map_cons, show f (x, y) = (x, (f (x, y)).2) from Prod.ext (hf _) rfl, List.lookup_cons]
    cases q : a == x with
    | true => rw [q] at h; rw [← Option.some.inj h, eq_of_beq q]
    | false => rw [q] at h; exact ih h
end
theorem ite_fst {c : Prop} [Decidable c] {n : Str} {k k' : NameKind} : (if c then (n, k) else (n, k')).1 = n := by split <;> rfl
theorem comp_kind {scope : Scope} {env : Env} {cl : List (Str × Addr)} {B : Addr} {x : Str} {k : NameKind} (h : scope.names.lookup x = some k) :
    (compEnvC scope cl B env).kindOf x = some k ∨ (k = .free ∧ (compEnvC scope cl B env).kindOf x = some .cell) := by
  have e := lookup_map (f := fun (n, k) => if (k == NameKind.free && env.scope.kind == .function && env.kindOf n == some .cell) = true then (n, NameKind.cell) else (n, k)) (fun p => ite_fst) h
  by_cases hc : (k == NameKind.free && env.scope.kind == .function && env.kindOf x == some .cell) = true
  · refine .inr ⟨?_, e.trans (congrArg (fun p : Str × NameKind => some p.2) (if_pos hc))⟩
    cases k <;> first | rfl | exact nomatch hc
  · exact .inl (e.trans (congrArg (fun p : Str × NameKind => some p.2) (if_neg hc)))

theorem closure_go {env : Env} {names : List (Str × NameKind)} : ∀ (cs : List (Str × Addr)), (∀ y ∈ names, y.2 = .free → ∃ c, env.cells.lookup y.1 = some c) →
    (∀ y c, cs.lookup y = some c → env.cells.lookup y = some c) →
    ∃ cl : List (Str × Addr), (forIn names cs fun (p : Str × NameKind) (r : List (Str × Addr)) =>
      (if (p.2 == NameKind.free) = true then do
        let c ← cellOf env p.1
        pure (ForInStep.yield ((p.1, c) :: r))
      else pure (ForInStep.yield r) : Sem (ForInStep (List (Str × Addr))))) = pure cl ∧ (∀ y c, cl.lookup y = some c → env.cells.lookup y = some c) ∧
      ∀ y, ((y, NameKind.free) ∈ names ∨ (cs.lookup y).isSome = true) → (cl.lookup y).isSome = true := by
  induction names with
  | nil => exact fun cs _ h => ⟨cs, rfl, h, fun y hy => hy.elim (fun h => nomatch h) id⟩
  | cons p r ih =>
    intro cs hn h
    obtain ⟨n, k⟩ := p
    rw [List.forIn_cons]
    by_cases hk : (k == NameKind.free) = true
    · have hk' : k = .free := by cases k <;> first | rfl | exact nomatch hk
      subst hk'
      obtain ⟨c, hc⟩ := hn (n, .free) (.head _) rfl
      have e1 : cellOf env n = pure c := by unfold cellOf; rw [hc]
      obtain ⟨cl, h1, h2, h3⟩ := ih ((n, c) :: cs) (fun y hy => hn y (.tail _ hy)) (fun y c' hy => by
        rw [List.lookup_cons] at hy
        cases q : y == n with
        | true => rw [q] at hy; rw [eq_of_beq q, ← Option.some.inj hy]; exact hc
        | false => rw [q] at hy; exact h y c' hy)
      refine ⟨cl, ?_, h2, fun y hy => h3 y ?_⟩
      · rw [if_pos hk, e1]; exact h1
      · rw [List.lookup_cons]
        cases q : y == n with
        | true => exact .inr rfl
        | false => exact hy.imp_left fun hy => (List.mem_cons.mp hy).elim (fun e => nomatch q.symm.trans (beq_iff_eq.mpr (Prod.mk.inj e).1)) id
    · obtain ⟨cl, h1, h2, h3⟩ := ih cs (fun y hy => hn y (.tail _ hy)) h
      refine ⟨cl, ?_, h2, fun y hy => h3 y (hy.imp_left fun hy => (List.mem_cons.mp hy).elim (fun e => absurd (beq_iff_eq.mpr (Prod.mk.inj e).2.symm) hk) id)⟩
      rw [if_neg hk]; exact h1
theorem closure_of {env : Env} {scope : Scope} (h : ∀ y ∈ scope.names, y.2 = .free → ∃ c, env.cells.lookup y.1 = some c) :
    ∃ cl, closureFor scope env = pure cl ∧ ∀ y, scope.names.lookup y = some .free → cl.lookup y = env.cells.lookup y := by
  obtain ⟨cl, h1, h2, h3⟩ := closure_go (env := env) [] h (fun y c hy => nomatch hy)
  refine ⟨cl, ?_, fun y hy => ?_⟩
  · unfold closureFor
    show (forIn scope.names [] _ >>= fun cs => pure cs) = _
    rw [show (forIn scope.names ([] : List (Str × Addr)) _ : Sem (List (Str × Addr))) = pure cl from h1]
    rfl
  · have h4 := h3 y (.inl (lookup_mem hy))
    cases q : cl.lookup y with
    | none => rw [q] at h4; exact nomatch h4
    | some c => exact (h2 y c q).symm

section
variable {xs : List Slt} {y : Slt}
theorem get_old {i : Nat} (h : i < xs.length) : getS (xs ++ [y]) i = getS xs i := by
  induction xs generalizing i with
  | nil => exact nomatch h
  | cons a r ih => cases i with
    | zero => rfl
    | succ i => exact ih (Nat.lt_of_succ_lt_succ h)
theorem get_last : getS (xs ++ [y]) xs.length = y := by
  induction xs with
  | nil => rfl
  | cons a r ih => exact ih
end
section
variable {C : Cx} {A : Around} {env : Env} {Ok Ok' : Addr → Prop} {ρ : List Slt} {s s' : Shared}
theorem Val.ext' {W : Wld} {l : Nat} {v : Value} {x : PV} (r : Val W s.heap Ok l v x) (e : Ext s s') (h : ∀ b, Ok b → SeqAt s.heap b → Ok' b) : Val W s'.heap Ok' l v x := by
  have hk : Moves s.heap s'.heap Ok Ok' := fun a ha hs => ⟨h a ha hs, fun o => e.keep a o⟩
  refine ⟨?_, r.z⟩
  obtain ⟨r, _⟩ := r
  cases r with
  | zero r => exact .zero (r.mono hk)
  | one q r => exact .one (q.at fun o => e.keep _ o) (r.mono hk)
  | two q r => exact .two (q.at fun o => e.keep _ o) (r.mono hk fun b _ o => e.keep b o)
  | dict q => exact .dict (q.mono hk fun o => e.keep _ o)
theorem here_comp {scope : Scope} {x : Str} {cl : List (Str × Addr)} {B : Addr} {m : Str → Option Value} {v : Value} {px : PV} (H : Here C A env Ok ρ s) (hc : CompOk C.cc scope x)
    (hcl : ∀ y, scope.names.lookup y = some .free → cl.lookup y = env.cells.lookup y) (e : Ext s s') (hn : s'.heap.Ns B m) (hv : m x = some v) (hr : Rep s'.heap Ok' v px) (hz : Sz px) (fr : Fresh Ok' s') (hok : ∀ b, Ok b → SeqAt s.heap b → Ok' b) :
    Here (C.comp scope x) A (compEnvC scope cl B env) Ok' (ρ ++ [some (px, 0)]) s' where
  room := H.room
  on := H.on.ext e
  fresh := fr
  kind := hc.kind
  globals := H.globals
  builtins := H.builtins
  len := by rw [List.length_append, H.len]; rfl
  get := by
    intro y i pv l hy hρ
    have hy : (if y = x then some C.cc.n else if scope.names.lookup y = some .free then C.cc.σ y else none) = some i := hy
    by_cases q : y = x
    · rw [if_pos q] at hy
      rw [← Option.some.inj hy, ← H.len, get_last] at hρ
      cases hρ
      exact ⟨v, .inl ⟨q ▸ lookup_relabel_local hc.loc, m, hn, q ▸ hv⟩, .zero hr, hz⟩
    · rw [if_neg q] at hy
      by_cases q2 : scope.names.lookup y = some .free
      · rw [if_pos q2] at hy
        rw [get_old (by rw [H.len]; exact hc.lt y i hy)] at hρ
        obtain ⟨u, h1, h2⟩ := H.get y i pv l hy hρ
        obtain ⟨hk, c, hc'⟩ := H.cl y (hc.free _ (lookup_mem q2) rfl)
        refine ⟨u, ?_, h2.ext' e hok⟩
        rcases h1 with ⟨h1, _⟩ | ⟨_, c', h3, h4⟩
        · exact hk.elim (fun hk => nomatch h1.symm.trans hk) fun hk => nomatch h1.symm.trans hk
        · exact .inr ⟨(comp_kind q2).elim .inr fun h => .inl h.2, c', (hcl y q2).trans h3, h4.keeps e.keep⟩
      · rw [if_neg q2] at hy; exact nomatch hy
  gl := fun y hy => (comp_kind (of_decide_eq_true hy)).elim id fun h => nomatch h.1
  cl := fun y hy =>
    have q := of_decide_eq_true hy
    let ⟨_, c, hc'⟩ := H.cl y (hc.free _ (lookup_mem q) rfl)
    ⟨(comp_kind q).elim .inr fun h => .inl h.2, c, (hcl y q).trans hc'⟩

/-- the test of a comprehension -/
inductive IfsIs (C : Cx) : ME → List Expr → Prop
  | none : IfsIs C (.lit (.bool true)) []
  | some {c : ME} {e : Expr} : ST C c e → IfsIs C c [e]
theorem ifs_sound {cond : ME} {ifs : List Expr} {Z : Bool → Prop} {E : Value → Shared → Prop} {Q : Bool → Shared → Prop} (hi : IfsIs C cond ifs) (H : Here C A env Ok ρ s) (hb : (evA C.Γ cond ρ).tru Z) (q : ∀ b s', Ext s s' → Z b → Q b s') :
    wpAny C.W.M A (forIn ifs true fun c r => if r = true then do let ok ← isTrue c env (eval c env); pure (ForInStep.yield ok) else pure (ForInStep.yield r)) Q E s := by
  cases hi with
  | none => exact wpAny_tests_nil (q _ _ (.refl _) hb)
  | some hc => exact wpAny_tests_one (hc A env Ok ρ s _ H hb E _ fun b s' e z => q b s' e z)

/-- the places that a comprehension turns -/
def Chg (D B : Addr) (wr : List Addr) (b : Addr) : Prop := b = D ∨ b = B ∨ b ∈ wr
structure CInv (C : Cx) (Ok : Addr → Prop) (D B : Addr) (wr : List Addr) (St : Nat → Heap → Prop) (s0 s1 : Shared) (f : PV → (Bool → Prop) → Prop) (g : PV → (PV → Nat → Prop) → Prop) (xs : List PV) (Z : List PV → Prop) (i : Nat) (vs : List Value) (ys : List PV) (m : Str → Option Value) (s' : Shared) : Prop where
  le : i ≤ xs.length
  len : ys.length ≤ i
  kb : KeepBut (Chg D B wr) s1 s'
  st : St i s'.heap
  pl : s'.heap.PlainList D vs.toArray
  ra : RepAll s'.heap (fun b => Ok b ∧ ¬ Chg D B wr b) vs ys
  sz : ∀ y ∈ ys, Sz y
  ns : s'.heap.Ns B m
  run : compP f g (xs.drop i) fun zs => Z (ys ++ zs)
theorem comp_loop {elt iter : Expr} {x : Str} {px : Pos} {ifs : List Expr} {scope : Scope} {pos : Pos} {cl : List (Str × Addr)} {me cond : ME} {s0 s1 s2 : Shared} {I : Addr} {fp wr : List Addr} {P : Nat → Value → Prop} {St : Nat → Heap → Prop} {xs : List PV} {D B : Addr} {R : Result → Shared → Prop} {m : Str → Option Value} {z : Prop} {Z : List PV → Prop}
    (H : Here C A env Ok ρ s0) (hc : CompOk C.cc scope x) (hcl : ∀ y, scope.names.lookup y = some .free → cl.lookup y = env.cells.lookup y)
    (he : SE (C.comp scope x) me elt) (hi : IfsIs (C.comp scope x) cond ifs)
    (e1 : Ext s0 s1) (hit : Itr C.W Ok z s0 s1 xs I fp wr P St) (hxz : Sz (.list xs)) (e2 : Ext s1 s2) (hD : s1.heap.get? D = none) (hB : s1.heap.get? B = none) (hDB : D ≠ B) (hD2 : s2.heap.PlainList D #[]) (hB2 : s2.heap.Ns B m) (hDf : D ∉ fp) (hBf : B ∉ fp)
    (hev : compP (fun x => (evA C.Γ cond (ρ ++ [some (x, 0)])).tru) (fun x => (evA C.Γ me (ρ ++ [some (x, 0)])).val) xs Z)
    (hR : ∀ s' vs ys m', Ext s0 s' → s'.heap.PlainList D vs.toArray → RepAll s'.heap (fun b => Ok b ∧ b ≠ D) vs ys → Sz (.list ys) → Z ys → s'.heap.Ns B m' → R (.ok .next) s') :
    codeAny C.W.M A (.compLoop (.ListComp elt [⟨.Name x px, iter, ifs, 0⟩] scope pos) 0 (.ref I) (.ref D) (compEnvC scope cl B env)) R s2 := by
  have hw := hit.walks A H.room.hd
  have hDw : D ∉ wr := fun h => hDf (hw.sub _ h)
  have hBw : B ∉ wr := fun h => hBf (hw.sub _ h)
  have nw1 : ∀ b, Chg D B wr b → b ∉ wr → s1.heap.get? b = none := fun b h hb => h.elim (fun e => e ▸ hD) fun h => h.elim (fun e => e ▸ hB) fun h => absurd h hb
  have nw : ∀ b, Chg D B wr b → s0.heap.get? b = none := fun b h => h.elim (fun e => e ▸ e1.fresh hD) fun h => h.elim (fun e => e ▸ e1.fresh hB) (hit.new b)
  have hok : ∀ b, Ok b → SeqAt s0.heap b → Ok b ∧ ¬ Chg D B wr b := fun b hb ⟨_, _, _, ho, _⟩ => ⟨hb, fun h => nomatch (nw b h).symm.trans ho⟩
  have mv : ∀ {sa sb : Shared}, KeepBut (Chg D B wr) sa sb → Moves sa.heap sb.heap (fun b => Ok b ∧ ¬ Chg D B wr b) (fun b => Ok b ∧ ¬ Chg D B wr b) := fun kb => kb.moves fun b hb _ => ⟨hb, hb.2⟩
  refine codeAny_compLoop_tests (I := fun n s' => ∃ i vs ys m', n = xs.length - i ∧ CInv C Ok D B wr St s0 s1 (fun x => (evA C.Γ cond (ρ ++ [some (x, 0)])).tru) (fun x => (evA C.Γ me (ρ ++ [some (x, 0)])).val) xs Z i vs ys m' s') ?_ xs.length
    ⟨0, [], [], m, rfl, Nat.zero_le _, Nat.zero_le _, e2.but, hw.frame _ _ _ hit.st fun b _ o => e2.keep b o, hD2, .nil, (fun _ h => nomatch h), hB2, hev⟩
  rintro n s' ⟨i, vs, ys, m', rfl, V⟩
  by_cases hlt : i < xs.length
  · have hx0 : xs[i]? = some xs[i] := List.getElem?_eq_getElem hlt
    have hcf := V.run
    rw [List.drop_eq_getElem_cons hlt] at hcf
    revert hcf hx0
    generalize xs[i] = x0
    intro hx0 hcf
    refine hw.item i s' _ _ hlt V.st fun v h' tk hp st' hk => ?_
    have kba : KeepBut (Chg D B wr) s' { s' with heap := h', toks := tk } := ⟨⟨rfl, rfl⟩, fun b o hb ho => hk b o (fun h => hb (.inr (.inr h))) ho⟩
    have nsa : h'.Ns B m' := V.ns.at' fun o => hk B o hBw
    refine wpAny_assign_Name (wpAny_storeName_local (m := m') (lookup_relabel_local hc.loc) nsa (fun hb nsb sbb => ?_) (by unfold compEnvC relabel; rw [hc.kind]; rfl))
    have kb1 : KeepBut (Chg D B wr) s1 { s' with heap := hb, toks := tk + 1 } := V.kb.trans (kba.trans (KeepBut.of_same (s := { s' with heap := h', toks := tk }) sbb (.inr (.inl rfl)) (tk + 1)))
    have kb2 : KeepBut (Chg D B wr) s' { s' with heap := hb, toks := tk + 1 } := kba.trans (KeepBut.of_same (s := { s' with heap := h', toks := tk }) sbb (.inr (.inl rfl)) (tk + 1))
    have stb : St (i + 1) hb := hw.frame _ _ _ st' fun b hb o ho => sbb.extBut b o (fun h => hBf ((show b = B from h) ▸ hb)) ho
    have plb : hb.PlainList D vs.toArray := V.pl.at fun o ho => sbb.extBut D o hDB (hk D o hDw ho)
    revert nsb kb1 kb2 stb plb
    generalize hsb : ({ s' with heap := hb, toks := tk + 1 } : Shared) = sb
    intro nsb kb1 kb2 stb plb
    have nsb : sb.heap.Ns B (fun y => if y = x then some v else m' y) := by rw [← hsb]; exact nsb
    have stb : St (i + 1) sb.heap := by rw [← hsb]; exact stb
    have plb : sb.heap.PlainList D vs.toArray := by rw [← hsb]; exact plb
    have exb : Ext s0 sb := KeepBut.after e1 kb1 nw
    have Hb := here_comp (Ok' := fun b => Ok b ∧ ¬ Chg D B wr b) H hc hcl exb nsb (if_pos rfl) ((hit.item i v x0 hx0 hp).mono (kb1.moves fun b hb ⟨_, _, _, ho, _⟩ =>
        have : ¬ Chg D B wr b := fun h => nomatch (nw1 b h hb.2).symm.trans ho
        ⟨⟨hb.1, this⟩, this⟩)) (hxz.list_all _ (List.mem_of_getElem? hx0)) (fun a ha => ⟨H.fresh a (exb.fresh ha), fun h => h.elim (fun e => let ⟨_, ho⟩ := plb; nomatch (e ▸ ha).symm.trans ho) fun h => h.elim (fun e => let ⟨_, _, _, ho, _⟩ := nsb; nomatch (e ▸ ha).symm.trans ho) fun h => hit.there _ _ stb a h ha⟩) hok
    refine ifs_sound (C := C.comp scope x) hi Hb hcf fun b sc ec z => ?_
    cases b with
    | true =>
      rw [if_pos rfl]
      refine he A _ _ _ sc _ (Hb.ext ec) z _ _ fun w sd y l ed rw_ hz => ?_
      obtain ⟨rfl, hz⟩ := l0_inv hz
      have ex := ec.trans ed
      have hyl : (ys ++ [y]).length ≤ i + 1 := by rw [List.length_append]; exact Nat.succ_le_succ V.len
      refine wpAny_list_append_plain (plb.at fun o => ex.keep D o) (fun h5 pl5 sb5 => ?_) (by rw [List.size_toArray, V.ra.length]; exact lst_size (Nat.le_trans V.len (Nat.le_trans V.le hxz.list_len)))
      have kb5 : KeepBut (Chg D B wr) sd { sd with heap := h5 } := KeepBut.of_same sb5 (.inl rfl) sd.toks
      exact ⟨xs.length - (i + 1), Nat.sub_succ_lt_self _ _ hlt, i + 1, vs ++ [w], ys ++ [y], _, rfl, hlt, hyl, kb1.trans (ex.but.trans kb5), hw.frame _ _ _ stb fun b hb o ho => sb5.extBut b o (fun h => hDf (h ▸ hb)) (ex.keep b o ho), by rw [← List.push_toArray]; exact pl5,
        (((V.ra.mono (mv kb2)).ext ex).append (.cons rw_.r.rep0 .nil)).mono (mv kb5), fun u hu => (List.mem_append.mp hu).elim (V.sz u) fun h => List.mem_singleton.mp h ▸ rw_.z,
        (nsb.keeps ex.keep).at' fun o => sb5.extBut B o (Ne.symm hDB), by simp only [List.append_assoc]; exact hz⟩
    | false =>
      rw [if_neg (by decide)]
      exact ⟨xs.length - (i + 1), Nat.sub_succ_lt_self _ _ hlt, i + 1, vs, ys, _, rfl, hlt, Nat.le_succ_of_le V.len, kb1.trans ec.but, hw.frame _ _ _ stb fun b _ o => ec.keep b o, plb.at fun o => ec.keep D o, (V.ra.mono (mv kb2)).ext ec, V.sz, nsb.keeps ec.keep, z⟩
  · have hin' : i = xs.length := Nat.le_antisymm V.le (Nat.not_lt.mp hlt)
    subst hin'
    have hcf := V.run
    rw [List.drop_length] at hcf
    refine hw.done s' _ _ V.st fun h' tk hk => ?_
    have kba : KeepBut (Chg D B wr) s' { s' with heap := h', toks := tk } := ⟨⟨rfl, rfl⟩, fun b o hb ho => hk b o (fun h => hb (.inr (.inr h))) ho⟩
    exact hR _ vs ys m' (KeepBut.after e1 (V.kb.trans kba) nw) (V.pl.at fun o => hk D o hDw) (V.ra.mono (kba.moves fun b hb _ => ⟨⟨hb.1, fun h => hb.2 (.inl h)⟩, hb.2⟩)) (.list (Nat.le_trans V.len hxz.list_len) V.sz) (List.append_nil ys ▸ hcf) (V.ns.at' fun o => hk B o hBw)

def notSet : Expr → Bool
  | .Set _ _ _ => false
  | _ => true
theorem folded_plain {e : Expr} (h : notSet e = true) (env : Env) (x : Value) : foldedSetIterable e env x = pure x := by
  cases e with
  | Set _ _ _ => exact nomatch h
  | _ => rfl
theorem comp_sound {elt iter : Expr} {x : Str} {px : Pos} {ifs : List Expr} {scope : Scope} {pos fpos : Pos} {me src cond : ME} {s0 : Shared} {use : Option (Value → Sem Unit)} {E Q : Value → Shared → Prop} {Z : List PV → Prop}
    (H : Here C A env Ok ρ s0) (hc : CompOk C.cc scope x) (hs : SI C src iter) (hns : notSet iter = true)
    (he : SE (C.comp scope x) me elt) (hi : IfsIs (C.comp scope x) cond ifs)
    (hev : (evA C.Γ src ρ).its fun xs _ => compP (fun x => (evA C.Γ cond (ρ ++ [some (x, 0)])).tru) (fun x => (evA C.Γ me (ρ ++ [some (x, 0)])).val) xs Z)
    (hR : ∀ D B s' vs ys m', s0.heap.get? D = none → s0.heap.get? B = none → D ≠ B → Ext s0 s' → s'.heap.PlainList D vs.toArray → RepAll s'.heap (fun b => Ok b ∧ b ≠ D) vs ys → Sz (.list ys) → Z ys → s'.heap.Ns B m' → compPost C.W.M A E use Q (.ref D) B (.ok .next) s') :
    wpAny C.W.M A (comprehension (.ListComp elt [⟨.Name x px, iter, ifs, 0⟩] scope pos) scope env fpos (newList []) false (eval iter env) use) Q E s0 := by
  obtain ⟨cl, hclos, hcl⟩ := closure_of (env := env) (scope := scope) fun y hy hf => (H.cl y.1 (hc.free y hy hf)).2
  refine wpAny_comprehension_free (use := use) rfl (folded_plain hns env) hclos hc.kind hc.names (hs A env Ok ρ s0 _ H hev E _ fun it s1 xs l e1 hit hxz hcp => ?_)
  obtain ⟨I, fp, wr, P, St, rfl, hit⟩ := hit
  refine wpAny_newObj_type (wpAny_newFunctionEnv hc.nocell (fun y hy => nomatch hy) (fun h₁ hns₁ hsb₁ => ?_) hc.kind)
  revert hns₁ hsb₁
  show Heap.Ns h₁ (s1.heap.push { cls := .type "list", dict := none, data := .seq ([] : List Value).toArray }).objs.size _ → Heap.SameBut _ _ _ → _
  generalize hH2 : s1.heap.push { cls := .type "list", dict := none, data := .seq ([] : List Value).toArray } = H2
  intro hns₁ hsb₁
  have hC : H2.objs.size = s1.heap.objs.size + 1 := by rw [← hH2, Heap.size_push]
  have hDC : s1.heap.objs.size ≠ H2.objs.size := by rw [hC]; exact Nat.ne_of_lt (Nat.lt_succ_self _)
  have ge : ∀ b, s1.heap.objs.size ≤ b → s1.heap.get? b = none := fun b hb => by
    cases q : s1.heap.get? b with
    | none => rfl
    | some o => exact absurd (Heap.lt_size q) (Nat.not_lt.mpr hb)
  have hle : s1.heap.objs.size ≤ H2.objs.size := by rw [hC]; exact Nat.le_succ _
  have hC2 := ge _ hle
  have old : ∀ b o, s1.heap.get? b = some o → h₁.get? b = some o := fun b o e => hsb₁.extBut b o (fun q => nomatch (q ▸ hC2).symm.trans e) (Heap.get?_push_of_some _ (hH2 ▸ Heap.get?_push_of_some _ e))
  have hacc : h₁.PlainList s1.heap.objs.size #[] := ⟨_, hsb₁.extBut _ _ hDC (Heap.get?_push_of_some _ (hH2 ▸ Heap.get?_push_size _ rfl))⟩
  have e2 : Ext s1 { s1 with heap := h₁, toks := s1.toks + ([] : List (Str × Value)).length } := ⟨⟨rfl, rfl⟩, old⟩
  have nf : ∀ b, s1.heap.objs.size ≤ b → b ∉ fp := fun b hb h => Nat.lt_irrefl b (Nat.lt_of_lt_of_le (hit.old b h) hb)
  have loop := comp_loop (elt := elt) (iter := iter) (px := px) (pos := pos) (R := compPost C.W.M A E use Q (.ref s1.heap.objs.size) H2.objs.size) H hc hcl he hi e1 hit hxz e2 (get_size _) hC2 hDC hacc hns₁ (nf _ (Nat.le_refl _)) (nf _ hle) hcp
    fun s' vs ys m' ex pl ra sz z ns => hR _ _ s' vs ys m' (e1.fresh (get_size _)) (e1.fresh hC2) hDC ex pl ra sz z ns
  have hw := hit.walks A H.room.hd
  exact codeAny_compStart_list loop (hw.self 0 _ _ _ (hw.frame _ _ _ hit.st fun b _ o => old b o) loop)
theorem sn_comp {elt iter : Expr} {x : Str} {px : Pos} {ifs : List Expr} {scope : Scope} {pos : Pos} {me src cond : ME}
    (hc : CompOk C.cc scope x) (hs : SI C src iter) (hns : notSet iter = true)
    (he : SE (C.comp scope x) me elt) (hi : IfsIs (C.comp scope x) cond ifs) : SN C (.comp me src cond) (.ListComp elt [⟨.Name x px, iter, ifs, 0⟩] scope pos) :=
  fun A env Ok ρ s Q H h E R q => by
    rw [eval_ListComp]
    exact comp_sound (use := none) H hc hs hns he hi h fun D B s' vs ys m' hD hB hDB ex pl ra sz z ns => ⟨m', ns, fun h' sb =>
      have kb : KeepBut (fun b => b = B) s' { s' with heap := h' } := KeepBut.of_same (X := fun b => b = B) sb rfl s'.toks
      q D vs _ ys (KeepBut.after ex kb fun b e => e ▸ hB) hD (pl.at fun o => sb.extBut D o hDB) (ra.mono (kb.moves fun b hb ⟨_, _, _, ho, hd⟩ => ⟨hb, fun e => by
        obtain ⟨o', es, ep, ho', hd', _⟩ := ns
        rw [e, ho'] at ho; cases ho
        rw [hd'] at hd; exact nomatch hd⟩)) sz z⟩
theorem SN.se {me : ME} {e : Expr} (h : SN C me e) : SE C me e :=
  fun A env Ok ρ s Q H hz E R q => h A env Ok ρ s Q H hz E R fun a vs s1 xs e1 ha hp r hs h1 => q _ s1 _ 0 e1 ⟨.zero (.list (H.fresh a ha) hp (r.weaken fun _ x => x.1)), hs⟩ h1
end
end Mine
end
noncomputable section
namespace Mine
open Builtin

/-! ## the state of a def's frame -/
/-- what stands in a name, and whose places it owns -/
inductive BOwn (W : Wld) (h : Heap) (Ok o : Addr → Prop) : Nat → Value → PV → Prop
  | zero {v : Value} {x : PV} : Rep h Ok v x → BOwn W h Ok o 0 v x
  | one {a : Addr} {vs : List Value} {xs : List PV} : o a → h.PlainList a vs.toArray → RepAll h Ok vs xs → BOwn W h Ok o 1 (.ref a) (.list xs)
  | two {a : Addr} {bs : List Addr} {xs : List PV} : o a → (∀ b ∈ bs, o b) → (a :: bs).Nodup → h.PlainList a (bs.map Value.ref).toArray → RowsRep h Ok bs xs → BOwn W h Ok o 2 (.ref a) (.list xs)
  | dict {a : Addr} {es : List (Int × PV)} : o a → IsDictI W h Ok a es → BOwn W h Ok o 1 (.ref a) (.dict es)
/-- what a frame stands in, and what it must keep -/
structure Fr where
  A : Around
  env : Env
  Kp : Addr → Obj → Prop
  g : Shared
  Ok : Addr → Prop
/-- the frame's own places -/
def Plc (env : Env) (b : Addr) : Prop := b = env.locals ∨ ∃ x, env.cells.lookup x = some b
def Okc (Ok : Addr → Prop) (own : Nat → Addr → Prop) (b : Addr) : Prop := Ok b ∧ ∀ i, ¬ own i b
structure StS (C : Cx) (F : Fr) : Prop where
  room : Room F.A C.k
  on : ∀ h : Heap, (∀ b o, F.Kp b o → h.get? b = some o) → C.W.On h
  kind : F.env.scope.kind = .function
  globals : F.env.globals = mainGlobals
  builtins : F.env.builtins = builtinsNs
  gl : ∀ x, C.cc.gl x = true → F.env.kindOf x = some .globalImplicit
  cl : ∀ x, C.cc.cl x = true → (F.env.kindOf x = some .cell ∨ F.env.kindOf x = some .free) ∧ ∃ c, F.env.cells.lookup x = some c
  st : ∀ x i, C.cc.σ x = some i → F.env.kindOf x = some .local ∨ (F.env.kindOf x = some .cell ∧ ∃ c, F.env.cells.lookup x = some c)
  cinj : ∀ x y c, F.env.cells.lookup x = some c → F.env.cells.lookup y = some c → x = y
  plc : ∀ b, Plc F.env b → ∀ o, ¬ F.Kp b o
def SlotIs (W : Wld) (F : Fr) (own : Nat → Addr → Prop) (s : Shared) (x : Str) (i : Nat) (y : Slt) : Prop :=
  ∀ pv l, y = some (pv, l) → ∃ v, Holds s.heap F.env x v ∧ BOwn W s.heap (Okc F.Ok own) (own i) l v pv ∧ Sz pv
structure StR (C : Cx) (F : Fr) (own : Nat → Addr → Prop) (ρ : List Slt) (s : Shared) : Prop where
  st : StS C F
  kept : ∀ b o, F.Kp b o → s.heap.get? b = some o
  same : Same F.g s
  fresh : Fresh F.Ok s
  len : ρ.length = C.cc.n
  get : ∀ x i, C.cc.σ x = some i → SlotIs C.W F own s x i (getS ρ i)
  ns : ∃ m, s.heap.Ns F.env.locals m
  cells : ∀ x c, F.env.cells.lookup x = some c → ∃ v0, s.heap.IsCell c v0
  owned : ∀ i a, own i a → s.heap.get? a ≠ none ∧ ¬ Plc F.env a ∧ F.Ok a ∧ ∀ o, ¬ F.Kp a o
  inj : ∀ i j a, own i a → own j a → i = j
structure CC.Good (cc : CC) : Prop where
  lt : ∀ x i, cc.σ x = some i → i < cc.n
  inj : ∀ x y i, cc.σ x = some i → cc.σ y = some i → x = y

section
variable {W : Wld} {Ok Ok' o o' : Addr → Prop} {l : Nat} {v : Value} {x : PV} {s s' : Shared} {X : Addr → Prop} {h : Heap}
theorem BOwn.b (r : BOwn W h Ok o l v x) : BRep W h Ok l v x := by
  cases r with
  | zero r => exact .zero r
  | one _ q r => exact .one q r
  | two _ _ _ q r => exact .two q r
  | dict _ q => exact .dict q
theorem BOwn.move (r : BOwn W s.heap Ok o l v x) (e : KeepBut X s s') (h1 : ∀ b, Ok b → SeqAt s.heap b → Ok' b ∧ ¬ X b) (h2 : ∀ b, o b → ¬ X b ∧ o' b) : BOwn W s'.heap Ok' o' l v x := by
  cases r with
  | zero r => exact .zero (r.mono (e.moves h1))
  | one ho q r => exact .one (h2 _ ho).2 (q.at fun o => e.keep _ o (h2 _ ho).1) (r.mono (e.moves h1))
  | two ho hb hn q r => exact .two (h2 _ ho).2 (fun b hm => (h2 _ (hb b hm)).2) hn (q.at fun o => e.keep _ o (h2 _ ho).1) (r.mono (e.moves h1) fun b hm o => e.keep b o (h2 _ (hb b hm)).1)
  | dict ho q => exact .dict (h2 _ ho).2 (q.mono (e.moves h1) fun o => e.keep _ o (h2 _ ho).1)
theorem ns_cell {a c : Addr} {m : Str → Option Value} {v : Option Value} (x : h.Ns a m) (y : h.IsCell c v) : a ≠ c := by
  rintro rfl
  obtain ⟨o, es, ep, ho, hd, _⟩ := x
  obtain ⟨o', ho', hd'⟩ := y
  rw [ho] at ho'; cases ho'
  exact nomatch hd.symm.trans hd'
theorem ns_seq {a : Addr} {m : Str → Option Value} (x : h.Ns a m) : ¬ SeqAt h a := by
  rintro ⟨o', _, _, ho', hd'⟩
  obtain ⟨o, es, ep, ho, hd, _⟩ := x
  rw [ho] at ho'; cases ho'
  exact nomatch hd.symm.trans hd'
theorem cell_seq {a : Addr} {v : Option Value} (x : h.IsCell a v) : ¬ SeqAt h a := by
  rintro ⟨o', _, _, ho', hd'⟩
  obtain ⟨o, ho, hd⟩ := x
  rw [ho] at ho'; cases ho'
  exact nomatch hd.symm.trans hd'
theorem ns_inj {a : Addr} {m m' : Str → Option Value} (x : h.Ns a m) (y : h.Ns a m') : m = m' := by
  obtain ⟨o, es, ep, ho, hd, _, hf⟩ := x
  obtain ⟨o', es', ep', ho', hd', _, hf'⟩ := y
  rw [ho] at ho'; cases ho'
  rw [hd] at hd'; cases hd'
  funext n
  rw [← hf n, hf' n]
theorem IsCell.to {h' : Heap} {a : Addr} {v : Option Value} (x : h.IsCell a v) (e : ∀ o, h.get? a = some o → h'.get? a = some o) : h'.IsCell a v := let ⟨o, ho, hd⟩ := x; ⟨o, e o ho, hd⟩
theorem Holds.to {h' : Heap} {env : Env} {x : Str} {v : Value} (H : Holds h env x v) (k : ∀ b, Plc env b → ∀ o, h.get? b = some o → h'.get? b = some o) : Holds h' env x v :=
  H.imp (fun ⟨a, m, hn, e⟩ => ⟨a, m, hn.at' (k _ (.inl rfl)), e⟩) fun ⟨a, c, e, hc⟩ => ⟨a, c, e, IsCell.to hc (k c (.inr ⟨_, e⟩))⟩
theorem none_ne {α : Type} {o : Option α} (h : o = none) (h' : ∃ x, o = some x) : False := h'.elim fun _ e => nomatch h.symm.trans e
theorem ne_some {α : Type} {o : Option α} (h : o ≠ none) : ∃ x, o = some x := by
  cases o with
  | none => exact absurd rfl h
  | some x => exact ⟨x, rfl⟩
end
section
variable {ρ : List Slt} {y z : Slt} {i j : Nat}
theorem get_set {p : PV × Nat} (h : getS (setS ρ i y) j = some p) : (j = i ∧ y = some p) ∨ (j ≠ i ∧ getS ρ j = some p) := by
  induction ρ generalizing i j with
  | nil => exact nomatch h
  | cons a r ih => cases i with
    | zero => cases j with
      | zero => exact .inl ⟨rfl, h⟩
      | succ j => exact .inr ⟨Nat.succ_ne_zero j, h⟩
    | succ i => cases j with
      | zero => exact .inr ⟨(Nat.succ_ne_zero i).symm, h⟩
      | succ j => exact (ih h).imp (fun q => ⟨congrArg (· + 1) q.1, q.2⟩) fun q => ⟨fun e => q.1 (Nat.succ.inj e), q.2⟩
theorem set_len : (setS ρ i y).length = ρ.length := by
  induction ρ generalizing i with
  | nil => rfl
  | cons a r ih => cases i with
    | zero => rfl
    | succ i => exact congrArg (· + 1) ih
end

section
variable {C : Cx} {F : Fr} {own own' : Nat → Addr → Prop} {ρ ρ' : List Slt} {s s' : Shared} {X : Addr → Prop}
theorem StR.here (S : StR C F own ρ s) : Here C F.A F.env (Okc F.Ok own) ρ s where
  room := S.st.room
  on := S.st.on _ S.kept
  fresh := fun a ha => ⟨S.fresh a ha, fun i hi => (S.owned i a hi).1 ha⟩
  kind := S.st.kind
  globals := S.st.globals
  builtins := S.st.builtins
  len := S.len
  get := fun x i pv l h1 h2 => let ⟨v, a, b, z⟩ := S.get x i h1 pv l h2; ⟨v, a, b.b, z⟩
  gl := S.st.gl
  cl := S.st.cl
theorem StR.plc_some (S : StR C F own ρ s) {b : Addr} (h : Plc F.env b) : ∃ o, s.heap.get? b = some o := by
  rcases h with rfl | ⟨x, hx⟩
  · obtain ⟨m, o, _, _, ho, _⟩ := S.ns; exact ⟨o, ho⟩
  · obtain ⟨_, o, ho, _⟩ := S.cells x b hx; exact ⟨o, ho⟩
theorem StR.plc_not (S : StR C F own ρ s) {b : Addr} (hs : SeqAt s.heap b) : ¬ Plc F.env b := by
  rintro (rfl | ⟨x, hx⟩)
  · obtain ⟨m, hm⟩ := S.ns; exact ns_seq hm hs
  · obtain ⟨v0, hv⟩ := S.cells x b hx; exact cell_seq hv hs
/-- a step -/
theorem StR.step (S : StR C F own ρ s) (kb : KeepBut X s s') (hX : ∀ b, X b → (∀ o, ¬ F.Kp b o) ∧ (s'.heap.get? b = none → F.Ok b ∧ ∀ i, ¬ own i b))
    (ns : ∃ m, s'.heap.Ns F.env.locals m) (cells : ∀ x c, F.env.cells.lookup x = some c → ∃ v0, s'.heap.IsCell c v0) (len : ρ'.length = ρ.length)
    (get : ∀ x i, C.cc.σ x = some i → SlotIs C.W F own' s' x i (getS ρ' i))
    (ho : ∀ i a, own' i a → (∃ j, own j a) ∨ (s.heap.get? a = none ∧ s'.heap.get? a ≠ none)) (inj : ∀ i j a, own' i a → own' j a → i = j) : StR C F own' ρ' s' := by
  refine ⟨S.st, fun b o hb => kb.keep b o (fun hx => (hX b hx).1 o hb) (S.kept b o hb), ?_, fun a ha => ?_, len.trans S.len, get, ns, cells, fun i a hi => ?_, inj⟩
  · exact S.same.trans kb.same
  · by_cases hx : X a
    · exact ((hX a hx).2 ha).1
    · refine S.fresh a ?_
      cases q : s.heap.get? a with
      | none => rfl
      | some o => exact nomatch (kb.keep a o hx q).symm.trans ha
  · rcases ho i a hi with ⟨j, h⟩ | ⟨h, h'⟩
    · obtain ⟨h1, h2⟩ := S.owned j a h
      refine ⟨fun hn => ?_, h2⟩
      by_cases hx : X a
      · exact ((hX a hx).2 hn).2 j h
      · obtain ⟨o, ho⟩ := ne_some h1; exact nomatch (kb.keep a o hx ho).symm.trans hn
    · exact ⟨h', fun hp => none_ne h (S.plc_some hp), S.fresh a h, fun o hk => nomatch h.symm.trans (S.kept a o hk)⟩
/-- less is kept, more is ok -/
theorem StR.less {Kp' : Addr → Obj → Prop} {Ok' : Addr → Prop} (S : StR C { F with Kp := Kp', Ok := Ok' } own ρ s) (T : StS C F) (hK : ∀ b o, F.Kp b o → Kp' b o) (hok : ∀ b, Ok' b → F.Ok b) : StR C F own ρ s :=
  ⟨T, fun b o hb => S.kept b o (hK b o hb), S.same, fun a ha => hok a (S.fresh a ha), S.len, fun y j hy pv l hj =>
    let ⟨w, h3, h4, z⟩ := S.get y j hy pv l hj
    ⟨w, h3, h4.move (X := fun _ => False) (KeepBut.refl _ _) (fun b hb hs => ⟨⟨hok b hb.1, hb.2⟩, fun h => h⟩) (fun b hb => ⟨fun h => h, hb⟩), z⟩, S.ns, S.cells, fun i a h => let ⟨h1, h2, h3, h4⟩ := S.owned i a h; ⟨h1, h2, hok a h3, fun o hk => h4 o (hK a o hk)⟩, S.inj⟩
/-- places that nobody sees are turned -/
theorem StR.scr' {Kp' : Addr → Obj → Prop} {Ok' : Addr → Prop} (S : StR C { F with Kp := Kp', Ok := Ok' } own ρ s) (T : StS C F) (hK : ∀ b o, F.Kp b o → Kp' b o) (hok : ∀ b, Ok' b → F.Ok b)
    (kb : KeepBut X s s') (hX : ∀ b, X b → (∀ o, ¬ F.Kp b o) ∧ (s'.heap.get? b = none → F.Ok b)) (hp : ∀ b, X b → ¬ Plc F.env b ∧ (∀ i, ¬ own i b) ∧ (SeqAt s.heap b → ¬ Ok' b)) : StR C F own ρ s' := by
  have kp : ∀ b, Plc F.env b → ∀ o, s.heap.get? b = some o → s'.heap.get? b = some o := fun b hb o => kb.keep b o fun h => (hp b h).1 hb
  refine (S.less T hK hok).step kb (fun b hb => ⟨(hX b hb).1, fun h => ⟨(hX b hb).2 h, (hp b hb).2.1⟩⟩) (let ⟨m, h⟩ := S.ns; ⟨m, h.at' (kp _ (.inl rfl))⟩) (fun y c hy => let ⟨v0, h⟩ := S.cells y c hy; ⟨v0, IsCell.to h (kp c (.inr ⟨y, hy⟩))⟩) rfl (fun y j hy pv l hj => ?_) (fun i a h => .inl ⟨i, h⟩) S.inj
  obtain ⟨w, h3, h4, z⟩ := S.get y j hy pv l hj
  exact ⟨w, h3.to kp, h4.move kb (fun b hb hs => ⟨⟨hok b hb.1, hb.2⟩, fun q => (hp b q).2.2 hs hb.1⟩) (fun b hb => ⟨fun q => (hp b q).2.1 j hb, hb⟩), z⟩
theorem StR.scr (S : StR C F own ρ s) (kb : KeepBut X s s') (hX : ∀ b, X b → (∀ o, ¬ F.Kp b o) ∧ (s'.heap.get? b = none → F.Ok b)) (hp : ∀ b, X b → ¬ Plc F.env b ∧ (∀ i, ¬ own i b) ∧ (SeqAt s.heap b → ¬ F.Ok b)) : StR C F own ρ s' :=
  StR.scr' (Kp' := F.Kp) (Ok' := F.Ok) S S.st (fun _ _ h => h) (fun _ h => h) kb hX hp
theorem StR.ext (S : StR C F own ρ s) (e : Ext s s') : StR C F own ρ s' := S.scr (X := fun _ => False) e.but (fun _ h => h.elim) fun _ h => h.elim

/-! a slot takes places over: its own, or such as no name has seen -/
def takeOwn (own : Nat → Addr → Prop) (i : Nat) (new : Addr → Prop) : Nat → Addr → Prop := fun j a => (j = i ∧ new a) ∨ (j ≠ i ∧ own j a ∧ ¬ new a)
def Mine (n : Nat) (own : Nat → Addr → Prop) (i : Nat) (a : Addr) : Prop := ∃ j, own j a ∧ (j = i ∨ n ≤ j)
theorem takes_ok {Ok : Addr → Prop} {i n : Nat} {new : Addr → Prop} {b : Addr} (hnew : ∀ a, new a → Mine n own i a) (h : Okc Ok own b) : Okc Ok (takeOwn own i new) b :=
  ⟨h.1, fun j hj => hj.elim (fun q => let ⟨k, hk, _⟩ := hnew b q.2; h.2 k hk) fun q => h.2 j q.2.1⟩
theorem StR.put (G : C.cc.Good) {i : Nat} {new : Addr → Prop} {y : Slt} (S : StR C F own ρ s) (hnew : ∀ a, new a → Mine C.cc.n own i a)
    (kb : KeepBut X s s') (hX : ∀ b, X b → s'.heap.get? b ≠ none ∧ (Plc F.env b ∨ Mine C.cc.n own i b))
    (ns : ∃ m, s'.heap.Ns F.env.locals m) (cells : ∀ x c, F.env.cells.lookup x = some c → ∃ v0, s'.heap.IsCell c v0)
    (hv : ∀ x, C.cc.σ x = some i → SlotIs C.W F (takeOwn own i new) s' x i y) (h2 : ∀ z w, C.cc.σ z ≠ some i → Holds s.heap F.env z w → Holds s'.heap F.env z w) :
    StR C F (takeOwn own i new) (setS ρ i y) s' := by
  refine S.step kb (fun b hb => ⟨(hX b hb).2.elim (S.st.plc b) fun ⟨j, hj, _⟩ => (S.owned j b hj).2.2.2, fun hn => absurd hn (hX b hb).1⟩) ns cells set_len (fun z j hz pv l hj => ?_) (fun j a hj => ?_) fun j j' a hj hj' => ?_
  · rcases get_set hj with ⟨rfl, hy⟩ | ⟨hji, hy⟩
    · exact hv z hz pv l hy
    · obtain ⟨w, h3, h4, sz⟩ := S.get z j hz pv l hy
      have far : ∀ {b : Addr}, own j b → ¬ Mine C.cc.n own i b := fun hb ⟨k, hk, h⟩ => by
        have := S.inj _ _ _ hb hk
        subst this
        exact h.elim hji (Nat.not_le.mpr (G.lt z j hz))
      exact ⟨w, h2 z w (fun e => hji (Option.some.inj (hz.symm.trans e))) h3, h4.move kb (fun b hb hs => ⟨takes_ok hnew hb, fun q => (hX b q).2.elim (S.plc_not hs) fun ⟨k, hk, _⟩ => hb.2 k hk⟩)
        (fun b hb => ⟨fun q => (hX b q).2.elim (S.owned j b hb).2.1 (far hb), .inr ⟨hji, hb, fun q => far hb (hnew b q)⟩⟩), sz⟩
  · exact .inl (hj.elim (fun q => let ⟨k, hk, _⟩ := hnew a q.2; ⟨k, hk⟩) fun q => ⟨j, q.2.1⟩)
  · rcases hj with ⟨rfl, h⟩ | ⟨_, h, h'⟩ <;> rcases hj' with ⟨rfl, q⟩ | ⟨_, q, q'⟩
    · rfl
    · exact absurd h q'
    · exact absurd q h'
    · exact S.inj j j' a h q
/-- new places that no name sees yet: they are owned behind the last slot -/
def addOwn (own : Nat → Addr → Prop) (n : Nat) (new : Addr → Prop) : Nat → Addr → Prop := fun j a => own j a ∨ (j = n ∧ new a)
theorem StR.hide {new : Addr → Prop} (S : StR C F own ρ s) (e : Ext s s') (hnew : ∀ a, new a → s.heap.get? a = none ∧ s'.heap.get? a ≠ none) : StR C F (addOwn own C.cc.n new) ρ s' := by
  have S' := S.ext e
  refine S.step (X := fun _ => False) e.but (fun _ h => h.elim) S'.ns S'.cells rfl (fun x i h1 pv l h2 => ?_) (fun j a hj => hj.imp (fun h => ⟨j, h⟩) fun h => hnew a h.2) fun j j' a hj hj' => ?_
  · obtain ⟨v, h3, h4, z⟩ := S.get x i h1 pv l h2
    exact ⟨v, h3.keeps e.keep, h4.move (X := fun _ => False) e.but (fun b hb ⟨_, _, _, ho, _⟩ => ⟨⟨hb.1, fun j hj => hj.elim (hb.2 j) fun h => nomatch (hnew b h.2).1.symm.trans ho⟩, fun h => h⟩) (fun b hb => ⟨fun h => h, .inl hb⟩), z⟩
  · rcases hj with h | ⟨rfl, h⟩ <;> rcases hj' with q | ⟨rfl, q⟩
    · exact S.inj j j' a h q
    · exact absurd (hnew a q).1 (S.owned j a h).1
    · exact absurd (hnew a h).1 (S.owned j' a q).1
    · rfl
theorem hide_ok {Ok : Addr → Prop} {n : Nat} {new : Addr → Prop} {b : Addr} (h : Okc Ok own b) (hn : ¬ new b) : Okc Ok (addOwn own n new) b := ⟨h.1, fun j hj => hj.elim (h.2 j) fun q => hn q.2⟩

/-! freezing -/
theorem rows_all {h : Heap} {Ok Ok' : Addr → Prop} (hk : ∀ b, Ok b → Ok' b) {bs : List Addr} {xs : List PV} (hb : ∀ b ∈ bs, Ok' b) (r : RowsRep h Ok bs xs) : RepAll h Ok' (bs.map Value.ref) xs := by
  induction r with
  | nil => exact .nil
  | cons q r t ih => exact .cons (.list (hb _ (.head _)) q (r.weaken hk)) (ih fun b hm => hb b (.tail _ hm))
theorem thaw_inv {y : Slt} {pv : PV} {l : Nat} (h : thaw y = some (pv, l)) : l = 0 ∧ (∀ es, pv ≠ .dict es) ∧ ∃ l', y = some (pv, l') := by
  cases y with
  | none => exact nomatch h
  | some p =>
    obtain ⟨x, l'⟩ := p
    cases x with
    | dict es => exact nomatch h
    | _ => cases h; exact ⟨rfl, (fun es e => nomatch e), l', rfl⟩
theorem StR.freeze1 (G : C.cc.Good) (S : StR C F own ρ s) (i : Nat) : StR C F (takeOwn own i fun _ => False) (freeze1 ρ i) s := by
  refine S.put G (X := fun _ => False) (fun _ h => h.elim) (KeepBut.refl _ _) (fun _ h => h.elim) S.ns S.cells (fun x hx pv l h => ?_) fun _ _ _ h => h
  obtain ⟨rfl, hnd, l', hy⟩ := thaw_inv h
  obtain ⟨w, h3, h4, z⟩ := S.get x i hx pv l' hy
  have ok' : ∀ b, Okc F.Ok own b → Okc F.Ok (takeOwn own i fun _ => False) b := fun b => takes_ok (n := C.cc.n) fun _ h => h.elim
  have oko : ∀ b, own i b → Okc F.Ok (takeOwn own i fun _ => False) b := fun b hb => ⟨(S.owned i b hb).2.2.1, fun j hj => hj.elim (fun q => q.2) fun q => q.1 (S.inj j i b q.2.1 hb)⟩
  refine ⟨w, h3, ?_, z⟩
  cases h4 with
  | zero r => exact .zero (r.weaken ok')
  | one ho q r => exact .zero (.list (oko _ ho) q (r.weaken ok'))
  | two ho hb hn q r => exact .zero (.list (oko _ ho) q (rows_all ok' (fun b hm => oko b (hb b hm)) r))
  | dict ho q => exact absurd rfl (hnd _)
theorem StR.freeze (G : C.cc.Good) (is : List Nat) (S : StR C F own ρ s) : ∃ own', StR C F own' (freeze is ρ) s := by
  induction is generalizing own ρ with
  | nil => exact ⟨_, S⟩
  | cons i is ih => exact ih (S.freeze1 G i)

/-! a store into a name -/
theorem StR.phys {x : Str} {i : Nat} {v : Value} {E : Value → Shared → Prop} {Q : Unit → Shared → Prop} (S : StR C F own ρ s) (hx : C.cc.σ x = some i)
    (q : ∀ (X : Addr → Prop) s', KeepBut X s s' → (∀ b, X b → s'.heap.get? b ≠ none ∧ Plc F.env b) → (∃ m, s'.heap.Ns F.env.locals m) →
      (∀ x c, F.env.cells.lookup x = some c → ∃ v0, s'.heap.IsCell c v0) → Holds s'.heap F.env x v → (∀ y w, y ≠ x → Holds s.heap F.env y w → Holds s'.heap F.env y w) → Q () s') : wpAny C.W.M F.A (storeName F.env x v) Q E s := by
  obtain ⟨m, hm⟩ := S.ns
  rcases S.st.st x i hx with hl | ⟨hl, c, hc⟩
  · refine wpAny_storeName_local hl hm (fun h' hn' sb => ?_) (by rw [S.st.kind]; rfl)
    have cell : ∀ {c : Addr} {v0 : Option Value}, s.heap.IsCell c v0 → h'.IsCell c v0 := fun h => IsCell.to h fun o => sb.extBut _ o fun q => ns_cell hm h q.symm
    exact q _ _ (KeepBut.of_same (X := fun b => b = F.env.locals) sb rfl (s.toks + 1)) (fun b hb => ⟨hb ▸ let ⟨o, _, _, ho, _⟩ := hn'; some_ne ho, .inl hb⟩) ⟨_, hn'⟩ (fun y c hy => let ⟨v0, h⟩ := S.cells y c hy; ⟨v0, cell h⟩) (.inl ⟨hl, _, hn', if_pos rfl⟩)
      fun y w hyx hw => hw.imp (fun ⟨h1, m1, h2, h3⟩ => ⟨h1, _, hn', (if_neg hyx).trans (ns_inj h2 hm ▸ h3)⟩) fun ⟨h1, c, h2, h3⟩ => ⟨h1, c, h2, cell h3⟩
  · obtain ⟨v0, hv0⟩ := S.cells x c hc
    refine wpAny_storeName_cell S.st.kind hl hc hv0 fun h' hn' sb => ?_
    have nl : F.env.locals ≠ c := fun q => ns_cell hm hv0 q
    refine q _ _ (KeepBut.of_same (X := fun b => b = c) sb rfl s.toks) (fun b hb => ⟨hb ▸ let ⟨o, ho, _⟩ := hn'; some_ne ho, .inr ⟨x, hb ▸ hc⟩⟩) ⟨m, hm.at' fun o => sb.extBut _ o nl⟩ (fun y c' hy => ?_) (.inr ⟨.inl hl, c, hc, hn'⟩)
      fun y w hyx hw => hw.imp (fun ⟨h1, m1, h2, h3⟩ => ⟨h1, m1, h2.at' fun o => sb.extBut _ o nl, h3⟩) fun ⟨h1, c', h2, h3⟩ => ⟨h1, c', h2, IsCell.to h3 fun o => sb.extBut c' o fun q => hyx (S.st.cinj y x c' h2 (q ▸ hc))⟩
    by_cases hcc : c' = c
    · exact ⟨_, hcc ▸ hn'⟩
    · obtain ⟨v1, h⟩ := S.cells y c' hy; exact ⟨v1, IsCell.to h fun o => sb.extBut c' o hcc⟩
/-- places that no name has seen, or its own, are stored with a value -/
theorem StR.storeH (G : C.cc.Good) {x : Str} {i : Nat} {new : Addr → Prop} {l : Nat} {v : Value} {pv : PV} {E : Value → Shared → Prop} {Q : Unit → Shared → Prop} (S : StR C F own ρ s) (hx : C.cc.σ x = some i)
    (hnew : ∀ a, new a → Mine C.cc.n own i a) (hv : BOwn C.W s.heap (Okc F.Ok own) new l v pv) (hz : Sz pv)
    (q : ∀ s', KeepBut (Plc F.env) s s' → StR C F (takeOwn own i new) (setS ρ i (some (pv, l))) s' → Q () s') : wpAny C.W.M F.A (storeName F.env x v) Q E s :=
  S.phys hx fun X s' kb hX ns cells h1 h2 => q s' (kb.mono fun b hb => (hX b hb).2) (S.put G hnew kb (fun b hb => ⟨(hX b hb).1, .inl (hX b hb).2⟩) ns cells (fun y hy pv' l' e => by
    cases e
    exact ⟨v, G.inj x y i hx hy ▸ h1, hv.move kb (fun b hb hs => ⟨takes_ok hnew hb, fun q => S.plc_not hs (hX b q).2⟩) (fun b hb => ⟨fun q => let ⟨j, hj, _⟩ := hnew b hb; (S.owned j b hj).2.1 (hX b q).2, .inl ⟨rfl, hb⟩⟩), hz⟩)
    fun z w hz => h2 z w fun e => hz (e ▸ hx))
theorem StR.store0 (G : C.cc.Good) {x : Str} {i : Nat} {v : Value} {pv : PV} {E : Value → Shared → Prop} {Q : Unit → Shared → Prop} (S : StR C F own ρ s) (hx : C.cc.σ x = some i) (hv : Rep s.heap (Okc F.Ok own) v pv) (hz : Sz pv)
    (q : ∀ s', KeepBut (Plc F.env) s s' → StR C F (takeOwn own i fun _ => False) (setS ρ i (some (pv, 0))) s' → Q () s') : wpAny C.W.M F.A (storeName F.env x v) Q E s :=
  S.storeH G hx (fun _ h => h.elim) (.zero hv) hz q
/-- a list made anew is stored with its place -/
theorem StR.store1 (G : C.cc.Good) {x : Str} {i : Nat} {l : Nat} {a : Addr} {pv : PV} {s1 : Shared} {E : Value → Shared → Prop} {Q : Unit → Shared → Prop} (S : StR C F own ρ s) (e : Ext s s1) (hx : C.cc.σ x = some i) (ha : s.heap.get? a = none) (ha' : s1.heap.get? a ≠ none)
    (hv : BOwn C.W s1.heap (fun b => Okc F.Ok own b ∧ b ≠ a) (fun b => b = a) l (.ref a) pv) (hz : Sz pv)
    (q : ∀ s' own', KeepBut (Plc F.env) s1 s' → (∀ j b, own' j b → own j b ∨ b = a) → StR C F own' (setS ρ i (some (pv, l))) s' → Q () s') : wpAny C.W.M F.A (storeName F.env x (.ref a)) Q E s1 :=
  (S.hide (new := fun b => b = a) e fun b hb => hb ▸ ⟨ha, ha'⟩).storeH G hx (new := fun b => b = a) (fun b hb => ⟨_, .inr ⟨rfl, hb⟩, .inr (Nat.le_refl _)⟩) (hv.move (X := fun _ => False) (KeepBut.refl _ _) (fun b hb _ => ⟨hide_ok hb.1 hb.2, fun h => h⟩) fun b hb => ⟨fun h => h, hb⟩) hz
    fun s' kb S' => q s' _ kb (fun j b h => h.elim (fun q => .inr q.2) fun q => q.2.1.imp_right fun r => r.2) S'
/-- an owned place is turned -/
theorem StR.turn (G : C.cc.Good) {x : Str} {i : Nat} {l : Nat} {v : Value} {pv : PV} {a : Addr} {s1 : Shared} {h' : Heap} {tk : Nat} (S : StR C F own ρ s) (e : Ext s s1) (hx : C.cc.σ x = some i) (ho : own i a) (sb : Heap.SameBut a s1.heap h') (hex : h'.get? a ≠ none) (h1 : Holds s.heap F.env x v)
    (hv : BOwn C.W h' (Okc F.Ok own) (own i) l v pv) (hz : Sz pv) : StR C F (takeOwn own i (own i)) (setS ρ i (some (pv, l))) { s1 with heap := h', toks := tk } := by
  have S1 := S.ext e
  have np : ∀ b, Plc F.env b → b ≠ a := fun b hb q => (S.owned i a ho).2.1 (q ▸ hb)
  have kp : ∀ b, Plc F.env b → ∀ o, s1.heap.get? b = some o → h'.get? b = some o := fun b hb o => sb.extBut b o (np b hb)
  refine S1.put G (fun b hb => ⟨i, hb, .inl rfl⟩) (KeepBut.of_same (X := fun b => b = a) sb rfl tk) (fun b hb => hb ▸ ⟨hex, .inr ⟨i, ho, .inl rfl⟩⟩) (let ⟨m, h⟩ := S1.ns; ⟨m, h.at' (kp _ (.inl rfl))⟩) (fun y c hy => let ⟨v0, h⟩ := S1.cells y c hy; ⟨v0, IsCell.to h (kp c (.inr ⟨y, hy⟩))⟩)
    (fun y hy pv' l' e' => ?_) fun z w _ hw => hw.to kp
  cases e'
  exact ⟨v, G.inj x y i hx hy ▸ (h1.keeps e.keep).to kp, hv.move (s := { s1 with heap := h', toks := tk }) (X := fun _ => False) (KeepBut.refl _ _) (fun b hb _ => ⟨takes_ok (n := C.cc.n) (fun b hb => ⟨i, hb, .inl rfl⟩) hb, fun h => h⟩) (fun b hb => ⟨fun h => h, .inl ⟨rfl, hb⟩⟩), hz⟩
/-- what stands for a value, where one's own place was turned -/
theorem turn_moves {a : Addr} {i : Nat} {s1 : Shared} {h' : Heap} (ho : own i a) (sb : Heap.SameBut a s1.heap h') : Moves s1.heap h' (Okc F.Ok own) (Okc F.Ok own) :=
  fun b hb _ => ⟨hb, fun o => sb.extBut b o fun q => hb.2 i (q ▸ ho)⟩
end
end Mine
end
noncomputable section
namespace Mine
open Builtin

/-! ## statements -/
/-- how a block ends -/
def FlowIs (Ok : Addr → Prop) (s : Shared) : Fl → Flow → Prop
  | .next, f => f = .next
  | .brk, f => f = .brk
  | .cont, f => f = .cont
  | .ret z, f => ∃ v, f = .ret v ∧ Rep s.heap Ok v z ∧ Sz z
/-- what a piece of code does to the frame -/
def Steps (C : Cx) (run : List Slt → Post → Prop) (t : Env → Sem Flow) : Prop :=
  ∀ F own ρ s (P : Post), StR C F own ρ s → run ρ P →
    ∀ (E : Value → Shared → Prop) (Q : Flow → Shared → Prop), (∀ own' s' ρ' fl f, StR C F own' ρ' s' → FlowIs F.Ok s' fl f → P fl ρ' → Q f s') → wpAny C.W.M F.A (t F.env) Q E s
def SS (C : Cx) (m : MS) (st : Stmt) : Prop := Steps C (wp C.Γ m) (PySem.exec st)
def SB (C : Cx) (m : MS) (b : List Stmt) : Prop := Steps C (wp C.Γ m) (PySem.execs b)

section
variable {C : Cx}
theorem sb_skip : SB C .skip [] := fun F own ρ s P S h E Q q => wpAny_execs_nil (q own s ρ .next _ S rfl h)
theorem sb_seq {a b : MS} {st : Stmt} {rest : List Stmt} (ha : SS C a st) (hb : SB C b rest) : SB C (.seq a b) (st :: rest) :=
  fun F own ρ s P S h E Q q => wpAny_execs_cons (ha F own ρ s _ S h E _ fun own' s' ρ' fl f S' hf hp => by
    cases fl with
    | next => cases hf; exact hb F own' ρ' s' P S' hp E Q q
    | brk => cases hf; exact q own' s' ρ' .brk _ S' rfl hp
    | cont => cases hf; exact q own' s' ρ' .cont _ S' rfl hp
    | ret z => obtain ⟨v, rfl, hv⟩ := hf; exact q own' s' ρ' (.ret z) _ S' ⟨v, rfl, hv⟩ hp)
theorem sb_one {a : MS} {st : Stmt} (ha : SS C a st) : SB C a [st] :=
  fun F own ρ s P S h E Q q => wpAny_execs_cons (ha F own ρ s _ S h E _ fun own' s' ρ' fl f S' hf hp => by
    cases fl with
    | next => cases hf; exact wpAny_execs_nil (q own' s' ρ' .next _ S' rfl hp)
    | brk => cases hf; exact q own' s' ρ' .brk _ S' rfl hp
    | cont => cases hf; exact q own' s' ρ' .cont _ S' rfl hp
    | ret z => obtain ⟨v, rfl, hv⟩ := hf; exact q own' s' ρ' (.ret z) _ S' ⟨v, rfl, hv⟩ hp)
theorem ss_pass {p : Pos} : SS C .skip (.Pass p) := fun F own ρ s P S h E Q q => wpAny_Pass (q own s ρ .next _ S rfl h)
theorem ss_brk {p : Pos} : SS C .brk (.Break p) := fun F own ρ s P S h E Q q => wpAny_Break (q own s ρ .brk _ S rfl h)
theorem ss_cont {p : Pos} : SS C .cont (.Continue p) := fun F own ρ s P S h E Q q => wpAny_Continue (q own s ρ .cont _ S rfl h)
theorem ss_ret (G : C.cc.Good) {me : ME} {e : Expr} {p : Pos} (h : SE C me e) : SS C (.ret me) (.Return (some e) p) :=
  fun F own ρ s P S hp E Q q =>
    let ⟨own', S'⟩ := S.freeze G (esc true me)
    wpAny_Return_some (h F.A F.env _ _ s _ S'.here hp E _ fun w s' x l ex r hx => by
      obtain ⟨rfl, hx⟩ := l0_inv hx
      exact q own' s' _ (.ret x) _ (S'.ext ex) ⟨w, rfl, r.r.rep0.weaken fun b hb => hb.1, r.z⟩ hx)
theorem ss_ret_none {p : Pos} : SS C (.ret (.lit .none)) (.Return none p) :=
  fun F own ρ s P S hp E Q q => wpAny_Return_none (q own s ρ (.ret .none) _ S ⟨.none, rfl, .none, .none⟩ hp)
theorem ss_ite (G : C.cc.Good) {c : ME} {a b : MS} {e : Expr} {body orelse : List Stmt} {p : Pos} (hc : ST C c e) (ha : SB C a body) (hb : SB C b orelse) : SS C (.ite c a b) (.If e body orelse p) :=
  fun F own ρ s P S hp E Q q =>
    let ⟨own', S'⟩ := S.freeze G (esc false c)
    wpAny_If (hc F.A F.env _ _ s _ S'.here hp E _ fun t s' ex z => ite_bool z (fun z => ha F own' _ s' P (S'.ext ex) z E Q q) fun z => hb F own' _ s' P (S'.ext ex) z E Q q)

def notComp : Expr → Bool
  | .ListComp _ _ _ _ => false
  | .SetComp _ _ _ _ => false
  | .DictComp _ _ _ _ _ => false
  | _ => true
theorem swaps_plain {e : Expr} (h : notComp e = true) (t : Option Expr) (n : Nat) (env : Env) : swapsWith e t n env = pure false := by
  cases e with
  | ListComp _ _ _ _ => exact nomatch h
  | SetComp _ _ _ _ => exact nomatch h
  | DictComp _ _ _ _ _ => exact nomatch h
  | _ => rfl
theorem ss_asg (G : C.cc.Good) {x : Str} {i : Nat} {me : ME} {e : Expr} {p p' : Pos} (hx : C.cc.σ x = some i) (hn : notComp e = true) (h : SE C me e) : SS C (.asg i false me) (.Assign [.Name x p'] e p) :=
  fun F own ρ s P S hp E Q q =>
    let ⟨own', S'⟩ := S.freeze G (esc true me)
    wpAny_Assign_Name (h F.A F.env _ _ s _ S'.here hp E _ fun w s' x l ex r hz => by
      obtain ⟨rfl, hz⟩ := l0_inv hz
      exact (S'.ext ex).store0 G hx r.r.rep0 r.z fun s'' _ S'' => q _ s'' _ .next _ S'' rfl hz) (swaps_plain hn _ _ _)
theorem plain_some {h : Heap} {a : Addr} {items : Array Value} (x : h.PlainList a items) : h.get? a ≠ none := let ⟨_, e⟩ := x; some_ne e
theorem ss_own (G : C.cc.Good) {x : Str} {i : Nat} {me : ME} {e : Expr} {p p' : Pos} (hx : C.cc.σ x = some i) (hn : notComp e = true) (h : SN C me e) : SS C (.asg i true me) (.Assign [.Name x p'] e p) :=
  fun F own ρ s P S hp E Q q =>
    let ⟨own', S'⟩ := S.freeze G (esc true me)
    wpAny_Assign_Name (h F.A F.env _ _ s _ S'.here hp E _ fun a vs s' xs ex ha pl ra sz hz =>
      S'.store1 G ex hx ha (plain_some pl) (.one rfl pl ra) sz fun s'' own'' _ _ S'' => q _ s'' _ .next _ S'' rfl hz) (swaps_plain hn _ _ _)
theorem ss_newDict (G : C.cc.Good) {x : Str} {i : Nat} {p p' pos : Pos} (hx : C.cc.σ x = some i) : SS C (.newDict i) (.Assign [.Name x p] (.Dict [] [] p') pos) :=
  fun F own ρ s P S hp E Q q => wpAny_Assign_Name (wpAny_Dict_empty (
    have e1 := Ext.push s { cls := .type "dict", data := .dict #[] }
    have ho : (s.heap.push { cls := .type "dict", data := .dict #[] }).get? s.heap.objs.size = some { cls := .type "dict", data := .dict #[] } := Heap.get?_push_size _ rfl
    S.store1 G e1 hx (get_size _) (some_ne ho) (.dict rfl ⟨[], ⟨_, #[], 0, ho, ⟨rfl, rfl, rfl⟩, rfl, fun e he => absurd he (Array.not_mem_empty e), .nil, List.nodup_nil⟩, rfl, .nil⟩) (.dict fun e h => absurd h List.not_mem_nil) fun s'' own'' _ _ S'' => q _ s'' _ .next _ S'' rfl hp)) (swaps_plain rfl _ _ _)

/-- a list comprehension that is stored -/
theorem comp_place {F : Fr} {own own2 : Nat → Addr → Prop} {ρ ρ2 : List Slt} {s s2 : Shared} {B D : Addr} {h' : Heap} {m : Str → Option Value} (S : StR C F own ρ s) (S2 : StR C F own2 ρ2 s2) (hB : s.heap.get? B = none) (hDB : D ≠ B) (how : ∀ j b, own2 j b → own j b ∨ b = D) (ns : s2.heap.Ns B m) (sb : Heap.SameBut B s2.heap h') :
    StR C F own2 ρ2 { s2 with heap := h' } :=
  have hn : ∀ i, ¬ own2 i B := fun j h => (how j B h).elim (fun h => (S.owned j B h).1 hB) (Ne.symm hDB)
  S2.scr (X := fun b => b = B) (KeepBut.of_same (X := fun b => b = B) sb rfl s2.toks) (fun b hb => by rw [show b = B from hb]; exact ⟨(fun o hk => nomatch hB.symm.trans (S.kept B o hk)), fun _ => S.fresh B hB⟩) fun b hb => by rw [show b = B from hb]; exact ⟨fun h => none_ne hB (S.plc_some h), hn, fun hs => absurd hs (ns_seq ns)⟩
theorem ss_comp (G : C.cc.Good) {y : Str} {i : Nat} {own : Bool} {elt iter : Expr} {x : Str} {px : Pos} {ifs : List Expr} {scope : Scope} {pos p p' : Pos} {me src cond : ME} (hy : C.cc.σ y = some i)
    (hc : CompOk C.cc scope x) (hs : SI C src iter) (hns : notSet iter = true)
    (he : SE (C.comp scope x) me elt) (hi : IfsIs (C.comp scope x) cond ifs) : SS C (.asg i own (.comp me src cond)) (.Assign [.Name y p'] (.ListComp elt [⟨.Name x px, iter, ifs, 0⟩] scope pos) p) := by
  intro F own0 ρ s P S hp E Q q
  obtain ⟨own1, S1⟩ := S.freeze G (esc true (.comp me src cond))
  have hp : (evA C.Γ src (freeze (esc true (.comp me src cond)) ρ)).its fun xs _ => compP (fun x => (evA C.Γ cond (freeze (esc true (.comp me src cond)) ρ ++ [some (x, 0)])).tru) (fun x => (evA C.Γ me (freeze (esc true (.comp me src cond)) ρ ++ [some (x, 0)])).val) xs
      fun ys => P .next (setS (freeze (esc true (.comp me src cond)) ρ) i (some (.list ys, ownOf own (.list ys)))) := hp
  revert S1 hp
  generalize freeze (esc true (.comp me src cond)) ρ = ρ1
  intro S1 hp
  have store : ∀ (D : Addr) (s' : Shared) (vs : List Value) (ys : List PV) (Q' : Unit → Shared → Prop), s.heap.get? D = none → Ext s s' → s'.heap.PlainList D vs.toArray → RepAll s'.heap (fun b => Okc F.Ok own1 b ∧ b ≠ D) vs ys → Sz (.list ys) →
      (∀ s'' own2, (∀ j a, own2 j a → own1 j a ∨ a = D) → KeepBut (Plc F.env) s' s'' → StR C F own2 (setS ρ1 i (some (.list ys, ownOf own (.list ys)))) s'' → Q' () s'') → wpAny C.W.M F.A (storeName F.env y (.ref D)) Q' E s' := by
    intro D s' vs ys Q' hD ex pl ra sz q'
    cases own with
    | true => exact S1.store1 G ex hy hD (plain_some pl) (.one rfl pl ra) sz fun s'' own2 kb how S2 => q' s'' own2 how kb S2
    | false => exact (S1.ext ex).store0 G hy (.list ⟨S1.fresh D hD, fun i h => (S1.owned i D h).1 hD⟩ pl (ra.weaken fun b hb => hb.1)) sz fun s'' kb S2 => q' s'' _ (fun j a h => .inl (h.elim (fun q => q.2.elim) fun q => q.2.1)) kb S2
  by_cases hsw : (F.env.blockKind == .function && F.env.kindOf y == some .local && p'.line == pos.line && !(scope.names.any fun (n, k) => n == y && (k == .local || k == .cell))) = true
  · have hw : swapsWith (.ListComp elt [⟨.Name x px, iter, ifs, 0⟩] scope pos) (some (.Name y p')) p.line F.env = pure true := by rw [← hsw]; rfl
    rw [exec_Assign_Name_used _ _ _ _ hw]
    refine wpAny_bind (wpAny_standAt (wpAny_bind ?_))
    show wpAny _ F.A (do let _ ← comprehension (.ListComp elt [⟨.Name x px, iter, ifs, 0⟩] scope pos) scope F.env _ (newList []) false (eval iter F.env) (some (assign (.Name y p') F.env))) _ _ s
    refine wpAny_bind (comp_sound (use := some (assign (.Name y p') F.env)) (Q := fun _ s' => wpAny C.W.M F.A _ _ E s') S1.here hc hs hns he hi hp fun D B s' vs ys m' hD hB hDB ex pl ra sz z ns => ?_)
    show wpAny C.W.M F.A (assign (.Name y p') F.env (.ref D)) _ E s'
    refine wpAny_assign_Name (store D s' vs ys _ hD ex pl ra sz fun s'' own2 how kb S2 => ?_)
    have ns2 : s''.heap.Ns B m' := ns.at' fun o => kb.keep B o fun h => none_ne hB (S1.plc_some h)
    exact ⟨m', ns2, fun h' sb => wpAny_pure (wpAny_pure (q own2 _ _ .next _ (comp_place S1 S2 hB hDB how ns2 sb) rfl z))⟩
  · have hw : swapsWith (.ListComp elt [⟨.Name x px, iter, ifs, 0⟩] scope pos) (some (.Name y p')) p.line F.env = pure false := by rw [← Bool.eq_false_iff.mpr hsw]; rfl
    exact wpAny_Assign_Name (sn_comp hc hs hns he hi F.A F.env _ ρ1 s (fun z l => P .next (setS ρ1 i (some (z, ownOf own z)))) S1.here hp E _ fun D vs s' ys ex hD pl ra sz z => store D s' vs ys _ hD ex pl ra sz fun s'' own2 _ _ S2 => q own2 s'' _ .next _ S2 rfl z) hw

/-! names that are stored in order -/
inductive Names (cc : CC) : List Expr → List Nat → Prop
  | nil : Names cc [] []
  | cons {x : Str} {p : Pos} {i : Nat} {es : List Expr} {is : List Nat} : cc.σ x = some i → Names cc es is → Names cc (.Name x p :: es) (i :: is)
theorem Names.length {cc : CC} {env : Env} {es : List Expr} {is : List Nat} (h : Names cc es is) : (assignEach es env).length = is.length := by
  induction h with
  | nil => rfl
  | cons _ _ ih => exact congrArg (· + 1) ih
theorem Names.nostar {cc : CC} {env : Env} {es : List Expr} {is : List Nat} (h : Names cc es is) : (assignEach es env).findIdx? (·.1) = none := by
  induction h with
  | nil => rfl
  | cons _ _ ih =>
    show ((false, _) :: assignEach _ env).findIdx? (·.1) = none
    rw [List.findIdx?_cons, ih]; rfl
theorem same_inv {is : List Nat} {xs : List PV} {P : Prop} (h : sameLen is xs P) : is.length = xs.length ∧ P := by
  induction is generalizing xs with
  | nil => cases xs with
    | nil => exact ⟨rfl, h⟩
    | cons _ _ => exact h.elim
  | cons i is ih => cases xs with
    | nil => exact h.elim
    | cons x xs => exact (ih h).imp_left (congrArg (· + 1))
section
variable {F : Fr} {own own' : Nat → Addr → Prop} {ρ ρ' : List Slt} {s s' : Shared} {E : Value → Shared → Prop} {Q : Unit → Shared → Prop}
theorem storeAll (G : C.cc.Good) {es : List Expr} {is : List Nat} (h : Names C.cc es is) : ∀ {own : Nat → Addr → Prop} {ρ : List Slt} {s : Shared} {vs : List Value} {xs : List PV},
    StR C F own ρ s → RepAll s.heap (Okc F.Ok own) vs xs → (∀ x ∈ xs, Sz x) → is.length = xs.length → (∀ own' s', StR C F own' (setAll is xs ρ) s' → Q () s') →
    wpAny C.W.M F.A (assignInOrder ((assignEach es F.env).map (·.2)) vs) Q E s := by
  induction h with
  | nil =>
    intro own ρ s vs xs S r sz hl q
    cases List.eq_nil_of_length_eq_zero hl.symm
    rw [r.inv_nil]
    exact wpAny_assignInOrder_none (q own s S)
  | cons hx hr ih =>
    intro own ρ s vs xs S r sz hl q
    cases xs with
    | nil => exact nomatch hl
    | cons x xs =>
      obtain ⟨v, ws, rfl, r, rs⟩ := r.inv_cons
      exact wpAny_assignInOrder_more (wpAny_assign_Name (S.store0 G hx r (sz x (.head _)) fun s' kb S' =>
        ih S' (rs.mono (kb.moves fun b hb hs => ⟨takes_ok (n := C.cc.n) (fun _ h => h.elim) hb, S.plc_not hs⟩)) (fun y hy => sz y (.tail _ hy)) (Nat.succ.inj hl) q))
/-- what a loop's target does -/
inductive Target (cc : CC) : Expr → List Nat → Prop
  | name {x : Str} {p : Pos} {i : Nat} : cc.σ x = some i → Target cc (.Name x p) [i]
  | tup {es : List Expr} {is : List Nat} {n : Nat} {p : Pos} : Names cc es is → (∀ v ρ (Q : List Slt → Prop), bindP is v ρ Q → ∃ xs, v = .tup xs ∧ sameLen is xs (Q (setAll is xs ρ))) → Target cc (.Tuple es n p) is
theorem target_two (i j : Nat) (is : List Nat) (v : PV) (ρ : List Slt) (Q : List Slt → Prop) (h : bindP (i :: j :: is) v ρ Q) : ∃ xs, v = .tup xs ∧ sameLen (i :: j :: is) xs (Q (setAll (i :: j :: is) xs ρ)) := by
  cases v with
  | tup xs => exact ⟨xs, rfl, h⟩
  | _ => exact h.elim
theorem tuple_stored (G : C.cc.Good) {es : List Expr} {is : List Nat} {n : Nat} {p : Pos} {a : Addr} {vs : List Value} {xs : List PV} (h : Names C.cc es is) (S : StR C F own ρ s)
    (ht : PlainTup s.heap a vs.toArray) (r : RepAll s.heap (Okc F.Ok own) vs xs) (sz : ∀ x ∈ xs, Sz x) (hl : is.length = xs.length) (q : ∀ own' s', StR C F own' (setAll is xs ρ) s' → Q () s') :
    wpAny C.W.M F.A (assign (.Tuple es n p) F.env (.ref a)) Q E s := by
  obtain ⟨m, ho⟩ := ht
  refine wpAny_assign_Tuple S.st.room.hd ⟨_, ho, rfl, m, rfl⟩ (by rw [h.length, hl, List.size_toArray, r.length]) h.nostar fun h' hx => ?_
  have e : Ext s { s with heap := h' } := ⟨⟨rfl, rfl⟩, fun b o hb => hx b o (fun q => nomatch (q ▸ get_size s.heap).symm.trans hb) hb⟩
  exact storeAll G h (S.ext e) (r.ext e) sz hl q
theorem target_stored (G : C.cc.Good) {t : Expr} {is : List Nat} {v : Value} {x : PV} {Z : List Slt → Prop} (h : Target C.cc t is) (S : StR C F own ρ s)
    (r : Rep s.heap (Okc F.Ok own) v x) (sz : Sz x) (hb : bindP is x ρ Z) (q : ∀ own' s' ρ', StR C F own' ρ' s' → Z ρ' → Q () s') : wpAny C.W.M F.A (assign t F.env v) Q E s := by
  cases h with
  | name hx => exact wpAny_assign_Name (S.store0 G hx r sz fun s' _ S' => q _ s' _ S' hb)
  | tup hn h1 =>
    obtain ⟨xs, rfl, h2⟩ := h1 _ _ _ hb
    obtain ⟨hl, h3⟩ := same_inv h2
    obtain ⟨a, vs, rfl, _, ht, ra⟩ := r.inv
    exact tuple_stored G hn S ht ra sz.tup_all hl fun own' s' S' => q own' s' _ S' h3
end
def notTuple : Expr → Bool
  | .Tuple _ _ _ => false
  | _ => true
theorem swapped_plain {es : List Expr} {n : Nat} {p : Pos} {env : Env} {e : Expr} (h : notTuple e = true) : swappedStores [.Tuple es n p] e env = pure none := by
  cases e with
  | Tuple _ _ _ => exact nomatch h
  | _ => rfl
/-- a tuple of names takes a tuple's items -/
theorem ss_unpack (G : C.cc.Good) {es : List Expr} {is : List Nat} {me : ME} {e : Expr} {n : Nat} {p pos : Pos} (hn : Names C.cc es is) (hnc : notComp e = true) (hnt : notTuple e = true) (h : SE C me e) :
    SS C (.unpack is me) (.Assign [.Tuple es n p] e pos) :=
  fun F own0 ρ0 s P S0 hp E Q q =>
    let ⟨own, S⟩ := S0.freeze G (esc true me)
    Assign_Tuple (h F.A F.env _ _ s _ S.here hp E _ fun v s' x l ex r hx => by
      obtain ⟨rfl, hx⟩ := l0_inv hx
      cases x with
      | tup xs =>
        obtain ⟨hl, h3⟩ := same_inv hx
        obtain ⟨a, vs, rfl, _, ht, ra⟩ := r.r.rep0.inv
        exact tuple_stored G hn (S.ext ex) ht ra r.z.tup_all hl fun own' s'' S'' => q own' s'' _ .next _ S'' rfl h3
      | _ => exact hx.elim) (show swapsWithSole [.Tuple es n p] e pos.line F.env = pure false from swaps_plain hnc (some (.Tuple es n p)) pos.line F.env) (swapped_plain hnt)

/-! try -/
theorem ss_try {m : MS} {body : List Stmt} {h₀ : ExceptHandler} {hs : List ExceptHandler} {pos : Pos} (h : SB C m body) : SS C (.try_ m) (.Try body (h₀ :: hs) [] [] pos) :=
  fun F own ρ s P S hp E Q q => wpAny_Try_except (h F own ρ s P S hp _ _ fun own' s' ρ' fl f S' hf z => by
    cases fl with
    | next => cases hf; exact wpAny_execs_nil (q own' s' ρ' .next _ S' rfl z)
    | brk => cases hf; exact q own' s' ρ' .brk _ S' rfl z
    | cont => cases hf; exact q own' s' ρ' .cont _ S' rfl z
    | ret r => obtain ⟨v, rfl, hv⟩ := hf; exact q own' s' ρ' (.ret r) _ S' ⟨v, rfl, hv⟩ z)
end
end Mine
end
noncomputable section
namespace Mine
open Builtin
section
variable {C : Cx} {F : Fr} {own own' : Nat → Addr → Prop} {ρ ρ' : List Slt} {s s' : Shared} {X : Addr → Prop}

theorem ss_while (G : C.cc.Good) {c : ME} {m : MS} {e : Expr} {body : List Stmt} {p : Pos} (hc : ST C c e) (hm : SB C m body) : SS C (.while_ c m) (.While e body [] p) := by
  intro F own ρ s P S ⟨n, hp⟩ E Q q
  refine wpAny_While (codeAny_whileLoop (I := fun n s' => ∃ own1 ρ1, StR C F own1 ρ1 s' ∧ whileP (fun ρ K => (evA C.Γ c (freeze (esc false c) ρ)).tru fun t => K t (freeze (esc false c) ρ)) (wp C.Γ m) n ρ1 P) ?_ n ⟨own, ρ, S, hp⟩)
  rintro n s' ⟨own1, ρ1, S1, h1⟩
  cases n with
  | zero => exact h1.elim
  | succ n =>
    obtain ⟨own2, S2⟩ := S1.freeze G (esc false c)
    refine hc F.A F.env _ _ s' _ S2.here h1 _ _ fun t s'' ex z => ?_
    cases t with
    | false =>
      rw [if_neg Bool.false_ne_true]
      exact wpAny_execs_nil (q own2 s'' _ .next _ (S2.ext ex) rfl z)
    | true =>
      rw [if_pos rfl]
      refine hm F own2 _ s'' _ (S2.ext ex) z _ _ fun own3 s3 ρ3 fl f S4 hf z => ?_
      cases fl with
      | next => cases hf; exact ⟨n, Nat.lt_succ_self n, own3, ρ3, S4, z⟩
      | cont => cases hf; exact ⟨n, Nat.lt_succ_self n, own3, ρ3, S4, z⟩
      | brk => cases hf; exact q own3 s3 _ .next _ S4 rfl z
      | ret r => obtain ⟨v, rfl, hv⟩ := hf; exact q own3 s3 _ (.ret r) _ S4 ⟨v, rfl, hv⟩ z

/-- more is kept, less is ok -/
theorem StR.more {Kp' : Addr → Obj → Prop} {Ok' : Addr → Prop} (S : StR C F own ρ s) (e : Ext s s') (hK : ∀ b o, F.Kp b o → Kp' b o) (hk : ∀ b o, Kp' b o → s'.heap.get? b = some o) (hp : ∀ b, Plc F.env b → ∀ o, ¬ Kp' b o) (ho : ∀ i b, own i b → Ok' b ∧ ∀ o, ¬ Kp' b o) (hfr : Fresh Ok' s')
    (hok : ∀ b, F.Ok b → SeqAt s.heap b → Ok' b) : StR C { F with Kp := Kp', Ok := Ok' } own ρ s' :=
  have S' := S.ext e
  ⟨{ S.st with on := fun h hh => S.st.on h fun b o hb => hh b o (hK b o hb), plc := hp }, hk, S'.same, hfr, S.len, fun y j hy pv l hj =>
    let ⟨w, h3, h4, z⟩ := S.get y j hy pv l hj
    ⟨w, h3.keeps e.keep, h4.move (X := fun _ => False) e.but (fun b hb hs => ⟨⟨hok b hb.1 hs, hb.2⟩, fun h => h⟩) (fun b hb => ⟨fun h => h, hb⟩), z⟩, S'.ns, S'.cells, fun i a h => let ⟨h1, h2, _⟩ := S'.owned i a h; ⟨h1, h2, (ho i a h).1, (ho i a h).2⟩, S.inj⟩
theorem letGo_target {t : Expr} {is : List Nat} {W : Wld} {A : Around} {I : Addr} {v : Value} {E : Value → Shared → Prop} {Q : Unit → Shared → Prop} {cc : CC} (ht : Target cc t is) (hk : ∃ o n, s.heap.get? I = some o ∧ o.cls = .type n ∧ ownsTup n = false) (q : Q () s) : wpAny W.M A (letOwnedTupleGo t (.ref I) v) Q E s := by
  cases ht with
  | name _ => exact wpAny_pure q
  | tup _ _ =>
    unfold letOwnedTupleGo
    cases v with
    | ref a =>
      obtain ⟨o, nm, ho, hc, hown⟩ := hk
      refine wpAny_bind (wpAny_load ho ?_)
      rw [hc]
      cases hd : o.data with
      | fields fs =>
        show wpAny W.M A (if (ownsTup nm && fs[0]? == some (rawInt a)) = true then _ else _) Q E s
        rw [hown]
        exact wpAny_pure q
      | _ => exact wpAny_pure q
    | _ => exact wpAny_pure q
/-- what a loop keeps, and what its items may stand in -/
def LKp (F : Fr) (own : Nat → Addr → Prop) (wr : List Addr) (s2 : Shared) (b : Addr) (o : Obj) : Prop := F.Kp b o ∨ (s2.heap.get? b = some o ∧ ¬ Plc F.env b ∧ (∀ i, ¬ own i b) ∧ b ∉ wr)
def LOk (F : Fr) (wr : List Addr) (b : Addr) : Prop := F.Ok b ∧ b ∉ wr
def LF (F : Fr) (own : Nat → Addr → Prop) (wr : List Addr) (s2 : Shared) : Fr := { F with Kp := LKp F own wr s2, Ok := LOk F wr }
/-- in a turn, the items' place is kept too -/
def LF2 (F : Fr) (own : Nat → Addr → Prop) (wr : List Addr) (s2 sa : Shared) : Fr := { LF F own wr s2 with Kp := fun b o => LKp F own wr s2 b o ∨ (b ∈ wr ∧ sa.heap.get? b = some o) }
theorem ss_for (G : C.cc.Good) {is : List Nat} {src : ME} {m : MS} {t e : Expr} {body : List Stmt} {p : Pos} (ht : Target C.cc t is) (hs : SI C src e) (hns : notSet e = true) (hm : SB C m body) :
    SS C (.for_ is src m) (.For t e body [] p) := by
  intro F own0 ρ0 s P S0 hp E Q q
  obtain ⟨own, S1⟩ := S0.freeze G (esc true src)
  have hp : (evA C.Γ src (freeze (esc true src) ρ0)).its fun vs l => l0 l (forP (wp C.Γ m) is vs (freeze (esc true src) ρ0) P) := hp
  revert S1 hp
  generalize freeze (esc true src) ρ0 = ρ
  intro S1 hp
  refine wpAny_For (hs F.A F.env _ _ s _ S1.here hp E _ fun it s2 vs l e2 hit sz h0 => ?_) (folded_plain hns F.env)
  obtain ⟨rfl, h1⟩ := l0_inv h0
  obtain ⟨I, fp, wr, St0, St, rfl, hit⟩ := hit
  have hw := hit.walks F.A S1.st.room.hd
  have S2 := S1.ext e2
  have wrK : ∀ b ∈ wr, ∀ o, ¬ F.Kp b o := fun b hb o hk => nomatch (hit.new b hb).symm.trans (S1.kept b o hk)
  have wrO : ∀ b ∈ wr, ∀ i, ¬ own i b := fun b hb i hi => (S1.owned i b hi).1 (hit.new b hb)
  have wrP : ∀ b ∈ wr, ¬ Plc F.env b := fun b hb h => none_ne (hit.new b hb) (S1.plc_some h)
  have wrL : ∀ b ∈ wr, ∀ o, ¬ LKp F own wr s2 b o := fun b hb o h => h.elim (wrK b hb o) fun h => h.2.2.2 hb
  have S3 : StR C (LF F own wr s2) own ρ s2 := S1.more e2 (fun b o h => .inl h) (fun b o h => h.elim (S2.kept b o) fun h => h.1) (fun b hb o h => h.elim (S1.st.plc b hb o) fun h => h.2.1 hb)
    (fun i b h => ⟨⟨(S1.owned i b h).2.2.1, fun hb => wrO b hb i h⟩, fun o hk => hk.elim ((S1.owned i b h).2.2.2 o) fun hk => hk.2.2.1 i h⟩) (fun a ha => ⟨S2.fresh a ha, fun hb => hit.there 0 _ hit.st a hb ha⟩) fun b hb ⟨_, _, _, ho, _⟩ => ⟨hb, fun hw => nomatch (hit.new b hw).symm.trans ho⟩
  have seen : ∀ b, Okc F.Ok own b → SeqAt s2.heap b → b ∉ wr → ∀ o, s2.heap.get? b = some o → LKp F own wr s2 b o := fun b hb hs hw o ho => .inr ⟨ho, S2.plc_not hs, hb.2, hw⟩
  have hfpK : ∀ b ∈ fp, b ∉ wr → ∃ o, LKp F own wr s2 b o := fun b hb hbw => (hit.kept rfl b hb).elim (fun h => absurd h hbw) fun h => let ⟨o, _, _, ho, _⟩ := h.2; ⟨o, seen b h.1 h.2 hbw o ho⟩
  have back : ∀ {own1 : Nat → Addr → Prop} {ρ1 : List Slt} {s1 : Shared}, StR C (LF F own wr s2) own1 ρ1 s1 → StR C F own1 ρ1 s1 := fun S => StR.less S S1.st (fun b o h => .inl h) fun b hb => hb.1
  refine codeAny_forLoop_any (I := fun n s' => ∃ i own1 ρ1, n = vs.length - i ∧ i ≤ vs.length ∧ StR C (LF F own wr s2) own1 ρ1 s' ∧ St i s'.heap ∧ forP (wp C.Γ m) is (vs.drop i) ρ1 P) ?_ vs.length ⟨0, own, ρ, rfl, Nat.zero_le _, S3, hit.st, h1⟩
  rintro n s' ⟨i, own1, ρ1, rfl, hi, S4, st4, hfor⟩
  have wr1 : ∀ b ∈ wr, ¬ Plc F.env b ∧ (∀ i, ¬ own1 i b) ∧ (SeqAt s'.heap b → ¬ LOk F wr b) := fun b hb => ⟨wrP b hb, fun j hj => (S4.owned j b hj).2.2.1.2 hb, fun _ h => h.2 hb⟩
  by_cases hlt : i < vs.length
  · rw [List.drop_eq_getElem_cons hlt] at hfor
    have hx0 : vs[i]? = some vs[i] := List.getElem?_eq_getElem hlt
    revert hx0 hfor
    generalize vs[i] = x0
    intro hfor hx0
    refine hw.item i s' _ _ hlt st4 fun v h' tk hp' st5 hk => ?_
    have S5 : StR C (LF F own wr s2) own1 ρ1 { s' with heap := h', toks := tk } := S4.scr (X := fun b => b ∈ wr) ⟨⟨rfl, rfl⟩, hk⟩ (fun b hb => ⟨wrL b hb, fun hn => absurd hn (hit.there _ _ st5 b hb)⟩) wr1
    revert st5 S5
    show St (i + 1) ({ s' with heap := h', toks := tk } : Shared).heap → _
    generalize ({ s' with heap := h', toks := tk } : Shared) = sa
    intro st5 S5
    have rv : Rep sa.heap (Okc (LF F own wr s2).Ok own1) v x0 := (hit.item i v x0 hx0 hp').mono fun b hb hs =>
      have hK' := seen b hb.1 hs hb.2
      ⟨⟨⟨hb.1.1, hb.2⟩, fun j hj => let ⟨o, _, _, ho, _⟩ := hs; (S5.owned j b hj).2.2.2 o (hK' o ho)⟩, fun o ho => S5.kept b o (hK' o ho)⟩
    refine letGo_target ht (hit.kind _ _ st5) ?_
    have S6 : StR C (LF2 F own wr s2 sa) own1 ρ1 sa :=
      S5.more (.refl sa) (fun b o h => .inl h) (fun b o h => h.elim (S5.kept b o) fun h => h.2) (fun b hb o h => h.elim (S5.st.plc b hb o) fun h => (wr1 b h.1).1 hb) (fun j b h => ⟨(S5.owned j b h).2.2.1, fun o hk => hk.elim ((S5.owned j b h).2.2.2 o) fun hk => (wr1 b hk.1).2.1 j h⟩) S5.fresh fun _ h _ => h
    refine target_stored (F := LF2 F own wr s2 sa) G ht S6 rv (sz.list_all _ (List.mem_of_getElem? hx0)) hfor fun own2 s6 ρ2 S7 hfor => hm (LF2 F own wr s2 sa) own2 ρ2 s6 _ S7 hfor _ _ fun own3 s7 ρ3 fl f S8 hf z => ?_
    have st7 : St (i + 1) s7.heap := hw.frame _ _ _ st5 fun b hb o ho => by
      by_cases hbw : b ∈ wr
      · exact S8.kept b o (.inr ⟨hbw, ho⟩)
      · obtain ⟨o', hK'⟩ := hfpK b hb hbw
        have := S5.kept b o' hK'
        rw [ho] at this
        exact Option.some.inj this ▸ S8.kept b o' (.inl hK')
    have S9 : StR C (LF F own wr s2) own3 ρ3 s7 := StR.less S8 S5.st (fun b o h => .inl h) fun b h => h
    cases fl with
    | next => cases hf; exact ⟨vs.length - (i + 1), Nat.sub_succ_lt_self _ _ hlt, i + 1, own3, ρ3, rfl, hlt, S9, st7, z⟩
    | cont => cases hf; exact ⟨vs.length - (i + 1), Nat.sub_succ_lt_self _ _ hlt, i + 1, own3, ρ3, rfl, hlt, S9, st7, z⟩
    | brk => cases hf; exact q own3 s7 _ .next _ (back S9) rfl z
    | ret r => obtain ⟨v', rfl, hv, hz⟩ := hf; exact q own3 s7 _ (.ret r) _ (back S9) ⟨v', rfl, hv.weaken fun b hb => hb.1, hz⟩ z
  · have hi' : i = vs.length := Nat.le_antisymm hi (Nat.not_lt.mp hlt)
    subst hi'
    rw [List.drop_length] at hfor
    refine hw.done s' _ _ st4 fun h' tk hk => wpAny_execs_nil (q own1 _ ρ1 .next _ ?_ rfl hfor)
    exact StR.scr' (Kp' := LKp F own wr s2) (Ok' := LOk F wr) S4 S1.st (fun b o h => .inl h) (fun b h => h.1) (X := fun b => b ∈ wr) ⟨⟨rfl, rfl⟩, hk⟩ (fun b hb => ⟨wrK b hb, fun _ => S1.fresh b (hit.new b hb)⟩) wr1
end
end Mine
end
noncomputable section
namespace Mine
open Builtin
theorem own_inv {y : Slt} {Q : List PV → Prop} (h : ownP y Q) : ∃ xs, y = some (.list xs, 1) ∧ Q xs := by
  cases y with
  | none => exact h.elim
  | some p =>
    obtain ⟨x, l⟩ := p
    cases x with
    | list xs => cases l with
      | zero => exact h.elim
      | succ l => cases l with
        | zero => exact ⟨xs, rfl, h⟩
        | succ l => exact h.elim
    | _ => exact h.elim
theorem dict_inv {y : Slt} {Q : List (Int × PV) → Prop} (h : dictP y Q) : ∃ es, y = some (.dict es, 1) ∧ Q es := by
  cases y with
  | none => exact h.elim
  | some p =>
    obtain ⟨x, l⟩ := p
    cases x with
    | dict es => cases l with
      | zero => exact h.elim
      | succ l => cases l with
        | zero => exact ⟨es, rfl, h⟩
        | succ l => exact h.elim
    | _ => exact h.elim
theorem slot0_inv {y : Slt} {Q : PV → Prop} (h : slot0 y Q) : ∃ x, y = some (x, 0) ∧ Q x := by
  cases y with
  | none => exact h.elim
  | some p =>
    obtain ⟨x, l⟩ := p
    cases l with
    | zero => exact ⟨x, rfl, h⟩
    | succ l => exact h.elim
section
variable {W : Wld} {C : Cx} {F : Fr} {own own' : Nat → Addr → Prop} {ρ ρ' : List Slt} {s s' : Shared} {h : Heap} {A : Around}
theorem BOwn.one_inv {Ok o : Addr → Prop} {v : Value} {xs : List PV} (r : BOwn W h Ok o 1 v (.list xs)) : ∃ a vs, v = .ref a ∧ o a ∧ h.PlainList a vs.toArray ∧ RepAll h Ok vs xs := by
  cases r with | one a b c => exact ⟨_, _, rfl, a, b, c⟩
theorem BOwn.dict_inv {Ok o : Addr → Prop} {v : Value} {es : List (Int × PV)} (r : BOwn W h Ok o 1 v (.dict es)) : ∃ a, v = .ref a ∧ o a ∧ IsDictI W h Ok a es := by
  cases r with | dict a b => exact ⟨_, rfl, a, b⟩
theorem BOwn.zero_inv {Ok o : Addr → Prop} {v : Value} {x : PV} (r : BOwn W h Ok o 0 v x) : Rep h Ok v x := by cases r; assumption
theorem plain_update {a : Addr} {items : Array Value} {n : Nat} (f : Array Value → Array Value) (ho : h.get? a = some { cls := .type "list", data := .seq items n }) : (h.update a (Obj.mapSeq f)).PlainList a (f items) :=
  ⟨_, Heap.get?_update_self (Obj.mapSeq f) ho rfl⟩
theorem load_name {env : Env} {x : Str} {v : Value} {M : Model} {E Q : Value → Shared → Prop} (H : Holds s.heap env x v) (hk : env.scope.kind = .function) (hcd : (x == ("__classdict__" : Str)) = false) (q : Q v s) : wpAny M A (loadName env x) Q E s := by
  rcases H with ⟨hl, m, hn, hv⟩ | ⟨hl | hl, c, hc, hv⟩
  · exact wpAny_loadName_local hk hl hn hv q
  · exact wpAny_loadName_cell hk hl hc hv q
  · exact wpAny_loadName_free hk hl hc hv q hcd
theorem not_inter {env : Env} (h : env.scope.kind = .function) : interactive env = false := by
  unfold interactive; rw [h]; rfl
theorem getMethod_lst {a : Addr} {vs : Array Value} {name : Str} {id : String} {pl : Sem Bool} {E : Value → Shared → Prop} {Q : Value × List Value → Shared → Prop} (ha : s.heap.PlainList a vs)
    (slot : Slot "list" name id) (hty : typeOf (.builtin id) = pure (.type "method_descriptor")) (q : Q (.builtin id, [.ref a]) s) : wpAny W.M A (getMethod (.ref a) name pl) Q E s := by
  obtain ⟨n, ho⟩ := ha
  exact getMethod_builtin (T := "list") ⟨_, ho, rfl⟩ F.plainAttrs_list slot hty (fun b e => Value.ref.inj e ▸ ⟨_, ho, rfl⟩) q
/-- a method of a list that a name holds -/
theorem call_own {x : Str} {p apos pos : Pos} {name : Str} {id : String} {es : List Expr} {a : Addr} {vs : Array Value} {E : Value → Shared → Prop} {Q : Value → Shared → Prop} (S : StR C F own ρ s)
    (H : Holds s.heap F.env x (.ref a)) (hd : (x == ("__debug__" : Str)) = false) (hcd : (x == ("__classdict__" : Str)) = false) (hl : s.heap.PlainList a vs) (hline : (apos.endLine == pos.line) = true)
    (slot : Slot "list" name id) (hty : typeOf (.builtin id) = pure (.type "method_descriptor")) (hfew : methodCallForm (es.length + ([] : List Keyword).length) (backTo pos (starEach es F.env)) (backToKw pos (keywordEach [] F.env)) = true)
    (hpl : (backTo pos (starEach es F.env)).any (·.1) = false)
    (h : wpAny C.W.M F.A (spliced (backTo pos (starEach es F.env))) (fun ws s' => wpAny C.W.M F.A (call (.builtin id) (.ref a :: ws)) Q E s') E s) :
    wpAny C.W.M F.A (eval (.Call (.Attribute (.Name x p) name apos) es [] pos) F.env) Q E s := by
  rw [arm_eval_Call, base_plain (o := .Name x p) rfl]
  refine wpAny_bind (H.load (h := s.heap) S.st.kind hd hcd (wpAny_bind (wpAny_standAt ?_)))
  have hpos : methodCallPos true (.Name x p) F.env apos pos = pure pos := if_pos (by rw [hline]; rfl)
  unfold methodCall
  rw [hfew]
  exact wpAny_bind (wpAny_holding (getMethod_lst hl slot hty (wpAny_bind (wpAny_of_eq hpos (Calls.callWith_builtin hpl (evalArgs_of (fun x hx => nomatch (hx ▸ hpl : ([(true, x)] : List (Bool × Sem Value)).any (·.1) = false)) h))))))
/-- a list that a name owns has been turned -/
theorem StR.turned (G : C.cc.Good) {x : Str} {i : Nat} {v : Value} {a : Addr} {vs' : List Value} {ys : List PV} {s1 : Shared} {h' : Heap} (S : StR C F own ρ s) (e : Ext s s1) (hx : C.cc.σ x = some i) (ho : own i a) (h1 : Holds s.heap F.env x (.ref a)) (sb : Heap.SameBut a s1.heap h') (pl : h'.PlainList a vs'.toArray)
    (r : RepAll s1.heap (Okc F.Ok own) vs' ys) (hz : Sz (.list ys)) : StR C F (takeOwn own i (own i)) (setS ρ i (some (.list ys, 1))) { s1 with heap := h' } :=
  S.turn G (tk := s1.toks) e hx ho sb (plain_some pl) h1 (.one ho pl (r.mono (turn_moves ho sb))) hz
theorem sz_snoc {xs : List PV} {x : PV} (h : Sz (.list xs)) (hl : xs.length < LST) (hx : Sz x) : Sz (.list (xs ++ [x])) :=
  .list (by rw [List.length_append]; exact hl) fun y hy => (List.mem_append.mp hy).elim (h.list_all y) fun h => List.mem_singleton.mp h ▸ hx

theorem ss_append (G : C.cc.Good) {x : Str} {i : Nat} {me : ME} {e : Expr} {p apos pos pos' : Pos} (hx : C.cc.σ x = some i) (hd : (x == ("__debug__" : Str)) = false) (hcd : (x == ("__classdict__" : Str)) = false)
    (hline : (apos.endLine == pos.line) = true) (hn : notStar e = true) (h : SE C me e) : SS C (.append i me) (.Expr (.Call (.Attribute (.Name x p) "append" apos) [e] [] pos) pos') := by
  intro F own0 ρ0 s P S0 hp E Q q
  obtain ⟨own, S⟩ := S0.freeze G (esc true me)
  obtain ⟨xs, h1, h2⟩ := own_inv hp
  obtain ⟨w, hw, hb, hz⟩ := S.get x i hx _ _ h1
  obtain ⟨a, vs, rfl, ho, hpl, hra⟩ := hb.one_inv
  refine wpAny_Expr (call_own S hw hd hcd hpl hline PySem.F.slot_list_append PySem.F.type_list_append (by rw [starEach_plain hn]; rfl) (plain_one hn) (spliced_one hn (h F.A F.env _ _ s _ S.here h2 E _ fun u s1 y l e1 r1 hy => ?_))) (not_inter S.st.kind) rfl
  obtain ⟨rfl, hlt, hq⟩ := l0_inv hy
  refine wpAny_list_append_plain (hpl.at fun o => e1.keep a o) (fun h' pl' sb => ?_) (by rw [List.size_toArray, hra.length]; exact lst_size hz.list_len)
  exact q _ _ _ .next _ (S.turned G (v := .none) e1 hx ho hw sb (List.push_toArray vs u ▸ pl') ((hra.ext e1).append (.cons r1.r.rep0 .nil)) (sz_snoc hz hlt r1.z)) rfl hq

theorem RepAll.snoc_inv {Ok : Addr → Prop} {x : PV} {xs : List PV} : ∀ {vs : List Value}, RepAll h Ok vs (xs ++ [x]) → ∃ ws u, vs = ws ++ [u] ∧ RepAll h Ok ws xs ∧ Rep h Ok u x := by
  induction xs with
  | nil => exact fun r => let ⟨u, ws, e, r1, r2⟩ := r.inv_cons; ⟨[], u, by rw [e, r2.inv_nil]; rfl, .nil, r1⟩
  | cons y xs ih => exact fun r => let ⟨u, ws, e, r1, r2⟩ := r.inv_cons; let ⟨ws', t, e', r3, r4⟩ := ih r2; ⟨u :: ws', t, by rw [e, e']; rfl, .cons r1 r3, r4⟩
theorem txt_noref {Ok : Addr → Prop} {v : Value} {k : Bool} {cs : List Nat} {P : Value → Prop} (r : Rep h Ok v (.txt k cs)) (h1 : ∀ x t, P (.str x t)) (h2 : ∀ x t, P (.bytes x t)) : P v :=
  TxtIs.rec (motive := fun v _ _ _ => P v) (fun _ _ => h1 _ _) (fun _ _ => h2 _ _) (show TxtIs v k cs from r.inv)
theorem ss_pop (G : C.cc.Good) {x : Str} {i : Nat} {p apos pos pos' : Pos} (hx : C.cc.σ x = some i) (hd : (x == ("__debug__" : Str)) = false) (hcd : (x == ("__classdict__" : Str)) = false)
    (hline : (apos.endLine == pos.line) = true) : SS C (.pop i) (.Expr (.Call (.Attribute (.Name x p) "pop" apos) [] [] pos) pos') := by
  intro F own ρ s P S hp E Q q
  obtain ⟨xs, h1, ys, tk, cs, rfl, hq⟩ := own_inv hp
  obtain ⟨w, hw, hb, hz⟩ := S.get x i hx _ _ h1
  obtain ⟨a, vs, rfl, ho, hpl, hra⟩ := hb.one_inv
  obtain ⟨ws, u, rfl, r1, r2⟩ := hra.snoc_inv
  obtain ⟨n, ho1⟩ := hpl
  have hsz : (ws ++ [u]).toArray.size - 1 = ws.length := by rw [List.size_toArray, List.length_append]; rfl
  have pl' := plain_update (fun xs => xs.eraseIdxIfInBounds ((ws ++ [u]).toArray.size - 1)) ho1
  have e3 : (ws ++ [u]).toArray.eraseIdxIfInBounds ((ws ++ [u]).toArray.size - 1) = ws.toArray := by rw [hsz]; exact (kl_erase ws [] u).trans (by rw [List.append_nil])
  have fin := q _ _ _ .next _ (S.turned G (v := .none) (.refl s) hx ho hw (Heap.SameBut.update ..) (e3 ▸ pl') r1 (.list (Nat.le_trans (by rw [List.length_append]; exact Nat.le_add_right _ _) hz.list_len) fun y hy => hz.list_all y (List.mem_append_left _ hy))) rfl hq
  exact wpAny_Expr (call_own S hw hd hcd ⟨n, ho1⟩ hline PySem.F.slot_list_pop PySem.F.type_list_pop rfl rfl (Calls.spliced_nil (call_meets PySem.F.slot_list_pop ⟨_, ho1, rfl⟩ PySem.F.entry_list_pop (PySem.F.args_list_pop_1 _)
    (PySem.MeetsSeq.list_pop_last a (ws ++ [u]).toArray n u (by rw [hsz, List.getElem?_toArray]; exact List.getElem?_concat_length) (by rw [List.size_toArray, hra.length]; exact lst_size hz.list_len))
      ⟨ho1, txt_noref (P := fun u' => match u' with | .ref _ => False | _ => Q .next { s with heap := s.heap.update a (Obj.mapSeq fun xs => xs.eraseIdxIfInBounds ((ws ++ [u]).toArray.size - 1)) }) r2 (fun _ _ => fin) fun _ _ => fin⟩))) (not_inter S.st.kind) rfl

/-! in place -/
theorem ss_aug (G : C.cc.Good) {x : Str} {i : Nat} {o : BOp} {me : ME} {e : Expr} {p pos : Pos} (ok : AugOk C.W o) (hx : C.cc.σ x = some i) (hcd : (x == ("__classdict__" : Str)) = false) (h : SE C me e) :
    SS C (.aug i o me) (.AugAssign (.Name x p) o.op e pos) := by
  intro F own0 ρ0 s P S0 hp E Q q
  obtain ⟨own, S⟩ := S0.freeze G (esc false me)
  obtain ⟨v, h1, h2⟩ := slot0_inv hp
  obtain ⟨w, hw, hb, hz⟩ := S.get x i hx _ _ h1
  refine wpAny_AugAssign_Name (load_name hw S.st.kind hcd (h F.A F.env _ _ s _ S.here h2 E _ fun t s1 y l e1 r1 hy => ?_))
  obtain ⟨rfl, hy⟩ := l0_inv hy
  exact ok F.A s1 _ _ _ _ _ _ (hb.zero_inv.ext e1) r1.r.rep0 hy _ _ fun t' s2 z e2 r2 sz hq => (S.ext (e1.trans e2)).store0 G hx r2 sz fun s'' _ S'' => q _ s'' _ .next _ S'' rfl hq

theorem set_sz {xs : List PV} {n : Nat} {z : PV} (h : Sz (.list xs)) (hz : Sz z) : Sz (.list (xs.set n z)) :=
  .list (by rw [List.length_set]; exact h.list_len) fun y hy => (List.mem_or_eq_of_mem_set hy).elim (h.list_all y) fun e => e ▸ hz
theorem ss_augIdx (G : C.cc.Good) {x : Str} {i : Nat} {o : BOp} {mi me : ME} {e ei : Expr} {p p' pos : Pos} (ok : AugOk C.W o) (hx : C.cc.σ x = some i) (hd : (x == ("__debug__" : Str)) = false) (hcd : (x == ("__classdict__" : Str)) = false) (hi : SE C mi ei) (h : SE C me e)
    (hst : ∀ ov iv new, augStore ei ov iv new = (do holding [new, ov, iv] (setItem ov iv new); release [new, ov, iv] []; pure .next)) :
    SS C (.augIdx i mi o me) (.AugAssign (.Subscript (.Name x p) ei p') o.op e pos) := by
  intro F own ρ s P S hp E Q q
  obtain ⟨xs, h1, h2⟩ := own_inv hp
  obtain ⟨w, hw, hb, hz⟩ := S.get x i hx _ _ h1
  obtain ⟨a, vs, rfl, ho, hpl, hra⟩ := hb.one_inv
  have hl : vs.length ≤ LST := hra.length ▸ hz.list_len
  -- the index is read first; what is told of the value comes behind it
  refine wpAny_AugAssign_SubscriptAny (hw.load (h := s.heap) S.st.kind hd hcd (hi F.A F.env _ ρ s _ S.here h2 E _ fun iv s1 y li e1 r1 h3 => ?_)) hst
  obtain ⟨kk, rfl, v, hv, h4⟩ := int_inv h3
  obtain ⟨n, hxn, hcase⟩ := idxAt_at hv
  have hn : placeOfI xs kk = n := by
    unfold placeOfI
    rcases hcase with ⟨h0, rfl, _⟩ | ⟨h0, _, rfl⟩
    · exact if_pos h0
    · exact if_neg (Int.not_le.mpr h0)
  rw [hn] at h4
  obtain ⟨ti, rfl⟩ := r1.r.inv.inv
  obtain ⟨v0, hv0, rv0⟩ := hra.get n v hxn
  rw [← hra.length] at hcase
  refine getItem_raw (hpl.at fun o => e1.keep a o) hl hv0 hcase (h F.A F.env _ ρ s1 _ (S.ext e1).here h4 E _ fun t s2 y2 l2 e2 r2 h5 => ?_)
  obtain ⟨rfl, h5⟩ := l0_inv h5
  refine ok F.A s2 _ _ _ _ _ _ ((rv0.ext e1).ext e2) r2.r.rep0 h5 _ _ fun t' s3 z e3 r3 sz hq => ?_
  have e13 := (e1.trans e2).trans e3
  obtain ⟨nn, ho3⟩ := hpl.at fun o => e13.keep a o
  have pl' := plain_update (·.setIfInBounds n t') ho3
  rw [List.setIfInBounds_toArray] at pl'
  have fin := q _ _ _ .next _ (S.turned G (v := .none) e13 hx ho hw (Heap.SameBut.update ..) pl' ((hra.ext e13).set r3 n) (set_sz hz sz)) rfl hq
  have h63 : -(2 ^ 63 : Int) ≤ -(vs.length : Int) := Int.neg_le_neg (Int.le_of_lt (lst_63 hl))
  rcases hcase with ⟨h0, rfl, h6⟩ | ⟨h0, h6, rfl⟩
  · exact ki_setAt (n := nn) ho3 h0 (Int.lt_trans h6 (lst_63 hl)) (by rw [List.size_toArray]; exact h6) fin
  · exact ki_setBack (n := nn) ho3 h0 (by rw [List.size_toArray]; exact h6) (Int.le_trans h63 h6) (by rw [List.size_toArray]; exact fin)
end
end Mine
end
noncomputable section
namespace Mine
open Builtin

/-! dicts by ints -/
section
variable {h : Heap} {Ok : Addr → Prop} {i : Int} {v : Value} {x : PV}
theorem stored_map (hv : Rep h Ok v x) {kvs : List (Int × Value)} : ∀ {es : List (Int × PV)}, kvs.map (·.1) = es.map (·.1) → RepAll h Ok (kvs.map (·.2)) (es.map (·.2)) →
    (kvs.map fun kv => if kv.1 = i then (kv.1, v) else kv).map (·.1) = (es.map fun e => if e.1 = i then (e.1, x) else e).map (·.1) ∧ RepAll h Ok ((kvs.map fun kv => if kv.1 = i then (kv.1, v) else kv).map (·.2)) ((es.map fun e => if e.1 = i then (e.1, x) else e).map (·.2)) ∧
    (kvs.any fun kv => decide (kv.1 = i)) = (es.any fun e => decide (e.1 = i)) := by
  induction kvs with
  | nil => intro es e _; cases es with
    | nil => exact ⟨rfl, .nil, rfl⟩
    | cons _ _ => exact nomatch e
  | cons a r ih => intro es e q; cases es with
    | nil => exact nomatch e
    | cons b t =>
      obtain ⟨a, w⟩ := a
      obtain ⟨b, y⟩ := b
      obtain ⟨e1, e2⟩ := List.cons.inj e
      obtain ⟨w', ws, e3, h1, h2⟩ := q.inv_cons
      obtain ⟨rfl, rfl⟩ := List.cons.inj e3
      obtain ⟨i1, i2, i3⟩ := ih e2 h2
      have e1 : a = b := e1
      subst e1
      have h3 : (decide (a = i) || r.any fun kv => decide (kv.1 = i)) = (decide (a = i) || t.any fun e => decide (e.1 = i)) := congrArg _ i3
      by_cases q : a = i
      · refine ⟨?_, ?_, h3⟩
        · show (if a = i then (a, v) else (a, w)).1 :: _ = (if a = i then (a, x) else (a, y)).1 :: _
          rw [if_pos q, if_pos q, i1]
        · show RepAll h Ok ((if a = i then (a, v) else (a, w)).2 :: _) ((if a = i then (a, x) else (a, y)).2 :: _)
          rw [if_pos q, if_pos q]; exact .cons hv i2
      · refine ⟨?_, ?_, h3⟩
        · show (if a = i then (a, v) else (a, w)).1 :: _ = (if a = i then (a, x) else (a, y)).1 :: _
          rw [if_neg q, if_neg q, i1]
        · show RepAll h Ok ((if a = i then (a, v) else (a, w)).2 :: _) ((if a = i then (a, x) else (a, y)).2 :: _)
          rw [if_neg q, if_neg q]; exact .cons h1 i2
theorem setDict_stored {kvs : List (Int × Value)} {es : List (Int × PV)} (h1 : kvs.map (·.1) = es.map (·.1)) (h2 : RepAll h Ok (kvs.map (·.2)) (es.map (·.2))) (hv : Rep h Ok v x) :
    (stored kvs i v).map (·.1) = (setDict es i x).map (·.1) ∧ RepAll h Ok ((stored kvs i v).map (·.2)) ((setDict es i x).map (·.2)) := by
  obtain ⟨i1, i2, i3⟩ := stored_map (i := i) hv h1 h2
  unfold stored setDict
  rw [i3]
  split
  · exact ⟨i1, i2⟩
  · rw [List.map_append, List.map_append, List.map_append, List.map_append, h1]
    exact ⟨rfl, h2.append (.cons hv .nil)⟩
theorem setDict_sz {es : List (Int × PV)} (h : Sz (.dict es)) (hx : Sz x) : Sz (.dict (setDict es i x)) := by
  have h : ∀ e ∈ es, Sz e.2 := by cases h; assumption
  refine .dict fun e he => ?_
  unfold setDict at he
  split at he
  · obtain ⟨e', he', rfl⟩ := List.mem_map.mp he
    split
    · exact hx
    · exact h e' he'
  · exact (List.mem_append.mp he).elim (h e) fun he => List.mem_singleton.mp he ▸ hx
end
section
variable {C : Cx}
theorem ss_setIdx (G : C.cc.Good) {x : Str} {i : Nat} {mi me : ME} {e ei : Expr} {p p' pos : Pos} (hx : C.cc.σ x = some i) (hd : (x == ("__debug__" : Str)) = false) (hcd : (x == ("__classdict__" : Str)) = false) (hnc : notComp e = true) (hi : SE C mi ei) (h : SE C me e) :
    SS C (.setIdx i mi me) (.Assign [.Subscript (.Name x p) ei p'] e pos) := by
  intro F own0 ρ0 s P S0 hp E Q q
  obtain ⟨own, S⟩ := S0.freeze G (esc true me)
  obtain ⟨es, h1, h2⟩ := dict_inv hp
  obtain ⟨u, hu, hb, hz⟩ := S.get x i hx _ _ h1
  obtain ⟨a, rfl, ho, kvs, k1, k2, k3⟩ := hb.dict_inv
  refine wpAny_Assign_Subscript (h F.A F.env _ _ s _ S.here h2 E _ fun w s1 y l e1 r1 h3 => ?_) (swaps_plain hnc _ _ _)
  obtain ⟨rfl, h3⟩ := l0_inv h3
  refine (hu.keeps e1.keep).load (h := s1.heap) S.st.kind hd hcd (hi F.A F.env _ _ s1 _ (S.ext e1).here h3 E _ fun iv s2 y2 l2 e2 r2 h4 => ?_)
  obtain ⟨kk, rfl, hlt, hq⟩ := int_inv h4
  obtain ⟨ti, rfl⟩ := r2.r.inv.inv
  have e12 := e1.trans e2
  refine wpAny_setItem_pairs (intKind_is C.W.prog C.W.w kk ti) (k1.keep e12.keep) (fun h' hd' sb => ?_) (by
    have : kvs.length = es.length := by have := congrArg List.length k2; rw [List.length_map, List.length_map] at this; exact this
    rw [this]; exact lim_size (Nat.le_trans (Nat.le_of_lt hlt) (by decide)))
  have mv : Moves s2.heap h' (Okc F.Ok own) (Okc F.Ok own) := turn_moves ho sb
  have k4 := setDict_stored (i := kk) k2 ((k3.ext e12).mono mv) ((r1.r.rep0.ext e2).mono mv)
  exact q _ _ _ .next _ (S.turn G (tk := s2.toks + 1) e12 hx ho sb (let ⟨_, _, _, ho, _⟩ := hd'; some_ne ho) hu (.dict ho ⟨stored kvs kk w, hd', k4.1, k4.2⟩) (setDict_sz hz r1.z)) rfl hq
end

/-! ## a def of the program, from its body -/
section
variable {kd : Str → Option NameKind} {x : Str} {w : Value}
theorem bindL_other {bs : List (Str × Value)} : ∀ {m : Str → Option Value}, (∀ b ∈ bs, b.1 ≠ x) → bindL kd bs m x = m x := by
  induction bs with
  | nil => exact fun _ => rfl
  | cons b r ih =>
    intro m h
    unfold bindL
    rw [ih fun b hb => h b (.tail _ hb)]
    split
    · exact if_neg (Ne.symm (h _ (.head _)))
    · rfl
theorem bindC_other {bs : List (Str × Value)} : ∀ {m : Str → Option Value}, (∀ b ∈ bs, b.1 ≠ x) → bindC kd bs m x = m x := by
  induction bs with
  | nil => exact fun _ => rfl
  | cons b r ih =>
    intro m h
    unfold bindC
    rw [ih fun b hb => h b (.tail _ hb)]
    split
    · rfl
    · exact if_neg (Ne.symm (h _ (.head _)))
theorem not_zip {p : Str} {ps : List Str} {ws : List Value} (h : p ∉ ps) : ∀ b ∈ ps.zip ws, b.1 ≠ p := fun b hb e => h (e ▸ (List.of_mem_zip hb).1)
theorem bind_at {ps : List Str} : ∀ {ws : List Value} {i : Nat} {m : Str → Option Value}, ps.Nodup → ps[i]? = some x → ws[i]? = some w →
    (kd x = some .local → bindL kd (ps.zip ws) m x = some w) ∧ (kd x ≠ some .local → bindC kd (ps.zip ws) m x = some w) := by
  induction ps with
  | nil => exact fun _ h => nomatch h
  | cons p ps ih =>
    intro ws i m hn h1 h2
    obtain ⟨h3, h4⟩ := List.nodup_cons.mp hn
    cases ws with
    | nil => exact nomatch h2
    | cons u ws => cases i with
      | zero =>
        cases h1; cases h2
        rw [List.zip_cons_cons]
        unfold bindL bindC
        exact ⟨fun hk => by rw [bindL_other (not_zip h3), if_pos hk, if_pos rfl], fun hk => by rw [bindC_other (not_zip h3), if_neg hk, if_pos rfl]⟩
      | succ i =>
        rw [List.zip_cons_cons]
        unfold bindL bindC
        have e1 : ps[i]? = some x := h1
        have e2 : ws[i]? = some w := h2
        exact ⟨(ih h4 e1 e2).1, (ih h4 e1 e2).2⟩
theorem cells_acc {names : List (Str × NameKind)} : ∀ {n : Nat} {acc : List (Str × Addr)}, ((acc.lookup x).isSome = true ∨ (x, NameKind.cell) ∈ names) → ((cellsFrom n names acc).lookup x).isSome = true := by
  induction names with
  | nil => exact fun h => h.elim id fun h => nomatch h
  | cons p r ih =>
    intro n acc h
    obtain ⟨nm, kd⟩ := p
    unfold cellsFrom
    by_cases hk : (kd == NameKind.cell) = true
    · rw [if_pos hk]
      refine ih ?_
      rw [List.lookup_cons]
      cases q : x == nm with
      | true => exact .inl rfl
      | false => exact h.imp id fun h => (List.mem_cons.mp h).elim (fun e => nomatch q.symm.trans (beq_iff_eq.mpr (Prod.mk.inj e).1)) id
    · rw [if_neg hk]
      exact ih (h.imp id fun h => (List.mem_cons.mp h).elim (fun e => absurd (beq_iff_eq.mpr (Prod.mk.inj e).2.symm) hk) id)
end
theorem get_args {xs : List PV} {n i : Nat} {pv : PV} {l : Nat} (h : getS (slotsOf xs n) i = some (pv, l)) : xs[i]? = some pv ∧ l = 0 := by
  induction n generalizing xs i with
  | zero => cases xs <;> exact nomatch h
  | succ n ih => cases xs with
    | nil =>
      have : ∀ n i, getS (List.replicate n none) i = none := fun n => Nat.rec (fun _ => rfl) (fun n ih i => Nat.casesOn i rfl ih) n
      exact nomatch (this (n + 1) i).symm.trans h
    | cons x xs => cases i with
      | zero => cases h; exact ⟨rfl, rfl⟩
      | succ i => exact ih (i := i) (xs := xs) h
theorem slots_len {xs : List PV} {n : Nat} (h : xs.length ≤ n) : (slotsOf xs n).length = n := by
  induction n generalizing xs with
  | zero => cases xs with
    | nil => rfl
    | cons _ _ => exact nomatch h
  | succ n ih => cases xs with
    | nil => exact List.length_replicate
    | cons x xs => exact congrArg (· + 1) (ih (Nat.le_of_succ_le_succ h))

/-- the names of a def's scope -/
structure ScopeOk (cc : CC) (scope : Scope) (ps : List Str) : Prop where
  good : cc.Good
  gl : ∀ x, cc.gl x = true → scope.names.lookup x = some .globalImplicit
  cl : ∀ x, cc.cl x = true → scope.names.lookup x = some .cell
  st : ∀ x i, cc.σ x = some i → scope.names.lookup x = some .local ∨ scope.names.lookup x = some .cell
  par : ∀ i x, ps[i]? = some x → cc.σ x = some i
  nodup : ps.Nodup
  kind : scope.kind = .function
  few : ps.length ≤ cc.n
/-- how a call's arguments meet the parameters -/
def Packs (W : Wld) (fd : FuncData) (ps : List Str) (pack : List PV → (List PV → Prop) → Prop) : Prop :=
  ∀ (A : Around) (s : Shared) (Ok : Addr → Prop) (vs : List Value) (xs : List PV) (Z : List PV → Prop) (E : Value → Shared → Prop) (Q : List (Str × Value) → Shared → Prop), W.On s.heap → Fresh Ok s → Vals s.heap Ok vs xs → pack xs Z →
    (∀ ws ys s', Ext s s' → Vals s'.heap Ok ws ys → ws.length = ps.length → Z ys → Q (ps.zip ws) s') → wpAny W.M A (bindArgs fd ⟨vs, []⟩) Q E s
/-- what is known of a def -/
structure DefIs (W : Wld) (fa : Addr) (fd : FuncData) (body : List Stmt) : Prop where
  body : fd.body = .stmts body
  obj : ∃ o, W.K.lookup fa = some o ∧ o.data = .func fd
  code : ∀ h : Heap, W.On h → h.CodeRec fd.code fd.qualname
  globals : fd.globals = mainGlobals
  builtins : fd.builtins = builtinsNs
  closure : fd.closure = []
  co : fd.scope.isCoroutine = false
  gen : fd.scope.isGenerator = false
theorem fun_ok {C : Cx} {fa : Addr} {fd : FuncData} {body : List Stmt} {ms : MS} {ps : List Str} {pack : List PV → (List PV → Prop) → Prop}
    (D : DefIs C.W fa fd body) (hpack : Packs C.W fd ps pack) (hsc : ScopeOk C.cc fd.scope ps) (hsb : SB C ms body) :
    FunOk C.W (C.k + 1) fa fun xs Z => pack xs fun ys => callP C.Γ C.cc.n ms ys Z := by
  intro A s Ok vs xs Z hr hon hfr hra hz R q
  obtain ⟨o, hK, hd⟩ := D.obj
  have hdep : A.depth < recursionLimit := by have := hr.dep; unfold recursionLimit; omega
  refine codeAny_call_function hdep (hon.frag _ _ hK) hd D.co D.gen D.body (D.code _ hon) (hpack A.in1 s Ok vs xs _ _ _ hon hfr hra hz fun ws ys s1 e1 rw_ hlen hz => ?_)
  rw [D.closure, D.globals, D.builtins]
  have hon1 := hon.ext e1
  have kindAt : ∀ x ∈ ps.zip ws, fd.scope.names.lookup x.1 = some .local ∨ (fd.scope.names.lookup x.1 = some .cell ∧ ((cellsFrom (s1.heap.objs.size + 1) fd.scope.names []).lookup x.1).isSome = true) := fun x hx =>
    let ⟨i, hi⟩ := List.mem_iff_getElem?.mp (List.of_mem_zip hx).1
    (hsc.st _ _ (hsc.par i _ hi)).imp_right fun h => ⟨h, cells_acc (.inr (lookup_mem h))⟩
  refine wpAny_newFunctionEnv_cells hsc.kind kindAt fun env he s2 x => ?_
  obtain ⟨hsame0, hns, hkeep, hfre⟩ := x.toInCall
  have hsame : Same s1 s2 := by obtain ⟨h, tk, e⟩ := hsame0; rw [e]; exact ⟨rfl, rfl⟩
  have e2 : Ext s1 s2 := ⟨hsame, hkeep⟩
  have henvl : env.locals = s1.heap.objs.size := by rw [he]; rfl
  have hkd : ∀ y, env.kindOf y = fd.scope.names.lookup y := fun y => by rw [he]; rfl
  have henvc : env.cells = cellsFrom (s1.heap.objs.size + 1) fd.scope.names [] := by rw [he]; rfl
  have hcell : ∀ {y}, fd.scope.names.lookup y = some .cell → ∃ c, env.cells.lookup y = some c := fun h => by
    rw [henvc]; exact Option.isSome_iff_exists.mp (cells_acc (.inr (lookup_mem h)))
  have hyl : ys.length = ps.length := by rw [← rw_.1.length, hlen]
  have T : StS C ⟨A.deeper env, env, fun b o => s1.heap.get? b = some o, s1, Ok⟩ := by
    refine ⟨⟨hr.hd, ?_, ?_⟩, fun h hh => hon1.keeps hh, by rw [he]; exact hsc.kind, by rw [he]; rfl, by rw [he]; rfl, fun y hy => by rw [hkd]; exact hsc.gl y hy, fun y hy => ⟨.inl (by rw [hkd]; exact hsc.cl y hy), hcell (hsc.cl y hy)⟩, fun y i hy => by rw [hkd]; exact (hsc.st y i hy).imp_right fun h => ⟨h, hcell h⟩,
      fun y y' c h1 h2 => name_of_addr x.apart (mem_of_lookup h1) (mem_of_lookup h2), ?_⟩
    · have := hr.dep; show A.depth + 1 + 2 * C.k < 900; omega
    · have := hr.un; show A.units + 3 + 200 * C.k + 200 < cLine; omega
    · rintro b (rfl | ⟨y, hy⟩) o hb
      · exact Nat.lt_irrefl _ (henvl ▸ Heap.lt_size hb)
      · exact absurd (Heap.lt_size hb) (Nat.not_lt.mpr (Nat.le_of_lt (henvl ▸ x.above y b (mem_of_lookup hy))))
  have S : StR C ⟨A.deeper env, env, fun b o => s1.heap.get? b = some o, s1, Ok⟩ (fun _ _ => False) (slotsOf ys C.cc.n) s2 := by
    refine ⟨T, hkeep, hsame, fun a ha => hfr a ((e1.trans e2).fresh ha), slots_len (hyl ▸ hsc.few), fun y i hy pv l hi => ?_, ⟨_, hns⟩, fun y c hc => ⟨_, x.cell y c hc⟩, fun _ _ h => h.elim, fun _ _ _ h => h.elim⟩
    obtain ⟨hv, rfl⟩ := get_args hi
    obtain ⟨w, hw, rw1⟩ := rw_.1.get i _ hv
    have hpi : ps[i]? = some y := by
      have hl := (List.getElem?_eq_some_iff.mp hv).1
      rw [hyl] at hl
      have h := List.getElem?_eq_getElem hl
      rw [h, hsc.good.inj _ _ _ (hsc.par i _ h) hy]
    have hb := bind_at (kd := env.kindOf) (m := fun _ => none) hsc.nodup hpi hw
    refine ⟨w, ?_, .zero ((rw1.ext e2).weaken fun b hb => ⟨hb, fun _ h => h⟩), rw_.2 _ (List.mem_of_getElem? hv)⟩
    rcases hsc.st y i hy with h | h
    · have h := (hkd y).trans h
      exact .inl ⟨h, _, hns, hb.1 h⟩
    · obtain ⟨c, hc⟩ := hcell h
      have h := (hkd y).trans h
      have hcl := x.cell y c hc
      rw [hb.2 (by rw [h]; decide)] at hcl
      exact .inr ⟨.inl h, c, hc, hcl⟩
  refine ⟨hon1.nolimit.keeps hkeep, codeAny_func (hsb _ _ _ s2 _ S hz _ _ fun own' s' ρ' fl f S' hf hz => ?_)⟩
  have e3 : Ext s1 s' := ⟨S'.same, S'.kept⟩
  cases fl with
  | next => cases hf; exact q .none s' .none (e1.trans e3) .none .none hz
  | ret v => obtain ⟨w, rfl, hw, sz⟩ := hf; exact q w s' v (e1.trans e3) hw sz hz
  | brk => exact hz.elim
  | cont => exact hz.elim

def lenIs : Nat → List PV → Prop → Prop
  | 0, [], P => P
  | n + 1, _ :: r, P => lenIs n r P
  | _, _, _ => False
theorem lenIs_inv {n : Nat} {xs : List PV} {P : Prop} (h : lenIs n xs P) : xs.length = n ∧ P := by
  induction n generalizing xs with
  | zero => cases xs with
    | nil => exact ⟨rfl, h⟩
    | cons _ _ => exact h.elim
  | succ n ih => cases xs with
    | nil => exact h.elim
    | cons _ _ => exact (ih h).imp_left (congrArg (· + 1))
theorem packs_plain {W : Wld} {fd : FuncData} {ps : List Str} {n : Nat} (hn : ps.length = n) (h : ∀ vs : List Value, vs.length = n → bindArgs fd ⟨vs, []⟩ = pure (ps.zip vs)) : Packs W fd ps (fun xs Z => lenIs n xs (Z xs)) :=
  fun A s Ok vs xs Z E Q hon fr r e q => by
    obtain ⟨hl, z⟩ := lenIs_inv e
    have hv : vs.length = n := r.1.length.trans hl
    rw [h vs hv]
    exact wpAny_pure (q vs xs s (.refl s) r (hv.trans hn.symm) z)
end Mine
end
noncomputable section
namespace Mine
open Builtin

/-! ## from the program's text to the small language -/
/-- what a law's text may use -/
structure Cfg where
  bop : List { o : BOp // ∀ W, BinOk W o }
  aop : List { o : BOp // ∀ W, AugOk W o }
  cop : List { o : COp // ∀ W, CmpOk W o }
  meth : List { m : Meth // ∀ W, MethOk W m }
  b1 : List { b : BI1 // ∀ W, Bi1Ok W b }
  b2 : List { b : BI2 // ∀ W, Bi2Ok W b }
  cls : List String
/-- the names of the builtins, and what stands behind them -/
def Cfg.names (cfg : Cfg) : List (Str × Value) := (Str.ofString "range", Value.type "range") :: (((cfg.cls.map fun c => (Str.ofString c, Value.type c)) ++ (cfg.b1.map fun b => (b.1.nameS, b.1.valV))) ++ cfg.b2.map fun b => (b.1.nameS, b.1.valV))
structure Hy (cfg : Cfg) (fns : List Str) (C : Cx) : Prop where
  bg : ∀ p ∈ cfg.names, C.W.glob p.1 = some p.2
  gk : GOk C.W C.k C.Γ fns
  good : C.cc.Good
/-- the text's meaning in the small language -/
abbrev Snd (cfg : Cfg) (fns : List Str) (cc : CC) (P : Cx → Prop) : Prop := ∀ W Γ k, Hy cfg fns ⟨W, Γ, k, cc⟩ → P ⟨W, Γ, k, cc⟩
abbrev CE (cfg : Cfg) (fns : List Str) (cc : CC) (e : Expr) : Type := { me : ME // Snd cfg fns cc fun C => Both C me e }
abbrev CL (cfg : Cfg) (fns : List Str) (cc : CC) (es : List Expr) : Type := { me : ME // Snd cfg fns cc fun C => SL C me es }
abbrev CA (cfg : Cfg) (fns : List Str) (cc : CC) (es : List Expr) : Type := { me : ME // Snd cfg fns cc fun C => SA C me es }
abbrev CI (cfg : Cfg) (fns : List Str) (cc : CC) (e : Expr) : Type := { me : ME // Snd cfg fns cc fun C => SI C me e }
abbrev CP (cfg : Cfg) (fns : List Str) (cc : CC) (e : Option Expr) : Type := { me : ME // Snd cfg fns cc fun C => SPt C me e }

section
variable {cfg : Cfg} {fns : List Str} {C : Cx}
theorem Hy.cls (H : Hy cfg fns C) {c : String} (h : c ∈ cfg.cls) : C.W.glob (Str.ofString c) = some (.type c) := H.bg _ (.tail _ (List.mem_append_left _ (List.mem_append_left _ (List.mem_map_of_mem (f := fun c => (Str.ofString c, Value.type c)) h))))
theorem Hy.b1 (H : Hy cfg fns C) {b : { b : BI1 // ∀ W, Bi1Ok W b }} (h : b ∈ cfg.b1) : C.W.glob b.1.nameS = some b.1.valV := H.bg _ (.tail _ (List.mem_append_left _ (List.mem_append_right _ (List.mem_map_of_mem (f := fun b : { b : BI1 // ∀ W, Bi1Ok W b } => (b.1.nameS, b.1.valV)) h))))
theorem Hy.b2 (H : Hy cfg fns C) {b : { b : BI2 // ∀ W, Bi2Ok W b }} (h : b ∈ cfg.b2) : C.W.glob b.1.nameS = some b.1.valV := H.bg _ (.tail _ (List.mem_append_right _ (List.mem_map_of_mem (f := fun b : { b : BI2 // ∀ W, Bi2Ok W b } => (b.1.nameS, b.1.valV)) h)))
theorem Hy.range (H : Hy cfg fns C) : C.W.glob "range" = some (.type "range") := H.bg _ (.head _)
def pick {α β : Type} [BEq β] [LawfulBEq β] (f : α → β) (b : β) : (l : List α) → Option { a : α // a ∈ l ∧ f a = b }
  | [] => none
  | a :: r => if h : (f a == b) = true then some ⟨a, .head _, eq_of_beq h⟩ else (pick f b r).map fun x => ⟨x.1, .tail _ x.2.1, x.2.2⟩
def pickF (x : Str) : (l : List Str) → Option { i : Nat // l[i]? = some x }
  | [] => none
  | a :: r => if h : (a == x) = true then some ⟨0, congrArg some (eq_of_beq h)⟩ else (pickF x r).map fun i => ⟨i.1 + 1, i.2⟩
def badName (x : Str) : Bool := x == ("__debug__" : Str) || x == ("__classdict__" : Str)
theorem badName_of {x : Str} (h : ¬ badName x = true) : (x == ("__debug__" : Str)) = false ∧ (x == ("__classdict__" : Str)) = false := Bool.or_eq_false_iff.mp (Bool.eq_false_iff.mpr h)

def CE.bad {cc : CC} {e : Expr} : CE cfg fns cc e := ⟨.bad, fun _ _ _ _ => both_bad⟩
variable {cc : CC}
def cName (x : Str) (p : Pos) : CE cfg fns cc (.Name x p) :=
  if hb : badName x = true then .bad else
  match hx : cc.σ x with
  | some i => ⟨.var i, fun W Γ k H => both_plain (se_name hx (badName_of hb).1 (badName_of hb).2) (fun _ _ => rfl) fun _ => rfl⟩
  | none => if hg : cc.gl x = true then (match pick Str.ofString x cfg.cls with
    | some c => ⟨.lit (.cls c.1), fun W Γ k H => both_plain (se_cls hg ((congrArg W.glob c.2.2).symm.trans (H.cls c.2.1)) (badName_of hb).1) (fun _ _ => rfl) fun _ => rfl⟩
    | none => .bad) else .bad
variable (ih : ∀ (cc : CC) (e : Expr), CE cfg fns cc e)
def cList : (es : List Expr) → CL cfg fns cc es
  | [] => ⟨.nil, fun _ _ _ _ => sl_nil⟩
  | e :: r => if h : notStar e = true then ⟨.cons (ih cc e).1 (cList r).1, fun W Γ k H => sl_cons h ((ih cc e).2 W Γ k H).se ((cList r).2 W Γ k H)⟩ else
    match e with
    | .Starred e p => ⟨.star (ih cc e).1 (cList r).1, fun W Γ k H => sl_star ((ih cc e).2 W Γ k H).se ((cList r).2 W Γ k H)⟩
    | _ => ⟨.bad, fun _ _ _ _ _ _ _ _ _ _ _ _ h => h.elim⟩
def okA : List Expr → Bool
  | [e] => notStar e
  | _ => true
theorem okA_of {es : List Expr} (h : okA es = true) : es.length ≠ 1 ∨ ∃ e, es = [e] ∧ notStar e = true := by
  cases es with
  | nil => exact .inl (by decide)
  | cons e r => cases r with
    | nil => exact .inr ⟨e, rfl, h⟩
    | cons _ _ => exact .inl fun h => nomatch h
def cArgs (es : List Expr) : CA cfg fns cc es :=
  if h : okA es = true then ⟨(cList ih es).1, fun W Γ k H => sa_of ((cList ih es).2 W Γ k H) (okA_of h)⟩ else
  match es with
  | [.Starred e p] => ⟨.star (ih cc e).1 .nil, fun W Γ k H => sa_lone ((ih cc e).2 W Γ k H).se⟩
  | _ => ⟨.bad, fun _ _ _ _ _ _ _ _ _ _ _ _ _ h => h.elim⟩
def cBool (op : BoolOp) (pos : Pos) : (es : List Expr) → CE cfg fns cc (.BoolOp op es pos)
  | [] => .bad
  | e :: r => match r, cBool op pos r with
    | [], _ => ⟨(ih cc e).1, fun W Γ k H => both_one ((ih cc e).2 W Γ k H)⟩
    | e2 :: r, h => match op, h with
      | .And, h => ⟨.and_ (ih cc e).1 h.1, fun W Γ k H => both_and ((ih cc e).2 W Γ k H) (h.2 W Γ k H)⟩
      | .Or, h => ⟨.or_ (ih cc e).1 h.1, fun W Γ k H => both_or ((ih cc e).2 W Γ k H) (h.2 W Γ k H)⟩
def cPart : (e : Option Expr) → CP cfg fns cc e
  | none => ⟨.lit .none, fun _ _ _ _ => spt_none⟩
  | some e => ⟨(ih cc e).1, fun W Γ k H => spt_some ((ih cc e).2 W Γ k H).se⟩
def cSub (v i : Expr) (p : Pos) (more : CE cfg fns cc (.Subscript v i p)) : CE cfg fns cc (.Subscript v i p) :=
  match i, more with
  | .Slice l u st q, more => (match st, more with
    | none, _ => ⟨.cut (ih cc v).1 (cPart ih l).1 (cPart ih u).1, fun W Γ k H => both_plain (se_cut ((ih cc v).2 W Γ k H).se ((cPart ih l).2 W Γ k H) ((cPart ih u).2 W Γ k H)) (fun _ _ => rfl) fun _ => rfl⟩
    | some _, more => more)
  | i, _ => ⟨.idx (ih cc v).1 (ih cc i).1, fun W Γ k H => both_plain (se_idx ((ih cc v).2 W Γ k H).se ((ih cc i).2 W Γ k H).se) (fun _ _ => rfl) fun _ => rfl⟩
def cCall (x : Str) (p : Pos) (es : List Expr) (pos : Pos) (more : CE cfg fns cc (.Call (.Name x p) es [] pos)) : CE cfg fns cc (.Call (.Name x p) es [] pos) :=
  if hb : badName x = true then .bad else if hg : cc.gl x = true then
    match pickF x fns with
    | some i => ⟨.fn i.1 (cArgs ih es).1, fun W Γ k H => both_plain (se_fn H.gk i.2 hg (badName_of hb).1 ((cArgs ih es).2 W Γ k H)) (fun _ _ => rfl) fun _ => rfl⟩
    | none => match es, more with
      | [], more => more
      | e :: r, more => match r, more with
        | [], more => if hn : notStar e = true then (match pick (fun b : { b : BI1 // ∀ W, Bi1Ok W b } => b.1.nameS) x cfg.b1 with
          | some b => ⟨.bi1 b.1.1 (ih cc e).1, fun W Γ k H => by
              obtain ⟨b, hm, rfl⟩ := b
              exact both_plain (se_bi1 (b.2 W) hg (H.b1 hm) hn ((ih cc e).2 W Γ k H).se) (fun _ _ => rfl) fun _ => rfl⟩
          | none => more) else more
        | e2 :: r, more => match r, more with
          | [], more => if hn : notStar e = true ∧ notStar e2 = true then (match pick (fun b : { b : BI2 // ∀ W, Bi2Ok W b } => b.1.nameS) x cfg.b2 with
            | some b => ⟨.bi2 b.1.1 (ih cc e).1 (ih cc e2).1, fun W Γ k H => by
                obtain ⟨b, hm, rfl⟩ := b
                exact both_plain (se_bi2 (b.2 W) hg (H.b2 hm) hn.1 hn.2 ((ih cc e).2 W Γ k H).se ((ih cc e2).2 W Γ k H).se) (fun _ _ => rfl) fun _ => rfl⟩
            | none => more) else more
          | _ :: _, more => more
  else .bad
def cMeth (o : Expr) (m : Str) (apos : Pos) (es : List Expr) (pos : Pos) : CE cfg fns cc (.Call (.Attribute o m apos) es [] pos) :=
  match es with
  | [] => .bad
  | e :: r => match r with
    | [] => if h : (notSuper o = true ∧ (apos.endLine == pos.line) = true) ∧ notStar e = true then (match pick (fun m : { m : Meth // ∀ W, MethOk W m } => m.1.nameS) m cfg.meth with
      | some m => ⟨.meth m.1.1 (ih cc o).1 (ih cc e).1, fun W Γ k H => by
          obtain ⟨m, hm, rfl⟩ := m
          exact both_plain (se_meth (m.2 W) h.1.1 h.1.2 h.2 ((ih cc o).2 W Γ k H).se ((ih cc e).2 W Γ k H).se) (fun _ _ => rfl) fun _ => rfl⟩
      | none => .bad) else .bad
    | _ :: _ => .bad

/-! sources of loops -/
def plainSrc : ME → Bool
  | .range _ _ => false
  | .enum _ => false
  | _ => true
theorem its_plain {Γ : FEnv} {me : ME} (h : plainSrc me = true) : ∀ ρ Z, (evA Γ me ρ).its Z = (evA Γ me ρ).val fun x l => itsP x l Z := by
  cases me with
  | range _ _ => exact nomatch h
  | enum _ => exact nomatch h
  | _ => exact fun _ _ => rfl
def cVal (e : Expr) : CI cfg fns cc e :=
  if h : plainSrc (ih cc e).1 = true then ⟨(ih cc e).1, fun W Γ k H => si_val ((ih cc e).2 W Γ k H).se (its_plain h)⟩ else ⟨.bad, fun _ _ _ _ _ _ _ _ _ _ _ h => h.elim⟩
def cRange (x : Str) (p : Pos) (es : List Expr) (pos : Pos) (hx : (x == ("range" : Str)) = true ∧ cc.gl x = true) : CI cfg fns cc (.Call (.Name x p) es [] pos) :=
  match es with
  | [] => cVal ih _
  | e :: r => match r with
    | [] => if hn : notStar e = true then ⟨.range (.lit (.int 0)) (ih cc e).1, fun W Γ k H => by
        have e := eq_of_beq hx.1
        subst e
        exact si_range1 hx.2 H.range hn ((ih cc e).2 W Γ k H).se⟩ else cVal ih _
    | e2 :: r => match r with
      | [] => if hn : notStar e = true ∧ notStar e2 = true then ⟨.range (ih cc e).1 (ih cc e2).1, fun W Γ k H => by
          have e := eq_of_beq hx.1
          subst e
          exact si_range hx.2 H.range hn.1 hn.2 ((ih cc e).2 W Γ k H).se ((ih cc e2).2 W Γ k H).se⟩ else cVal ih _
      | _ :: _ => cVal ih _
def cSrc (e : Expr) : CI cfg fns cc e :=
  match e with
  | .Call f es kw pos => match f with
    | .Name x p => match kw with
      | [] => if h : (x == ("range" : Str)) = true ∧ cc.gl x = true then cRange ih x p es pos h else cVal ih _
      | _ :: _ => cVal ih _
    | _ => cVal ih _
  | _ => cVal ih _
end
end Mine
end
noncomputable section
namespace Mine
open Builtin

def compOkB (cc : CC) (scope : Scope) (x : Str) : Bool :=
  decide (scope.kind = .function) && (scope.names.all (fun y => (!(decide (y.2 = .free)) || cc.cl y.1) && (!(decide (y.2 = .cell)) && (!(decide (y.2 = .local)) || decide (scope.names.lookup y.1 = some .local)))) && decide (scope.names.lookup x = some .local))
theorem imp_of {p : Prop} [Decidable p] {b : Bool} (h : (!(decide p) || b) = true) (hp : p) : b = true := by rw [decide_eq_true hp] at h; exact h
theorem and_of {a b : Bool} (h : (a && b) = true) : a = true ∧ b = true := by
  cases a with
  | true => exact ⟨rfl, h⟩
  | false => exact nomatch h
theorem compOk_of {cc : CC} (G : cc.Good) {scope : Scope} {x : Str} (h : compOkB cc scope x = true) : CompOk cc scope x := by
  obtain ⟨h1, h⟩ := and_of h
  obtain ⟨h2, h3⟩ := and_of h
  have h2 := List.all_eq_true.mp h2
  exact ⟨of_decide_eq_true h1, fun y hy hf => imp_of (and_of (h2 y hy)).1 hf, fun y hy hf => by
    have := (and_of (and_of (h2 y hy)).2).1
    rw [decide_eq_true hf] at this
    exact absurd this Bool.false_ne_true, fun y hy hf => of_decide_eq_true (imp_of (and_of (and_of (h2 y hy)).2).2 hf), of_decide_eq_true h3, G.lt⟩
theorem comp_σ {cc : CC} {scope : Scope} {x y : Str} {i : Nat} (h : (cc.comp scope x).σ y = some i) : (y = x ∧ i = cc.n) ∨ (y ≠ x ∧ cc.σ y = some i) := by
  have h : (if y = x then some cc.n else if scope.names.lookup y = some .free then cc.σ y else none) = some i := h
  split at h
  · exact .inl ⟨‹_›, (Option.some.inj h).symm⟩
  · split at h
    · exact .inr ⟨‹_›, h⟩
    · exact nomatch h
theorem CC.Good.comp {cc : CC} (G : cc.Good) (scope : Scope) (x : Str) : (cc.comp scope x).Good where
  lt := fun y i h => (comp_σ h).elim (fun h => h.2 ▸ Nat.lt_succ_self _) fun h => Nat.lt_succ_of_lt (G.lt y i h.2)
  inj := fun y z i h1 h2 => (comp_σ h1).elim (fun a => (comp_σ h2).elim (fun b => a.1.trans b.1.symm) fun b => absurd (a.2 ▸ G.lt z i b.2) (Nat.lt_irrefl _)) fun a => (comp_σ h2).elim (fun b => absurd (b.2 ▸ G.lt y i a.2) (Nat.lt_irrefl _)) fun b => G.inj y z i a.2 b.2
/-- a list comprehension's parts -/
structure CompC (cfg : Cfg) (fns : List Str) (cc : CC) (elt : Expr) (gens : List Comprehension) (scope : Scope) where
  x : Str
  px : Pos
  iter : Expr
  ifs : List Expr
  eq : gens = [⟨.Name x px, iter, ifs, 0⟩]
  ok : cc.Good → CompOk cc scope x
  hns : notSet iter = true
  me : ME
  src : ME
  cond : ME
  s : Snd cfg fns cc fun C => SI C src iter
  e : Snd cfg fns cc fun C => SE (C.comp scope x) me elt
  i : Snd cfg fns cc fun C => IfsIs (C.comp scope x) cond ifs
abbrev CS (cfg : Cfg) (fns : List Str) (cc : CC) (st : Stmt) : Type := { ms : MS // Snd cfg fns cc fun C => SS C ms st }
abbrev CB (cfg : Cfg) (fns : List Str) (cc : CC) (b : List Stmt) : Type := { ms : MS // Snd cfg fns cc fun C => SB C ms b }
section
variable {cfg : Cfg} {fns : List Str} {cc : CC}
theorem Hy.comp {W : Wld} {Γ : FEnv} {k : Nat} (H : Hy cfg fns ⟨W, Γ, k, cc⟩) (scope : Scope) (x : Str) : Hy cfg fns ⟨W, Γ, k, cc.comp scope x⟩ := ⟨H.bg, H.gk, H.good.comp scope x⟩
def cIfs (ih : ∀ (cc : CC) (e : Expr), CE cfg fns cc e) (scope : Scope) (x : Str) : (ifs : List Expr) → Option { me : ME // Snd cfg fns cc fun C => IfsIs (C.comp scope x) me ifs }
  | [] => some ⟨.lit (.bool true), fun _ _ _ _ => .none⟩
  | e :: r => match r with
    | [] => some ⟨(ih (cc.comp scope x) e).1, fun W Γ k H => .some ((ih (cc.comp scope x) e).2 W Γ k (H.comp scope x)).st⟩
    | _ :: _ => none
def cGens (ih : ∀ (cc : CC) (e : Expr), CE cfg fns cc e) (elt : Expr) (gens : List Comprehension) (scope : Scope) : Option (CompC cfg fns cc elt gens scope) :=
  match gens with
  | [] => none
  | g :: r => match r with
    | [] => match g with
      | ⟨t, iter, ifs, a⟩ => match t with
        | .Name x px => if h : a = 0 ∧ notSet iter = true ∧ compOkB cc scope x = true then (match cIfs (cc := cc) ih scope x ifs with
          | some i => some ⟨x, px, iter, ifs, by rw [h.1], fun G => compOk_of G h.2.2, h.2.1, (ih (cc.comp scope x) elt).1, (cSrc ih iter).1, i.1, (cSrc ih iter).2, fun W Γ k H => ((ih (cc.comp scope x) elt).2 W Γ k (H.comp scope x)).se, i.2⟩
          | none => none) else none
        | _ => none
    | _ :: _ => none
def cComp (ih : ∀ (cc : CC) (e : Expr), CE cfg fns cc e) (elt : Expr) (gens : List Comprehension) (scope : Scope) (pos : Pos) : CE cfg fns cc (.ListComp elt gens scope pos) :=
  match cGens (cc := cc) ih elt gens scope with
  | some c => ⟨.comp c.me c.src c.cond, fun W Γ k H => by
      obtain ⟨x, px, iter, ifs, rfl, ok, hns, me, src, cond, s, e, i⟩ := c
      exact both_plain (sn_comp (ok H.good) (s W Γ k H) hns (e W Γ k H) (i W Γ k H)).se (fun _ _ => rfl) fun _ => rfl⟩
  | none => .bad
theorem const_plain {Γ : FEnv} (c : Const) : ∀ ρ Z, (evA Γ (cConst c) ρ).tru Z = (evA Γ (cConst c) ρ).val fun x _ => truP x Z := by
  have key : ∀ (p : Prop) [Decidable p] (x : PV), ∀ ρ Z, (evA Γ (if p then .lit x else .bad) ρ).tru Z = (evA Γ (if p then .lit x else .bad) ρ).val fun x _ => truP x Z := fun p _ x => by
    by_cases h : p
    · rw [if_pos h]; exact fun _ _ => rfl
    · rw [if_neg h]; exact fun _ _ => rfl
  cases c with
  | str s => exact key _ _
  | bytes b => exact key _ _
  | _ => exact fun _ _ => rfl
/-- one step of the walk; more tells what it doesn't know -/
def cE1 (more : ∀ (ih : ∀ (cc : CC) (e : Expr), CE cfg fns cc e) (cc : CC) (e : Expr), CE cfg fns cc e) (ih : ∀ (cc : CC) (e : Expr), CE cfg fns cc e) (cc : CC) (e : Expr) : CE cfg fns cc e :=
  match e with
  | .Name x p => cName x p
  | .Constant c n p => ⟨cConst c, fun W Γ k H => both_plain (se_const c) (const_plain c) fun _ => rfl⟩
  | .BinOp l op r p => (match pick (fun o : { o : BOp // ∀ W, BinOk W o } => o.1.op) op cfg.bop with
    | some o => ⟨.bin o.1.1 (ih cc l).1 (ih cc r).1, fun W Γ k H => by
        obtain ⟨o, hm, rfl⟩ := o
        exact both_plain (se_bin (o.2 W) ((ih cc l).2 W Γ k H).se ((ih cc r).2 W Γ k H).se) (fun _ _ => rfl) fun _ => rfl⟩
    | none => .bad)
  | .Compare l ops rs p => (match ops, rs with
    | [op], [r] => if hm : behindInMarks op r = false then (match pick (fun o : { o : COp // ∀ W, CmpOk W o } => o.1.op) op cfg.cop with
      | some o => ⟨.cmp o.1.1 (ih cc l).1 (ih cc r).1, fun W Γ k H => by
          obtain ⟨o, hm', rfl⟩ := o
          exact both_cmp (o.2 W) ((ih cc l).2 W Γ k H).se ((ih cc r).2 W Γ k H).se hm⟩
      | none => .bad) else .bad
    | _, _ => .bad)
  | .BoolOp op es p => cBool ih op p es
  | .UnaryOp op x p => (match op with
    | .Not => ⟨.not_ (ih cc x).1, fun W Γ k H => both_not ((ih cc x).2 W Γ k H)⟩
    | .USub => ⟨.neg (ih cc x).1, fun W Γ k H => both_plain (se_neg ((ih cc x).2 W Γ k H).se) (fun _ _ => rfl) fun _ => rfl⟩
    | _ => .bad)
  | .IfExp t a b p => ⟨.ite (ih cc t).1 (ih cc a).1 (ih cc b).1, fun W Γ k H => both_ite ((ih cc t).2 W Γ k H) ((ih cc a).2 W Γ k H) ((ih cc b).2 W Γ k H)⟩
  | .List es p => ⟨.list (cList ih es).1, fun W Γ k H => both_plain (se_list ((cList ih es).2 W Γ k H)) (fun _ _ => rfl) fun _ => rfl⟩
  | .Tuple es n p => ⟨.tup (cList ih es).1, fun W Γ k H => both_plain (se_tup ((cList ih es).2 W Γ k H)) (fun _ _ => rfl) fun _ => rfl⟩
  | .Subscript v i p => cSub ih v i p (more ih cc _)
  | .Call f es kw pos => (match kw with
    | [] => (match f with
      | .Name x p => cCall ih x p es pos (more ih cc _)
      | .Attribute o m apos => cMeth ih o m apos es pos
      | _ => .bad)
    | _ :: _ => .bad)
  | .ListComp elt gens scope p => cComp ih elt gens scope p
  | _ => .bad
def cE (more : ∀ (ih : ∀ (cc : CC) (e : Expr), CE cfg fns cc e) (cc : CC) (e : Expr), CE cfg fns cc e) (n : Nat) : ∀ (cc : CC) (e : Expr), CE cfg fns cc e := Nat.rec (fun _ _ => .bad) (fun _ ih => cE1 more ih) n

/-! statements -/
def CS.bad {st : Stmt} : CS cfg fns cc st := ⟨.bad, fun _ _ _ _ _ _ _ _ _ _ h => h.elim⟩
variable (ih : ∀ (cc : CC) (e : Expr), CE cfg fns cc e) (mo : ∀ st, CS cfg fns cc st) (owns : List Str)
/-- a name that is listed twice owns a list of lists of its own -/
def twice (x : Str) : Bool := decide (2 ≤ owns.countP fun y => y == x)
/-- a loop that more must tell of: over enumerate -/
def isEnum : Expr → Bool
  | .Call (.Name x _) _ _ _ => x == ("enumerate" : Str)
  | _ => false
def cBk (f : ∀ st, CS cfg fns cc st) : (b : List Stmt) → CB cfg fns cc b
  | [] => ⟨.skip, fun _ _ _ _ => sb_skip⟩
  | s :: r => match r, cBk f r with
    | [], _ => ⟨(f s).1, fun W Γ k H => sb_one ((f s).2 W Γ k H)⟩
    | _ :: _, t => ⟨.seq (f s).1 t.1, fun W Γ k H => sb_seq ((f s).2 W Γ k H) (t.2 W Γ k H)⟩
def cNames : (es : List Expr) → Option { is : List Nat // Names cc es is }
  | [] => some ⟨[], .nil⟩
  | e :: r => match e, cNames r with
    | .Name x p, some is => (match h : cc.σ x with
      | some i => some ⟨i :: is.1, .cons h is.2⟩
      | none => none)
    | _, _ => none
def cTarget (t : Expr) : Option { is : List Nat // Target cc t is } :=
  match t with
  | .Name x p => (match h : cc.σ x with
    | some i => some ⟨[i], .name h⟩
    | none => none)
  | .Tuple es n p => (match cNames (cc := cc) es with
    | some ⟨i :: j :: is, h⟩ => some ⟨i :: j :: is, .tup h (target_two i j is)⟩
    | _ => none)
  | _ => none
def cDict (i : Nat) (x : Str) (h : cc.σ x = some i) (p' p q : Pos) (ks : List (Option Expr)) (vs : List Expr) : CS cfg fns cc (.Assign [.Name x p'] (.Dict ks vs q) p) :=
  match ks, vs with
  | [], [] => ⟨.newDict i, fun W Γ k H => ss_newDict H.good h⟩
  | _, _ => .bad
def cAsg (x : Str) (p' p : Pos) (e : Expr) : CS cfg fns cc (.Assign [.Name x p'] e p) :=
  match h : cc.σ x with
  | none => .bad
  | some i => match e with
    | .Dict ks vs q => cDict i x h p' p q ks vs
    | .ListComp elt gens scope q => (match cGens (cc := cc) ih elt gens scope with
      | some c => ⟨.asg i (owns.contains x) (.comp c.me c.src c.cond), fun W Γ k H => by
          obtain ⟨y, px, iter, ifs, rfl, ok, hns, me, src, cond, s, e, i⟩ := c
          exact ss_comp H.good h (ok H.good) (s W Γ k H) hns (e W Γ k H) (i W Γ k H)⟩
      | none => .bad)
    | .List es q => if ho : owns.contains x = true then ⟨.asg i true (.list (cList ih es).1), fun W Γ k H => ss_own H.good h rfl (sn_list ((cList ih es).2 W Γ k H))⟩
      else ⟨.asg i false (.list (cList ih es).1), fun W Γ k H => ss_asg H.good h rfl (se_list ((cList ih es).2 W Γ k H))⟩
    | e => if hn : notComp e = true then ⟨.asg i false (ih cc e).1, fun W Γ k H => ss_asg H.good h hn ((ih cc e).2 W Γ k H).se⟩ else .bad
def cUnpack (es : List Expr) (n : Nat) (p' p : Pos) (e : Expr) : CS cfg fns cc (.Assign [.Tuple es n p'] e p) :=
  if hn : notTuple e = true ∧ notComp e = true then (match cNames (cc := cc) es with
    | some is => ⟨.unpack is.1 (ih cc e).1, fun W Γ k H => ss_unpack H.good is.2 hn.2 hn.1 ((ih cc e).2 W Γ k H).se⟩
    | none => .bad) else mo _
def cSet (x : Str) (p p' pos : Pos) (i e : Expr) : CS cfg fns cc (.Assign [.Subscript (.Name x p) i p'] e pos) :=
  if hb : badName x = true then .bad else match h : cc.σ x with
  | none => .bad
  | some j => if hn : notComp e = true then ⟨.setIdx j (ih cc i).1 (ih cc e).1, fun W Γ k H => ss_setIdx H.good h (badName_of hb).1 (badName_of hb).2 hn ((ih cc i).2 W Γ k H).se ((ih cc e).2 W Γ k H).se⟩ else .bad
def cAssign (ts : List Expr) (e : Expr) (p : Pos) : CS cfg fns cc (.Assign ts e p) :=
  match ts with
  | [] => .bad
  | t :: r => match r with
    | [] => (match t with
      | .Name x p' => if twice owns x = true then mo _ else cAsg ih owns x p' p e
      | .Tuple es n p' => cUnpack ih mo es n p' p e
      | .Subscript o i p' => (match o with
        | .Name x q => cSet ih x q p' p i e
        | _ => mo _)
      | _ => .bad)
    | _ :: _ => mo _
def cAug (x : Str) (p pos : Pos) (op : Operator) (e : Expr) : CS cfg fns cc (.AugAssign (.Name x p) op e pos) :=
  if owns.contains x = true then mo _ else if hb : badName x = true then .bad else match h : cc.σ x with
  | none => .bad
  | some i => match pick (fun o : { o : BOp // ∀ W, AugOk W o } => o.1.op) op cfg.aop with
    | some o => ⟨.aug i o.1.1 (ih cc e).1, fun W Γ k H => by
        obtain ⟨o, hm, rfl⟩ := o
        exact ss_aug H.good (o.2 W) h (badName_of hb).2 ((ih cc e).2 W Γ k H).se⟩
    | none => .bad
def notSlice : Expr → Bool
  | .Slice _ _ _ _ => false
  | _ => true
theorem store_plain {i : Expr} (h : notSlice i = true) (ov iv new : Value) : augStore i ov iv new = (do holding [new, ov, iv] (setItem ov iv new); release [new, ov, iv] []; pure .next) := by
  cases i with
  | Slice _ _ _ _ => exact nomatch h
  | _ => rfl
def cAugI (x : Str) (p p' pos : Pos) (i : Expr) (op : Operator) (e : Expr) : CS cfg fns cc (.AugAssign (.Subscript (.Name x p) i p') op e pos) :=
  if hb : badName x = true then .bad else match h : cc.σ x with
  | none => .bad
  | some j => if hn : notSlice i = true then (match pick (fun o : { o : BOp // ∀ W, AugOk W o } => o.1.op) op cfg.aop with
    | some o => ⟨.augIdx j (ih cc i).1 o.1.1 (ih cc e).1, fun W Γ k H => by
        obtain ⟨o, hm, rfl⟩ := o
        exact ss_augIdx H.good (o.2 W) h (badName_of hb).1 (badName_of hb).2 ((ih cc i).2 W Γ k H).se ((ih cc e).2 W Γ k H).se (store_plain hn)⟩
    | none => .bad) else .bad
def cMStm (x m : Str) (p apos pos pos' : Pos) (es : List Expr) : CS cfg fns cc (.Expr (.Call (.Attribute (.Name x p) m apos) es [] pos) pos') :=
  if twice owns x = true then mo _ else if hb : badName x = true then .bad else match h : cc.σ x with
  | none => .bad
  | some i => if hl : (apos.endLine == pos.line) = true then (match es with
    | [] => if hm : (m == ("pop" : Str)) = true then ⟨.pop i, fun W Γ k H => by
        have e := eq_of_beq hm
        subst e
        exact ss_pop H.good h (badName_of hb).1 (badName_of hb).2 hl⟩ else .bad
    | e :: r => (match r with
      | [] => if hm : (m == ("append" : Str)) = true ∧ notStar e = true then ⟨.append i (ih cc e).1, fun W Γ k H => by
          have e := eq_of_beq hm.1
          subst e
          exact ss_append H.good h (badName_of hb).1 (badName_of hb).2 hl hm.2 ((ih cc _).2 W Γ k H).se⟩ else mo _
      | _ :: _ => .bad)) else .bad
def cCallS (e : Expr) (p : Pos) : CS cfg fns cc (.Expr e p) :=
  match e with
  | .Call f es kw pos => (match kw with
    | [] => (match f with
      | .Attribute o m apos => (match o with
        | .Name x q => cMStm ih mo owns x m q apos pos p es
        | _ => mo _)
      | _ => mo _)
    | _ :: _ => mo _)
  | _ => mo _
def cS1 (rec : ∀ st, CS cfg fns cc st) (st : Stmt) : CS cfg fns cc st :=
  match st with
  | .Pass p => ⟨.skip, fun _ _ _ _ => ss_pass⟩
  | .Break p => ⟨.brk, fun _ _ _ _ => ss_brk⟩
  | .Continue p => ⟨.cont, fun _ _ _ _ => ss_cont⟩
  | .Return v p => (match v with
    | none => ⟨.ret (.lit .none), fun _ _ _ _ => ss_ret_none⟩
    | some e => ⟨.ret (ih cc e).1, fun W Γ k H => ss_ret H.good ((ih cc e).2 W Γ k H).se⟩)
  | .If t b o p => ⟨.ite (ih cc t).1 (cBk rec b).1 (cBk rec o).1, fun W Γ k H => ss_ite H.good ((ih cc t).2 W Γ k H).st ((cBk rec b).2 W Γ k H) ((cBk rec o).2 W Γ k H)⟩
  | .While t b o p => (match o with
    | [] => ⟨.while_ (ih cc t).1 (cBk rec b).1, fun W Γ k H => ss_while H.good ((ih cc t).2 W Γ k H).st ((cBk rec b).2 W Γ k H)⟩
    | _ :: _ => .bad)
  | .For t iter b o p => if isEnum iter = true then mo _ else (match o with
    | [] => (match cTarget (cc := cc) t with
      | some is => if hn : notSet iter = true then ⟨.for_ is.1 (cSrc ih iter).1 (cBk rec b).1, fun W Γ k H => ss_for H.good is.2 ((cSrc ih iter).2 W Γ k H) hn ((cBk rec b).2 W Γ k H)⟩ else .bad
      | none => .bad)
    | _ :: _ => .bad)
  | .Assign ts e p => cAssign ih mo owns ts e p
  | .AugAssign t op e p => (match t with
    | .Name x q => cAug ih mo owns x q p op e
    | .Subscript o i q => (match o with
      | .Name x r => cAugI ih x r q p i op e
      | _ => mo _)
    | _ => .bad)
  | .Expr e p => cCallS ih mo owns e p
  | .Try b hs o f p => (match hs with
    | h :: t => (match o, f with
      | [], [] => ⟨.try_ (cBk rec b).1, fun W Γ k H => ss_try ((cBk rec b).2 W Γ k H)⟩
      | _, _ => .bad)
    | [] => .bad)
  | _ => .bad
end
/-- what a law's text needs beyond this -/
structure More (cfg : Cfg) (fns : List Str) where
  e : ∀ (ih : ∀ (cc : CC) (e : Expr), CE cfg fns cc e) (cc : CC) (e : Expr), CE cfg fns cc e
  s : ∀ (ih : ∀ (cc : CC) (e : Expr), CE cfg fns cc e) (owns : List Str) (cc : CC) (rec : ∀ st, CS cfg fns cc st) (st : Stmt), CS cfg fns cc st
def cS {cfg : Cfg} {fns : List Str} (mo : More cfg fns) (owns : List Str) (n : Nat) (cc : CC) (st : Stmt) : CS cfg fns cc st :=
  Nat.rec (motive := fun _ => ∀ st, CS cfg fns cc st) (fun _ => .bad) (fun n rec => cS1 (cE mo.e n) (mo.s (cE mo.e n) owns cc rec) owns rec) n st
/-- a def's body -/
def cB {cfg : Cfg} {fns : List Str} (mo : More cfg fns) (owns : List Str) (n : Nat) (cc : CC) (b : List Stmt) : CB cfg fns cc b := cBk (cS mo owns n cc) b
end Mine
end
noncomputable section
namespace Mine
open Builtin

/-! ## a def of the heap -/
/-- what is asked of a def: its name, the names of its frame, how many of them are parameters, a parameter for the rest, the lists that it owns -/
structure Sig where
  name : Str
  slots : List Str
  np : Nat
  rest : Bool
  owns : List Str
def CC.of (slots : List Str) (scope : Scope) : CC where
  σ := fun x => slots.findIdx? (· == x)
  gl := fun x => decide (scope.names.lookup x = some .globalImplicit)
  cl := fun x => decide (scope.names.lookup x = some .cell)
  n := slots.length
def nodupS : List Str → Bool
  | [] => true
  | x :: r => !(r.contains x) && nodupS r
def scopeOkB (slots : List Str) (scope : Scope) (np : Nat) : Bool :=
  nodupS slots && (slots.all (fun x => decide (scope.names.lookup x = some .local) || decide (scope.names.lookup x = some .cell)) && (decide (np ≤ slots.length) && decide (scope.kind = .function)))
theorem nodupS_of {l : List Str} (h : nodupS l = true) : l.Nodup := by
  induction l with
  | nil => exact .nil
  | cons x r ih =>
    obtain ⟨h1, h2⟩ := and_of h
    exact List.nodup_cons.mpr ⟨fun hm => by rw [List.contains_iff_mem.mpr hm] at h1; exact Bool.false_ne_true h1, ih h2⟩
theorem find_at {l : List Str} {x : Str} {i : Nat} (h : l.findIdx? (· == x) = some i) : l[i]? = some x := by
  obtain ⟨hlt, hx, _⟩ := List.findIdx?_eq_some_iff_getElem.mp h
  rw [List.getElem?_eq_getElem hlt, eq_of_beq hx]
theorem find_of {x : Str} {l : List Str} : ∀ {i : Nat}, l.Nodup → l[i]? = some x → l.findIdx? (· == x) = some i := by
  induction l with
  | nil => exact fun _ h => nomatch h
  | cons y r ih =>
    intro i hn h
    obtain ⟨h1, h2⟩ := List.nodup_cons.mp hn
    cases i with
    | zero => cases h; rw [List.findIdx?_cons, if_pos (beq_self_eq_true _)]
    | succ i =>
      have h : r[i]? = some x := h
      rw [List.findIdx?_cons, if_neg fun q => h1 ((eq_of_beq q : y = x) ▸ List.mem_of_getElem? h), ih h2 h]
      rfl
theorem scopeOk_of {slots : List Str} {scope : Scope} {np : Nat} (h : scopeOkB slots scope np = true) : ScopeOk (CC.of slots scope) scope (slots.take np) := by
  obtain ⟨h1, h⟩ := and_of h
  obtain ⟨h2, h⟩ := and_of h
  obtain ⟨h3, h4⟩ := and_of h
  have hn := nodupS_of h1
  refine ⟨⟨fun x i hx => (List.getElem?_eq_some_iff.mp (find_at hx)).1, fun x y i hx hy => Option.some.inj ((find_at hx).symm.trans (find_at hy))⟩, fun x hx => of_decide_eq_true hx, fun x hx => of_decide_eq_true hx,
    fun x i hx => (Bool.or_eq_true_iff.mp (List.all_eq_true.mp h2 x (List.mem_of_getElem? (find_at hx)))).imp of_decide_eq_true of_decide_eq_true, fun i x hx => find_of hn ?_, hn.sublist (List.take_sublist np slots), of_decide_eq_true h4, List.length_take_le' np slots⟩
  rw [List.getElem?_take] at hx
  split at hx
  · exact hx
  · exact nomatch hx

/-! how arguments meet parameters -/
theorem ite_neg_eq {α : Type} {c : Prop} [Decidable c] {a b x : α} (h : ¬ c) (e : b = x) : (if c then a else b) = x := (if_neg h).trans e
section
variable {name qual : Str} {a b : Arg} {kd : List (Option Expr)} {ds : List Expr} {body : FuncBody} {scope : Scope} {g : Addr} {cl : List (Str × Addr)} {kw doc pm : Value} {an : Option Addr} {cd ct : Value} {bi : Addr} {v u : Value} {vs : List Value}
theorem look_one (n : Str) {v : Value} {r : List (Str × Value)} : ((n, v) :: r).lookup n = some v := by rw [List.lookup_cons, beq_self_eq_true]
theorem bind_one : bindArgs ⟨name, qual, ⟨[], [a], none, [], kd, none, ds⟩, body, scope, g, cl, .none, kw, doc, pm, an, cd, ct, bi⟩ ⟨[v], []⟩ = pure [(a.arg, v)] := by
  have e := look_one a.arg (v := v) (r := [])
  refine ite_neg_eq (c := (!(([a.arg].filter fun n => (([(a.arg, v)] : List (Str × Value)).lookup n).isNone).isEmpty)) = true) (by rw [List.filter_cons, e]; exact Bool.false_ne_true) ?_
  show (pure ([a.arg].filterMap fun n => (([(a.arg, v)] : List (Str × Value)).lookup n).map fun v => (n, v)) : Sem (List (Str × Value))) = _
  rw [List.filterMap_cons, e]; rfl
theorem bind_two (hn : a.arg ≠ b.arg) : bindArgs ⟨name, qual, ⟨[], [a, b], none, [], kd, none, ds⟩, body, scope, g, cl, .none, kw, doc, pm, an, cd, ct, bi⟩ ⟨[v, u], []⟩ = pure [(a.arg, v), (b.arg, u)] := by
  have e := look_one a.arg (v := v) (r := [(b.arg, u)])
  have e2 : ([(a.arg, v), (b.arg, u)] : List (Str × Value)).lookup b.arg = some u := by rw [List.lookup_cons, beq_false_of_ne hn.symm]; exact look_one _
  refine ite_neg_eq (c := (!(([a.arg, b.arg].filter fun n => (([(a.arg, v), (b.arg, u)] : List (Str × Value)).lookup n).isNone).isEmpty)) = true) (by rw [List.filter_cons, List.filter_cons, e, e2]; exact Bool.false_ne_true) ?_
  show (pure ([a.arg, b.arg].filterMap fun n => (([(a.arg, v), (b.arg, u)] : List (Str × Value)).lookup n).map fun v => (n, v)) : Sem (List (Str × Value))) = _
  rw [List.filterMap_cons, List.filterMap_cons, e, e2]; rfl
end
/-- a tuple of one default -/
def tup1B (K : Frag) (d : Addr) : Bool := match K.lookup d with
  | some o => (match o.data with | .seq items _ => items.size == 1 | _ => false)
  | none => false
/-- the parameters are these, without defaults; or two, the second with a default -/
def argsB (K : Frag) (fd : FuncData) (ps : List Str) (rest : Bool) : Bool :=
  match fd.params, fd.defaults with
  | ⟨[], as, va, [], _, none, _⟩, .none => (match rest, va with
    | false, none => decide (as.map (·.arg) = ps)
    | true, some b => decide (as.map (·.arg) ++ [b.arg] = ps)
    | _, _ => false)
  | ⟨[], [a, b], none, [], _, none, _⟩, .ref d => !rest && (decide ([a.arg, b.arg] = ps) && tup1B K d)
  | _, _ => false
inductive ArgsAre : FuncData → Value → List Arg → Option Arg → Prop
  | mk {name qual as va kd ds body scope g cl df kw doc pm an cd ct bi} : ArgsAre ⟨name, qual, ⟨[], as, va, [], kd, none, ds⟩, body, scope, g, cl, df, kw, doc, pm, an, cd, ct, bi⟩ df as va
theorem args_inv {K : Frag} {fd : FuncData} {ps : List Str} {rest : Bool} (h : argsB K fd ps rest = true) : (∃ as va, ArgsAre fd .none as va ∧ match rest with
    | false => va = none ∧ as.map (·.arg) = ps
    | true => ∃ b, va = some b ∧ as.map (·.arg) ++ [b.arg] = ps) ∨ ∃ a b d, ArgsAre fd (.ref d) [a, b] none ∧ rest = false ∧ [a.arg, b.arg] = ps ∧ tup1B K d = true := by
  obtain ⟨name, qual, ⟨po, as, va, ko, kd, ka, ds⟩, body, scope, g, cl, df, kw, doc, pm, an, cd, ct, bi⟩ := fd
  cases po with
  | cons _ _ => exact nomatch h
  | nil => cases ko with
    | cons _ _ => cases df <;> exact nomatch h
    | nil => cases ka with
      | some _ => cases df <;> exact nomatch h
      | none => cases df with
        | none =>
          refine .inl ⟨as, va, .mk, ?_⟩
          cases rest with
          | false => cases va with
            | none => exact ⟨rfl, of_decide_eq_true h⟩
            | some _ => exact nomatch h
          | true => cases va with
            | none => exact nomatch h
            | some b => exact ⟨b, rfl, of_decide_eq_true h⟩
        | ref d =>
          match as, va, h with
          | [a, b], none, h =>
            obtain ⟨h1, h2⟩ := and_of h
            obtain ⟨h3, h4⟩ := and_of h2
            exact .inr ⟨a, b, d, .mk, (Bool.not_eq_true' _).mp h1, of_decide_eq_true h3, h4⟩
          | [], _, h => exact nomatch h
          | [_], _, h => exact nomatch h
          | _ :: _ :: _ :: _, _, h => exact nomatch h
          | [_, _], some _, h => exact nomatch h
        | _ => exact nomatch h
theorem len_one {α : Type} {l : List α} (h : l.length = 1) : ∃ a, l = [a] := by
  cases l with
  | nil => exact nomatch h
  | cons a r => exact ⟨a, congrArg _ (List.eq_nil_of_length_eq_zero (Nat.succ.inj h))⟩
theorem len_two {α : Type} {l : List α} (h : l.length = 2) : ∃ a b, l = [a, b] := by
  cases l with
  | nil => exact nomatch h
  | cons a r => obtain ⟨b, rfl⟩ := len_one (Nat.succ.inj h); exact ⟨a, b, rfl⟩
theorem packs_one {W : Wld} {K : Frag} {fd : FuncData} {p : Str} (h : argsB K fd [p] false = true) : Packs W fd [p] fun xs Z => lenIs 1 xs (Z xs) := by
  rcases args_inv h with ⟨as, va, ha, rfl, he⟩ | ⟨a, b, d, _, _, he, _⟩
  · obtain ⟨a, rfl⟩ := len_one (l := as) (by have := congrArg List.length he; rw [List.length_map] at this; exact this)
    cases he
    refine packs_plain rfl fun vs hl => ?_
    obtain ⟨v, rfl⟩ := len_one hl
    cases ha
    exact bind_one
  · exact nomatch he
/-- two arguments given, the second one's default stays unused -/
theorem bind_dflt {W : Wld} {A : Around} {s : Shared} {name qual : Str} {a b : Arg} {kd : List (Option Expr)} {ds : List Expr} {body : FuncBody} {scope : Scope} {g d : Addr} {cl : List (Str × Addr)} {kw doc pm : Value} {an : Option Addr} {cd ct : Value} {bi : Addr} {v u : Value}
    {o : Obj} {x : Value} {n : Nat} (hn : a.arg ≠ b.arg) (ho : s.heap.get? d = some o) (hd : o.data = .seq #[x] n) {E : Value → Shared → Prop} {Q : List (Str × Value) → Shared → Prop} (q : Q [(a.arg, v), (b.arg, u)] s) :
    wpAny W.M A (bindArgs ⟨name, qual, ⟨[], [a, b], none, [], kd, none, ds⟩, body, scope, g, cl, .ref d, kw, doc, pm, an, cd, ct, bi⟩ ⟨[v, u], []⟩) Q E s := by
  have e := look_one a.arg (v := v) (r := [(b.arg, u)])
  have e2 : ([(a.arg, v), (b.arg, u)] : List (Str × Value)).lookup b.arg = some u := by rw [List.lookup_cons, beq_false_of_ne hn.symm]; exact look_one _
  show wpAny W.M A (seqItems? (.ref d) >>= fun r => _) Q E s
  refine wpAny_bind (wpAny_seqItems ho hd ?_)
  refine wp_neg (c := (!(([a.arg].filter fun n => (([(a.arg, v), (b.arg, u)] : List (Str × Value)).lookup n).isNone).isEmpty)) = true) (by rw [List.filter_cons, e]; exact Bool.false_ne_true) ?_
  show wpAny W.M A (forIn [(b.arg, x)] ([(a.arg, v), (b.arg, u)] : List (Str × Value)) _ >>= fun r => _) Q E s
  rw [List.forIn_cons]
  refine wpAny_bind (wpAny_bind (wp_neg (c := (([(a.arg, v), (b.arg, u)] : List (Str × Value)).lookup b.arg).isNone = true) (by rw [e2]; exact Bool.false_ne_true) (wpAny_pure ?_)))
  show wpAny W.M A (forIn ([] : List (Str × Value)) ([(a.arg, v), (b.arg, u)] : List (Str × Value)) _) _ E s
  rw [List.forIn_nil]
  refine wpAny_pure ?_
  show wpAny W.M A (pure ([a.arg, b.arg].filterMap fun n => (([(a.arg, v), (b.arg, u)] : List (Str × Value)).lookup n).map fun v => (n, v)) : Sem (List (Str × Value))) Q E s
  rw [List.filterMap_cons, List.filterMap_cons, e, e2]
  exact wpAny_pure q
theorem packs_two {W : Wld} {fd : FuncData} {p q : Str} (hn : p ≠ q) (h : argsB W.K fd [p, q] false = true) : Packs W fd [p, q] fun xs Z => lenIs 2 xs (Z xs) := by
  rcases args_inv h with ⟨as, va, ha, rfl, he⟩ | ⟨a, b, d, ha, _, he, ht⟩
  · obtain ⟨a, b, rfl⟩ := len_two (l := as) (by have := congrArg List.length he; rw [List.length_map] at this; exact this)
    cases he
    refine packs_plain rfl fun vs hl => ?_
    obtain ⟨v, u, rfl⟩ := len_two hl
    cases ha
    exact bind_two hn
  · cases he
    intro A s Ok vs xs Z E Q hon fr r e qq
    obtain ⟨hl, z⟩ := lenIs_inv e
    obtain ⟨v, u, rfl⟩ := len_two (r.1.length.trans hl)
    unfold tup1B at ht
    cases hk : W.K.lookup d with
    | none => rw [hk] at ht; exact nomatch ht
    | some o =>
      rw [hk] at ht
      have ht : (match o.data with | .seq items _ => items.size == 1 | _ => false) = true := ht
      cases hd : o.data with
      | seq items n =>
        rw [hd] at ht
        obtain ⟨x, hx⟩ := len_one (l := items.toList) (by rw [Array.length_toList]; exact eq_of_beq ht)
        have hi : items = #[x] := by rw [← Array.toArray_toList (xs := items), hx]
        subst hi
        cases ha
        exact bind_dflt hn (hon.frag _ _ hk) hd (qq _ xs s (.refl s) r rfl z)
      | _ => rw [hd] at ht; exact nomatch ht
/-! what a head tells of a def -/
def fdAt (K : Frag) (a : Addr) : FuncData := match K.lookup a with
  | some o => (match o.data with | .func fd => fd | _ => default)
  | none => default
def bodyOf (fd : FuncData) : List Stmt := match fd.body with
  | .stmts b => b
  | _ => []
def isFnB (K : Frag) (a : Addr) : Bool := match K.lookup a with
  | some o => (match o.data with | .func fd => (match fd.body with | .stmts _ => true | _ => false) | _ => false)
  | none => false
def fdOkB (K : Frag) (a : Addr) (g : Sig) : Bool :=
  isFnB K a && (decide ((fdAt K a).globals = mainGlobals) && (decide ((fdAt K a).builtins = builtinsNs) && ((fdAt K a).closure.isEmpty && (!(fdAt K a).scope.isCoroutine && (!(fdAt K a).scope.isGenerator && (codeIn K (fdAt K a).code (fdAt K a).qualname && (scopeOkB g.slots (fdAt K a).scope g.np && argsB K (fdAt K a) (g.slots.take g.np) g.rest)))))))
def FUEL : Nat := 60
def obsFn {cfg : Cfg} {fns : List Str} (mo : More cfg fns) (g : Sig) (K : Frag) : Bool × MS := match nsIn K mainGlobals g.name with
  | some (some (.ref a)) => (fdOkB K a g, (cB mo g.owns FUEL (CC.of g.slots (fdAt K a).scope) (bodyOf (fdAt K a))).1)
  | _ => (false, .bad)
def obsAll {cfg : Cfg} (mo : ∀ fns, More cfg fns) : List Sig → List Str → Frag → List (Bool × MS)
  | [], _, _ => []
  | g :: r, fns, K => obsFn (mo fns) g K :: obsAll mo r (fns ++ [g.name]) K
def noneB : Option (Option Value) → Bool
  | some none => true
  | _ => false
def namesB (K : Frag) (names : List (Str × Value)) : Bool := names.all fun p => noneB (nsIn K mainGlobals p.1) && !(p.1 == ("__name__" : Str))
def obsK {cfg : Cfg} (mo : ∀ fns, More cfg fns) (sigs : List Sig) (K : Frag) : Bool × List (Bool × MS) := (namesB K cfg.names, obsAll mo sigs [] K)
def Boots : List (Str × Value) → Prop
  | [] => True
  | p :: r => bootBuiltins p.1 = some p.2 ∧ Boots r
def fragOf (as : List Addr) (h : Heap) : Frag := as.filterMap fun a => (h.get? a).map fun o => (a, o)
theorem frag_in (as : List Addr) (h : Heap) : (fragOf as h).In h := fun a o e => by
  obtain ⟨b, _, hb⟩ := List.mem_filterMap.mp (lookup_mem e)
  cases q : h.get? b with
  | none => rw [q] at hb; exact nomatch hb
  | some o' => rw [q] at hb; cases hb; exact q
/-- what is asked of the heap behind a law's text -/
def headHook {cfg : Cfg} (mo : ∀ fns, More cfg fns) (sigs : List Sig) (as : List Addr) (val : Bool × List (Bool × MS)) : Hook :=
  ⟨Bool × List (Bool × MS), fun s => obsK mo sigs (fragOf as s.heap), fun _ => val, fun _ h => ∃ K : Frag, K.In h ∧ obsK mo sigs K = val, fun w s e => ⟨_, frag_in as s.heap, e⟩, fun w h h' ⟨K, a, b⟩ k => ⟨K, fun c o e => k c o (a c o e), b⟩⟩

section
variable {cfg : Cfg} {fns : List Str} {W : Wld} {Γ : FEnv} {k : Nat} {h : Heap}
theorem none_of {o : Option (Option Value)} (h : noneB o = true) : o = some none := by
  cases o with
  | none => exact nomatch h
  | some v => cases v with
    | none => rfl
    | some v => exact nomatch h
theorem names_of (hon : W.On h) (hb : ∀ x : Str, x ≠ "__name__" → W.mb x = bootBuiltins x) {names : List (Str × Value)} (hn : namesB W.K names = true) (hB : Boots names) : ∀ p ∈ names, W.glob p.1 = some p.2 := by
  induction names with
  | nil => exact fun _ h => nomatch h
  | cons a r ih =>
    obtain ⟨h1, h2⟩ := and_of hn
    obtain ⟨h3, h4⟩ := and_of h1
    refine fun p hp => (List.mem_cons.mp hp).elim (fun e => ?_) (ih h2 hB.2 p)
    subst e
    unfold Wld.glob
    rw [mg_none_of hon.frag hon.g (none_of h3)]
    exact (hb p.1 fun e => by rw [e] at h4; exact Bool.false_ne_true h4).trans hB.1
theorem getF_old {F : Fn} {i : Nat} (h : i < Γ.length) : getF (Γ ++ [F]) i = getF Γ i := by
  induction Γ generalizing i with
  | nil => exact nomatch h
  | cons a r ih => cases i with
    | zero => rfl
    | succ i => exact ih (Nat.lt_of_succ_lt_succ h)
theorem getF_new {F : Fn} : getF (Γ ++ [F]) Γ.length = F := by
  induction Γ with
  | nil => rfl
  | cons a r ih => exact ih
/-- one more def -/
theorem GOk.step {mo : ∀ fns, More cfg fns} {g : Sig} {r : List Sig} {ms : MS} {rest : List (Bool × MS)} {F : Fn} {pack : List PV → (List PV → Prop) → Prop} (hon : W.On h) (bg : ∀ p ∈ cfg.names, W.glob p.1 = some p.2)
    (G : GOk W k Γ fns ∧ obsAll mo (g :: r) fns W.K = (true, ms) :: rest) (hl : Γ.length = fns.length) (hp : ∀ fd, argsB W.K fd (g.slots.take g.np) g.rest = true → Packs W fd (g.slots.take g.np) pack)
    (hF : ∀ xs Z, F xs Z → pack xs fun ys => callP Γ g.slots.length ms ys Z) : GOk W (k + 1) (Γ ++ [F]) (fns ++ [g.name]) ∧ obsAll mo r (fns ++ [g.name]) W.K = rest := by
  obtain ⟨G, ho⟩ := G
  obtain ⟨h1, h2⟩ := List.cons.inj ho
  refine ⟨fun f name hf => ?_, h2⟩
  rw [List.getElem?_append] at hf
  split at hf
  · rename_i hlt
    obtain ⟨fa, o, fd, a, b, c, d⟩ := G f name hf
    exact ⟨fa, o, fd, a, b, c, by rw [getF_old (by rw [hl]; exact hlt)]; exact d.mono (Nat.le_succ k)⟩
  · rename_i hge
    have hlen := (List.getElem?_eq_some_iff.mp hf).1
    have : f - fns.length = 0 := Nat.lt_one_iff.mp hlen
    rw [this] at hf
    have hf0 : f = Γ.length := by rw [hl]; exact Nat.le_antisymm (Nat.le_of_sub_eq_zero this) (Nat.not_lt.mp hge)
    cases hf
    subst hf0
    rw [getF_new]
    unfold obsFn at h1
    split at h1
    · rename_i a hns
      obtain ⟨h3, h4⟩ := Prod.mk.inj h1
      obtain ⟨e1, h3⟩ := and_of h3
      obtain ⟨e2, h3⟩ := and_of h3
      obtain ⟨e3, h3⟩ := and_of h3
      obtain ⟨e4, h3⟩ := and_of h3
      obtain ⟨e5, h3⟩ := and_of h3
      obtain ⟨e6, h3⟩ := and_of h3
      obtain ⟨e7, h3⟩ := and_of h3
      obtain ⟨e8, e9⟩ := and_of h3
      obtain ⟨o, hk, hd, hb⟩ : ∃ o, W.K.lookup a = some o ∧ o.data = .func (fdAt W.K a) ∧ (fdAt W.K a).body = .stmts (bodyOf (fdAt W.K a)) := by
        unfold isFnB at e1
        unfold fdAt
        cases hk : W.K.lookup a with
        | none => rw [hk] at e1; exact nomatch e1
        | some o =>
          rw [hk] at e1
          refine ⟨o, rfl, ?_⟩
          revert e1
          show (match o.data with | .func fd => (match fd.body with | .stmts _ => true | _ => false) | _ => false) = true → o.data = .func (match o.data with | .func fd => fd | _ => default) ∧ (match o.data with | .func fd => fd | _ => default).body = .stmts (bodyOf (match o.data with | .func fd => fd | _ => default))
          cases o.data with
          | func fd =>
            intro e1
            refine ⟨rfl, ?_⟩
            show fd.body = .stmts (bodyOf fd)
            unfold bodyOf
            revert e1
            show (match fd.body with | .stmts _ => true | _ => false) = true → _
            cases fd.body with
            | stmts b => exact fun _ => rfl
            | _ => exact fun e => nomatch e
          | _ => exact fun e => nomatch e
      have sc := scopeOk_of e8
      refine ⟨a, o, _, ?_, hk, hd, ?_⟩
      · unfold Wld.glob
        rw [mg_of hon.frag hon.g hns]
      · have hB := (cB (mo fns) g.owns FUEL (CC.of g.slots (fdAt W.K a).scope) (bodyOf (fdAt W.K a))).2 W Γ k ⟨bg, G, sc.good⟩
        rw [h4] at hB
        have main := fun_ok (C := ⟨W, Γ, k, CC.of g.slots (fdAt W.K a).scope⟩) ⟨hb, ⟨o, hk, hd⟩, fun h hon => codeRec_of hon.frag e7, of_decide_eq_true e2, of_decide_eq_true e3, List.isEmpty_iff.mp e4, (Bool.not_eq_true' _).mp e5, (Bool.not_eq_true' _).mp e6⟩ (hp _ e9) sc hB
        exact fun A s Ok vs xs Z r on fr ra hz => main A s Ok vs xs Z r on fr ra (hF xs Z hz)
    · exact nomatch h1
theorem GOk.nil : GOk W k [] [] := fun f name h => nomatch h

/-! the frame of a law that the head has entered: one argument, no cells -/
theorem rep_ints {H : Heap} {Ok : Addr → Prop} {vs : List Value} {ns : List Int} (h : IntsAre vs ns) : RepAll H Ok vs (ns.map .int) := by
  induction h with
  | nil => exact .nil
  | cons n t r ih => exact .cons (.int n t) ih
end
end Mine
end
noncomputable section
namespace Mine
/-! ## the program's defs in the small language -/
theorem boolP_of {b : Bool} {P1 P2 : Prop} (h1 : b = true → P1) (h2 : b = false → P2) : boolP b P1 P2 := by
  cases b with
  | true => exact h1 rfl
  | false => exact h2 rfl
section
variable {α : Type} [BEq α] [LawfulBEq α] {a b : α}
theorem bne_t (h : (!(a == b)) = true) : a ≠ b := fun e => by rw [beq_iff_eq.mpr e] at h; exact nomatch h
theorem bne_f (h : (!(a == b)) = false) : a = b := by
  cases q : a == b with
  | true => exact eq_of_beq q
  | false => rw [q] at h; exact nomatch h
theorem beq_f (h : (a == b) = false) : a ≠ b := fun e => nomatch (beq_iff_eq.mpr e).symm.trans h
end
def txt1 : List PV → (Bool → List Nat → Prop) → Prop
  | [x], f => txtP x f
  | _, _ => False
theorem txt1_inv {xs : List PV} {f : Bool → List Nat → Prop} (h : txt1 xs f) : ∃ k cs, xs = [.txt k cs] ∧ f k cs := by
  cases xs with
  | nil => exact h.elim
  | cons x r => cases r with
    | nil => obtain ⟨k, cs, rfl, h⟩ := txt_inv (x := x) h; exact ⟨k, cs, rfl, h⟩
    | cons _ _ => exact h.elim
def fspathF : Fn := fun xs Q => txt1 xs fun k cs => Q (.txt k cs)
/-! join -/
def szL (ps : List (List Nat)) : Nat := (ps.map fun p => p.length + 1).sum
theorem szL_cons (a : List Nat) (b : List (List Nat)) : szL (a :: b) = a.length + 1 + szL b := List.sum_cons
/-! splitroot -/
theorem clip_nat (n i : Nat) : clipAt n (i : Int) = min i n := by
  unfold clipAt
  rw [if_neg (Int.not_lt.mpr (Int.natCast_nonneg i))]
  rcases Nat.le_total i n with h | h
  · rw [Nat.min_eq_left h, Int.min_eq_left (Int.ofNat_le.mpr h), Int.max_eq_right (Int.natCast_nonneg _), Int.toNat_natCast]
  · rw [Nat.min_eq_right h, Int.min_eq_right (Int.ofNat_le.mpr h), Int.max_eq_right (Int.natCast_nonneg _), Int.toNat_natCast]
theorem cut_to {α : Type} (xs : List α) (i : Nat) : cut xs none (some (i : Int)) = xs.take i := by
  unfold cut
  rw [Option.elim_none, Option.elim_some, clip_nat, Nat.sub_zero, List.drop_zero]
  rcases Nat.le_total i xs.length with h | h
  · rw [Nat.min_eq_left h]
  · rw [Nat.min_eq_right h, List.take_of_length_le (Nat.le_refl _), List.take_of_length_le h]
theorem cut_from {α : Type} (xs : List α) (i : Nat) : cut xs (some (i : Int)) none = xs.drop i := by
  unfold cut
  rw [Option.elim_none, Option.elim_some, clip_nat]
  rcases Nat.le_total i xs.length with h | h
  · rw [Nat.min_eq_left h, List.take_of_length_le (by rw [List.length_drop]; exact Nat.le_refl _)]
  · rw [Nat.min_eq_right h, List.drop_of_length_le (Nat.le_refl _), List.drop_of_length_le h, List.take_nil]
/-! normpath -/
theorem joinC_len1 (c : Nat) (ps : List (List Nat)) : (joinC [c] ps).length ≤ szL ps ∧ (ps ≠ [] → (joinC [c] ps).length + 1 = szL ps) := by
  have key : ps ≠ [] → (joinC [c] ps).length + 1 = szL ps := by
    induction ps with
    | nil => exact fun h => absurd rfl h
    | cons p r ih =>
      intro _
      cases r with
      | nil => rw [show joinC [c] [p] = p from List.append_nil p]; rfl
      | cons q r => rw [joinC_cons, List.length_append, List.length_append, Nat.add_assoc, ih (fun h => nomatch h), szL_cons p]; rfl
  refine ⟨?_, key⟩
  cases ps with
  | nil => exact Nat.zero_le _
  | cons p r => rw [← key fun h => nomatch h]; exact Nat.le_succ _
theorem szL_split (c : Nat) (cs : List Nat) : szL (splitC c cs) = cs.length + 1 := by
  have h := (joinC_len1 c (splitC c cs)).2 (let ⟨p, ps, e⟩ := splitC_cons c cs; fun q => nomatch e.symm.trans q)
  rw [joinC_split] at h
  exact h.symm
theorem szL_eq (ps : List (List Nat)) : (ps.map List.length).sum + ps.length * 1 = szL ps := by
  induction ps with
  | nil => rfl
  | cons p ps ih => rw [szL_cons, ← ih, List.map_cons, List.sum_cons, List.length_cons]; omega
end Mine
end
noncomputable section
namespace Mine
/-! ## common prefixes; the least and the greatest of a row of rows -/
theorem tlt_asymm : ∀ a b : List Nat, tlt a b = true → tlt b a = false
  | [], [], h => nomatch h
  | _ :: _, [], h => nomatch h
  | [], _ :: _, _ => rfl
  | a :: x, b :: y, h => by
    unfold tlt at h ⊢
    by_cases h1 : a < b
    · rw [if_neg (Nat.lt_asymm h1), if_pos h1]
    · rw [if_neg h1] at h
      by_cases h2 : b < a
      · rw [if_pos h2] at h; exact nomatch h
      · rw [if_neg h2] at h; rw [if_neg h2, if_neg h1]; exact tlt_asymm x y h
theorem tlt_tri : ∀ a b : List Nat, tlt a b = false → tlt b a = false → a = b
  | [], [], _, _ => rfl
  | _ :: _, [], _, h => nomatch h
  | [], _ :: _, h, _ => nomatch h
  | a :: x, b :: y, h, h' => by
    unfold tlt at h h'
    by_cases h1 : a < b
    · rw [if_pos h1] at h; exact nomatch h
    · by_cases h2 : b < a
      · rw [if_pos h2] at h'; exact nomatch h'
      · rw [if_neg h1, if_neg h2] at h
        rw [if_neg h2, if_neg h1] at h'
        rw [tlt_tri x y h h', Nat.le_antisymm (Nat.not_lt.mp h2) (Nat.not_lt.mp h1)]
theorem tlt_trans : ∀ a b c : List Nat, tlt a b = true → tlt b c = true → tlt a c = true
  | [], [], _, h, _ => nomatch (show false = true from h)
  | _ :: _, [], _, h, _ => nomatch (show false = true from h)
  | _, _ :: _, [], _, h => nomatch (show false = true from h)
  | [], _ :: _, _ :: _, _, _ => rfl
  | a :: x, b :: y, c :: z, h, h' => by
    unfold tlt at h h' ⊢
    by_cases h1 : a < b
    · by_cases h2 : b < c
      · rw [if_pos (Nat.lt_trans h1 h2)]
      · rw [if_neg h2] at h'
        by_cases h3 : c < b
        · rw [if_pos h3] at h'; exact nomatch h'
        · rw [if_pos (Nat.lt_of_lt_of_le h1 (Nat.not_lt.mp h3))]
    · rw [if_neg h1] at h
      by_cases h2 : b < a
      · rw [if_pos h2] at h; exact nomatch h
      · rw [if_neg h2] at h
        have e : a = b := Nat.le_antisymm (Nat.not_lt.mp h2) (Nat.not_lt.mp h1)
        subst e
        by_cases h3 : a < c
        · rw [if_pos h3]
        · rw [if_neg h3] at h' ⊢
          by_cases h4 : c < a
          · rw [if_pos h4] at h'; exact nomatch h'
          · rw [if_neg h4] at h' ⊢; exact tlt_trans x y z h h'
theorem tlt_neg (a b c : List Nat) (h : tlt a b = false) (h' : tlt b c = false) : tlt a c = false := by
  cases q : tlt a c with
  | false => rfl
  | true =>
    cases q2 : tlt c b with
    | true => rw [tlt_trans a c b q q2] at h; exact nomatch h
    | false => rw [tlt_tri b c h' q2] at h; exact nomatch q.symm.trans h
theorem rlt_asymm : ∀ a b : List (List Nat), rlt a b = true → rlt b a = false
  | [], [], h => nomatch h
  | _ :: _, [], h => nomatch h
  | [], _ :: _, _ => rfl
  | a :: x, b :: y, h => by
    unfold rlt at h ⊢
    by_cases e : a = b
    · rw [if_pos e] at h; rw [if_pos e.symm]; exact rlt_asymm x y h
    · rw [if_neg e] at h; rw [if_neg (Ne.symm e)]; exact tlt_asymm a b h
theorem rlt_nil (a : List (List Nat)) : rlt a [] = false := by cases a <;> rfl
theorem rlt_neg : ∀ a b c : List (List Nat), rlt a b = false → rlt b c = false → rlt a c = false
  | a, _, [], _, _ => rlt_nil a
  | _, [], c :: z, _, h => Bool.noConfusion (show true = false from h)
  | [], b :: y, _ :: _, h, _ => Bool.noConfusion (show true = false from h)
  | a :: x, b :: y, c :: z, h, h' => by
    unfold rlt at h h' ⊢
    by_cases e : a = b
    · subst e
      rw [if_pos rfl] at h
      by_cases e2 : a = c
      · rw [if_pos e2] at h' ⊢; exact rlt_neg x y z h h'
      · rw [if_neg e2] at h' ⊢; exact h'
    · rw [if_neg e] at h
      by_cases e2 : b = c
      · subst e2; rw [if_neg e]; exact h
      · rw [if_neg e2] at h'
        have := tlt_neg a b c h h'
        by_cases e3 : a = c
        · subst e3; exact absurd (tlt_tri a b h h') e
        · rw [if_neg e3]; exact this
/-- the best one is not worse than any -/
theorem bestOf_all {α : Type} (f : α → α → Bool) (asy : ∀ x y, f x y = true → f y x = false) (neg : ∀ x y z, f x y = false → f y z = false → f x z = false) : ∀ (xs : List α) (b : α), ∀ x ∈ b :: xs, f x (bestOf f b xs) = false
  | [], b, x, hx => by
    rw [List.mem_singleton.mp hx]
    cases q : f b b with
    | false => exact q
    | true => exact (asy b b q)
  | y :: ys, b, x, hx => by
    have ih := bestOf_all f asy neg ys (if f y b then y else b)
    show f x (bestOf f (if f y b then y else b) ys) = false
    have h0 := ih _ (.head _)
    rcases List.mem_cons.mp hx with rfl | hx
    · cases q : f y x with
      | true =>
        rw [q, if_pos rfl] at h0
        rw [if_pos rfl]
        exact neg _ _ _ (asy _ _ q) h0
      | false => rw [q, if_neg Bool.false_ne_true] at h0; rw [if_neg Bool.false_ne_true]; exact h0
    · rcases List.mem_cons.mp hx with rfl | hx
      · cases q : f x b with
        | true => rw [q, if_pos rfl] at h0; rw [if_pos rfl]; exact h0
        | false => rw [q, if_neg Bool.false_ne_true] at h0; rw [if_neg Bool.false_ne_true]; exact neg _ _ _ q h0
      · exact ih _ (.tail _ hx)
def minR (r : List (List Nat)) (rs : List (List (List Nat))) : List (List Nat) := bestOf (turnB false rlt) r rs
def maxR (r : List (List Nat)) (rs : List (List (List Nat))) : List (List Nat) := bestOf (turnB true rlt) r rs
theorem minR_le {r : List (List Nat)} {rs : List (List (List Nat))} {x : List (List Nat)} (h : x ∈ r :: rs) : rlt x (minR r rs) = false := bestOf_all (turnB false rlt) (fun x y h => rlt_asymm x y h) (fun x y z h h' => rlt_neg x y z h h') rs r x h
theorem maxR_le {r : List (List Nat)} {rs : List (List (List Nat))} {x : List (List Nat)} (h : x ∈ r :: rs) : rlt (maxR r rs) x = false := bestOf_all (turnB true rlt) (fun x y h => rlt_asymm y x h) (fun x y z h h' => rlt_neg z y x h' h) rs r x h
theorem bestOf_mem2 {α : Type} (f : α → α → Bool) : ∀ (xs : List α) (b : α), bestOf f b xs ∈ b :: xs
  | [], b => .head _
  | x :: xs, b => by
    show bestOf f (if f x b then x else b) xs ∈ _
    rcases List.mem_cons.mp (bestOf_mem2 f xs (if f x b then x else b)) with h | h
    · rw [h]; split
      · exact .tail _ (.head _)
      · exact .head _
    · exact .tail _ (.tail _ h)
section
variable {α : Type} [DecidableEq α]
/-- the longest common prefix -/
def cpre : List α → List α → List α
  | a :: x, b :: y => if a = b then a :: cpre x y else []
  | _, _ => []
def cpreA (r : List α) (rs : List (List α)) : List α := rs.foldl cpre r
theorem cpre_left : ∀ x y : List α, cpre x y <+: x
  | [], _ => List.nil_prefix
  | _ :: _, [] => List.nil_prefix
  | a :: x, b :: y => by
    unfold cpre
    split
    · exact List.cons_prefix_cons.mpr ⟨rfl, cpre_left x y⟩
    · exact List.nil_prefix
theorem cpre_right : ∀ x y : List α, cpre x y <+: y
  | [], _ => List.nil_prefix
  | _ :: _, [] => List.nil_prefix
  | a :: x, b :: y => by
    unfold cpre
    split
    · rename_i e; exact List.cons_prefix_cons.mpr ⟨e, cpre_right x y⟩
    · exact List.nil_prefix
theorem cpre_of : ∀ {p x y : List α}, p <+: x → p <+: y → p <+: cpre x y
  | [], _, _, _, _ => List.nil_prefix
  | c :: p, [], _, h, _ => nomatch List.prefix_nil.mp h
  | c :: p, _ :: _, [], _, h => nomatch List.prefix_nil.mp h
  | c :: p, a :: x, b :: y, h, h' => by
    obtain ⟨e1, h1⟩ := List.cons_prefix_cons.mp h
    obtain ⟨e2, h2⟩ := List.cons_prefix_cons.mp h'
    unfold cpre
    rw [if_pos (e1.symm.trans e2)]
    exact List.cons_prefix_cons.mpr ⟨e1, cpre_of h1 h2⟩
omit [DecidableEq α] in
theorem prefix_antisymm {x y : List α} (h : x <+: y) (h' : y <+: x) : x = y := h.eq_of_length (Nat.le_antisymm h.length_le h'.length_le)
theorem cpre_app : ∀ p x y : List α, cpre (p ++ x) (p ++ y) = p ++ cpre x y
  | [], _, _ => rfl
  | a :: p, x, y => by
    show (if a = a then a :: cpre (p ++ x) (p ++ y) else []) = _
    rw [if_pos rfl, cpre_app p x y]; rfl
theorem cpreA_all : ∀ {rs : List (List α)} {r x : List α}, x ∈ r :: rs → cpreA r rs <+: x
  | [], r, x, h => by rw [List.mem_singleton.mp h]; exact List.prefix_refl _
  | y :: ys, r, x, h => by
    show cpreA (cpre r y) ys <+: x
    rcases List.mem_cons.mp h with rfl | h
    · exact (cpreA_all (rs := ys) (.head _)).trans (cpre_left _ _)
    · rcases List.mem_cons.mp h with rfl | h
      · exact (cpreA_all (rs := ys) (.head _)).trans (cpre_right _ _)
      · exact cpreA_all (.tail _ h)
theorem cpreA_of {p : List α} : ∀ {rs : List (List α)} {r : List α}, (∀ x ∈ r :: rs, p <+: x) → p <+: cpreA r rs
  | [], r, h => h r (.head _)
  | y :: ys, r, h => cpreA_of (rs := ys) (r := cpre r y) fun x hx => (List.mem_cons.mp hx).elim (fun e => e ▸ cpre_of (h r (.head _)) (h y (.tail _ (.head _)))) fun hx => h x (.tail _ (.tail _ hx))
end
theorem cpre_mid : ∀ {a b x : List (List Nat)}, rlt x a = false → rlt b x = false → cpre a b <+: x
  | [], _, _, _, _ => List.nil_prefix
  | _ :: _, [], _, _, _ => List.nil_prefix
  | c :: a, d :: b, x, h, h' => by
    unfold cpre
    split
    · rename_i e
      subst e
      cases x with
      | nil => exact nomatch h
      | cons e x =>
        unfold rlt at h h'
        by_cases q : e = c
        · subst q
          rw [if_pos rfl] at h h'
          exact List.cons_prefix_cons.mpr ⟨rfl, cpre_mid h h'⟩
        · rw [if_neg q] at h
          rw [if_neg (Ne.symm q)] at h'
          exact absurd (tlt_tri e c h h') q
    · exact List.nil_prefix
/-- the common prefix of the least and the greatest is that of all -/
theorem cpre_best (r : List (List Nat)) (rs : List (List (List Nat))) : cpre (minR r rs) (maxR r rs) = cpreA r rs :=
  prefix_antisymm (cpreA_of fun x hx => cpre_mid (minR_le hx) (maxR_le hx)) (cpre_of (cpreA_all (bestOf_mem2 _ _ _)) (cpreA_all (bestOf_mem2 _ _ _)))
theorem best_le (r : List (List Nat)) (rs : List (List (List Nat))) : rlt (maxR r rs) (minR r rs) = false := maxR_le (bestOf_mem2 _ _ _)
end Mine
end
noncomputable section
namespace Mine

/-! ## ways: what normpath's fold is -/
/-- what holds of each piece that is a name -/
def AllN (P : List Nat → Prop) (ns : List (List Nat)) : Prop := ∀ p ∈ ns, P p
/-! what normpath gives, told by the way -/
end Mine
end
noncomputable section
namespace Mine
variable {Γ : FEnv}
/-! ## a law's octets -/
def msKind : MS := (.ret (.ite (.var 1) (.bi1 .bytes (.comp (.bi1 .ord (.var 2)) (.var 0) (.lit (.bool true)))) (.var 0)))
def Small (cs : List Nat) : Prop := ∀ c ∈ cs, c < 256
theorem Small.append {a b : List Nat} (h : Small a) (h' : Small b) : Small (a ++ b) := fun c hc => (List.mem_append.mp hc).elim (h c) (h' c)
theorem small_join {sep : List Nat} {ps : List (List Nat)} (hs : Small sep) (h : AllN Small ps) : Small (joinC sep ps) := by
  cases ps with
  | nil => exact fun _ h => nomatch h
  | cons p r =>
    refine (h p (.head _)).append fun c hc => ?_
    obtain ⟨l, hl, hc⟩ := List.mem_flatten.mp hc
    obtain ⟨q, hq, rfl⟩ := List.mem_map.mp hl
    exact hs.append (h q (.tail _ hq)) c hc
theorem compP_map {α : Type} {f : PV → (Bool → Prop) → Prop} {g : PV → (PV → Nat → Prop) → Prop} {φ ψ : α → PV} {cs : List α} : (∀ c ∈ cs, ∀ K : Bool → Prop, K true → f (φ c) K) → (∀ c ∈ cs, ∀ K : PV → Nat → Prop, K (ψ c) 0 → g (φ c) K) →
    ∀ {Z : List PV → Prop}, Z (cs.map ψ) → compP f g (cs.map φ) Z := by
  induction cs with
  | nil => exact fun _ _ _ h => h
  | cons c cs ih => exact fun hf hg Z h => hf c (.head _) _ (hg c (.head _) _ (ih (fun c hc => hf c (.tail _ hc)) (fun c hc => hg c (.tail _ hc)) h))
def kindF : Fn
  | [x, y], Q => ∃ cs b, x = .txt false cs ∧ y = .bool b ∧ Small cs ∧ cs.length ≤ LIM ∧ Q (.txt b cs)
  | _, _ => False
theorem kind_run (xs : List PV) (Q : PV → Prop) (h : kindF xs Q) : lenIs 2 xs (callP Γ 2 msKind xs Q) := by
  cases xs with
  | nil => exact h.elim
  | cons x r => cases r with
    | nil => exact h.elim
    | cons y r => cases r with
      | cons _ _ => exact h.elim
      | nil =>
        obtain ⟨cs, b, rfl, rfl, hs, hl, h⟩ := h
        cases b with
        | false => exact h
        | true => exact ⟨rfl, compP_map (φ := fun c => .txt false [c]) (ψ := fun c => .int (c : Int)) (fun _ _ _ k => k) (fun c _ _ k => ⟨c, rfl, rfl, k⟩) ⟨cs, rfl, hl, hs, h⟩⟩

/-! ## heights -/
end Mine
end
noncomputable section
namespace Mine
/-! ## fspath, commonprefix, abspath in the small language (laws 5, 1, 6) -/
theorem idx_nat {α : Type} {xs : List α} {n : Nat} {x : α} (h : xs[n]? = some x) : idxAt xs (n : Int) = some x := by
  unfold idxAt
  rw [if_pos (Int.natCast_nonneg n), Int.toNat_natCast]; exact h
theorem cut_row (k : Bool) (p r : List (List Nat)) : PV.list (cut ((p ++ r).map (PV.txt k)) none (some (p.length : Int))) = rowV k p := by
  rw [cut_to, ← List.map_take, List.take_left]; rfl
/-- what is left of the least and the greatest, sign by sign -/
theorem rlt_step {c : List Nat} {r1 r2 : List (List Nat)} (h : rlt r2 (c :: r1) = false) : ∃ d r, r2 = d :: r ∧ (c = d → rlt r r1 = false) := by
  cases r2 with
  | nil => exact Bool.noConfusion (show true = false from h)
  | cons d r =>
    refine ⟨d, r, rfl, fun e => ?_⟩
    unfold rlt at h
    rw [if_pos e.symm] at h
    exact h
theorem row_at (k : Bool) (p r : List (List Nat)) (d : List Nat) : ((p ++ d :: r).map (PV.txt k))[p.length]? = some (.txt k d) := by
  rw [List.getElem?_map, List.getElem?_append_right (Nat.le_refl _), Nat.sub_self]; rfl
end Mine
end
noncomputable section
namespace Mine
/-! ## commonpath in the small language (laws 1, 5, 6) -/
def msCommonpath3y_8 : MS := (.ret (.bin .add (.var 10) (.meth .join (.var 1) (.var 7))))
def msCommonpath3y_7 : MS := .seq (.asg 10 false (.ite (.var 4) (.var 1) (.cut (.var 1) (.lit .none) (.lit (.int 0))))) msCommonpath3y_8
def msCommonpath3y6b0t_1 : MS := .brk
def msCommonpath3y6b0t : MS := .seq (.asg 7 false (.cut (.var 5) (.lit .none) (.var 8))) msCommonpath3y6b0t_1
def msCommonpath3y6b : MS := (.ite (.cmp .ne (.var 9) (.idx (.var 6) (.var 8))) msCommonpath3y6b0t .skip)
def msCommonpath3y_6 : MS := .seq (.for_ [8, 9] (.enum (.var 5)) msCommonpath3y6b) msCommonpath3y_7
def msCommonpath3y_5 : MS := .seq (.asg 7 false (.var 5)) msCommonpath3y_6
def msCommonpath3y_4 : MS := .seq (.asg 6 false (.bi1 .max (.var 3))) msCommonpath3y_5
def msCommonpath3y_3 : MS := .seq (.asg 5 false (.bi1 .min (.var 3))) msCommonpath3y_4
def msCommonpath3y_2 : MS := .seq (.asg 3 false (.comp (.comp (.var 12) (.var 11) (.and_ (.var 12) (.cmp .ne (.var 12) (.var 2)))) (.var 3) (.lit (.bool true)))) msCommonpath3y_3
def msCommonpath3y_1 : MS := .seq (.try_ (.oneOf 4 (.meth .startswith (.var 11) (.var 1)) (.var 0))) msCommonpath3y_2
def msCommonpath3y : MS := .seq (.asg 3 false (.comp (.meth .split (.var 11) (.var 1)) (.var 0) (.lit (.bool true)))) msCommonpath3y_1
def msCommonpath_3 : MS := (.try_ msCommonpath3y)
def msCommonpath2t_1 : MS := (.asg 2 false (.lit (.txt true [46])))
def msCommonpath2t : MS := .seq (.asg 1 false (.lit (.txt true [47]))) msCommonpath2t_1
def msCommonpath2e_1 : MS := (.asg 2 false (.lit (.txt false [46])))
def msCommonpath2e : MS := .seq (.asg 1 false (.lit (.txt false [47]))) msCommonpath2e_1
def msCommonpath_2 : MS := .seq (.ite (.bi2 .isinst (.idx (.var 0) (.lit (.int 0))) (.lit (.cls "bytes"))) msCommonpath2t msCommonpath2e) msCommonpath_3
def msCommonpath_1 : MS := .seq (.ite (.not_ (.var 0)) .bad .skip) msCommonpath_2
def msCommonpath : MS := .seq (.asg 0 false (.mapfn 0 (.var 0))) msCommonpath_1
def keepB (c : List Nat) : Bool := !c.isEmpty && !(c == [46])
def pcs (p : List Nat) : List (List Nat) := (splitC 47 p).filter keepB
def comP (b : Bool) (p0 : List Nat) (ps : List (List Nat)) : List Nat := (if b = true then [47] else []) ++ joinC [47] (cpreA (pcs p0) (ps.map pcs))
def commonpathF : Fn := fun xs Q => ∃ k b p0 ps, xs = [.list ((p0 :: ps).map (PV.txt k))] ∧ (∀ p ∈ p0 :: ps, [47].isPrefixOf p = b) ∧ p0.length < 65536 ∧ Q (.txt k (comP b p0 ps))
theorem compP_filter {α : Type} {f : PV → (Bool → Prop) → Prop} {g : PV → (PV → Nat → Prop) → Prop} {φ : α → PV} {t : α → Bool} {cs : List α} : (∀ c ∈ cs, ∀ K : Bool → Prop, K (t c) → f (φ c) K) → (∀ c ∈ cs, ∀ K : PV → Nat → Prop, K (φ c) 0 → g (φ c) K) →
    ∀ {Z : List PV → Prop}, Z ((cs.filter t).map φ) → compP f g (cs.map φ) Z := by
  induction cs with
  | nil => exact fun _ _ _ h => h
  | cons c cs ih =>
    intro hf hg Z h
    have hf' := fun d hd => hf d (.tail _ hd)
    have hg' := fun d hd => hg d (.tail _ hd)
    refine hf c (.head _) _ ?_
    rw [List.filter_cons] at h
    cases q : t c with
    | true => rw [if_pos q] at h; exact hg c (.head _) _ (ih hf' hg' (Z := fun ys => Z (φ c :: ys)) h)
    | false => rw [if_neg (Bool.eq_false_iff.mp q)] at h; exact ih hf' hg' h
theorem onesP_all {g : PV → (PV → Nat → Prop) → Prop} {b : Bool} {P : Prop} (p : P) : ∀ {xs : List PV} {seen : Bool}, (∀ x ∈ xs, ∀ K : PV → Nat → Prop, K (.bool b) 0 → g x K) → (seen = true ∨ xs ≠ []) → onesP g b seen xs P
  | [], seen, _, h => ⟨h.elim id fun h => absurd rfl h, p⟩
  | x :: xs, seen, hg, _ => hg x (.head _) _ ⟨rfl, onesP_all p (fun y hy => hg y (.tail _ hy)) (.inl rfl)⟩
theorem com_for {Γ : FEnv} {k : Bool} {t sp : PV} {ia : PV} {s1 s2 : List (List Nat)} {Q : Post} (hn : ∀ c8 c9, Q .next [some (t, 0), some (.txt k [47], 0), some (.txt k [46], 0), some (sp, 0), some (ia, 0), some (rowV k s1, 0), some (rowV k s2, 0), some (rowV k (cpre s1 s2), 0), c8, c9, none]) :
    ∀ {r1 r2 p : List (List Nat)} {c8 c9 : Slt}, s1 = p ++ r1 → s2 = p ++ r2 → rlt r2 r1 = false →
      forP (wp Γ msCommonpath3y6b) [8, 9] (enumF p.length (r1.map (PV.txt k))) [some (t, 0), some (.txt k [47], 0), some (.txt k [46], 0), some (sp, 0), some (ia, 0), some (rowV k s1, 0), some (rowV k s2, 0), some (rowV k s1, 0), c8, c9, none] Q := by
  intro r1
  induction r1 with
  | nil =>
    intro r2 p c8 c9 h1 h2 _
    have e : cpre s1 s2 = s1 := by rw [h1, h2, List.append_nil]; exact prefix_antisymm (cpre_left p (p ++ r2)) (cpre_of (List.prefix_refl p) (List.prefix_append p r2))
    have := hn c8 c9
    rw [e] at this
    exact this
  | cons c r1 ih =>
    intro r2 p c8 c9 h1 h2 hlt
    obtain ⟨d, r, rfl, hcd⟩ := rlt_step hlt
    refine ⟨.txt k d, idx_nat (h2 ▸ row_at k p r d), rfl, boolP_of (fun hne => ?_) fun heq => ?_⟩
    · have e : cpre s1 s2 = p := by
        rw [h1, h2, cpre_app, show cpre (c :: r1) (d :: r) = [] from if_neg (bne_t hne), List.append_nil]
      have := hn (some (.int p.length, 0)) (some (.txt k c, 0))
      rw [e, ← cut_row k p (c :: r1), ← h1] at this
      exact this
    · have hc : c = d := bne_f heq
      have h := ih (r2 := r) (p := p ++ [c]) (c8 := some (.int p.length, 0)) (c9 := some (.txt k c, 0)) (by rw [h1, List.append_assoc]; rfl) (by rw [h2, List.append_assoc, hc]; rfl) (hcd hc)
      rw [List.length_append] at h
      exact h
theorem szL_sub' {a b : List (List Nat)} (h : a.Sublist b) : szL a ≤ szL b := by
  induction h with
  | slnil => exact Nat.le_refl _
  | cons p _ ih => rw [szL_cons]; exact Nat.le_trans ih (Nat.le_add_left _ _)
  | cons_cons p _ ih => rw [szL_cons, szL_cons]; exact Nat.add_le_add_left ih _
theorem com_end {Γ : FEnv} {k b : Bool} {p0 : List Nat} {ps : List (List Nat)} {Q : PV → Prop} (hb : ∀ p ∈ p0 :: ps, [47].isPrefixOf p = b) (hz : p0.length < 65536) (h : Q (.txt k (comP b p0 ps))) :
    wp Γ msCommonpath_3 [some (.tup ((p0 :: ps).map (PV.txt k)), 0), some (.txt k [47], 0), some (.txt k [46], 0), none, none, none, none, none, none, none, none] (retK Q) := by
  refine compP_map (φ := PV.txt k) (ψ := fun p => rowV k (splitC 47 p)) (fun _ _ _ z => z) (fun _ _ _ z => ⟨rfl, z⟩) ?_
  refine ⟨b, onesP_all ?_ (fun x hx K z => ?_) (.inr fun e => nomatch e)⟩
  case refine_2 =>
    obtain ⟨p, hp, rfl⟩ := List.mem_map.mp hx
    exact ⟨rfl, hb p hp ▸ z⟩
  refine compP_map (φ := fun p => rowV k (splitC 47 p)) (ψ := fun p => rowV k (pcs p)) (fun _ _ _ z => z) (fun p _ K z => ?_) ?_
  · refine compP_filter (φ := PV.txt k) (t := keepB) (fun c _ K z => boolP_of (fun q => ⟨rfl, ?_⟩) fun q => ?_) (fun _ _ _ z => z) z
    · have e : keepB c = false := by unfold keepB; rw [show (!c.isEmpty) = false from q]; rfl
      rw [e] at z; exact z
    · have e : keepB c = !(c == [46]) := by unfold keepB; rw [show (!c.isEmpty) = true from q]; rfl
      rw [e] at z; exact z
  have e : (p0 :: ps).map (fun p => rowV k (pcs p)) = (pcs p0 :: ps.map pcs).map (rowV k) := (List.map_map (f := pcs) (g := rowV k) (l := p0 :: ps)).symm
  rw [e]
  refine .inr ⟨k, pcs p0, ps.map pcs, rfl, .inr ⟨k, pcs p0, ps.map pcs, rfl, ?_⟩⟩
  refine com_for (t := .tup ((p0 :: ps).map (PV.txt k))) (sp := .list ((pcs p0 :: ps.map pcs).map (rowV k))) (ia := .bool b) (s1 := minR (pcs p0) (ps.map pcs)) (s2 := maxR (pcs p0) (ps.map pcs)) (p := []) (fun c8 c9 => ?_) rfl rfl (best_le _ _)
  rw [cpre_best]
  have hz1 : szL (cpreA (pcs p0) (ps.map pcs)) ≤ 65536 := Nat.le_trans (szL_sub' ((cpreA_all (.head _)).sublist.trans List.filter_sublist)) (by rw [szL_split]; exact hz)
  unfold comP at h
  revert h hz1
  generalize cpreA (pcs p0) (ps.map pcs) = R
  intro h hz1
  have hj : (joinC [47] R).length ≤ 65536 := Nat.le_trans (joinC_len1 47 R).1 hz1
  have L1 : 65537 ≤ LIM := by decide
  cases b with
  | true => exact ⟨R, rfl, Nat.le_trans (Nat.le_of_eq (szL_eq R)) (Nat.le_trans hz1 (by decide)), rfl, by show 1 + _ ≤ _; omega, h⟩
  | false => exact ⟨R, rfl, Nat.le_trans (Nat.le_of_eq (szL_eq R)) (Nat.le_trans hz1 (by decide)), rfl, by show 0 + _ ≤ _; omega, h⟩
theorem commonpath_run {Γ : FEnv} (hΓ : getF Γ 0 = fspathF) (xs : List PV) (Q : PV → Prop) (h : commonpathF xs Q) : lenIs 1 xs (callP Γ 11 msCommonpath xs Q) := by
  obtain ⟨k, b, p0, ps, rfl, hb, hz, h⟩ := h
  refine ⟨(p0 :: ps).map fun p => (k, p), (List.map_map (f := fun p => (k, p)) (g := fun (p : Bool × List Nat) => PV.txt p.1 p.2) (l := p0 :: ps)).symm, fun p _ Z z => by rw [hΓ]; exact z, ?_⟩
  cases k with
  | false => exact ⟨0, rfl, .txt false p0, rfl, rfl, com_end hb hz h⟩
  | true => exact ⟨0, rfl, .txt true p0, rfl, rfl, com_end hb hz h⟩
end Mine
end
noncomputable section
namespace Mine
/-! ## law 1's maths: how many choices have a folder in common -/
abbrev Wy := List (List Nat)
/-- the ways that a choice takes -/
def sel {α : Type} : Nat → List α → List α
  | _, [] => []
  | c, w :: ws => if c % 2 = 1 then w :: sel (c / 2) ws else sel (c / 2) ws
def bitB (c k : Nat) : Bool := c / 2 ^ k % 2 == 1
theorem sel_range {α β : Type} (g : Nat → β) (f : α → β) (c0 : Nat) : ∀ (ws : List α) (i : Nat), (∀ j w, ws[j]? = some w → g (i + j) = f w) → ((List.range' i ws.length).filter (bitB c0)).map g = (sel (c0 / 2 ^ i) ws).map f := by
  intro ws
  induction ws with
  | nil => exact fun _ _ => rfl
  | cons w ws ih =>
    intro i h
    have hi := ih (i + 1) fun j x hj => by rw [Nat.add_assoc, Nat.add_comm 1 j]; exact h (j + 1) x hj
    have e : c0 / 2 ^ (i + 1) = c0 / 2 ^ i / 2 := by rw [Nat.pow_succ, Nat.div_div_eq_div_mul]
    rw [e] at hi
    rw [List.length_cons, List.range'_succ, List.filter_cons]
    show _ = ((if c0 / 2 ^ i % 2 = 1 then w :: sel (c0 / 2 ^ i / 2) ws else sel (c0 / 2 ^ i / 2) ws)).map f
    by_cases hb : c0 / 2 ^ i % 2 = 1
    · rw [if_pos hb, if_pos (show bitB c0 i = true from beq_iff_eq.mpr hb), List.map_cons, List.map_cons, hi]; exact congrArg (· :: _) (h 0 w rfl)
    · rw [if_neg hb, if_neg (show ¬ bitB c0 i = true from fun q => hb (beq_iff_eq.mp q)), hi]
theorem sel_sub {α : Type} : ∀ (ws : List α) (c : Nat), (sel c ws).Sublist ws
  | [], _ => .slnil
  | w :: ws, c => by
    unfold sel
    split
    · exact (sel_sub ws _).cons_cons w
    · exact (sel_sub ws _).cons w
theorem sel_zero {α : Type} : ∀ ws : List α, sel 0 ws = []
  | [] => rfl
  | _ :: ws => sel_zero ws
theorem sel_ne {α : Type} : ∀ (ws : List α) (c : Nat), 0 < c → c < 2 ^ ws.length → sel c ws ≠ []
  | [], c, h, h' => by rw [List.length_nil] at h'; omega
  | w :: ws, c, h, h' => by
    unfold sel
    split
    · exact fun e => nomatch e
    · rename_i hb
      rw [List.length_cons, Nat.pow_succ] at h'
      exact sel_ne ws (c / 2) (by omega) (by omega)
/-- a sum over all choices -/
def wSum {α : Type} : (List α → Nat) → List α → Nat
  | f, [] => f []
  | f, w :: ws => wSum (fun l => f (w :: l)) ws + wSum f ws
theorem sum_pairs (f : Nat → Nat) : ∀ n : Nat, ((List.range (2 * n)).map f).sum = ((List.range n).map fun c => f (2 * c)).sum + ((List.range n).map fun c => f (2 * c + 1)).sum
  | 0 => rfl
  | n + 1 => by
    have ih := sum_pairs f n
    rw [show 2 * (n + 1) = 2 * n + 1 + 1 from rfl, List.range_succ, List.range_succ, List.range_succ]
    rw [List.map_append, List.map_append, List.map_append, List.map_append, List.sum_append, List.sum_append, List.sum_append, List.sum_append, ih]
    simp only [List.map_cons, List.map_nil, List.sum_cons, List.sum_nil]
    omega
theorem choices_sum {α : Type} : ∀ (ws : List α) (f : List α → Nat), ((List.range (2 ^ ws.length)).map fun c => f (sel c ws)).sum = wSum f ws
  | [], f => by show f [] + 0 = f []; omega
  | w :: ws, f => by
    rw [List.length_cons, Nat.pow_succ, Nat.mul_comm, sum_pairs]
    have e1 : (List.range (2 ^ ws.length)).map (fun c => f (sel (2 * c) (w :: ws))) = (List.range (2 ^ ws.length)).map fun c => f (sel c ws) := List.map_congr_left fun c _ => by
      show f (if 2 * c % 2 = 1 then w :: sel (2 * c / 2) ws else sel (2 * c / 2) ws) = _
      rw [if_neg (by omega), show 2 * c / 2 = c by omega]
    have e2 : (List.range (2 ^ ws.length)).map (fun c => f (sel (2 * c + 1) (w :: ws))) = (List.range (2 ^ ws.length)).map fun c => f (w :: sel c ws) := List.map_congr_left fun c _ => by
      show f (if (2 * c + 1) % 2 = 1 then w :: sel ((2 * c + 1) / 2) ws else sel ((2 * c + 1) / 2) ws) = _
      rw [if_pos (by omega), show (2 * c + 1) / 2 = c by omega]
    rw [e1, e2, choices_sum ws f, choices_sum ws fun l => f (w :: l), Nat.add_comm]; rfl
theorem wSum_congr {α : Type} : ∀ (ws : List α) {f g : List α → Nat}, (∀ l, l.Sublist ws → f l = g l) → wSum f ws = wSum g ws
  | [], _, _, h => h [] .slnil
  | w :: ws, f, g, h => by
    show wSum _ ws + wSum f ws = wSum _ ws + wSum g ws
    rw [wSum_congr ws fun l hl => h (w :: l) (hl.cons_cons w), wSum_congr ws fun l hl => h l (hl.cons w)]
theorem wSum_add {α : Type} : ∀ (ws : List α) (f g : List α → Nat), wSum (fun l => f l + g l) ws = wSum f ws + wSum g ws
  | [], _, _ => rfl
  | w :: ws, f, g => by
    show wSum _ ws + wSum _ ws = (wSum _ ws + wSum _ ws) + (wSum _ ws + wSum _ ws)
    rw [wSum_add ws (fun l => f (w :: l)) fun l => g (w :: l), wSum_add ws f g]; omega
theorem wSum_zero {α : Type} : ∀ (ws : List α), wSum (fun _ => 0) ws = 0
  | [] => rfl
  | w :: ws => by show wSum _ ws + wSum _ ws = 0; rw [wSum_zero ws]
theorem wSum_sum {α β : Type} (ws : List α) (F : β → List α → Nat) : ∀ us : List β, wSum (fun l => (us.map fun u => F u l).sum) ws = (us.map fun u => wSum (F u) ws).sum
  | [] => wSum_zero ws
  | u :: us => by
    rw [List.map_cons, List.sum_cons, ← wSum_sum ws F us, ← wSum_add]; rfl
def allN {α : Type} (p : α → Bool) (l : List α) : Nat := if l.all p = true then 1 else 0
def allF {α : Type} (p : α → Bool) (l : List α) : Nat := if (!l.isEmpty && l.all p) = true then 1 else 0
theorem wSum_all {α : Type} (p : α → Bool) : ∀ ws : List α, wSum (allN p) ws = 2 ^ ws.countP p
  | [] => rfl
  | w :: ws => by
    have ih := wSum_all p ws
    show wSum (fun l => allN p (w :: l)) ws + wSum (allN p) ws = _
    rw [List.countP_cons]
    cases hp : p w with
    | true =>
      rw [wSum_congr ws (g := allN p) fun l _ => by unfold allN; rw [List.all_cons, hp, Bool.true_and], ih, if_pos rfl, Nat.pow_succ]; omega
    | false =>
      rw [wSum_congr ws (g := fun _ => 0) fun l _ => by unfold allN; rw [List.all_cons, hp, Bool.false_and]; rfl, wSum_zero, ih, if_neg Bool.false_ne_true, Nat.zero_add, Nat.add_zero]
theorem wSum_some {α : Type} (p : α → Bool) : ∀ ws : List α, wSum (allF p) ws + 1 = wSum (allN p) ws
  | [] => rfl
  | w :: ws => by
    have ih := wSum_some p ws
    show (wSum (fun l => allF p (w :: l)) ws + wSum (allF p) ws) + 1 = wSum (fun l => allN p (w :: l)) ws + wSum (allN p) ws
    rw [wSum_congr ws (f := fun l => allF p (w :: l)) (g := fun l => allN p (w :: l)) fun l _ => rfl]; omega
/-- the folder that all of a choice lie in -/
def cpreL : List Wy → Option Wy
  | [] => none
  | w :: ws => some (cpreA w ws)
def eqF (F : Wy) (l : List Wy) : Nat := if cpreL l = some F then 1 else 0
def below (F : Wy) (w : Wy) : Bool := F.isPrefixOf w
theorem below_iff {F w : Wy} : below F w = true ↔ F <+: w := List.isPrefixOf_iff_prefix
theorem sum_one {us : List (List Nat)} {x : List Nat} (hn : us.Nodup) (hx : x ∈ us) {f : List Nat → Nat} (h1 : f x = 1) (h0 : ∀ y, y ≠ x → f y = 0) : (us.map f).sum = 1 := by
  induction us with
  | nil => exact nomatch hx
  | cons u us ih =>
    obtain ⟨n1, n2⟩ := List.nodup_cons.mp hn
    rw [List.map_cons, List.sum_cons]
    rcases List.mem_cons.mp hx with rfl | hx
    · have : (us.map f).sum = 0 := by
        have : us.map f = us.map fun _ => 0 := List.map_congr_left fun y hy => h0 y fun e => n1 (e ▸ hy)
        rw [this, List.map_const', List.sum_replicate_nat, Nat.mul_zero]
      rw [h1, this]
    · rw [h0 u fun e => n1 (e.symm ▸ hx), ih n2 hx]
theorem sum_none {us : List (List Nat)} {f : List Nat → Nat} (h : ∀ y, f y = 0) : (us.map f).sum = 0 := by
  have : us.map f = us.map fun _ => 0 := List.map_congr_left fun y _ => h y
  rw [this, List.map_const', List.sum_replicate_nat, Nat.mul_zero]
theorem split_all (F : Wy) {ws l : List Wy} (hl : l.Sublist ws) {us : List (List Nat)} (hn : us.Nodup) (hu : ∀ x, x ∈ us ↔ ∃ w ∈ ws, F ++ [x] <+: w) :
    allF (below F) l = eqF F l + (us.map fun x => allF (below (F ++ [x])) l).sum := by
  cases l with
  | nil => exact ((Nat.zero_add _).trans (sum_none (f := fun x => allF (below (F ++ [x])) []) fun y => rfl)).symm
  | cons w r =>
    have ev : ∀ G : Wy, allF (below G) (w :: r) = if G <+: cpreA w r then 1 else 0 := fun G => by
      unfold allF
      by_cases h : G <+: cpreA w r
      · rw [if_pos h, if_pos]
        show (!false && _) = true
        rw [Bool.not_false, Bool.true_and]
        exact List.all_eq_true.mpr fun x hx => below_iff.mpr (h.trans (cpreA_all hx))
      · rw [if_neg h, if_neg]
        intro q
        exact h (cpreA_of fun x hx => below_iff.mp (List.all_eq_true.mp (Bool.and_eq_true_iff.mp q).2 x hx))
    have eq : eqF F (w :: r) = if cpreA w r = F then 1 else 0 := by
      show (if some (cpreA w r) = some F then 1 else 0) = _
      by_cases h : cpreA w r = F
      · rw [if_pos h, if_pos (congrArg some h)]
      · rw [if_neg h, if_neg fun q => h (Option.some.inj q)]
    rw [ev, eq]
    have e2 : (us.map fun x => allF (below (F ++ [x])) (w :: r)) = us.map fun x => if F ++ [x] <+: cpreA w r then 1 else 0 := List.map_congr_left fun x _ => ev _
    rw [e2]
    have hw : w ∈ ws := hl.subset (.head _)
    have hG : cpreA w r <+: w := cpreA_all (.head _)
    revert hG
    generalize cpreA w r = G
    intro hG
    by_cases h : F <+: G
    · rw [if_pos h]
      obtain ⟨t, rfl⟩ := h
      cases t with
      | nil =>
        rw [List.append_nil, if_pos rfl, sum_none fun y => if_neg fun q => by
          have := q.length_le
          rw [List.length_append] at this
          exact Nat.not_succ_le_self _ this]
      | cons x t =>
        rw [if_neg fun q => by
          have := congrArg List.length q
          rw [List.length_append, List.length_cons] at this
          omega]
        have px : ∀ y, F ++ [y] <+: F ++ x :: t ↔ y = x := fun y => by
          rw [List.prefix_append_right_inj, List.cons_prefix_cons]
          exact ⟨fun q => q.1, fun q => ⟨q, List.nil_prefix⟩⟩
        rw [sum_one hn ((hu x).mpr ⟨w, hw, ((px x).mpr rfl).trans hG⟩) (if_pos ((px x).mpr rfl)) fun y hy => if_neg fun q => hy ((px y).mp q)]
    · rw [if_neg h, if_neg (fun q : G = F => h (q ▸ List.prefix_refl _)), sum_none fun y => if_neg fun q => h ((List.prefix_append F [y]).trans q)]
/-- the choices that have a folder in common, by number -/
theorem told_due (F : Wy) {ws : List Wy} {us : List (List Nat)} (hn : us.Nodup) (hu : ∀ x, x ∈ us ↔ ∃ w ∈ ws, F ++ [x] <+: w) :
    ((List.range (2 ^ ws.length)).map fun c => eqF F (sel c ws)).sum + (us.map fun x => 2 ^ ws.countP (below (F ++ [x])) - 1).sum = 2 ^ ws.countP (below F) - 1 := by
  have key : ∀ G : Wy, wSum (allF (below G)) ws = 2 ^ ws.countP (below G) - 1 := fun G => by
    have h1 := wSum_some (below G) ws
    rw [wSum_all] at h1
    omega
  rw [choices_sum ws (eqF F), ← key F, wSum_congr ws fun l hl => split_all F hl hn hu, wSum_add, wSum_sum]
  congr 2
  exact List.map_congr_left fun x _ => (key _).symm
end Mine
end
noncomputable section
namespace Mine
open Builtin Builtin.Bytes

/-! ## rfind, rstrip -/
section
variable {c : Nat} {cs : List Nat}
end
section
variable {α : Type} {p : α → Bool}
end
section
variable {W : Wld} {A : Around} {s : Shared} {Ok : Addr → Prop} {v u : Value} {k : Bool} {a : List Nat} {c : Nat}
end
/-! ## products -/
end Mine
end
noncomputable section
namespace Mine
/-! ## the texts of law 4 in the small language -/
/-! ## dirname -/
end Mine
end
noncomputable section
namespace Mine
variable {Γ : FEnv}
/-! ## a link: what it is does not matter, but that its pieces and its name are short, without slash and of octets -/
end Mine
end
noncomputable section
namespace Mine
variable {Γ : FEnv}
/-! ## heights of a row of pieces -/
end Mine
end
noncomputable section
namespace Mine
/-! ## what a path tells: its root and its way -/
/-! ## dirname of a path of pieces and a name -/
end Mine
end
noncomputable section
namespace Mine
/-! ## relpath in the small language (laws 5, 6) -/
theorem joinC_nil {ps : List (List Nat)} (h : ∀ p ∈ ps, p ≠ []) : joinC [47] ps = [] → ps = [] := by
  cases ps with
  | nil => exact fun _ => rfl
  | cons p r => exact fun q => absurd (List.append_eq_nil_iff.mp (show p ++ _ = [] from q)).1 (h p (.head _))
end Mine
end
noncomputable section
namespace Mine
/-! ## codes and names as lists of ints (laws 5, 6) -/
def iv (r : List Nat) : PV := .list (r.map fun (c : Nat) => PV.int (c : Int))
theorem eqs_map {α : Type} [BEq α] [LawfulBEq α] {f : PV → PV → Option Bool} {φ : α → PV} (hf : ∀ a b, f (φ a) (φ b) = some (a == b)) : ∀ {a b : List α}, a.length = b.length → eqs f (a.map φ) (b.map φ) = some (a == b)
  | [], [], _ => rfl
  | [], _ :: _, h => nomatch h
  | _ :: _, [], h => nomatch h
  | x :: a, y :: b, h => by
    rw [List.map_cons, List.map_cons, eqs, hf, eqs_map hf (Nat.succ.inj h)]; rfl
theorem eqL_map {α : Type} [BEq α] [LawfulBEq α] {n : Nat} {φ : α → PV} (hf : ∀ a b, eqV (eqL n) (φ a) (φ b) = some (a == b)) (a b : List α) : eqL (n + 1) (a.map φ) (b.map φ) = some (a == b) := by
  show (if (a.map φ).length = (b.map φ).length then eqs (eqV (eqL n)) (a.map φ) (b.map φ) else some false) = _
  rw [List.length_map, List.length_map]
  by_cases h : a.length = b.length
  · rw [if_pos h, eqs_map hf h]
  · rw [if_neg h, beq_false_of_ne fun q => h (congrArg List.length q)]
theorem eq_iv {n : Nat} (a b : List Nat) : eqV (eqL (n + 1)) (iv a) (iv b) = some (a == b) :=
  eqL_map (φ := fun (c : Nat) => PV.int (c : Int)) (fun a b => show some ((a : Int) == (b : Int)) = some (a == b) from congrArg some (Bool.eq_iff_iff.mpr (beq_iff_eq.trans (Int.natCast_inj.trans beq_iff_eq.symm)))) a b
/-! _law_made -/
/-! _law_names -/
end Mine
end
noncomputable section
namespace Mine
theorem range_nat (n : Nat) : rangeF 0 (n : Int) = (List.range' 0 n).map fun (i : Nat) => PV.int (i : Int) := by
  unfold rangeF
  rw [show ((n : Int) - 0).toNat = n by omega, List.range_eq_range']
  exact List.map_congr_left fun k _ => by rw [Int.zero_add]
theorem range_ok {n : Nat} (h : n ≤ 65536) : -(2 ^ 40 : Int) ≤ 0 ∧ (0 : Int) ≤ 2 ^ 40 ∧ -(2 ^ 40 : Int) ≤ (n : Int) ∧ (n : Int) ≤ LIM ∧ ((n : Int) - 0).toNat ≤ LIM := by
  have L : 65536 ≤ LIM := by decide
  refine ⟨by decide, by decide, by omega, by omega, by omega⟩
/-! _law_laid -/
/-! _law_turn -/
end Mine
end
noncomputable section
namespace Mine
/-! ## law 5: _law_rows -/
theorem idx_in {α : Type} {xs : List α} {i : Int} (h0 : 0 ≤ i) (h1 : i < xs.length) : ∃ x, idxAt xs i = some x ∧ x ∈ xs := by
  have hl : i.toNat < xs.length := by omega
  refine ⟨xs[i.toNat], ?_, List.getElem_mem hl⟩
  unfold idxAt
  rw [if_pos h0]; exact List.getElem?_eq_getElem hl
section
variable {Γ : FEnv} {a0 : PV} {f : List Slt → Prop} {Q : Post} {z : Nat} {x kd : Int} {c : Int}
theorem mod_range (n : Int) {m : Int} (hm : 0 < m) : 0 ≤ n.fmod m ∧ n.fmod m < m := ⟨Int.fmod_nonneg_of_pos n hm, Int.fmod_lt_of_pos n hm⟩
end
end Mine
end
noncomputable section
namespace Mine
/-! ## law 1: its small defs -/
def msFspath1_9 : MS := .bad
def msFspath1_8 : MS := .seq (.ite .bad .bad .skip) msFspath1_9
def msFspath1_7 : MS := .seq (.ite (.bi2 .issub (.bi1 .typ (.var 3)) (.tup (.cons (.lit (.cls "str")) (.cons (.lit (.cls "bytes")) .nil)))) (.ret (.var 3)) .skip) msFspath1_8
def msFspath1_6 : MS := .seq (.asg 3 false .bad) msFspath1_7
def msFspath1_5 : MS := .seq (.ite .bad .bad .skip) msFspath1_6
def msFspath1_4 : MS := .seq (.ite .bad .bad .skip) msFspath1_5
def msFspath1_3 : MS := .seq (.asg 2 false .bad) msFspath1_4
def msFspath1_2 : MS := .seq .bad msFspath1_3
def msFspath1_1 : MS := .seq (.ite (.bi2 .issub (.var 1) (.tup (.cons (.lit (.cls "str")) (.cons (.lit (.cls "bytes")) .nil)))) (.ret (.var 0)) .skip) msFspath1_2
def msFspath1 : MS := .seq (.asg 1 false (.bi1 .typ (.var 0))) msFspath1_1
def msPiece : MS := (.ret (.idx (.list (.cons (.lit (.txt false [97])) (.cons (.lit (.txt false [97])) (.cons (.lit (.txt false [98])) (.cons (.lit (.txt false [97, 45])) (.cons (.lit (.txt false [])) (.cons (.lit (.txt false [46])) (.cons (.lit (.txt false [46, 46])) (.cons (.bin .add (.lit (.txt false [97])) (.bi1 .chr (.bin .add (.lit (.int 48)) (.bin .fmod (.bin .fdiv (.var 0) (.lit (.int 8))) (.lit (.int 208)))))) .nil))))))))) (.bin .fmod (.var 0) (.lit (.int 8)))))
def msRows1_2 : MS := (.ret (.var 1))
def msRows11b : MS := (.append2 1 (.bin .fmod (.var 2) (.bi1 .len (.var 1))) (.fn 2 (.cons (.idx (.var 0) (.var 2)) .nil)))
def msRows1_1 : MS := .seq (.for_ [2] (.range (.lit (.int 0)) (.bi1 .len (.var 0))) msRows11b) msRows1_2
def msRows1 : MS := .seq (.rows 1 (.range (.lit (.int 0)) (.bi2 .max (.lit (.int 1)) (.bi2 .min (.lit (.int 5)) (.bin .fdiv (.bin .add (.bi1 .len (.var 0)) (.lit (.int 1))) (.lit (.int 2))))))) msRows1_1
def msPath1_2 : MS := (.ret (.ite (.cmp .eq (.cut (.var 2) (.lit .none) (.lit (.int 1))) (.lit (.txt false [47]))) (.bin .add (.lit (.txt false [46])) (.var 2)) (.var 2)))
def msPath1_1 : MS := .seq (.ite (.var 1) (.ret (.bin .add (.lit (.txt false [47])) (.var 2))) .skip) msPath1_2
def msPath1 : MS := .seq (.asg 2 false (.meth .join (.lit (.txt false [47])) (.var 0))) msPath1_1
def msFronts : MS := (.ret (.comp (.cut (.var 0) (.lit .none) (.var 1)) (.range (.lit (.int 0)) (.bin .add (.bi1 .len (.var 0)) (.lit (.int 1)))) (.lit (.bool true))))
def msChoices : MS := (.ret (.bin .sub (.bin .pow (.lit (.int 2)) (.var 0)) (.lit (.int 1))))
theorem fspath1_run (xs : List PV) (Q : PV → Prop) (h : fspathF xs Q) : lenIs 1 xs (callP [] 4 msFspath1 xs Q) := by
  obtain ⟨k, cs, rfl, h⟩ := txt1_inv h
  cases k with
  | false => exact ⟨rfl, .inl rfl, rfl, h⟩
  | true => exact ⟨rfl, .inr rfl, rfl, h⟩
/-! pieces -/
def pieceQ (p : List Nat) : Prop := p.length ≤ 2 ∧ 47 ∉ p ∧ Small p
def pieceF1 : Fn := fun xs Q => ∃ x, xs = [.int x] ∧ ∀ p, pieceQ p → Q (.txt false p)
def piecesL (d : Nat) : List (List Nat) := [[97], [97], [98], [97, 45], [], [46], [46, 46], [97] ++ [d]]
theorem pieces_ok {d : Nat} (h0 : 48 ≤ d) (h1 : d < 256) : ∀ p ∈ piecesL d, pieceQ p := by
  have lit : ∀ p ∈ ([[97], [97], [98], [97, 45], [], [46], [46, 46]] : List (List Nat)), (decide (p.length ≤ 2) && (!(p.contains 47) && p.all fun c => decide (c < 256))) = true := by decide
  intro p hp
  rcases List.mem_append.mp (show p ∈ ([[97], [97], [98], [97, 45], [], [46], [46, 46]] : List (List Nat)) ++ [[97] ++ [d]] from hp) with hp | hp
  · obtain ⟨a, b⟩ := Bool.and_eq_true_iff.mp (lit p hp)
    obtain ⟨b, c⟩ := Bool.and_eq_true_iff.mp b
    exact ⟨of_decide_eq_true a, (fun hm => by rw [List.contains_iff_mem.mpr hm] at b; exact nomatch b), fun c' hc => of_decide_eq_true (List.all_eq_true.mp c c' hc)⟩
  · rw [List.mem_singleton.mp hp]
    refine ⟨Nat.le_refl _, fun hm => ?_, fun c hc => ?_⟩
    · rcases List.mem_cons.mp hm with q | q
      · exact nomatch q
      · have := List.mem_singleton.mp q; omega
    · rcases List.mem_cons.mp hc with q | q
      · omega
      · have := List.mem_singleton.mp q; omega
theorem piece1_run {Γ : FEnv} (xs : List PV) (Q : PV → Prop) (h : pieceF1 xs Q) : lenIs 1 xs (callP Γ 1 msPiece xs Q) := by
  obtain ⟨x, rfl, h⟩ := h
  have hm := mod_range x (show (0 : Int) < 8 by decide)
  have hc := mod_range (x.fdiv 8) (show (0 : Int) < 208 by decide)
  refine ⟨⟨by decide, by decide⟩, by decide, ⟨?_, ?_⟩, rfl, by show 1 + 1 ≤ LIM; decide, rfl, by decide, ?_⟩
  · omega
  · omega
  · obtain ⟨v, hv, hmem⟩ := idx_in (xs := (piecesL (48 + (x.fdiv 8).fmod 208).toNat).map (PV.txt false)) hm.1 (by show x.fmod 8 < 8; exact hm.2)
    obtain ⟨p, hp, rfl⟩ := List.mem_map.mp hmem
    exact ⟨_, hv, h p (pieces_ok (by omega) (by omega) p hp)⟩
/-! rows -/
def rv (R : List Wy) : PV := .list (R.map (rowV false))
def RowsP (M i : Nat) (R : List Wy) : Prop := R.length = M ∧ ∀ r ∈ R, r.length ≤ i ∧ ∀ p ∈ r, pieceQ p
def rowsF1 : Fn := fun xs Q => ∃ ns : List Int, xs = [.list (ns.map .int)] ∧ ns.length ≤ 63 ∧ ∀ M R, 1 ≤ M → M ≤ 5 → RowsP M 63 R → Q (rv R)
theorem rows_for1 {Γ : FEnv} (hΓ : getF Γ 2 = pieceF1) {ns : List Int} {M : Nat} (hM : 1 ≤ M) {Q : Post} : ∀ {m i : Nat} {R : List Wy} {s2 : Slt}, i + m = ns.length → ns.length ≤ 63 → RowsP M i R →
    (∀ R s2, RowsP M 63 R → Q .next [some (.list (ns.map .int), 0), some (rv R, 2), s2]) →
    forP (wp Γ msRows11b) [2] ((List.range' i m).map fun (i : Nat) => PV.int (i : Int)) [some (.list (ns.map .int), 0), some (rv R, 2), s2] Q := by
  intro m
  induction m with
  | zero => exact fun {i R s2} hi hz h q => q R s2 ⟨h.1, fun r hr => ⟨Nat.le_trans (h.2 r hr).1 (by omega), (h.2 r hr).2⟩⟩
  | succ m ih =>
    intro i R s2 hi hz h q
    rw [List.range'_succ]
    have hlt : i < ns.length := by omega
    have hl : (R.map (rowV false)).length = M := by rw [List.length_map, h.1]
    have hj := mod_range (i : Int) (show (0 : Int) < (((R.map (rowV false)).length : Nat) : Int) by omega)
    obtain ⟨j, hj'⟩ := Int.eq_ofNat_of_zero_le hj.1
    have hjl : j < R.length := by have := h.1; omega
    have hr : R[j]? = some R[j] := List.getElem?_eq_getElem hjl
    have hrm := h.2 _ (List.getElem_mem hjl)
    refine ⟨by omega, ((R[j]).map (PV.txt false)), ?_, .int ns[i], idx_nat (by rw [List.getElem?_map, List.getElem?_eq_getElem hlt]; rfl), ?_⟩
    · rw [hj']
      exact idx_nat (by rw [List.getElem?_map, hr]; rfl)
    · show getF Γ 2 [.int ns[i]] _
      rw [hΓ]
      refine ⟨_, rfl, fun p hp => ⟨by rw [List.length_map]; exact Nat.lt_of_le_of_lt hrm.1 (Nat.lt_of_le_of_lt (show i ≤ 64 by omega) (by decide)), ?_⟩⟩
      have ep : placeOfI (R.map (rowV false)) (Int.fmod (i : Int) (((R.map (rowV false)).length : Nat) : Int)) = j := by
        rw [hj']; unfold placeOfI; rw [if_pos (Int.natCast_nonneg j), Int.toNat_natCast]
      have e2 : PV.list ((R.map (rowV false)).set j (.list ((R[j]).map (PV.txt false) ++ [.txt false p]))) = rv (R.set j (R[j] ++ [p])) := by
        unfold rv
        rw [List.map_set]
        unfold rowV
        rw [List.map_append]; rfl
      show forP (wp Γ msRows11b) [2] _ [some (.list (ns.map .int), 0), some (.list ((R.map (rowV false)).set (placeOfI (R.map (rowV false)) (Int.fmod (i : Int) (((R.map (rowV false)).length : Nat) : Int))) (.list ((R[j]).map (PV.txt false) ++ [.txt false p]))), 2), some (.int (i : Int), 0)] Q
      rw [ep, e2]
      refine ih (by omega) hz ⟨by rw [List.length_set]; exact h.1, fun r hr => ?_⟩ q
      rcases List.mem_or_eq_of_mem_set hr with hr | rfl
      · exact ⟨Nat.le_succ_of_le (h.2 r hr).1, (h.2 r hr).2⟩
      · refine ⟨by rw [List.length_append]; exact Nat.succ_le_succ hrm.1, fun p' hp' => (List.mem_append.mp hp').elim (hrm.2 p') fun e => List.mem_singleton.mp e ▸ hp⟩
theorem rows1_run {Γ : FEnv} (hΓ : getF Γ 2 = pieceF1) (xs : List PV) (Q : PV → Prop) (h : rowsF1 xs Q) : lenIs 1 xs (callP Γ 3 msRows1 xs Q) := by
  obtain ⟨ns, rfl, hz, h⟩ := h
  refine ⟨⟨by decide, by decide⟩, ?_⟩
  generalize hb : Int.fdiv ((((ns.map PV.int).length : Nat) : Int) + 1) 2 = b
  show (-(2 ^ 40 : Int) ≤ 0 ∧ (0 : Int) ≤ 2 ^ 40 ∧ -(2 ^ 40 : Int) ≤ (if (if b < 5 then b else 5) > 1 then (if b < 5 then b else 5) else 1) ∧ (if (if b < 5 then b else 5) > 1 then (if b < 5 then b else 5) else 1) ≤ LIM ∧ ((if (if b < 5 then b else 5) > 1 then (if b < 5 then b else 5) else 1) - 0).toNat ≤ LIM) ∧
    wp Γ msRows1_1 [some (.list (ns.map .int), 0), some (.list (List.replicate (rangeF 0 (if (if b < 5 then b else 5) > 1 then (if b < 5 then b else 5) else 1)).length (.list [])), 2), none] (retK Q)
  obtain ⟨M, hM, h1, h5⟩ : ∃ M : Nat, (if (if b < 5 then b else 5) > 1 then (if b < 5 then b else 5) else 1) = (M : Int) ∧ 1 ≤ M ∧ M ≤ 5 := by
    refine ⟨(if (if b < 5 then b else 5) > 1 then (if b < 5 then b else 5) else 1).toNat, ?_, ?_, ?_⟩ <;> split <;> split <;> omega
  rw [hM, range_nat, List.length_map, List.length_range']
  have L : 65536 ≤ LIM := by decide
  refine ⟨range_ok (by omega), ?_⟩
  have hl : (ns.map PV.int).length = ns.length := List.length_map _
  have e0 : PV.list (List.replicate M (.list [])) = rv (List.replicate M []) := by unfold rv; rw [List.map_replicate]; rfl
  rw [e0]
  show (-(2 ^ 40 : Int) ≤ 0 ∧ (0 : Int) ≤ 2 ^ 40 ∧ -(2 ^ 40 : Int) ≤ (((ns.map PV.int).length : Nat) : Int) ∧ (((ns.map PV.int).length : Nat) : Int) ≤ LIM ∧ ((((ns.map PV.int).length : Nat) : Int) - 0).toNat ≤ LIM) ∧
    forP (wp Γ msRows11b) [2] (rangeF 0 (((ns.map PV.int).length : Nat) : Int)) [some (.list (ns.map .int), 0), some (rv (List.replicate M []), 2), none] (seqK (fun ρ => wp Γ msRows1_2 ρ (retK Q)) (retK Q))
  rw [hl, range_nat]
  refine ⟨range_ok (by omega), rows_for1 hΓ h1 (Nat.zero_add _) hz ⟨List.length_replicate, fun r hr => ?_⟩ fun R s2 hR => h M R h1 h5 hR⟩
  rw [List.eq_of_mem_replicate hr]
  exact ⟨Nat.le_refl _, fun p hp => nomatch hp⟩
/-! the path of a row -/
def pathT (rooted : Bool) (r : Wy) : List Nat := if rooted = true then 47 :: joinC [47] r else if (joinC [47] r).take 1 = [47] then 46 :: joinC [47] r else joinC [47] r
def pathF1 : Fn := fun xs Q => ∃ r b, xs = [rowV false r, .bool b] ∧ szL r ≤ 65536 ∧ Q (.txt false (pathT b r))
theorem path1_run {Γ : FEnv} (xs : List PV) (Q : PV → Prop) (h : pathF1 xs Q) : lenIs 2 xs (callP Γ 3 msPath1 xs Q) := by
  obtain ⟨r, b, rfl, hz, h⟩ := h
  have hj := (joinC_len1 47 r).1
  have L : 65537 ≤ LIM := by decide
  refine ⟨r, rfl, Nat.le_trans (Nat.le_of_eq (szL_eq r)) (by omega), ?_⟩
  cases b with
  | true => exact ⟨rfl, by show 1 + _ ≤ _; omega, h⟩
  | false =>
    have h : Q (.txt false (if (joinC [47] r).take 1 = [47] then 46 :: joinC [47] r else joinC [47] r)) := h
    have ec : cut (joinC [47] r) none (some 1) = (joinC [47] r).take 1 := cut_to _ 1
    refine ⟨rfl, boolP_of (fun q => ?_) fun q => ?_⟩
    · rw [ec] at q
      rw [if_pos (eq_of_beq q)] at h
      exact ⟨rfl, by show 1 + _ ≤ _; omega, h⟩
    · rw [ec] at q
      rw [if_neg (beq_f q)] at h
      exact h
/-! fronts, choices -/
def frontsF : Fn := fun xs Q => ∃ w : Wy, xs = [rowV false w] ∧ w.length ≤ 1000 ∧ Q (rv ((List.range' 0 (w.length + 1)).map fun k => w.take k))
theorem fronts_run {Γ : FEnv} (xs : List PV) (Q : PV → Prop) (h : frontsF xs Q) : lenIs 1 xs (callP Γ 1 msFronts xs Q) := by
  obtain ⟨w, rfl, hz, h⟩ := h
  have hl : (w.map (PV.txt false)).length = w.length := List.length_map _
  show (-(2 ^ 40 : Int) ≤ 0 ∧ (0 : Int) ≤ 2 ^ 40 ∧ -(2 ^ 40 : Int) ≤ (((w.map (PV.txt false)).length : Nat) : Int) + 1 ∧ (((w.map (PV.txt false)).length : Nat) : Int) + 1 ≤ LIM ∧ ((((w.map (PV.txt false)).length : Nat) : Int) + 1 - 0).toNat ≤ LIM) ∧
    compP (fun x => (evA Γ (.lit (.bool true)) ([some (rowV false w, 0)] ++ [some (x, 0)])).tru) (fun x => (evA Γ (.cut (.var 0) (.lit .none) (.var 1)) ([some (rowV false w, 0)] ++ [some (x, 0)])).val) (rangeF 0 ((((w.map (PV.txt false)).length : Nat) : Int) + 1)) fun ys => Q (.list ys)
  rw [hl, show (w.length : Int) + 1 = ((w.length + 1 : Nat) : Int) from rfl, range_nat]
  refine ⟨range_ok (by omega), compP_map (ψ := fun k => rowV false (w.take k)) (fun _ _ _ z => z) (fun k _ K z => ?_) ?_⟩
  · have : PV.list (cut (w.map (PV.txt false)) none (some (k : Int))) = rowV false (w.take k) := by rw [cut_to, ← List.map_take]; rfl
    show K (PV.list (cut (w.map (PV.txt false)) none (some (k : Int)))) 0
    rw [this]; exact z
  · unfold rv at h
    rw [List.map_map] at h
    exact h
def choicesF : Fn := fun xs Q => ∃ c : Nat, xs = [.int (c : Int)] ∧ c ≤ 1000 ∧ Q (.int ((2 ^ c - 1 : Nat) : Int))
theorem choices_run {Γ : FEnv} (xs : List PV) (Q : PV → Prop) (h : choicesF xs Q) : lenIs 1 xs (callP Γ 1 msChoices xs Q) := by
  obtain ⟨c, rfl, hc, h⟩ := h
  have e : ((2 : Int) ^ (c : Int).toNat) - 1 = ((2 ^ c - 1 : Nat) : Int) := by
    rw [Int.toNat_natCast]
    have : 1 ≤ 2 ^ c := Nat.one_le_two_pow
    rw [Int.ofNat_sub this, Int.natCast_pow]; rfl
  refine ⟨⟨Int.natCast_nonneg c, by omega, by decide⟩, ?_⟩
  show Q (.int (((2 : Int) ^ (c : Int).toNat) - 1))
  rw [e]; exact h
end Mine
end
noncomputable section
namespace Mine
/-! ## law 1, plain: paths, folders -/
def rootT (b : Bool) : List Nat := if b = true then [47] else []
def wayOf (r : Wy) : Wy := r.filter keepB
theorem split_row {r : Wy} (h : ∀ p ∈ r, 47 ∉ p) : (splitC 47 (joinC [47] r)).filter keepB = r.filter keepB := by
  cases r with
  | nil => rfl
  | cons p ps => rw [splitC_join 47 ps p h]
theorem join_slash {r : Wy} (h : ∀ p ∈ r, 47 ∉ p) (q : (joinC [47] r).take 1 = [47]) : ∃ p ps, r = [] :: p :: ps := by
  cases r with
  | nil => exact nomatch q
  | cons p ps =>
    cases p with
    | nil => cases ps with
      | nil => exact nomatch q
      | cons p' ps => exact ⟨p', ps, rfl⟩
    | cons c p =>
      have hc : 47 ∉ c :: p := h _ (.head _)
      have : joinC [47] ((c :: p) :: ps) = c :: (p ++ (ps.map fun q => [47] ++ q).flatten) := rfl
      rw [this] at q
      exact absurd (List.head_eq_of_cons_eq q) fun e => hc (e ▸ .head _)
theorem pcs_path (b : Bool) {r : Wy} (h : ∀ p ∈ r, 47 ∉ p) : pcs (pathT b r) = wayOf r := by
  have h0 := split_row h
  unfold pathT pcs wayOf
  cases b with
  | true => rw [if_pos rfl, splitC_eq, List.filter_cons]; exact h0
  | false =>
    rw [if_neg Bool.false_ne_true]
    by_cases q : (joinC [47] r).take 1 = [47]
    · rw [if_pos q]
      obtain ⟨p, ps, rfl⟩ := join_slash h q
      have e : (46 : Nat) :: joinC [47] ([] :: p :: ps) = [46] ++ 47 :: joinC [47] (p :: ps) := rfl
      rw [e, splitC_app 47 _ [46] (by decide), splitC_join 47 ps p fun x hx => h x (.tail _ hx)]
      rfl
    · rw [if_neg q]; exact h0
theorem path_root (b : Bool) (r : Wy) : [47].isPrefixOf (pathT b r) = b := by
  unfold pathT
  cases b with
  | true => rfl
  | false =>
    rw [if_neg Bool.false_ne_true]
    by_cases q : (joinC [47] r).take 1 = [47]
    · rw [if_pos q]; rfl
    · rw [if_neg q]
      generalize joinC [47] r = t at q
      cases t with
      | nil => rfl
      | cons c t =>
        show ((47 == c) && true) = false
        rw [Bool.and_true, beq_false_of_ne fun e => q (by rw [← e]; rfl)]
theorem path_len (b : Bool) (r : Wy) : (pathT b r).length ≤ szL r + 1 := by
  have := (joinC_len1 47 r).1
  unfold pathT
  split
  · rw [List.length_cons]; omega
  · split
    · rw [List.length_cons]; omega
    · omega
theorem szL_small {r : Wy} {n : Nat} (h : r.length ≤ n) (hp : ∀ p ∈ r, p.length ≤ 2) : szL r ≤ 3 * n := by
  have : ∀ r : Wy, (∀ p ∈ r, p.length ≤ 2) → szL r ≤ 3 * r.length := by
    intro r
    induction r with
    | nil => exact fun _ => Nat.le_refl _
    | cons p r ih =>
      intro hp
      have h1 := hp p (.head _)
      have h2 := ih fun q hq => hp q (.tail _ hq)
      rw [szL_cons, List.length_cons]; omega
  have := this r hp
  omega
/-- a name of a way -/
def nameQ (p : List Nat) : Prop := p ≠ [] ∧ 47 ∉ p ∧ Small p ∧ p.length ≤ 2
theorem way_names {r : Wy} (h : ∀ p ∈ r, pieceQ p) : ∀ p ∈ wayOf r, nameQ p := fun p hp => by
  obtain ⟨h1, h2⟩ := List.mem_filter.mp hp
  have := h p h1
  refine ⟨fun e => ?_, this.2.1, this.2.2, this.1⟩
  rw [e] at h2; exact nomatch h2
theorem join_names_inj {F G : Wy} (hF : ∀ p ∈ F, nameQ p) (hG : ∀ p ∈ G, nameQ p) (h : joinC [47] F = joinC [47] G) : F = G := by
  cases F with
  | nil => exact (joinC_nil (fun p hp => (hG p hp).1) h.symm).symm
  | cons p F => cases G with
    | nil => exact joinC_nil (fun p hp => (hF p hp).1) h
    | cons q G => rw [← splitC_join 47 F p fun x hx => (hF x hx).2.1, ← splitC_join 47 G q fun x hx => (hG x hx).2.1, h]
theorem small_one : Small [47] := fun c hc => List.mem_singleton.mp hc ▸ by decide
theorem small_joined {F : Wy} (hF : ∀ p ∈ F, nameQ p) (b : Bool) : Small (rootT b ++ joinC [47] F) := by
  refine Small.append ?_ (small_join small_one fun p hp => (hF p hp).2.2.1)
  cases b
  · exact fun _ h => nomatch h
  · exact small_one
theorem prefix_names {F w : Wy} (h : F <+: w) (hw : ∀ p ∈ w, nameQ p) : ∀ p ∈ F, nameQ p := fun p hp => hw p (h.subset hp)
/-! the folders -/
def fronts (w : Wy) : List Wy := (List.range' 0 (w.length + 1)).map fun k => w.take k
theorem fronts_mem {w F : Wy} : F ∈ fronts w ↔ F <+: w := by
  unfold fronts
  constructor
  · intro h
    obtain ⟨k, _, rfl⟩ := List.mem_map.mp h
    exact List.take_prefix k w
  · intro h
    refine List.mem_map.mpr ⟨F.length, ?_, ?_⟩
    · rw [List.mem_range'_1]
      have := h.length_le
      omega
    · exact (List.prefix_iff_eq_take.mp h).symm
theorem fronts_nodup (w : Wy) : (fronts w).Nodup := by
  unfold fronts
  refine List.pairwise_map.mpr ((List.pairwise_lt_range' (s := 0) (n := w.length + 1)).imp_of_mem fun {a b} ha hb hab e => ?_)
  have h1 := congrArg List.length e
  rw [List.mem_range'_1] at ha hb
  rw [List.length_take, List.length_take] at h1
  omega
def addF (Fs : List Wy) (w : Wy) : List Wy := Fs ++ (fronts w).filter fun F => !(Fs.contains F)
structure FoldsOf (done : List Wy) (Fs : List Wy) : Prop where
  nd : Fs.Nodup
  mem : ∀ F, F ∈ Fs ↔ ∃ w ∈ done, F <+: w
theorem folds_add {done Fs : List Wy} {w : Wy} (h : FoldsOf done Fs) : FoldsOf (done ++ [w]) (addF Fs w) := by
  refine ⟨List.nodup_append.mpr ⟨h.nd, (fronts_nodup w).sublist List.filter_sublist, fun F hF G hG e => ?_⟩, fun F => ?_⟩
  · have := (List.mem_filter.mp hG).2
    rw [← e, List.contains_iff_mem.mpr hF] at this
    exact nomatch this
  · unfold addF
    rw [List.mem_append, h.mem, List.mem_filter, fronts_mem]
    constructor
    · rintro (⟨v, hv, hF⟩ | ⟨hF, _⟩)
      · exact ⟨v, List.mem_append_left _ hv, hF⟩
      · exact ⟨w, List.mem_append_right _ (.head _), hF⟩
    · rintro ⟨v, hv, hF⟩
      rcases List.mem_append.mp hv with hv | hv
      · exact .inl ⟨v, hv, hF⟩
      · rw [List.mem_singleton.mp hv] at hF
        by_cases hc : F ∈ Fs
        · exact .inl ((h.mem F).mp hc)
        · refine .inr ⟨hF, ?_⟩
          cases q : Fs.contains F with
          | false => rfl
          | true => exact absurd (List.contains_iff_mem.mp q) hc
theorem add_len (Fs : List Wy) (w : Wy) : (addF Fs w).length ≤ Fs.length + (w.length + 1) := by
  unfold addF
  rw [List.length_append]
  refine Nat.add_le_add_left (Nat.le_trans (List.length_filter_le _ _) ?_) _
  unfold fronts
  rw [List.length_map, List.length_range']
  exact Nat.le_refl _
/-! what the small language asks -/
theorem eq_txt1 {n : Nat} (k : Bool) (a b : List Nat) : eqV (eqL n) (.txt k a) (.txt k b) = some (a == b) := by cases k <;> rfl
theorem eq_row {n : Nat} (k : Bool) (a b : Wy) : eqV (eqL (n + 1)) (rowV k a) (rowV k b) = some (a == b) := eqL_map (fun a b => eq_txt1 k a b) a b
theorem like_txt (k : Bool) (a b : List Nat) : likeB (.txt k a) (.txt k b) = (b == a) := by
  show (eqV (eqL 4) (.txt k b) (.txt k a) == some true) = _
  rw [eq_txt1]; cases b == a <;> rfl
theorem like_row (k : Bool) (a b : Wy) : likeB (rowV k a) (rowV k b) = (b == a) := by
  show (eqV (eqL 4) (rowV k b) (rowV k a) == some true) = _
  rw [eq_row]; cases b == a <;> rfl
theorem all_txt (k : Bool) (a : List Nat) (l : List (List Nat)) : allEq (.txt k a) (l.map (PV.txt k)) := fun y hy => by
  obtain ⟨b, _, rfl⟩ := List.mem_map.mp hy
  exact ⟨_, eq_txt1 k b a⟩
theorem all_row (k : Bool) (a : Wy) (l : List Wy) : allEq (rowV k a) (l.map (rowV k)) := fun y hy => by
  obtain ⟨b, _, rfl⟩ := List.mem_map.mp hy
  exact ⟨_, eq_row k b a⟩
theorem any_row (k : Bool) (a : Wy) (l : List Wy) : (l.map (rowV k)).any (likeB (rowV k a)) = l.contains a := by
  induction l with
  | nil => rfl
  | cons b l ih =>
    rw [List.map_cons, List.any_cons, like_row, ih, List.contains_cons, show (b == a) = (a == b) from Bool.eq_iff_iff.mpr ⟨fun h => beq_iff_eq.mpr (beq_iff_eq.mp h).symm, fun h => beq_iff_eq.mpr (beq_iff_eq.mp h).symm⟩]
theorem compP_fm {α : Type} {f : PV → (Bool → Prop) → Prop} {g : PV → (PV → Nat → Prop) → Prop} {φ ψ : α → PV} {t : α → Bool} {cs : List α} : (∀ c ∈ cs, ∀ K : Bool → Prop, K (t c) → f (φ c) K) → (∀ c ∈ cs, t c = true → ∀ K : PV → Nat → Prop, K (ψ c) 0 → g (φ c) K) →
    ∀ {Z : List PV → Prop}, Z ((cs.filter t).map ψ) → compP f g (cs.map φ) Z := by
  induction cs with
  | nil => exact fun _ _ _ h => h
  | cons c cs ih =>
    intro hf hg Z h
    have hf' := fun d hd => hf d (.tail _ hd)
    have hg' := fun d hd => hg d (.tail _ hd)
    refine hf c (.head _) _ ?_
    rw [List.filter_cons] at h
    cases q : t c with
    | true => rw [if_pos q] at h; exact hg c (.head _) q _ (ih hf' hg' (Z := fun ys => Z (ψ c :: ys)) h)
    | false => rw [if_neg (Bool.eq_false_iff.mp q)] at h; exact ih hf' hg' h
/-! below a folder -/
theorem take_below (F w : Wy) : (w.take F.length == F) = below F w := by
  refine Bool.eq_iff_iff.mpr ⟨fun h => below_iff.mpr ?_, fun h => beq_iff_eq.mpr ?_⟩
  · exact (beq_iff_eq.mp h) ▸ List.take_prefix _ _
  · exact (List.prefix_iff_eq_take.mp (below_iff.mp h)).symm
def restsOf (F : Wy) (W : List Wy) : List Wy := (W.filter (below F)).map fun w => w.drop F.length
def firstsOf (F : Wy) (W : List Wy) : List (List Nat) := ((restsOf F W).filter fun r => !(r == [])).map fun r => r.headD []
theorem rests_len (F : Wy) (W : List Wy) : (restsOf F W).length = W.countP (below F) := by
  unfold restsOf; rw [List.length_map, List.countP_eq_length_filter]
theorem firsts_len (F : Wy) (W : List Wy) : (firstsOf F W).length ≤ W.length := by
  unfold firstsOf restsOf
  rw [List.length_map]
  refine Nat.le_trans (List.length_filter_le _ _) ?_
  rw [List.length_map]
  exact List.length_filter_le _ _
theorem first_one (F w : Wy) (u : List Nat) : (below F w = true ∧ w.drop F.length ≠ [] ∧ (w.drop F.length).headD [] = u) ↔ F ++ [u] <+: w := by
  constructor
  · rintro ⟨h1, h2, h3⟩
    obtain ⟨t, rfl⟩ := below_iff.mp h1
    rw [List.drop_left] at h2 h3
    cases t with
    | nil => exact absurd rfl h2
    | cons x t => exact ⟨t, by rw [← h3, List.append_assoc]; rfl⟩
  · rintro ⟨t, rfl⟩
    have e : (F ++ [u] ++ t).drop F.length = u :: t := by rw [List.append_assoc, List.drop_left]; rfl
    rw [e]
    exact ⟨below_iff.mpr ⟨[u] ++ t, by rw [List.append_assoc]⟩, List.cons_ne_nil _ _, rfl⟩
theorem firsts_mem (F : Wy) (W : List Wy) (u : List Nat) : u ∈ firstsOf F W ↔ ∃ w ∈ W, F ++ [u] <+: w := by
  unfold firstsOf restsOf
  constructor
  · intro h
    obtain ⟨r, hr, rfl⟩ := List.mem_map.mp h
    obtain ⟨hr, hn⟩ := List.mem_filter.mp hr
    obtain ⟨w, hw, rfl⟩ := List.mem_map.mp hr
    obtain ⟨hw, hb⟩ := List.mem_filter.mp hw
    exact ⟨w, hw, (first_one F w _).mp ⟨hb, bne_t hn, rfl⟩⟩
  · rintro ⟨w, hw, h⟩
    obtain ⟨h1, h2, h3⟩ := (first_one F w u).mpr h
    refine List.mem_map.mpr ⟨_, List.mem_filter.mpr ⟨List.mem_map.mpr ⟨w, List.mem_filter.mpr ⟨hw, h1⟩, rfl⟩, ?_⟩, h3⟩
    rw [beq_false_of_ne h2]; rfl
theorem firsts_count (F : Wy) (u : List Nat) : ∀ W : List Wy, (firstsOf F W).countP (fun x => x == u) = W.countP (below (F ++ [u]))
  | [] => rfl
  | w :: W => by
    have ih := firsts_count F u W
    have key : (firstsOf F (w :: W)).countP (fun x => x == u) = (firstsOf F W).countP (fun x => x == u) + if below (F ++ [u]) w = true then 1 else 0 := by
      unfold firstsOf restsOf
      rw [List.filter_cons]
      cases hb : below F w with
      | false =>
        rw [if_neg Bool.false_ne_true, if_neg fun q => by
          have := ((first_one F w u).mpr (below_iff.mp q)).1
          rw [hb] at this; exact nomatch this]; rfl
      | true =>
        rw [if_pos rfl, List.map_cons, List.filter_cons]
        by_cases hd : w.drop F.length = []
        · rw [hd, if_neg (by decide), if_neg fun q => ((first_one F w u).mpr (below_iff.mp q)).2.1 hd]; rfl
        · rw [beq_false_of_ne hd, if_pos (show (!false) = true from rfl), List.map_cons, List.countP_cons]
          by_cases hu : (w.drop F.length).headD [] = u
          · rw [if_pos (beq_iff_eq.mpr hu), if_pos (below_iff.mpr ((first_one F w u).mp ⟨hb, hd, hu⟩))]
          · rw [if_neg fun q => hu (beq_iff_eq.mp q), if_neg fun q => hu ((first_one F w u).mpr (below_iff.mp q)).2.2]
    rw [key, ih, List.countP_cons]
end Mine
end
noncomputable section
namespace Mine
/-! ## law 1: the choices -/
def msLaw1_13 : MS := (.ret (.cmp .eq (.var 10) (.var 16)))
def msLaw112b_3 : MS := (.append 16 (.bin .sub (.fn 7 (.cons (.bi1 .len (.var 18)) .nil)) (.bi1 .sum (.var 20))))
def msLaw112b_2 : MS := .seq (.asg 20 false (.comp (.fn 7 (.cons (.meth .count (.var 19) (.var 21)) .nil)) (.sortset (.var 19)) (.lit (.bool true)))) msLaw112b_3
def msLaw112b_1 : MS := .seq (.asg 19 false (.comp (.idx (.var 21) (.lit (.int 0))) (.var 18) (.cmp .ne (.var 21) (.list .nil)))) msLaw112b_2
def msLaw112b : MS := .seq (.asg 18 false (.comp (.cut (.var 21) (.bi1 .len (.var 17)) (.lit .none)) (.var 5) (.cmp .eq (.cut (.var 21) (.lit .none) (.bi1 .len (.var 17))) (.var 17)))) msLaw112b_1
def msLaw1_12 : MS := .seq (.for_ [17] (.var 6) msLaw112b) msLaw1_13
def msLaw1_11 : MS := .seq (.asg 16 true (.list .nil)) msLaw1_12
def msLaw110b5b : MS := (.ite (.cmp .ne (.cut (.idx (.var 5) (.var 15)) (.lit .none) (.bi1 .len (.idx (.var 6) (.var 14)))) (.idx (.var 6) (.var 14))) (.ret (.lit (.bool false))) .skip)
def msLaw110b_5 : MS := (.for_ [15] (.var 12) msLaw110b5b)
def msLaw110b_4 : MS := .seq (.augIdx 10 (.var 14) .add (.lit (.int 1))) msLaw110b_5
def msLaw110b_3 : MS := .seq (.asg 14 false (.meth .index (.var 9) (.var 13))) msLaw110b_4
def msLaw110b_2 : MS := .seq (.ite (.cmp .notin (.var 13) (.var 9)) (.ret (.lit (.bool false))) .skip) msLaw110b_3
def msLaw110b_1 : MS := .seq (.asg 13 false (.fn 1 (.cons (.comp (.idx (.var 4) (.var 21)) (.var 12) (.lit (.bool true))) .nil))) msLaw110b_2
def msLaw110b : MS := .seq (.asg 12 false (.comp (.var 21) (.range (.lit (.int 0)) (.bi1 .len (.var 4))) (.cmp .eq (.bin .fmod (.bin .fdiv (.var 11) (.bin .pow (.lit (.int 2)) (.var 21))) (.lit (.int 2))) (.lit (.int 1))))) msLaw110b_1
def msLaw1_10 : MS := .seq (.for_ [11] (.range (.lit (.int 1)) (.bin .pow (.lit (.int 2)) (.bi1 .len (.var 4)))) msLaw110b) msLaw1_11
def msLaw1_9 : MS := .seq (.asg 10 true (.comp (.lit (.int 0)) (.var 6) (.lit (.bool true)))) msLaw1_10
def msLaw1_8 : MS := .seq (.asg 9 false (.comp (.fn 4 (.cons (.bin .add (.var 8) (.meth .join (.lit (.txt false [47])) (.var 21))) (.cons (.var 3) .nil))) (.var 6) (.lit (.bool true)))) msLaw1_9
def msLaw1_7 : MS := .seq (.asg 8 false (.ite (.var 2) (.lit (.txt false [47])) (.lit (.txt false [])))) msLaw1_8
def msLaw16b : MS := (.extend 6 (.comp (.var 21) (.fn 6 (.cons (.var 7) .nil)) (.cmp .notin (.var 21) (.var 6))))
def msLaw1_6 : MS := .seq (.for_ [7] (.var 5) msLaw16b) msLaw1_7
def msLaw1_5 : MS := .seq (.asg 6 true (.list .nil)) msLaw1_6
def msLaw1_4 : MS := .seq (.asg 5 false (.comp (.comp (.var 22) (.var 21) (.cmp .notin (.var 22) (.tup (.cons (.lit (.txt false [])) (.cons (.lit (.txt false [46])) .nil))))) (.var 1) (.lit (.bool true)))) msLaw1_5
def msLaw1_3 : MS := .seq (.asg 4 false (.comp (.fn 4 (.cons (.fn 5 (.cons (.var 21) (.cons (.var 2) .nil))) (.cons (.var 3) .nil))) (.var 1) (.lit (.bool true)))) msLaw1_4
def msLaw1_2 : MS := .seq (.asg 3 false (.cmp .eq (.bin .fmod (.bin .fdiv (.bi1 .sum (.var 0)) (.lit (.int 2))) (.lit (.int 2))) (.lit (.int 1)))) msLaw1_3
def msLaw1_1 : MS := .seq (.asg 2 false (.cmp .eq (.bin .fmod (.bi1 .sum (.var 0)) (.lit (.int 2))) (.lit (.int 0)))) msLaw1_2
def msLaw1 : MS := .seq (.asg 1 false (.fn 3 (.cons (.var 0) .nil))) msLaw1_1
def gam1L : FEnv := [fspathF, commonpathF, pieceF1, rowsF1, kindF, pathF1, frontsF, choicesF]
def pathsV (oc ro : Bool) (R : List Wy) : PV := .list (R.map fun r => .txt oc (pathT ro r))
def spellV (oc ro : Bool) (Fs : List Wy) : PV := .list (Fs.map fun F => .txt oc (rootT ro ++ joinC [47] F))
def rL (V0 : PV) (R : List Wy) (ro oc : Bool) (Fs : List Wy) (s7 s10 s11 s12 s13 s14 s15 s16 s17 s18 s19 s20 : Slt) : List Slt :=
  [some (V0, 0), some (rv R, 0), some (.bool ro, 0), some (.bool oc, 0), some (pathsV oc ro R, 0), some (rv (R.map wayOf), 0), some (rv Fs, 1), s7, some (.txt false (rootT ro), 0), some (spellV oc ro Fs, 0), s10, s11, s12, s13, s14, s15, s16, s17, s18, s19, s20]
def tN (W : List Wy) (F : Wy) (i : Nat) : Nat := ((List.range i).map fun c => eqF F (sel c W)).sum
def toldV (W Fs : List Wy) (i : Nat) : List PV := Fs.map fun F => .int ((tN W F i : Nat) : Int)
theorem tN_succ (W : List Wy) (F : Wy) (i : Nat) : tN W F (i + 1) = tN W F i + eqF F (sel i W) := by
  unfold tN
  rw [List.range_succ, List.map_append, List.sum_append]
  simp only [List.map_cons, List.map_nil, List.sum_cons, List.sum_nil, Nat.add_zero]
theorem sel_map {α β : Type} (f : α → β) : ∀ (ws : List α) (c : Nat), sel c (ws.map f) = (sel c ws).map f
  | [], _ => rfl
  | w :: ws, c => by
    show (if c % 2 = 1 then f w :: sel (c / 2) (ws.map f) else sel (c / 2) (ws.map f)) = ((if c % 2 = 1 then w :: sel (c / 2) ws else sel (c / 2) ws)).map f
    rw [sel_map f ws]
    split <;> rfl
theorem spell_idx {oc ro : Bool} {Fs : List Wy} {G : Wy} (hn : Fs.Nodup) (hq : ∀ F ∈ Fs, ∀ p ∈ F, nameQ p) (hG : G ∈ Fs) :
    ∃ j : Nat, Fs[j]? = some G ∧ (Fs.map fun F => PV.txt oc (rootT ro ++ joinC [47] F)).findIdx? (likeB (.txt oc (rootT ro ++ joinC [47] G))) = some j := by
  obtain ⟨j, hj, e⟩ := List.getElem_of_mem hG
  refine ⟨j, e ▸ List.getElem?_eq_getElem hj, List.findIdx?_eq_some_iff_getElem.mpr ⟨by rw [List.length_map]; exact hj, ?_, fun i hi => ?_⟩⟩
  · rw [List.getElem_map, like_txt, e]; exact beq_self_eq_true _
  · rw [List.getElem_map, like_txt]
    intro q
    have h1 := List.append_cancel_left (beq_iff_eq.mp q)
    have hil : i < Fs.length := Nat.lt_trans hi hj
    have h2 := join_names_inj (hq _ (List.getElem_mem hil)) (hq G hG) h1
    exact Nat.ne_of_lt hi ((List.getElem_inj hn).mp (h2.trans e.symm))
section
variable {V0 : PV} {R : List Wy} {ro oc : Bool} {Fs : List Wy} {s7 s16 s17 s18 s19 s20 : Slt} {Q : Post}
/-- each chosen way lies below the place -/
theorem check_for {t10 s11 s12 s13 : Slt} {j : Nat} {G : Wy} (hj : Fs[j]? = some G) : ∀ {ks : List Nat} {s15 : Slt}, (∀ k ∈ ks, ∃ w, (R.map wayOf)[k]? = some w ∧ G <+: w) →
    (∀ s15, Q .next (rL V0 R ro oc Fs s7 t10 s11 s12 s13 (some (.int (j : Int), 0)) s15 s16 s17 s18 s19 s20)) →
    forP (wp gam1L msLaw110b5b) [15] (ks.map fun (k : Nat) => PV.int (k : Int)) (rL V0 R ro oc Fs s7 t10 s11 s12 s13 (some (.int (j : Int), 0)) s15 s16 s17 s18 s19 s20) Q := by
  intro ks
  induction ks with
  | nil => exact fun _ h => h _
  | cons k ks ih =>
    intro s15 hk h
    obtain ⟨w, hw, hG⟩ := hk k (.head _)
    have h1 : idxAt ((R.map wayOf).map (rowV false)) (k : Int) = some (rowV false w) := idx_nat (by rw [List.getElem?_map, hw]; rfl)
    have h2 : idxAt (Fs.map (rowV false)) (j : Int) = some (rowV false G) := idx_nat (by rw [List.getElem?_map, hj]; rfl)
    have e : PV.list (cut (w.map (PV.txt false)) none (some (((G.map (PV.txt false)).length : Nat) : Int))) = rowV false (w.take G.length) := by
      rw [List.length_map, cut_to, ← List.map_take]; rfl
    refine ⟨rowV false w, h1, rowV false G, h2, rowV false G, h2, ?_⟩
    show eqP (PV.list (cut (w.map (PV.txt false)) none (some (((G.map (PV.txt false)).length : Nat) : Int)))) (rowV false G) fun t => boolP (!t) _ _
    rw [e]
    refine ⟨w.take G.length == G, eq_row false _ _, ?_⟩
    rw [take_below, below_iff.mpr hG]
    exact ih (fun k hk' => hk k (.tail _ hk')) h
theorem bit_int (c k : Nat) (hk : k < 60) : (((c : Int).fdiv ((2 : Int) ^ (k : Int).toNat)).fmod 2 == 1) = bitB c k := by
  rw [Int.toNat_natCast, show (2 : Int) ^ k = ((2 ^ k : Nat) : Int) by rw [Int.natCast_pow]; rfl, ← Int.ofNat_fdiv, show (2 : Int) = ((2 : Nat) : Int) from rfl, ← Int.ofNat_fmod]
  unfold bitB
  exact Bool.eq_iff_iff.mpr (beq_iff_eq.trans (Int.natCast_inj.trans beq_iff_eq.symm))
theorem pow_pos2 (k : Nat) : (2 : Int) ^ (k : Int).toNat ≠ 0 := by
  rw [Int.toNat_natCast]; exact Int.pow_ne_zero (by decide)
theorem pow_small {k : Nat} (h : k ≤ 5) : ((2 : Int) ^ (k : Int).toNat).natAbs < 2 ^ 64 := by
  rw [Int.toNat_natCast, Int.natAbs_pow]
  exact Nat.lt_of_le_of_lt (Nat.pow_le_pow_right (by decide) h) (by decide)
/-- one choice -/
theorem choice_turn (hm : R.length ≤ 5) (hR : ∀ r ∈ R, r.length ≤ 63 ∧ ∀ p ∈ r, pieceQ p) (hF : FoldsOf (R.map wayOf) Fs) {c : Nat} (h0 : 0 < c) (h1 : c < 2 ^ R.length) {s12 s13 s14 s15 : Slt} {f : List Slt → Prop}
    (h : ∀ s11 s12 s13 s14 s15, f (rL V0 R ro oc Fs s7 (some (.list (toldV (R.map wayOf) Fs (c + 1)), 1)) s11 s12 s13 s14 s15 s16 s17 s18 s19 s20)) :
    wp gam1L msLaw110b (rL V0 R ro oc Fs s7 (some (.list (toldV (R.map wayOf) Fs c), 1)) (some (.int (c : Int), 0)) s12 s13 s14 s15 s16 s17 s18 s19 s20) (loopK f Q) := by
  have hpl : (R.map fun r => PV.txt oc (pathT ro r)).length = R.length := List.length_map _
  show (-(2 ^ 40 : Int) ≤ 0 ∧ (0 : Int) ≤ 2 ^ 40 ∧ -(2 ^ 40 : Int) ≤ (((R.map fun r => PV.txt oc (pathT ro r)).length : Nat) : Int) ∧ (((R.map fun r => PV.txt oc (pathT ro r)).length : Nat) : Int) ≤ LIM ∧ ((((R.map fun r => PV.txt oc (pathT ro r)).length : Nat) : Int) - 0).toNat ≤ LIM) ∧
    compP (fun x => (evA gam1L (.cmp .eq (.bin .fmod (.bin .fdiv (.var 11) (.bin .pow (.lit (.int 2)) (.var 21))) (.lit (.int 2))) (.lit (.int 1))) (rL V0 R ro oc Fs s7 (some (.list (toldV (R.map wayOf) Fs c), 1)) (some (.int (c : Int), 0)) s12 s13 s14 s15 s16 s17 s18 s19 s20 ++ [some (x, 0)])).tru)
      (fun x => (evA gam1L (.var 21) (rL V0 R ro oc Fs s7 (some (.list (toldV (R.map wayOf) Fs c), 1)) (some (.int (c : Int), 0)) s12 s13 s14 s15 s16 s17 s18 s19 s20 ++ [some (x, 0)])).val) (rangeF 0 (((R.map fun r => PV.txt oc (pathT ro r)).length : Nat) : Int))
      fun ys => wp gam1L msLaw110b_1 (rL V0 R ro oc Fs s7 (some (.list (toldV (R.map wayOf) Fs c), 1)) (some (.int (c : Int), 0)) (some (.list ys, 0)) s13 s14 s15 s16 s17 s18 s19 s20) (loopK f Q)
  rw [hpl, range_nat]
  refine ⟨range_ok (by omega), compP_filter (φ := fun (k : Nat) => PV.int (k : Int)) (t := bitB c) (fun k hk K z => ?_) (fun _ _ _ z => z) ?_⟩
  · have hk5 : k < R.length := by have := List.mem_range'_1.mp hk; omega
    refine ⟨⟨Int.natCast_nonneg k, by omega, by decide⟩, ⟨pow_pos2 k, pow_small (by omega)⟩, by decide, ?_⟩
    show K (((c : Int).fdiv ((2 : Int) ^ (k : Int).toNat)).fmod 2 == 1)
    rw [bit_int c k (by omega)]; exact z
  have hsel := sel_range (fun k => PV.txt oc (pathT ro (R.getD k []))) (fun r => PV.txt oc (pathT ro r)) c R 0 fun j r hj => by
    rw [Nat.zero_add, List.getD_eq_getElem?_getD, hj]; rfl
  rw [Nat.pow_zero, Nat.div_one] at hsel
  have hks : ∀ k ∈ (List.range' 0 R.length).filter (bitB c), k < R.length := fun k hk => by
    have := List.mem_range'_1.mp (List.mem_filter.mp hk).1; omega
  refine compP_map (φ := fun (k : Nat) => PV.int (k : Int)) (ψ := fun k => PV.txt oc (pathT ro (R.getD k []))) (fun _ _ _ z => z) (fun k hk K z => ?_) ?_
  · have hk5 := hks k hk
    refine ⟨PV.txt oc (pathT ro (R.getD k [])), idx_nat ?_, z⟩
    rw [List.getElem?_map, List.getD_eq_getElem?_getD, List.getElem?_eq_getElem hk5]; rfl
  have hne := sel_ne R c h0 h1
  have hsub := sel_sub R c
  have hsm := sel_map wayOf R c
  rw [hsel]
  have hch : ∀ k ∈ (List.range' 0 R.length).filter (bitB c), ∃ r ∈ sel c R, R[k]? = some r := fun k hk => by
    have hs := sel_range (fun k => R.getD k []) id c R 0 fun j r hj => by rw [Nat.zero_add, List.getD_eq_getElem?_getD, hj]; rfl
    rw [Nat.pow_zero, Nat.div_one, List.map_id] at hs
    refine ⟨R.getD k [], hs ▸ List.mem_map_of_mem hk, ?_⟩
    rw [List.getD_eq_getElem?_getD, List.getElem?_eq_getElem (hks k hk)]; rfl
  revert hne hsub hsm hch
  generalize hsl : sel c R = l
  intro hne hsub hsm hch
  cases l with
  | nil => exact absurd rfl hne
  | cons r0 rs =>
    have hr : ∀ r ∈ r0 :: rs, r ∈ R := fun r hr => hsub.subset hr
    have free : ∀ r ∈ r0 :: rs, ∀ p ∈ r, 47 ∉ p := fun r h p hp => ((hR r (hr r h)).2 p hp).2.1
    refine ⟨oc, ro, pathT ro r0, rs.map (pathT ro), by show [PV.list ((r0 :: rs).map fun r => PV.txt oc (pathT ro r))] = _; rw [← List.map_cons, List.map_map]; rfl, fun p hp => ?_, ?_, ?_⟩
    · rw [← List.map_cons] at hp
      obtain ⟨r, _, rfl⟩ := List.mem_map.mp hp
      exact path_root ro r
    · have h2 := hR r0 (hr r0 (.head _))
      have h3 := path_len ro r0
      have h4 := szL_small h2.1 fun p hp => (h2.2 p hp).1
      omega
    have ecom : comP ro (pathT ro r0) (rs.map (pathT ro)) = rootT ro ++ joinC [47] (cpreA (wayOf r0) (rs.map wayOf)) := by
      unfold comP
      rw [pcs_path ro (free r0 (.head _)), List.map_map]
      have : rs.map (pcs ∘ pathT ro) = rs.map wayOf := List.map_congr_left fun r hr' => pcs_path ro (free r (.tail _ hr'))
      rw [this]; rfl
    rw [ecom]
    have hpre : ∀ r ∈ r0 :: rs, cpreA (wayOf r0) (rs.map wayOf) <+: wayOf r := fun r hr' => cpreA_all (rs := rs.map wayOf) (r := wayOf r0) (by rw [← List.map_cons]; exact List.mem_map_of_mem hr')
    have hcp : cpreL (sel c (R.map wayOf)) = some (cpreA (wayOf r0) (rs.map wayOf)) := by rw [hsm]; rfl
    revert hpre hcp
    generalize cpreA (wayOf r0) (rs.map wayOf) = G
    intro hpre hcp
    have hq : ∀ F ∈ Fs, ∀ p ∈ F, nameQ p := fun F hF' => by
      obtain ⟨w, hw, hp⟩ := (hF.mem F).mp hF'
      obtain ⟨r, hr', rfl⟩ := List.mem_map.mp hw
      exact prefix_names hp (way_names (hR r hr').2)
    have hG : G ∈ Fs := (hF.mem G).mpr ⟨wayOf r0, List.mem_map_of_mem (hr r0 (.head _)), hpre r0 (.head _)⟩
    obtain ⟨j, hj, hidx⟩ := spell_idx (oc := oc) (ro := ro) hF.nd hq hG
    have hall : allEq (.txt oc (rootT ro ++ joinC [47] G)) (Fs.map fun F => PV.txt oc (rootT ro ++ joinC [47] F)) := fun y hy => by
      obtain ⟨F, _, rfl⟩ := List.mem_map.mp hy
      exact ⟨_, eq_txt1 oc _ _⟩
    have hany : (Fs.map fun F => PV.txt oc (rootT ro ++ joinC [47] F)).any (likeB (.txt oc (rootT ro ++ joinC [47] G))) = true :=
      List.any_eq_true.mpr ⟨_, List.mem_map_of_mem hG, by rw [like_txt]; exact beq_self_eq_true _⟩
    refine ⟨hall, ?_⟩
    rw [hany]
    refine ⟨hall, j, hidx, ?_⟩
    refine ⟨.int ((tN (R.map wayOf) G c : Nat) : Int), idx_nat (by unfold toldV; rw [List.getElem?_map, hj]; rfl), ?_⟩
    have ep : placeOfI (toldV (R.map wayOf) Fs c) (j : Int) = j := by unfold placeOfI; rw [if_pos (Int.natCast_nonneg j), Int.toNat_natCast]
    have et : (toldV (R.map wayOf) Fs c).set j (.int (((tN (R.map wayOf) G c : Nat) : Int) + 1)) = toldV (R.map wayOf) Fs (c + 1) := by
      unfold toldV
      refine List.ext_getElem? fun i => ?_
      rw [List.getElem?_set, List.getElem?_map, List.getElem?_map, List.length_map]
      have hjl : j < Fs.length := (List.getElem?_eq_some_iff.mp hj).1
      by_cases q : j = i
      · subst q
        rw [if_pos rfl, if_pos hjl, hj]
        show some (PV.int (((tN (R.map wayOf) G c : Nat) : Int) + 1)) = some (PV.int ((tN (R.map wayOf) G (c + 1) : Nat) : Int))
        rw [tN_succ]
        unfold eqF
        rw [if_pos hcp]; rfl
      · rw [if_neg q]
        cases hi : Fs[i]? with
        | none => rfl
        | some F =>
          show some (PV.int ((tN (R.map wayOf) F c : Nat) : Int)) = some (PV.int ((tN (R.map wayOf) F (c + 1) : Nat) : Int))
          rw [tN_succ]
          unfold eqF
          have hne' : F ≠ G := fun e => q ((List.getElem?_inj hjl hF.nd).mp (hj.trans (e ▸ hi.symm)))
          rw [if_neg fun e => hne' (Option.some.inj (hcp.symm.trans e)).symm, Nat.add_zero]
    show wp gam1L msLaw110b_5 (rL V0 R ro oc Fs s7 (some (.list ((toldV (R.map wayOf) Fs c).set (placeOfI (toldV (R.map wayOf) Fs c) (j : Int)) (.int (((tN (R.map wayOf) G c : Nat) : Int) + 1))), 1)) (some (.int (c : Int), 0)) (some (.list (((List.range' 0 R.length).filter (bitB c)).map fun (k : Nat) => PV.int (k : Int)), 0)) (some (.txt oc (rootT ro ++ joinC [47] G), 0)) (some (.int (j : Int), 0)) s15 s16 s17 s18 s19 s20) (loopK f Q)
    rw [ep, et]
    refine check_for hj (fun k hk => ?_) fun s15 => h _ _ _ _ _
    obtain ⟨r, hr', hk'⟩ := hch k hk
    exact ⟨wayOf r, by rw [List.getElem?_map, hk']; rfl, hpre r hr'⟩
theorem choices_for (hm : R.length ≤ 5) (hR : ∀ r ∈ R, r.length ≤ 63 ∧ ∀ p ∈ r, pieceQ p) (hF : FoldsOf (R.map wayOf) Fs)
    (h : ∀ s11 s12 s13 s14 s15, Q .next (rL V0 R ro oc Fs s7 (some (.list (toldV (R.map wayOf) Fs (2 ^ R.length)), 1)) s11 s12 s13 s14 s15 s16 s17 s18 s19 s20)) :
    ∀ {m c : Nat} {s11 s12 s13 s14 s15 : Slt}, 0 < c → c + m = 2 ^ R.length →
    forP (wp gam1L msLaw110b) [11] ((List.range' c m).map fun (c : Nat) => PV.int (c : Int)) (rL V0 R ro oc Fs s7 (some (.list (toldV (R.map wayOf) Fs c), 1)) s11 s12 s13 s14 s15 s16 s17 s18 s19 s20) Q := by
  intro m
  induction m with
  | zero =>
    intro c s11 s12 s13 s14 s15 h0 hc
    rw [← hc] at h
    exact h _ _ _ _ _
  | succ m ih =>
    intro c s11 s12 s13 s14 s15 h0 hc
    rw [List.range'_succ]
    exact choice_turn hm hR hF h0 (by omega) fun s11 s12 s13 s14 s15 => ih (Nat.succ_pos c) (by omega)
end
end Mine
end
noncomputable section
namespace Mine
/-! ## law 1: what is due; the whole law -/
def rM (V0 : PV) (R : List Wy) (ro oc : Bool) (Fs : List Wy) (s7 s10 s11 s12 s13 s14 s15 s16 s17 s18 s19 s20 : Slt) : List Slt :=
  [some (V0, 0), some (rv R, 0), some (.bool ro, 0), some (.bool oc, 0), some (pathsV oc ro R, 0), some (rv (R.map wayOf), 0), some (rv Fs, 0), s7, some (.txt false (rootT ro), 0), some (spellV oc ro Fs, 0), s10, s11, s12, s13, s14, s15, s16, s17, s18, s19, s20]
theorem sum_cast {α : Type} (g : α → Nat) : ∀ us : List α, (us.map fun u => ((g u : Nat) : Int)).sum = (((us.map g).sum : Nat) : Int)
  | [] => rfl
  | u :: us => by rw [List.map_cons, List.map_cons, List.sum_cons, List.sum_cons, sum_cast g us, Int.natCast_add]
theorem count_like1 (u : List Nat) (l : List (List Nat)) : (l.map (PV.txt false)).countP (likeB (.txt false u)) = l.countP fun x => x == u := by
  rw [List.countP_map]
  exact List.countP_congr fun x _ => by rw [Function.comp, like_txt]
section
variable {V0 : PV} {R : List Wy} {ro oc : Bool} {Fs : List Wy} {s7 s10 s11 s12 s13 s14 s15 : Slt} {Q : Post}
theorem due_turn (hm : R.length ≤ 5) {F : Wy} {ds : List PV} (hd : ds.length < LST) {s18 s19 s20 : Slt} {f : List Slt → Prop}
    (h : ∀ s18 s19 s20, f (rM V0 R ro oc Fs s7 s10 s11 s12 s13 s14 s15 (some (.list (ds ++ [.int ((tN (R.map wayOf) F (2 ^ R.length) : Nat) : Int)]), 1)) (some (rowV false F, 0)) s18 s19 s20)) :
    wp gam1L msLaw112b (rM V0 R ro oc Fs s7 s10 s11 s12 s13 s14 s15 (some (.list ds, 1)) (some (rowV false F, 0)) s18 s19 s20) (loopK f Q) := by
  have hlen : (F.map (PV.txt false)).length = F.length := List.length_map _
  have hWl : (R.map wayOf).length = R.length := List.length_map _
  refine compP_fm (φ := rowV false) (ψ := fun w => rowV false (w.drop F.length)) (t := below F) (fun w _ K z => ?_) (fun w _ _ K z => ?_) ?_
  · have e : PV.list (cut (w.map (PV.txt false)) none (some (((F.map (PV.txt false)).length : Nat) : Int))) = rowV false (w.take F.length) := by
      rw [hlen, cut_to, ← List.map_take]; rfl
    show eqP (PV.list (cut (w.map (PV.txt false)) none (some (((F.map (PV.txt false)).length : Nat) : Int)))) (rowV false F) K
    rw [e]
    exact ⟨_, eq_row false _ _, (take_below F w).symm ▸ z⟩
  · have e : PV.list (cut (w.map (PV.txt false)) (some (((F.map (PV.txt false)).length : Nat) : Int)) none) = rowV false (w.drop F.length) := by
      rw [hlen, cut_from, ← List.map_drop]; rfl
    show K (PV.list (cut (w.map (PV.txt false)) (some (((F.map (PV.txt false)).length : Nat) : Int)) none)) 0
    rw [e]; exact z
  have e1 : ((R.map wayOf).filter (below F)).map (fun w => rowV false (w.drop F.length)) = (restsOf F (R.map wayOf)).map (rowV false) := (List.map_map (f := fun w : Wy => w.drop F.length) (g := rowV false)).symm
  rw [e1]
  refine compP_fm (φ := rowV false) (ψ := fun r => PV.txt false (r.headD [])) (t := fun r => !(r == [])) (fun r _ K z => ⟨rfl, _, eq_row false r [], z⟩) (fun r _ hr K z => ?_) ?_
  · cases r with
    | nil => exact nomatch hr
    | cons u r => exact ⟨.txt false u, rfl, z⟩
  have e2 : ((restsOf F (R.map wayOf)).filter fun r => !(r == [])).map (fun r => PV.txt false (r.headD [])) = (firstsOf F (R.map wayOf)).map (PV.txt false) := (List.map_map (f := fun r : Wy => r.headD []) (g := PV.txt false)).symm
  rw [e2]
  have hfl := firsts_len F (R.map wayOf)
  refine ⟨firstsOf F (R.map wayOf), rfl, by omega, fun us hnd hmem hul => ?_⟩
  refine compP_map (φ := PV.txt false) (ψ := fun u => PV.int ((2 ^ (R.map wayOf).countP (below (F ++ [u])) - 1 : Nat) : Int)) (fun _ _ _ z => z) (fun u _ K z => ?_) ?_
  · refine ⟨all_txt false u _, ?_⟩
    show choicesF [.int ((((firstsOf F (R.map wayOf)).map (PV.txt false)).countP (likeB (.txt false u)) : Nat) : Int)] fun v => K v 0
    rw [count_like1, firsts_count]
    exact ⟨_, rfl, Nat.le_trans (List.countP_le_length) (by omega), z⟩
  have e3 : us.map (fun u => PV.int ((2 ^ (R.map wayOf).countP (below (F ++ [u])) - 1 : Nat) : Int)) = (us.map fun u => ((2 ^ (R.map wayOf).countP (below (F ++ [u])) - 1 : Nat) : Int)).map PV.int := (List.map_map (g := PV.int)).symm
  have hrl := rests_len F (R.map wayOf)
  have hbl : (R.map wayOf).countP (below F) ≤ R.length := hWl ▸ List.countP_le_length
  refine ⟨(restsOf F (R.map wayOf)).length, by show [PV.int ((((restsOf F (R.map wayOf)).map (rowV false)).length : Nat) : Int)] = _; rw [List.length_map], by omega, _, e3, ?_⟩
  have hk := told_due F (ws := R.map wayOf) hnd fun u => (hmem u).trans (firsts_mem F _ u)
  have ev : ((2 ^ (restsOf F (R.map wayOf)).length - 1 : Nat) : Int) - (us.map fun u => ((2 ^ (R.map wayOf).countP (below (F ++ [u])) - 1 : Nat) : Int)).sum = ((tN (R.map wayOf) F (2 ^ R.length) : Nat) : Int) := by
    rw [sum_cast (fun u => 2 ^ (R.map wayOf).countP (below (F ++ [u])) - 1), hrl, ← hk, hWl]
    unfold tN
    omega
  show ds.length < LST ∧ f (rM V0 R ro oc Fs s7 s10 s11 s12 s13 s14 s15 (some (.list (ds ++ [.int (((2 ^ (restsOf F (R.map wayOf)).length - 1 : Nat) : Int) - (us.map fun u => ((2 ^ (R.map wayOf).countP (below (F ++ [u])) - 1 : Nat) : Int)).sum)]), 1)) (some (rowV false F, 0)) _ _ _)
  rw [ev]
  exact ⟨hd, h _ _ _⟩
theorem due_for (hm : R.length ≤ 5) (hl : Fs.length ≤ 1000) (h : ∀ s17 s18 s19 s20, Q .next (rM V0 R ro oc Fs s7 s10 s11 s12 s13 s14 s15 (some (.list (toldV (R.map wayOf) Fs (2 ^ R.length)), 1)) s17 s18 s19 s20)) :
    ∀ {rest done : List Wy} {s17 s18 s19 s20 : Slt}, Fs = done ++ rest →
    forP (wp gam1L msLaw112b) [17] (rest.map (rowV false)) (rM V0 R ro oc Fs s7 s10 s11 s12 s13 s14 s15 (some (.list (toldV (R.map wayOf) done (2 ^ R.length)), 1)) s17 s18 s19 s20) Q := by
  intro rest
  induction rest with
  | nil => intro done s17 s18 s19 s20 e; rw [List.append_nil] at e; rw [e] at h ⊢; exact h _ _ _ _
  | cons F rest ih =>
    intro done s17 s18 s19 s20 e
    refine due_turn hm (F := F) (ds := toldV (R.map wayOf) done (2 ^ R.length)) ?_ fun s18 s19 s20 => ?_
    · unfold toldV
      rw [List.length_map]
      have := congrArg List.length e
      rw [List.length_append] at this
      exact Nat.lt_of_le_of_lt (show done.length ≤ 1000 by omega) (by decide)
    · have := ih (done := done ++ [F]) (s17 := some (rowV false F, 0)) (s18 := s18) (s19 := s19) (s20 := s20) (by rw [e, List.append_assoc]; rfl)
      unfold toldV at this ⊢
      rw [List.map_append] at this
      exact this
end
end Mine
end
noncomputable section
namespace Mine
/-! ## law 1: the whole law -/
theorem range_from (a n : Nat) : rangeF (a : Int) ((a + n : Nat) : Int) = (List.range' a n).map fun (c : Nat) => PV.int (c : Int) := by
  unfold rangeF
  rw [show (((a + n : Nat) : Int) - (a : Int)).toNat = n by omega, List.range'_eq_map_range, List.map_map]
  exact List.map_congr_left fun k _ => congrArg PV.int (Int.natCast_add a k).symm
theorem keep_any (p : List Nat) : (!(([[], [46]].map (PV.txt false)).any (likeB (.txt false p)))) = keepB p := by
  show (!(likeB (.txt false p) (.txt false []) || (likeB (.txt false p) (.txt false [46]) || false))) = keepB p
  rw [like_txt, like_txt, Bool.or_false, Bool.not_or]
  unfold keepB
  cases p with
  | nil => rfl
  | cons c p =>
    have e : ([46] == c :: p) = (c :: p == [46]) := Bool.eq_iff_iff.mpr ⟨fun h => beq_iff_eq.mpr (beq_iff_eq.mp h).symm, fun h => beq_iff_eq.mpr (beq_iff_eq.mp h).symm⟩
    rw [e]; rfl
theorem small_path {r : Wy} (h : ∀ p ∈ r, pieceQ p) (b : Bool) : Small (pathT b r) := by
  have h0 := small_join small_one fun p hp => (h p hp).2.2
  unfold pathT
  have c : ∀ d, d < 256 → Small (d :: joinC [47] r) := fun d hd c hc => (List.mem_cons.mp hc).elim (fun e => e ▸ hd) (h0 c)
  split
  · exact c 47 (by decide)
  · split
    · exact c 46 (by decide)
    · exact h0
section
variable {V0 : PV} {R : List Wy} {ro oc : Bool} {Q : PV → Prop}
def rB (V0 : PV) (R : List Wy) (ro oc : Bool) (s4 s5 s6 s7 s8 s9 s10 : Slt) : List Slt :=
  [some (V0, 0), some (rv R, 0), some (.bool ro, 0), some (.bool oc, 0), s4, s5, s6, s7, s8, s9, s10, none, none, none, none, none, none, none, none, none, none]
/-- from the folders on -/
theorem law1_from9 (hm1 : 1 ≤ R.length) (hm : R.length ≤ 5) (hR : ∀ r ∈ R, r.length ≤ 63 ∧ ∀ p ∈ r, pieceQ p) {Fs : List Wy} (hF : FoldsOf (R.map wayOf) Fs) (hl : Fs.length ≤ 1000) {s7 : Slt} (q : Q (.bool true)) :
    wp gam1L msLaw1_9 (rB V0 R ro oc (some (pathsV oc ro R, 0)) (some (rv (R.map wayOf), 0)) (some (rv Fs, 1)) s7 (some (.txt false (rootT ro), 0)) (some (spellV oc ro Fs, 0)) none) (retK Q) := by
  have hz : ∀ F, tN (R.map wayOf) F 1 = 0 := fun F => by
    show eqF F (sel 0 (R.map wayOf)) + 0 = 0
    rw [sel_zero]; rfl
  refine compP_map (φ := rowV false) (ψ := fun F => PV.int ((tN (R.map wayOf) F 1 : Nat) : Int)) (fun _ _ _ z => z) (fun F _ K z => ?_) ?_
  · rw [hz] at z; exact z
  have hpl : (R.map fun r => PV.txt oc (pathT ro r)).length = R.length := List.length_map _
  have h2m : 2 ^ R.length ≤ 32 := Nat.le_trans (Nat.pow_le_pow_right (by decide) hm) (by decide)
  have h2p : 1 ≤ 2 ^ R.length := Nat.one_le_two_pow
  have ep : (2 : Int) ^ ((R.length : Nat) : Int).toNat = ((1 + (2 ^ R.length - 1) : Nat) : Int) := by
    rw [Int.toNat_natCast, show 1 + (2 ^ R.length - 1) = 2 ^ R.length by omega, Int.natCast_pow]; rfl
  have L : 65536 ≤ LIM := by decide
  show (0 ≤ (((R.map fun r => PV.txt oc (pathT ro r)).length : Nat) : Int) ∧ (((R.map fun r => PV.txt oc (pathT ro r)).length : Nat) : Int) ≤ 1000 ∧ Int.natAbs 2 < 1000) ∧
    (-(2 ^ 40 : Int) ≤ 1 ∧ (1 : Int) ≤ 2 ^ 40 ∧ -(2 ^ 40 : Int) ≤ (2 : Int) ^ (((R.map fun r => PV.txt oc (pathT ro r)).length : Nat) : Int).toNat ∧ (2 : Int) ^ (((R.map fun r => PV.txt oc (pathT ro r)).length : Nat) : Int).toNat ≤ LIM ∧ ((2 : Int) ^ (((R.map fun r => PV.txt oc (pathT ro r)).length : Nat) : Int).toNat - 1).toNat ≤ LIM) ∧
    forP (wp gam1L msLaw110b) [11] (rangeF 1 ((2 : Int) ^ (((R.map fun r => PV.txt oc (pathT ro r)).length : Nat) : Int).toNat)) (rL V0 R ro oc Fs s7 (some (.list (toldV (R.map wayOf) Fs 1), 1)) none none none none none none none none none none) (seqK (fun ρ => wp gam1L msLaw1_11 ρ (retK Q)) (retK Q))
  rw [hpl, ep]
  refine ⟨⟨by omega, by omega, by decide⟩, ⟨by decide, by decide, by omega, by omega, by omega⟩, ?_⟩
  have er := range_from 1 (2 ^ R.length - 1)
  rw [show ((1 : Nat) : Int) = 1 from rfl] at er
  rw [er]
  refine choices_for hm hR hF (fun s11 s12 s13 s14 s15 => ?_) (by decide) (by omega)
  have e0 : (toldV (R.map wayOf) [] (2 ^ R.length)) = [] := rfl
  refine ⟨rfl, ?_⟩
  show forP (wp gam1L msLaw112b) [17] (Fs.map (rowV false)) (rM V0 R ro oc Fs s7 (some (.list (toldV (R.map wayOf) Fs (2 ^ R.length)), 1)) s11 s12 s13 s14 s15 (some (.list (toldV (R.map wayOf) [] (2 ^ R.length)), 1)) none none none none) (seqK (fun ρ => wp gam1L msLaw1_13 ρ (retK Q)) (retK Q))
  refine due_for hm hl (fun s17 s18 s19 s20 => ?_) rfl
  have et : PV.list (toldV (R.map wayOf) Fs (2 ^ R.length)) = iv (Fs.map fun F => tN (R.map wayOf) F (2 ^ R.length)) := by
    unfold toldV iv; rw [List.map_map]; rfl
  show eqP (PV.list (toldV (R.map wayOf) Fs (2 ^ R.length))) (PV.list (toldV (R.map wayOf) Fs (2 ^ R.length))) fun t => Q (.bool t)
  rw [et]
  refine ⟨_, eq_iv _ _, ?_⟩
  rw [beq_self_eq_true]; exact q
/-- the folders -/
theorem folds_for (hm : R.length ≤ 5) (hR : ∀ w ∈ R.map wayOf, w.length ≤ 63) {s4 s5 s8 s9 s10 : Slt} {K : Post} (h : ∀ Fs s7, FoldsOf (R.map wayOf) Fs → Fs.length ≤ 1000 → K .next (rB V0 R ro oc s4 s5 (some (rv Fs, 1)) s7 s8 s9 s10)) :
    ∀ {rest done : List Wy} {Fs : List Wy} {s7 : Slt}, R.map wayOf = done ++ rest → FoldsOf done Fs → Fs.length ≤ 64 * done.length →
    forP (wp gam1L msLaw16b) [7] (rest.map (rowV false)) (rB V0 R ro oc s4 s5 (some (rv Fs, 1)) s7 s8 s9 s10) K := by
  have hWl : (R.map wayOf).length = R.length := List.length_map _
  intro rest
  induction rest with
  | nil =>
    intro done Fs s7 e hF hl
    rw [List.append_nil] at e
    rw [e] at h hWl
    exact h Fs s7 hF (by omega)
  | cons w rest ih =>
    intro done Fs s7 e hF hl
    have hw : w.length ≤ 63 := hR w (e ▸ List.mem_append_right _ (.head _))
    have hdl : done.length + 1 ≤ 5 := by
      have := congrArg List.length e
      rw [List.length_append, List.length_cons, hWl] at this
      omega
    have hal := add_len Fs w
    refine ⟨w, rfl, by omega, ?_⟩
    refine compP_filter (φ := rowV false) (t := fun F => !(Fs.contains F)) (fun F _ K' z => ?_) (fun _ _ _ z => z) ?_
    · refine ⟨all_row false F Fs, ?_⟩
      show K' (!((Fs.map (rowV false)).any (likeB (rowV false F))))
      rw [any_row]; exact z
    · have e2 : PV.list (Fs.map (rowV false) ++ ((fronts w).filter fun F => !(Fs.contains F)).map (rowV false)) = rv (addF Fs w) := by
        unfold rv addF; rw [List.map_append]
      show (Fs.map (rowV false)).length + (((fronts w).filter fun F => !(Fs.contains F)).map (rowV false)).length ≤ LST ∧
        forP (wp gam1L msLaw16b) [7] (rest.map (rowV false)) (rB V0 R ro oc s4 s5 (some (.list (Fs.map (rowV false) ++ ((fronts w).filter fun F => !(Fs.contains F)).map (rowV false)), 1)) (some (rowV false w, 0)) s8 s9 s10) K
      rw [e2, ← List.length_append, ← List.map_append, List.length_map]
      refine ⟨Nat.le_trans (show (addF Fs w).length ≤ 1000 by omega) (by decide), ih (by rw [e, List.append_assoc]; rfl) (folds_add hF) ?_⟩
      rw [List.length_append, List.length_singleton]; omega
theorem law1_from3 (hm1 : 1 ≤ R.length) (hm : R.length ≤ 5) (hR : ∀ r ∈ R, r.length ≤ 63 ∧ ∀ p ∈ r, pieceQ p) (q : Q (.bool true)) :
    wp gam1L msLaw1_3 (rB V0 R ro oc none none none none none none none) (retK Q) := by
  have L : 65536 ≤ LIM := by decide
  refine compP_map (φ := rowV false) (ψ := fun r => PV.txt oc (pathT ro r)) (fun _ _ _ z => z) (fun r hr K z => ?_) ?_
  · have h1 := szL_small (hR r hr).1 fun p hp => ((hR r hr).2 p hp).1
    have h2 := path_len ro r
    exact ⟨r, ro, rfl, by omega, _, oc, rfl, rfl, small_path (hR r hr).2 ro, by omega, z⟩
  refine compP_map (φ := rowV false) (ψ := fun r => rowV false (wayOf r)) (fun _ _ _ z => z) (fun r hr K z => ?_) ?_
  · refine compP_filter (φ := PV.txt false) (t := keepB) (fun p _ K' z' => ?_) (fun _ _ _ z => z) z
    refine ⟨rfl, all_txt false p [[], [46]], ?_⟩
    show K' (!(([[], [46]].map (PV.txt false)).any (likeB (.txt false p))))
    rw [keep_any]; exact z'
  have e1 : R.map (fun r => rowV false (wayOf r)) = (R.map wayOf).map (rowV false) := (List.map_map (f := wayOf) (g := rowV false)).symm
  rw [e1]
  refine ⟨rfl, ?_⟩
  show forP (wp gam1L msLaw16b) [7] ((R.map wayOf).map (rowV false)) (rB V0 R ro oc (some (pathsV oc ro R, 0)) (some (rv (R.map wayOf), 0)) (some (rv [], 1)) none none none none) (seqK (fun ρ => wp gam1L msLaw1_7 ρ (retK Q)) (retK Q))
  have hW : ∀ w ∈ R.map wayOf, w.length ≤ 63 ∧ ∀ p ∈ w, nameQ p := fun w hw => by
    obtain ⟨r, hr, rfl⟩ := List.mem_map.mp hw
    exact ⟨Nat.le_trans (List.length_filter_le _ _) (hR r hr).1, way_names (hR r hr).2⟩
  refine folds_for hm (fun w hw => (hW w hw).1) (fun Fs s7 hF hl => ?_) (done := []) (rest := R.map wayOf) rfl ⟨.nil, fun F => ⟨(fun h => nomatch h), (fun ⟨w, hw, _⟩ => nomatch hw)⟩⟩ (Nat.zero_le _)
  have fin : wp gam1L msLaw1_8 (rB V0 R ro oc (some (pathsV oc ro R, 0)) (some (rv (R.map wayOf), 0)) (some (rv Fs, 1)) s7 (some (.txt false (rootT ro), 0)) none none) (retK Q) := by
    refine compP_map (φ := rowV false) (ψ := fun F => PV.txt oc (rootT ro ++ joinC [47] F)) (fun _ _ _ z => z) (fun F hF' K z => ?_) (law1_from9 hm1 hm hR hF hl q)
    obtain ⟨w, hw, hp⟩ := (hF.mem F).mp hF'
    have hq := prefix_names hp (hW w hw).2
    have h1 := szL_small (Nat.le_trans hp.length_le (hW w hw).1) fun p hp => (hq p hp).2.2.2
    have h2 := (joinC_len1 47 F).1
    have h3 : (rootT ro).length ≤ 1 := by cases ro <;> decide
    exact ⟨F, rfl, Nat.le_trans (Nat.le_of_eq (szL_eq F)) (by omega), rfl, by omega, _, oc, rfl, rfl, small_joined hq ro, by rw [List.length_append]; omega, z⟩
  cases ro <;> exact fin
end
theorem law1_run (ns : List Int) (hn : ns.length ≤ 63) : callP gam1L 21 msLaw1 [.list (ns.map .int)] fun v => v = .bool true := by
  refine ⟨ns, rfl, hn, fun M R h1 h5 hR => ?_⟩
  obtain ⟨rfl, hR⟩ := hR
  exact ⟨ns, rfl, by decide, ns, rfl, ⟨by decide, by decide⟩, by decide, law1_from3 h1 h5 hR rfl⟩
end Mine
end
noncomputable section
namespace Mine
open Builtin
theorem slot_map_next : Slot "map" "__next__" "map.__next__" :=
  .of (owner := "map") (n := "__next__") (by rw [typeLookup_type, builtinLookup_eq_fast]; kernel_rfl) (by decide +kernel) (by decide +kernel) (by decide +kernel) (.inl (by decide +kernel)) (by rw [isSubtype_type]; kernel_rfl)
theorem slot_map_iter : Slot "map" "__iter__" "map.__iter__" :=
  .of (owner := "map") (n := "__iter__") (by rw [typeLookup_type, builtinLookup_eq_fast]; kernel_rfl) (by decide +kernel) (by decide +kernel) (by decide +kernel) (.inl (by decide +kernel)) (by rw [isSubtype_type]; kernel_rfl)
theorem slot_map_init : Slot "map" "__init__" "object.__init__" :=
  .of (owner := "object") (n := "__init__") (by rw [typeLookup_type, builtinLookup_eq_fast]; kernel_rfl) (by decide +kernel) (by decide +kernel) (by decide +kernel) (.inl (by decide +kernel)) (by rw [isSubtype_type]; kernel_rfl)
theorem entry_map_next : entryFor table "map.__next__" = some Builtin.«map.__next__» := entryFor_of_tree (by kernel_rfl)
theorem entry_map_new : entryFor table "map.__new__" = some Builtin.«map.__new__» := entryFor_of_tree (by kernel_rfl)
theorem entry_map_iter : entryFor table "map.__iter__" = some Builtin.«dict_keyiterator.__iter__» :=
  entryFor_alias (id' := "dict_keyiterator.__iter__") (by kernel_rfl) (by first | rfl | decide +kernel) (by decide +kernel) (by kernel_rfl)
theorem args_map_next (a : Value) : argsOk "map.__next__" ⟨[a], []⟩ := by unfold argsOk; kernel_rfl
theorem args_map_iter (a : Value) : argsOk "map.__iter__" ⟨[a], []⟩ := by unfold argsOk; kernel_rfl
theorem mro_map : mroOf (.type "map") = pure [.type "map", .type "object"] := by rw [mroOf_type]; kernel_rfl
theorem lookup_map_new : typeLookup (.type "map") "__new__" = pure (some (.builtin "map.__new__")) := by rw [typeLookup_type, builtinLookup_eq_fast]; kernel_rfl
theorem called_map : TypeCalled "map" "map.__new__" "object.__init__" :=
  ⟨by decide +kernel, by decide +kernel, ⟨_, _, mro_map⟩, madeBy_type mro_map lookup_map_new (by decide +kernel), by decide +kernel, by rw [isSubtype_type]; kernel_rfl, slot_map_init⟩
theorem typeCall_map_2 (a b : Value) : checkTypeCall "map" ⟨[a, b], []⟩ = pure () := by kernel_rfl
theorem newCall_map_2 (a b : Value) : checkBuiltinCall "map.__new__" ⟨[.type "map", a, b], []⟩ = pure () := by kernel_rfl
theorem map_no_len : typeLookup (.type "map") "__len__" = pure none := by rw [typeLookup_type, builtinLookup_eq_fast]; kernel_rfl
theorem map_no_hint : typeLookup (.type "map") "__length_hint__" = pure none := by rw [typeLookup_type, builtinLookup_eq_fast]; kernel_rfl
def mapH (h : Heap) (l fa : Addr) : Heap := ((h.push { cls := .type "list_iterator", data := .fields #[.ref l, .int 0 0] }).push { cls := .type "tuple", data := .seq #[.ref h.objs.size] }).push { cls := .type "map", data := .fields #[.ref (h.objs.size + 1), .ref fa] }
theorem sub_map : isSubtype (.type "map") (.type "map") = pure true := by rw [isSubtype_type]; kernel_rfl
set_option maxRecDepth 100000 in
theorem call_map {prog : Program} {w : World} {A : Around} {E : Value → Shared → Prop} {s : Shared} {l fa : Addr} {items : Array Value} {Q : Value → Shared → Prop} (hL : s.heap.IsList l items) (h : Q (.ref (s.heap.objs.size + 2)) { s with heap := mapH s.heap l fa }) :
    wpAny (model prog w) A (call (.type "map") [.ref fa, .ref l]) Q E s := by
  have hz1 : (s.heap.push { cls := .type "list_iterator", data := .fields #[.ref l, .int 0 0] }).objs.size = s.heap.objs.size + 1 := Heap.size_push ..
  have hz2 : ((s.heap.push { cls := .type "list_iterator", data := .fields #[.ref l, .int 0 0] }).push { cls := .type "tuple", data := .seq #[.ref s.heap.objs.size] }).objs.size = s.heap.objs.size + 2 := by rw [Heap.size_push, hz1]
  refine callType_codes (Q₁ := fun obj s₁ => s₁.TypeIs obj "map" ∧ Q obj s₁) called_map (typeCall_map_2 _ _) F.entry_object_init ?_ fun obj s₁ h₁ => ?_
  · refine codeAny_of_tree ?_
    show wpAny _ A.in1.in1 (do checkBuiltinCall "map.__new__" ⟨[.type "map", .ref fa, .ref l], []⟩; again (.builtin "map.__new__" ⟨[.type "map", .ref fa, .ref l], []⟩)) _ _ s
    refine wpAny_bind (wpAny_of_eq (newCall_map_2 _ _) (wpAny_pure ⟨plainId_quiet (show plainId "map.__new__" = true by decide +kernel) _, codeAny_builtin entry_map_new ?_⟩))
    rw [Around.under_plainId (show plainId "map.__new__" = true by decide +kernel) _]
    unfold Builtin.«map.__new__» SmallTypes.newClass
    have hsub := sub_map
    wp_walk using wpAny_pyIter_list hL
    refine ⟨⟨_, Heap.get?_push_size _ rfl, rfl⟩, ?_⟩
    unfold mapH at h
    rw [← hz1, ← hz2] at h
    exact h
  · exact ⟨h₁.1, F.args_object_init_3 obj _ _, object_init_meets called_map.init.lookup called_map.made (by decide) _ _ A.in1 _ s₁ ⟨h₁.1, rfl, h₁.2⟩⟩
/-- a map object upon a list: what stays -/
structure IsMap (h : Heap) (I T it fa l : Addr) (i : Nat) (items : Array Value) : Prop where
  m : h.get? I = some { cls := .type "map", data := .fields #[.ref T, .ref fa] }
  t : h.get? T = some { cls := .type "tuple", data := .seq #[.ref it] }
  i : h.IsListIter it l i
  l : h.IsList l items
theorem IsMap.to {h h' : Heap} {I T it fa l : Addr} {i : Nat} {items : Array Value} (x : IsMap h I T it fa l i items) (k : ∀ b o, h.get? b = some o → b = I ∨ b = T ∨ b = it ∨ b = l → h'.get? b = some o) : IsMap h' I T it fa l i items :=
  ⟨k _ _ x.m (.inl rfl), k _ _ x.t (.inr (.inl rfl)), x.i.at fun o e => k _ o e (.inr (.inr (.inl rfl))), x.l.at fun o e => k _ o e (.inr (.inr (.inr rfl)))⟩
section
variable {prog : Program} {w : World} {A : Around} {E : Value → Shared → Prop} {s : Shared} {I T it fa l : Addr} {i : Nat} {items : Array Value}
theorem iter_map {Q : Value → Shared → Prop} (hM : IsMap s.heap I T it fa l i items) (h : Q (.ref I) s) : wpAny (model prog w) A (pyIter (.ref I)) Q E s := by
  have hT : s.TypeIs (.ref I) "map" := ⟨_, hM.m, rfl⟩
  refine wpAny_pyIter_slot hT slot_map_iter (wpAny_call_entry slot_map_iter hT entry_map_iter ?_ (args_map_iter _))
  show wpAny _ _ (ret (.ref I)) _ _ s
  exact wpAny_pure ⟨_, rfl, "map", _, hT, slot_map_next.lookup, h⟩
/-- one more item; the def gives back what it is given -/
theorem next_map {x : Value} {Q : Option Value → Shared → Prop} (hM : IsMap s.heap I T it fa l i items) (hx : items[i]? = some x) (hd : it ≠ I ∧ it ≠ T ∧ it ≠ l)
    (hf : ∀ s1 : Shared, (∃ h', s1 = { s with heap := h' } ∧ Heap.SameBut it s.heap h') → IsMap s1.heap I T it fa l (i + 1) items → wpAny (model prog w) A.in1 (call (.ref fa) [x]) (fun v s2 => Q (some v) s2) (fun _ _ => False) s1) :
    wpAny (model prog w) A (pyNext (.ref I)) Q E s := by
  have hT : s.TypeIs (.ref I) "map" := ⟨_, hM.m, rfl⟩
  unfold pyNext
  refine wpAny_bind (wpAny_attempt (wpAny_callSpecial?_slot (name := Str.ofString "__next__") hT slot_map_next (wpAny_call_entry slot_map_next hT entry_map_next ?_ (args_map_next _))))
  unfold Builtin.«map.__next__»
  refine wpAny_bind (m := slotArgs _ _ _) (wpAny_pure ?_)
  refine wpAny_bind (wpAny_field hM.m rfl (x := .ref T) rfl ?_)
  refine wpAny_bind (wpAny_seqItems hM.t rfl ?_)
  dsimp only
  rw [← Array.forIn_toList]
  simp only [List.forIn_cons, List.forIn_nil]
  have h1 := hf
  refine wpAny_bind (wpAny_bind (wpAny_bind (wpAny_holding (wpAny_nextOf_list_item hM.i hM.l hx fun h' hi hs => wpAny_pure (wpAny_pure ?_)))))
  have hM' : IsMap h' I T it fa l (i + 1) items := ⟨hs.extBut _ _ (Ne.symm hd.1) hM.m, hs.extBut _ _ (Ne.symm hd.2.1) hM.t, hi, hM.l.extBut hs.extBut (Ne.symm hd.2.2)⟩
  refine wpAny_bind (wpAny_field hM'.m rfl (x := .ref fa) rfl ?_)
  refine wpAny_bind (wpAny_holding (wpAny_mono (hf _ ⟨h', rfl, hs⟩ hM') (fun v s2 q => ?_) fun _ _ x => x.elim))
  exact wpAny_bind (wpAny_letGo (wpAny_pure ⟨_, rfl, wpAny_pure q⟩))
theorem end_map {Q : Option Value → Shared → Prop} (hh : A.handled = none) (hM : IsMap s.heap I T it fa l i items) (hx : items[i]? = none) (h : ∀ h', Heap.ExtBut it s.heap h' → Q none { s with heap := h' }) :
    wpAny (model prog w) A (pyNext (.ref I)) Q E s := by
  have hT : s.TypeIs (.ref I) "map" := ⟨_, hM.m, rfl⟩
  unfold pyNext
  refine wpAny_bind (wpAny_attempt (wpAny_callSpecial?_slot (name := Str.ofString "__next__") hT slot_map_next (wpAny_call_entry slot_map_next hT entry_map_next ?_ (args_map_next _))))
  unfold Builtin.«map.__next__»
  refine wpAny_bind (m := slotArgs _ _ _) (wpAny_pure ?_)
  refine wpAny_bind (wpAny_field hM.m rfl (x := .ref T) rfl ?_)
  refine wpAny_bind (wpAny_seqItems hM.t rfl ?_)
  dsimp only
  rw [← Array.forIn_toList]
  simp only [List.forIn_cons, List.forIn_nil]
  refine wpAny_bind (wpAny_bind (wpAny_bind (wpAny_holding (wpAny_nextOf_list_end hh hM.i hM.l hx fun h' e he ⟨o, ho, hc⟩ => ?_))))
  refine wpAny_bind (wpAny_isInstance (T := "StopIteration") (b := true) ⟨o, ho, hc⟩ isSubtype_stop ?_)
  exact wpAny_pure (h _ he)
end
end Mine
end
noncomputable section
namespace Mine
open Builtin
def TxtsAre (vs : List Value) (ks : List (Bool × List Nat)) : Prop := vs.length = ks.length ∧ ∀ (j : Nat) v p, vs[j]? = some v → ks[j]? = some p → TxtIs v p.1 p.2
theorem TxtsAre.snoc {vs : List Value} {ks : List (Bool × List Nat)} {v : Value} {p : Bool × List Nat} (h : TxtsAre vs ks) (hv : TxtIs v p.1 p.2) : TxtsAre (vs ++ [v]) (ks ++ [p]) := by
  refine ⟨by rw [List.length_append, List.length_append, h.1]; rfl, fun j u q hu hq => ?_⟩
  by_cases hj : j < vs.length
  · rw [List.getElem?_append_left hj] at hu
    rw [List.getElem?_append_left (h.1 ▸ hj)] at hq
    exact h.2 j u q hu hq
  · rw [List.getElem?_append_right (Nat.not_lt.mp hj)] at hu
    rw [List.getElem?_append_right (h.1 ▸ Nat.not_lt.mp hj), ← h.1] at hq
    have h0 : j - vs.length = 0 := Nat.lt_one_iff.mp (List.getElem?_eq_some_iff.mp hu).1
    rw [h0] at hu hq
    cases hu; cases hq; exact hv
section
variable {prog : Program} {w : World} {A A0 : Around} {sb : Shared} {I T it fa l S : Addr} {items : Array Value} {ks : List (Bool × List Nat)}
/-- the def gives back each of these texts -/
def Same1 (prog : Program) (w : World) (A0 : Around) (sb : Shared) (fa : Addr) (ks : List (Bool × List Nat)) : Prop :=
  ∀ (A' : Around) s1 x p, A'.handled = none → A'.depth = A0.depth → A'.units ≤ A0.units + 50 → Ext sb s1 → p ∈ ks → TxtIs x p.1 p.2 → wpAny (model prog w) A' (call (.ref fa) [x]) (fun v s2 => Ext s1 s2 ∧ TxtIs v p.1 p.2) (fun _ _ => False) s1
theorem map_loop (hF : Same1 prog w A0 sb fa ks) (h1 : A.handled = none) (h2 : A.depth = A0.depth) (h3 : A.units + 10 ≤ A0.units + 50) (hS : sb.heap.get? S = none) (hi : sb.heap.get? it = none) (d1 : it ≠ I ∧ it ≠ T ∧ it ≠ l) (d2 : S ≠ I ∧ S ≠ T ∧ S ≠ it ∧ S ≠ l)
    (hI : TxtsAre items.toList ks) (hn : ks.length ≤ sizeLine) {R : Result → Shared → Prop} {res : Value} : ∀ (k i : Nat) (s : Shared) (acc : Array Value) (c : Nat), ks.length - i = k → i ≤ ks.length → KeepBut (fun b => b = S ∨ b = it) sb s → IsMap s.heap I T it fa l i items →
    s.heap.get? S = some { cls := .type "list", dict := none, data := .seq acc c, slots := #[] } → TxtsAre acc.toList (ks.take i) →
    (∀ s' acc' c', KeepBut (fun b => b = S ∨ b = it) sb s' → s'.heap.get? S = some { cls := .type "list", dict := none, data := .seq acc' c', slots := #[] } → TxtsAre acc'.toList ks → R (.ok (.ret res)) s') →
    codeAny (model prog w) A (.builtin "list.extend.loop" ⟨[.ref S, .ref I, res], []⟩) R s := by
  have ext : ∀ {s'}, KeepBut (fun b => b = S ∨ b = it) sb s' → Ext sb s' := fun {s'} kb => KeepBut.after (.refl sb) kb fun b hb => hb.elim (fun e => e ▸ hS) fun e => e ▸ hi
  have hlen : items.size = ks.length := by rw [← Array.length_toList]; exact hI.1
  intro k
  induction k with
  | zero =>
    intro i s acc c hk hle kb hM ho ha fin
    have hin : i = ks.length := by omega
    subst hin
    refine codeAny_builtin F.entry_extend_loop ?_
    rw [Around.under_plainId F.plain_extend_loop _]
    show wpAny _ A.in1 (pyNext (.ref I) >>= _) _ _ s
    refine wpAny_bind (end_map h1 hM (by rw [Array.getElem?_eq_none]; exact Nat.le_of_eq hlen) fun h' he => ?_)
    have k2 : KeepBut (fun b => b = S ∨ b = it) sb { s with heap := h' } := kb.trans ⟨⟨rfl, rfl⟩, fun b o hb e => he b o (fun q => hb (.inr q)) e⟩
    exact wpAny_pure (fin _ acc c k2 (he _ _ d2.2.2.1 ho) (by rw [List.take_length] at ha; exact ha))
  | succ k ih =>
    intro i s acc c hk hle kb hM ho ha fin
    have hlt : i < ks.length := by omega
    have hx : items[i]? = some items[i] := Array.getElem?_eq_getElem (hlen.symm ▸ hlt)
    have hp : ks[i]? = some ks[i] := List.getElem?_eq_getElem hlt
    have hv : TxtIs items[i] ks[i].1 ks[i].2 := hI.2 i _ _ (by rw [Array.getElem?_toList]; exact hx) hp
    have hasz : acc.size = i := by rw [← Array.length_toList, ha.1, List.length_take]; omega
    refine codeAny_builtin F.entry_extend_loop ?_
    rw [Around.under_plainId F.plain_extend_loop _]
    show wpAny _ A.in1 (pyNext (.ref I) >>= _) _ _ s
    refine wpAny_bind (next_map hM hx d1 fun s1 ⟨h', e, sbut⟩ hM1 => ?_)
    subst e
    have k1 : KeepBut (fun b => b = S ∨ b = it) sb { s with heap := h' } := kb.trans (KeepBut.of_same sbut (.inr rfl) s.toks)
    have ho1 : h'.get? S = some { cls := .type "list", dict := none, data := .seq acc c, slots := #[] } := sbut.extBut _ _ d2.2.2.1 ho
    refine wpAny_mono (hF A.in1.in1 _ _ ks[i] h1 h2 (by show A.units + 1 + 1 ≤ _; omega) (ext k1) (List.getElem_mem hlt) hv) (fun v s2 ⟨ex, hv2⟩ => ?_) fun _ _ x => x
    have ho2 := ex.keep _ _ ho1
    have k2 := k1.trans (ex.but (X := fun b => b = S ∨ b = it))
    show wpAny _ A.in1 (updateSeq S (·.push v) >>= _) _ _ _
    refine wpAny_bind ?_
    refine wpAny_updateSeq ho2 rfl (wpAny_pure ⟨plainId_quiet F.plain_extend_loop _, ih (i + 1) _ (acc.push v) _ (by omega) hlt (k2.trans ⟨⟨rfl, rfl⟩, fun b o hb e => (Heap.get?_update_other _ _ (fun h : S = b => hb (.inl h.symm))).trans e⟩) ((hM1.to fun b o e _ => ex.keep b o e).to fun b o e hb => (Heap.get?_update_other _ _ (fun h : S = b => hb.elim (fun q => d2.1 (h.trans q)) fun hb => hb.elim (fun q => d2.2.1 (h.trans q)) fun hb => hb.elim (fun q => d2.2.2.1 (h.trans q)) fun q => d2.2.2.2 (h.trans q))).trans e) (Heap.get?_update_self _ ho2 rfl) ?_ fin⟩)
      (by rw [hasz]; omega) (by show (acc.push v).size ≤ sizeLine + 1; rw [Array.size_push, hasz]; omega)
    rw [Array.toList_push, List.take_succ_eq_append_getElem hlt]
    exact ha.snoc hv2
theorem map_type {s : Shared} {i : Nat} (hM : IsMap s.heap I T it fa l i items) : s.TypeIs (.ref I) "map" := ⟨_, hM.m, rfl⟩
theorem collect_map {s : Shared} {E : Value → Shared → Prop} {Q : List Value → Shared → Prop} (hF : Same1 prog w A0 sb fa ks) (h1 : A.handled = none) (h2 : A.depth = A0.depth) (h3 : A.units + 20 ≤ A0.units + 50) (hi : sb.heap.get? it = none) (d1 : it ≠ I ∧ it ≠ T ∧ it ≠ l)
    (hI : TxtsAre items.toList ks) (hn : ks.length ≤ sizeLine) (kb : Ext sb s) (hM : IsMap s.heap I T it fa l 0 items) (q : ∀ s' vs, Ext sb s' → TxtsAre vs ks → Q vs s') :
    wpAny (model prog w) A (collect (.ref I)) Q E s := by
  have hS : s.heap.get? s.heap.objs.size = none := get_size _
  have nS : ∀ b o, s.heap.get? b = some o → s.heap.objs.size ≠ b := fun b o e q => nomatch (q ▸ hS).symm.trans e
  have d2 : s.heap.objs.size ≠ I ∧ s.heap.objs.size ≠ T ∧ s.heap.objs.size ≠ it ∧ s.heap.objs.size ≠ l :=
    ⟨nS _ _ hM.m, nS _ _ hM.t, let ⟨_, e, _⟩ := hM.i; nS _ _ e, let ⟨_, e, _⟩ := hM.l; nS _ _ e⟩
  have fin : ∀ s', KeepBut (fun b => b = s.heap.objs.size ∨ b = it) sb s' → Ext sb s' := fun s' kb' => KeepBut.after (.refl sb) kb' fun b hb => hb.elim (fun e => e ▸ kb.fresh hS) fun e => e ▸ hi
  unfold collect
  refine wpAny_bind (wpAny_runValue (codeAny_builtin F.entry_proto_collect ?_))
  rw [Around.under_plainId F.plain_proto_collect _]
  show wpAny _ A.in1 (newList [] >>= fun l => again (.builtin "list.__iadd__" ⟨[l, .ref I], []⟩)) _ _ s
  refine wpAny_bind (wpAny_newObj_type (wpAny_pure ⟨plainId_quiet F.plain_list_iadd _, codeAny_builtin F.entry_list_iadd ?_⟩))
  rw [Around.under_plainId F.plain_list_iadd _]
  have hM1 : IsMap (s.heap.push { cls := .type "list", data := .seq ([] : List Value).toArray }) I T it fa l 0 items := hM.to fun b o e _ => Heap.get?_push_of_some _ e
  have hS1 : (s.heap.push { cls := .type "list", data := .seq ([] : List Value).toArray }).get? s.heap.objs.size = some { cls := .type "list", data := .seq ([] : List Value).toArray } := Heap.get?_push_size _ rfl
  show wpAny _ A.in1 (Builtin.List.listExtendWith (.ref s.heap.objs.size) (.ref I) (.ref s.heap.objs.size)) _ _ _
  unfold Builtin.List.listExtendWith
  refine wpAny_bind (wpAny_typeOf (map_type (s := { s with heap := s.heap.push { cls := .type "list", data := .seq ([] : List Value).toArray } }) hM1) ?_)
  have t1 : Builtin.List.listSameRef (.ref s.heap.objs.size) (.ref I) = false := by simp [Builtin.List.listSameRef, d2.1]
  have t2 : (Value.type "map" == Value.type "list") = false := by decide
  have t3 : (Value.type "map" == Value.type "tuple") = false := by decide
  simp only [t1, t2, t3, Bool.or_false, Bool.false_eq_true, if_false]
  refine wpAny_bind (iter_map hM1 (wpAny_bind (wpAny_holding ?_)))
  unfold Builtin.List.listLengthHint
  refine wpAny_bind (wpAny_specialOf (map_type (s := { s with heap := s.heap.push { cls := .type "list", data := .seq ([] : List Value).toArray } }) hM1) map_no_len ?_)
  show wpAny _ A.in1 (specialOf (Value.ref I) (Str.ofString "__length_hint__") >>= _) _ _ _
  refine wpAny_bind (wpAny_specialOf (map_type (s := { s with heap := s.heap.push { cls := .type "list", data := .seq ([] : List Value).toArray } }) hM1) map_no_hint (wpAny_pure ?_))
  show wpAny _ A.in1 (rule "list.extend.makes-room" >>= fun _ => Builtin.List.listTouch (.ref s.heap.objs.size) >>= fun _ =>
    again (.builtin "list.extend.loop" ⟨[.ref s.heap.objs.size, .ref I, .ref s.heap.objs.size], []⟩)) _ _ _
  refine wpAny_bind (wpAny_rule (wpAny_bind ?_))
  show wpAny _ A.in1 (updateSeq s.heap.objs.size (·.push .none) >>= fun _ => updateSeq s.heap.objs.size (·.pop)) _ _ _
  refine wpAny_bind (wpAny_updateSeq hS1 rfl ?_)
  have hS2 := Heap.get?_update_self (Obj.mapSeq (·.push Value.none)) hS1 rfl
  refine wpAny_updateSeq hS2 rfl ?_
  have hS3 := Heap.get?_update_self (Obj.mapSeq (·.pop)) hS2 rfl
  have oth : ∀ b o, b ≠ s.heap.objs.size → (s.heap.push { cls := .type "list", data := .seq ([] : List Value).toArray }).get? b = some o →
      (((s.heap.push { cls := .type "list", data := .seq ([] : List Value).toArray }).update s.heap.objs.size (Obj.mapSeq (·.push Value.none))).update s.heap.objs.size (Obj.mapSeq (·.pop))).get? b = some o :=
    fun b o hb e => (Heap.get?_update_other _ _ (Ne.symm hb)).trans ((Heap.get?_update_other _ _ (Ne.symm hb)).trans e)
  have kb3 : KeepBut (fun b => b = s.heap.objs.size ∨ b = it) sb { s with heap := (((s.heap.push { cls := .type "list", data := .seq ([] : List Value).toArray }).update s.heap.objs.size (Obj.mapSeq (·.push Value.none))).update s.heap.objs.size (Obj.mapSeq (·.pop))) } :=
    kb.but.trans ⟨⟨rfl, rfl⟩, fun b o hb e => oth b o (fun q => hb (.inl q)) (Heap.get?_push_of_some _ e)⟩
  refine wpAny_pure ⟨plainId_quiet F.plain_extend_loop _, map_loop hF h1 h2 (by omega) (kb.fresh hS) hi d1 d2 hI hn ks.length 0 _ _ _ rfl (Nat.zero_le _) kb3 (hM1.to fun b o e hb => oth b o (fun q => hb.elim (fun h => d2.1 (q.symm.trans h)) fun hb => hb.elim (fun h => d2.2.1 (q.symm.trans h)) fun hb => hb.elim (fun h => d2.2.2.1 (q.symm.trans h)) fun h => d2.2.2.2 (q.symm.trans h)) e) hS3 ⟨rfl, fun j v p hv => nomatch hv⟩ fun s' acc' c' kb' hS' ha => ?_⟩
  show wpAny _ A (load s.heap.objs.size >>= _) _ _ s'
  exact wpAny_bind (wpAny_load hS' (wpAny_pure (q s' _ (fin s' kb') ha)))
/-- tuple(map(f, xs)) -/
theorem call_tuple_map {s : Shared} {E Q : Value → Shared → Prop} (hF : Same1 prog w A sb fa ks) (h1 : A.handled = none) (hi : sb.heap.get? it = none) (d1 : it ≠ I ∧ it ≠ T ∧ it ≠ l)
    (hI : TxtsAre items.toList ks) (hn : ks.length ≤ sizeLine) (kb : Ext sb s) (hM : IsMap s.heap I T it fa l 0 items) (q : ∀ s' a vs, Ext sb s' → sb.heap.get? a = none → PlainTup s'.heap a vs.toArray → TxtsAre vs ks → Q (.ref a) s') :
    wpAny (model prog w) A (call (.type "tuple") [.ref I]) Q E s := by
  refine callType_codes (Q₁ := fun obj s₁ => s₁.TypeIs obj "tuple" ∧ Q obj s₁) F.called_tuple (F.typeCall_tuple_1 _) F.entry_object_init ?_ fun obj s₁ h₁ => ?_
  · refine codeAny_of_tree ?_
    show wpAny _ A.in1.in1 (do checkBuiltinCall "tuple.__new__" ⟨[.type "tuple", .ref I], []⟩; again (.builtin "tuple.__new__" ⟨[.type "tuple", .ref I], []⟩)) _ _ s
    refine wpAny_bind (wpAny_of_eq (F.newCall_tuple_1 _) (wpAny_pure ⟨plainId_quiet F.plain_tuple_new _, codeAny_builtin F.entry_tuple_new ?_⟩))
    rw [Around.under_plainId F.plain_tuple_new _]
    have hsub := sub_tuple_self
    have hinit := init_tuple_lookup
    have hmh := madeHere_tuple
    have hTI := map_type hM
    have hu : A.in1.in1.units + 20 ≤ A.units + 50 := by show A.units + 1 + 1 + 20 ≤ A.units + 50; omega
    wp_walk using wpAny_typeOf hTI, collect_map (A := A.in1.in1) (A0 := A) hF h1 rfl hu hi d1 hI hn kb hM
    intro s' vs ex hv
    show wpAny _ _ (Builtin.Tuple.tupleExact vs.toArray >>= fun v => ret v) _ _ _
    unfold Builtin.Tuple.tupleExact
    refine wpAny_bind (wpAny_newObj_type ?_ (by show vs.toArray.size ≤ sizeLine; rw [List.size_toArray, hv.1]; exact hn))
    exact wpAny_pure ⟨⟨_, Heap.get?_push_size _ rfl, rfl⟩, q _ _ vs (ex.trans (.push s' _)) (ex.fresh (get_size _)) ⟨_, Heap.get?_push_size _ rfl⟩ hv⟩
  · exact ⟨h₁.1, F.args_object_init_2 obj _, object_init_meets F.called_tuple.init.lookup F.called_tuple.made (by decide) prog w A.in1 _ s₁ ⟨h₁.1, rfl, h₁.2⟩⟩
end
section
variable {C : Cx} {A : Around} {env : Env} {Ok : Addr → Prop} {ρ : List Slt} {s : Shared}
theorem txts_of {h : Heap} {Ok : Addr → Prop} {vs : List Value} {ks : List (Bool × List Nat)} (r : RepAll h Ok vs (ks.map fun p => PV.txt p.1 p.2)) : TxtsAre vs ks := by
  refine ⟨by rw [r.length, List.length_map], fun j v p hv hp => ?_⟩
  obtain ⟨v', hv', hr⟩ := r.get j (.txt p.1 p.2) (by rw [List.getElem?_map, hp]; rfl)
  rw [hv] at hv'
  cases hv'
  exact hr.inv
theorem rep_txt {h : Heap} {Ok : Addr → Prop} {v : Value} {k : Bool} {cs : List Nat} (t : TxtIs v k cs) : Rep h Ok v (.txt k cs) := by
  cases t with
  | str _ t => exact .str _ t
  | bytes bs t => exact .bytes bs t rfl
theorem rep_txts {h : Heap} {Ok : Addr → Prop} : ∀ {ks : List (Bool × List Nat)} {vs : List Value}, TxtsAre vs ks → RepAll h Ok vs (ks.map fun p => PV.txt p.1 p.2) := by
  intro ks
  induction ks with
  | nil => intro vs t; rw [List.eq_nil_of_length_eq_zero t.1]; exact .nil
  | cons p ks ih =>
    intro vs t
    cases vs with
    | nil => exact nomatch t.1
    | cons v vs => exact .cons (rep_txt (t.2 0 v p rfl rfl)) (ih ⟨Nat.succ.inj t.1, fun j u q hu hq => t.2 (j + 1) u q hu hq⟩)
theorem se_mapfn {fns : List Str} {f : Nat} {a : ME} {e : Expr} {name : Str} {p p2 p3 pos pos2 : Pos} (G : GOk C.W C.k C.Γ fns) (hf : fns[f]? = some name) (hgl : C.cc.gl name = true) (hd : (name == ("__debug__" : Str)) = false)
    (gT : C.cc.gl "tuple" = true) (gM : C.cc.gl "map" = true) (bT : C.W.glob "tuple" = some (.type "tuple")) (bM : C.W.glob "map" = some (.type "map")) (hn : notStar e = true) (h : SE C a e) :
    SE C (.mapfn f a) (.Call (.Name "tuple" p) [.Call (.Name "map" p2) [.Name name p3, e] [] pos2] [] pos) := by
  intro A env Ok ρ s Q H hz E R q
  obtain ⟨fa, o, fd, hg, ho, hfd, hok⟩ := G f name hf
  refine call_named H gT bT (by decide) (.inr ⟨_, rfl⟩) (plain_one rfl) (spliced_one rfl ?_)
  refine call_named H gM bM (by decide) (.inr ⟨_, rfl⟩) (plain_two rfl hn) (spliced_two rfl hn ?_)
  refine name_global H hgl hg hd (h A env Ok ρ s _ H hz E _ fun v s1 x l e1 r1 h1 => ?_)
  obtain ⟨hl, h1⟩ := l1_inv h1
  obtain ⟨xs, rfl, ks, rfl, hk, h1⟩ := list_inv h1
  obtain ⟨la, vs, rfl, ql, _, ra, _⟩ := r1.r.inv
  have ra := ra hl
  have H1 := H.ext e1
  have hI := txts_of ra
  have hlen : ks.length ≤ sizeLine := by have := r1.z.list_len; rw [List.length_map] at this; exact lst_size this
  refine call_map ql.isList ?_
  have n0 : s1.heap.get? s1.heap.objs.size = none := get_size _
  have hz1 : (s1.heap.push { cls := .type "list_iterator", data := .fields #[.ref la, .int 0 0] }).objs.size = s1.heap.objs.size + 1 := Heap.size_push ..
  have hz2 : ((s1.heap.push { cls := .type "list_iterator", data := .fields #[.ref la, .int 0 0] }).push { cls := .type "tuple", data := .seq #[.ref s1.heap.objs.size] }).objs.size = s1.heap.objs.size + 2 := by rw [Heap.size_push, hz1]
  have hM : IsMap (mapH s1.heap la fa) (s1.heap.objs.size + 2) (s1.heap.objs.size + 1) s1.heap.objs.size fa la 0 vs.toArray := by
    unfold mapH
    refine ⟨?_, ?_, ⟨_, Heap.get?_push_of_some _ (Heap.get?_push_of_some _ (Heap.get?_push_size _ rfl)), rfl, rfl⟩, ((ql.isList.push _).push _).push _⟩
    · have := Heap.get?_push_size ((s1.heap.push { cls := .type "list_iterator", data := .fields #[.ref la, .int 0 0] }).push { cls := .type "tuple", data := .seq #[.ref s1.heap.objs.size] }) (o := { cls := .type "map", data := .fields #[.ref (s1.heap.objs.size + 1), .ref fa] }) rfl
      rw [hz2] at this; exact this
    · have := Heap.get?_push_size (s1.heap.push { cls := .type "list_iterator", data := .fields #[.ref la, .int 0 0] }) (o := { cls := .type "tuple", data := .seq #[.ref s1.heap.objs.size] }) rfl
      rw [hz1] at this; exact Heap.get?_push_of_some _ this
  have hla : s1.heap.objs.size ≠ la := fun e => let ⟨_, ho, _⟩ := ql.isList; nomatch (e ▸ n0).symm.trans ho
  have hF : Same1 C.W.prog C.W.w A s1 fa ks := fun A' s2 x p' hh hdp hu ex hp ht => by
    have on' := H1.on.ext ex
    have hu' : RoomF A' C.k := ⟨hh, by rw [hdp]; exact H.room.dep, by have := H.room.un; omega⟩
    exact wpAny_call (hok A' s2 Ok [x] [.txt p'.1 p'.2] (fun z => z = .txt p'.1 p'.2) hu' on' (H1.fresh.ext ex) ⟨.cons (rep_txt ht) .nil, fun y hy => List.mem_singleton.mp hy ▸ r1.z.list_all _ (List.mem_map.mpr ⟨p', hp, rfl⟩)⟩ (hk p' hp _ rfl) _ fun v s3 z e3 r3 _ hz => by
      subst hz
      exact ⟨e3, r3.inv⟩)
  have e2 : Ext s1 { s1 with heap := mapH s1.heap la fa } := ⟨⟨rfl, rfl⟩, fun b o e => Heap.get?_push_of_some _ (Heap.get?_push_of_some _ (Heap.get?_push_of_some _ e))⟩
  refine call_tuple_map hF H.room.hd n0 ⟨Nat.ne_of_lt (Nat.lt_add_of_pos_right (by decide)), Nat.ne_of_lt (Nat.lt_succ_self _), hla⟩ hI hlen e2 hM fun s' a ws ex ha pt hv => ?_
  exact q _ s' _ 0 (e1.trans ex) ⟨.zero (.tup (H1.fresh a ha) pt (rep_txts hv)), .tup r1.z.list_len r1.z.list_all⟩ h1
end
end Mine
end
noncomputable section
namespace Mine
open Builtin
/-! ## a set of one bool -/
section
variable {prog : Program} {w : World} {A : Around} {E : Value → Shared → Prop} {s : Shared} {b : Bool} {D : Addr}
def hashB (b : Bool) : Int := if b then 1 else 0
theorem hash_bool {Q : Int → Shared → Prop} (h : Q (hashB b) { s with toks := s.toks + 1 }) : wpAny (model prog w) A (pyHash (.bool b)) Q E s := by
  have hT : s.TypeIs (.bool b) "bool" := rfl
  unfold pyHash
  have hv : [Value.bool b].any Value.onHeap = false := rfl
  refine wpAny_bind ?_
  rw [cRoomFor, if_neg (by rw [hv]; exact Bool.false_ne_true)]
  refine wpAny_pure ?_
  refine wpAny_bind (wpAny_specialOf hT F.slot_bool_hash.lookup ?_)
  show wpAny _ _ (if (some (Value.builtin "int.__hash__") == some Value.none) = true then _ else _) Q E s
  rw [if_neg (by rw [beq_builtin_none]; exact Bool.false_ne_true)]
  refine wpAny_bind (wpAny_specialOf hT F.slot_bool_hash.lookup ?_)
  show wpAny _ _ (callSpecialIfBoundUnlessNone? (.bool b) "__hash__" _ >>= _) Q E s
  cases b with
  | false =>
    refine wpAny_bind (wpAny_callSpecialIfBoundUnlessNone?_slot hT F.slot_bool_hash
      (wpAny_call_entry F.slot_bool_hash hT entry_int_hash (show wpAny _ _ (do ret (← mkInt 0)) _ _ s from ?_) (args_int_hash _)))
    exact wpAny_ret_mkInt (wpAny_pure h)
  | true =>
    refine wpAny_bind (wpAny_callSpecialIfBoundUnlessNone?_slot hT F.slot_bool_hash
      (wpAny_call_entry F.slot_bool_hash hT entry_int_hash (show wpAny _ _ (do ret (← mkInt 1)) _ _ s from ?_) (args_int_hash _)))
    exact wpAny_ret_mkInt (wpAny_pure h)
/-- the set before anything is added, and with one bool -/
def Set0 (h : Heap) (D : Addr) (led : Bool) : Prop := h.get? D = some { cls := .type "set", dict := none, data := .set #[] 0 (.fresh 0 0 led) }
def tab1 (b led : Bool) : SetTable := { mask := 7, place := #[if b then 1 else 0], dummies := #[], finger := 0, led := led, moves := 0, plain := true }
def Set1 (h : Heap) (D : Addr) (b led : Bool) : Prop := h.get? D = some { cls := .type "set", dict := none, data := .set #[(hashB b, .bool b)] 1 (tab1 b led) }
theorem lay_bool (b led : Bool) : layNew (.fresh 0 0 led) #[] (hashB b) (.bool b) = (#[(hashB b, .bool b)], tab1 b led, false, false) := by
  cases b <;> cases led <;> rfl
theorem eq_bool_self {Q : Bool → Shared → Prop} (h : Q true s) : wpAny (model prog w) A (eqBool (.bool b) (.bool b)) Q E s := by
  unfold eqBool
  show wpAny _ _ (if (Value.bool b == Value.bool b) = true then _ else _) Q E s
  rw [if_pos (by cases b <;> rfl)]
  exact wpAny_bind (wpAny_rule (wpAny_pure h))
theorem add_first {led : Bool} {Q : Value → Shared → Prop} (hS : Set0 s.heap D led) (h : ∀ h', Heap.SameBut D s.heap h' → Set1 h' D b led → Q .none { s with heap := h', toks := s.toks + 1 }) :
    wpAny (model prog w) A (call (.builtin "set.add") [.ref D, .bool b]) Q E s := by
  have hT : s.TypeIs (.ref D) "set" := ⟨_, hS, rfl⟩
  refine wpAny_call_entry F.slot_set_add hT F.entry_set_add ?_ (F.args_set_add_2 _ _)
  unfold Builtin.«set.add» Builtin.Frozenset.oneOther
  simp only [List.isEmpty_nil, bind_assoc]
  unfold Builtin.Frozenset.addrOf setAdd
  refine wpAny_bind (wpAny_pure ?_)
  try dsimp only
  refine wpAny_bind (wpAny_pure ?_)
  try dsimp only
  refine wpAny_bind (wpAny_holding (wpAny_bind (hash_bool ?_)))
  unfold setAddHashed setAddHashedIn
  refine wpAny_holding (wpAny_bind (wpAny_setState_of (s := { s with toks := s.toks + 1 }) hS rfl (by cases led <;> rfl) ?_))
  dsimp only
  rw [show byScan (.bool b) #[] = true by cases b <;> decide +kernel, if_pos rfl]
  unfold setAddByScan
  refine wpAny_bind (wpAny_bind (wpAny_rule (wpAny_bind (show wpAny _ _ (setScan D (.bool b) (hashB b) true #[]) _ _ _ from wpAny_pure ?_))))
  dsimp only
  refine wpAny_bind (wpAny_pure ?_)
  rw [lay_bool]
  dsimp only
  have e1 : (if true = true then tab1 b led else { tab1 b led with plain := false }) = tab1 b led := if_pos rfl
  rw [if_pos (show (tab1 b led).plain = true from rfl)]
  refine wpAny_bind (wpAny_of_eq (show hashByValue 8 (.bool b) = pure true from rfl) (wpAny_bind (wpAny_storeSet_of (s := { s with toks := s.toks + 1 }) hS rfl ?_)))
  rw [if_pos (show true = true from rfl), if_neg (show ¬ (!false && (tab1 b led).tooFull) = true by cases b <;> cases led <;> decide)]
  refine wpAny_pure (wpAny_pure (wpAny_pure ⟨_, rfl, h _ (Heap.SameBut.update _ D _) ?_⟩))
  exact Heap.get?_update_self _ hS rfl
theorem add_again {led : Bool} {Q : Value → Shared → Prop} (hS : Set1 s.heap D b led) (h : Q .none { s with toks := s.toks + 1 }) :
    wpAny (model prog w) A (call (.builtin "set.add") [.ref D, .bool b]) Q E s := by
  have hT : s.TypeIs (.ref D) "set" := ⟨_, hS, rfl⟩
  have hf : (tab1 b led).fits 1 = true := by cases b <;> cases led <;> rfl
  refine wpAny_call_entry F.slot_set_add hT F.entry_set_add ?_ (F.args_set_add_2 _ _)
  unfold Builtin.«set.add» Builtin.Frozenset.oneOther
  simp only [List.isEmpty_nil, bind_assoc]
  unfold Builtin.Frozenset.addrOf setAdd
  refine wpAny_bind (wpAny_pure ?_)
  try dsimp only
  refine wpAny_bind (wpAny_pure ?_)
  try dsimp only
  refine wpAny_bind (wpAny_holding (wpAny_bind (hash_bool ?_)))
  unfold setAddHashed setAddHashedIn
  refine wpAny_holding (wpAny_bind (wpAny_setState_of (s := { s with toks := s.toks + 1 }) hS rfl hf ?_))
  dsimp only
  rw [show byScan (.bool b) #[(hashB b, .bool b)] = true by cases b <;> decide +kernel, if_pos rfl]
  unfold setAddByScan
  refine wpAny_bind (wpAny_bind (wpAny_rule (wpAny_bind (m := setScan D (.bool b) (hashB b) true #[(hashB b, .bool b)]) ?_)))
  show wpAny _ _ (setScanFrom D (.bool b) (hashB b) true [(hashB b, .bool b)] 0) _ _ _
  unfold setScanFrom
  rw [if_pos (beq_self_eq_true _)]
  refine wpAny_bind (wpAny_setEpoch_of (s := { s with toks := s.toks + 1 }) hS rfl hf (wpAny_bind (eq_bool_self ?_)))
  rw [if_pos (show (true && true) = true from rfl)]
  exact wpAny_pure (wpAny_pure (wpAny_pure (wpAny_pure ⟨_, rfl, h⟩)))
theorem compTurn_set (elt target iter : Expr) (ifs : List Expr) (scope : Scope) (pos : Pos) (it acc : Value) (env : Env) :
    compTurn (.SetComp elt [⟨target, iter, ifs, 0⟩] scope pos) 0 it acc env = (do
      standAt iter.pos
      match ← pyNext it with
      | none => pure (.done .next)
      | some v =>
        letOwnedTupleGo target it v
        assign target env v
        let mut ok := true
        for c in ifs do
          if ok then ok ← isTrue c env (eval c env)
        if ok then
          (do let v ← eval elt env; standAt elt.pos; let _ ← call (.builtin "set.add") [acc, v])
        again (.compLoop (.SetComp elt [⟨target, iter, ifs, 0⟩] scope pos) 0 it acc env)) := by rfl
theorem compLoop_set {elt target iter : Expr} {scope : Scope} {pos : Pos} {it acc : Value} {env : Env} {R : Result → Shared → Prop} (I : Nat → Shared → Prop)
    (turn : ∀ n s, I n s → wpAny (model prog w) A (pyNext it) (fun r s₁ => match r with
      | none => R (.ok .next) s₁
      | some v => wpAny (model prog w) A (assign target env v) (fun _ s₂ =>
          wpAny (model prog w) A (eval elt env) (fun x s₄ =>
              wpAny (model prog w) A (call (.builtin "set.add") [acc, x]) (fun _ s₅ => ∃ m, m < n ∧ I m s₅) (notedBy (model prog w) A env fun e s' => R (.error e) s') s₄) (notedBy (model prog w) A env fun e s' => R (.error e) s') s₂) (notedBy (model prog w) A env fun e s' => R (.error e) s') s₁) (notedBy (model prog w) A env fun e s' => R (.error e) s') s)
    (n : Nat) (h : I n s) (ht : ∀ v, letOwnedTupleGo target it v = pure ()) :
    codeAny (model prog w) A (.compLoop (.SetComp elt [⟨target, iter, [], 0⟩] scope pos) 0 it acc env) R s := by
  refine codeAny_loop rfl I (fun n s hI => ?_) n h
  show wpAny _ A ((compTurn (.SetComp elt [⟨target, iter, [], 0⟩] scope pos) 0 it acc env).onRaise (fun x => do noteFrame x env; theTreesLotGoes x)) _ _ s
  refine wpAny_noted ?_
  rw [compTurn_set]
  refine wpAny_bind (wpAny_standAt (wpAny_bind (wpAny_mono (turn n s hI) (fun r s₁ h₁ => ?_) fun _ _ h' => h')))
  cases r with
  | none => exact wpAny_pure h₁
  | some v =>
    refine wpAny_bind (wpAny_of_eq (ht v) ?_)
    refine wpAny_bind (wpAny_mono h₁ (fun _ s₂ h₂ => wpAny_bind (wpAny_tests_nil ?_)) fun _ _ h' => h')
    exact wpAny_bind (wpAny_bind (wpAny_mono h₂ (fun x s₄ h₄ => wpAny_bind (wpAny_standAt (wpAny_bind (wpAny_mono h₄ (fun _ s₅ h₅ => wpAny_pure (wpAny_pure ⟨rfl, h₅⟩)) fun _ _ h' => h')))) fun _ _ h' => h'))
theorem compStart_set {elt target iter : Expr} {ifs : List Expr} {rest : List Comprehension} {scope : Scope} {pos : Pos} {it acc : Value} {env : Env} {R : Result → Shared → Prop}
    (h0 : codeAny (model prog w) A (.compLoop (.SetComp elt (⟨target, iter, ifs, 0⟩ :: rest) scope pos) 0 it acc env) R s)
    (h : wpAny (model prog w) A (pyIter it) (fun it' s' => codeAny (model prog w) A (.compLoop (.SetComp elt (⟨target, iter, ifs, 0⟩ :: rest) scope pos) 0 it' acc env) R s')
      (notedBy (model prog w) A env fun x s' => R (.error x) s') s) :
    codeAny (model prog w) A (.compStart (.SetComp elt (⟨target, iter, ifs, 0⟩ :: rest) scope pos) 0 it acc env) R s := by
  refine codeAny_of_tree ?_
  show wpAny _ A ((compStart (.SetComp elt (⟨target, iter, ifs, 0⟩ :: rest) scope pos) 0 it acc env).onRaise (fun x => do noteFrame x env; standAt theWindowsPlace)) _ _ s
  refine wpAny_notedAt ?_
  unfold compStart
  show wpAny _ _ (ask >>= _) _ _ s
  refine wpAny_bind (wpAny_askSetting (wpAny_ite ?_))
  split
  · exact wpAny_bind (wpAny_pure (wpAny_pure (And.intro rfl h0)))
  · exact wpAny_bind (wpAny_rule (wpAny_bind (wpAny_standAt (wpAny_bind (wpAny_mono h (fun it' s' h' => wpAny_pure (And.intro rfl h')) fun _ _ x => x)))))
end
def SetAt (b led : Bool) (D : Addr) (h : Heap) : Bool → Prop
  | false => Set0 h D led
  | true => Set1 h D b led
theorem SetAt.keeps {b led seen : Bool} {D : Addr} {h h' : Heap} (x : SetAt b led D h seen) (k : ∀ o, h.get? D = some o → h'.get? D = some o) : SetAt b led D h' seen := by
  cases seen <;> exact k _ x
theorem SetAt.there {b led seen : Bool} {D : Addr} {h : Heap} (x : SetAt b led D h seen) : ∃ o, h.get? D = some o := by
  cases seen <;> exact ⟨_, x⟩
section
variable {C : Cx} {A : Around} {env : Env} {Ok : Addr → Prop} {ρ : List Slt} {s : Shared}
structure SInv (Ok : Addr → Prop) (D B : Addr) (wr : List Addr) (St : Nat → Heap → Prop) (s1 : Shared) (g : PV → (PV → Nat → Prop) → Prop) (xs : List PV) (b led : Bool) (P : Prop) (i : Nat) (seen : Bool) (m : Str → Option Value) (s' : Shared) : Prop where
  le : i ≤ xs.length
  kb : KeepBut (Chg D B wr) s1 s'
  st : St i s'.heap
  set : SetAt b led D s'.heap seen
  ns : s'.heap.Ns B m
  run : onesP g b seen (xs.drop i) P
theorem set_loop {elt iter : Expr} {x : Str} {px : Pos} {scope : Scope} {pos : Pos} {cl : List (Str × Addr)} {me : ME} {s0 s1 s2 : Shared} {I : Addr} {fp wr : List Addr} {P : Nat → Value → Prop} {St : Nat → Heap → Prop} {xs : List PV} {D B : Addr} {R : Result → Shared → Prop} {m : Str → Option Value} {z Z : Prop} {b led : Bool}
    (H : Here C A env Ok ρ s0) (hc : CompOk C.cc scope x) (hcl : ∀ y, scope.names.lookup y = some .free → cl.lookup y = env.cells.lookup y)
    (he : SE (C.comp scope x) me elt)
    (e1 : Ext s0 s1) (hit : Itr C.W Ok z s0 s1 xs I fp wr P St) (hxz : Sz (.list xs)) (e2 : Ext s1 s2) (hD : s1.heap.get? D = none) (hB : s1.heap.get? B = none) (hDB : D ≠ B) (hD2 : Set0 s2.heap D led) (hB2 : s2.heap.Ns B m) (hDf : D ∉ fp) (hBf : B ∉ fp)
    (hev : onesP (fun x => (evA C.Γ me (ρ ++ [some (x, 0)])).val) b false xs Z)
    (hR : ∀ s' m', Ext s0 s' → Set1 s'.heap D b led → Z → s'.heap.Ns B m' → R (.ok .next) s') :
    codeAny C.W.M A (.compLoop (.SetComp elt [⟨.Name x px, iter, [], 0⟩] scope pos) 0 (.ref I) (.ref D) (compEnvC scope cl B env)) R s2 := by
  have hw := hit.walks A H.room.hd
  have hDw : D ∉ wr := fun h => hDf (hw.sub _ h)
  have hBw : B ∉ wr := fun h => hBf (hw.sub _ h)
  have nw1 : ∀ b, Chg D B wr b → b ∉ wr → s1.heap.get? b = none := fun b h hb => h.elim (fun e => e ▸ hD) fun h => h.elim (fun e => e ▸ hB) fun h => absurd h hb
  have nw : ∀ b, Chg D B wr b → s0.heap.get? b = none := fun b h => h.elim (fun e => e ▸ e1.fresh hD) fun h => h.elim (fun e => e ▸ e1.fresh hB) (hit.new b)
  have hok : ∀ b, Ok b → SeqAt s0.heap b → Ok b ∧ ¬ Chg D B wr b := fun b hb ⟨_, _, _, ho, _⟩ => ⟨hb, fun h => nomatch (nw b h).symm.trans ho⟩
  refine compLoop_set (I := fun n s' => ∃ i seen m', n = xs.length - i ∧ SInv Ok D B wr St s1 (fun x => (evA C.Γ me (ρ ++ [some (x, 0)])).val) xs b led Z i seen m' s') ?_ xs.length
    ⟨0, false, m, rfl, Nat.zero_le _, e2.but, hw.frame _ _ _ hit.st fun b _ o => e2.keep b o, hD2, hB2, hev⟩ (fun _ => rfl)
  rintro n s' ⟨i, seen, m', rfl, V⟩
  by_cases hlt : i < xs.length
  · have hx0 : xs[i]? = some xs[i] := List.getElem?_eq_getElem hlt
    have hcf := V.run
    rw [List.drop_eq_getElem_cons hlt] at hcf
    revert hcf hx0
    generalize xs[i] = x0
    intro hx0 hcf
    refine hw.item i s' _ _ hlt V.st fun v h' tk hp st' hk => ?_
    have kba : KeepBut (Chg D B wr) s' { s' with heap := h', toks := tk } := ⟨⟨rfl, rfl⟩, fun b o hb ho => hk b o (fun h => hb (.inr (.inr h))) ho⟩
    have nsa : h'.Ns B m' := V.ns.at' fun o => hk B o hBw
    refine wpAny_assign_Name (wpAny_storeName_local (m := m') (lookup_relabel_local hc.loc) nsa (fun hb nsb sbb => ?_) (by unfold compEnvC relabel; rw [hc.kind]; rfl))
    have kb1 : KeepBut (Chg D B wr) s1 { s' with heap := hb, toks := tk + 1 } := V.kb.trans (kba.trans (KeepBut.of_same (s := { s' with heap := h', toks := tk }) sbb (.inr (.inl rfl)) (tk + 1)))
    have stb : St (i + 1) hb := hw.frame _ _ _ st' fun b hb o ho => sbb.extBut b o (fun h => hBf ((show b = B from h) ▸ hb)) ho
    have plb : SetAt b led D hb seen := V.set.keeps fun o ho => sbb.extBut D o hDB (hk D o hDw ho)
    revert nsb kb1 stb plb
    generalize hsb : ({ s' with heap := hb, toks := tk + 1 } : Shared) = sb
    intro nsb kb1 stb plb
    have nsb : sb.heap.Ns B (fun y => if y = x then some v else m' y) := by rw [← hsb]; exact nsb
    have stb : St (i + 1) sb.heap := by rw [← hsb]; exact stb
    have plb : SetAt b led D sb.heap seen := by rw [← hsb]; exact plb
    have exb : Ext s0 sb := KeepBut.after e1 kb1 nw
    have Hb := here_comp (Ok' := fun b => Ok b ∧ ¬ Chg D B wr b) H hc hcl exb nsb (if_pos rfl) ((hit.item i v x0 hx0 hp).mono (kb1.moves fun b hb ⟨_, _, _, ho, _⟩ =>
        have : ¬ Chg D B wr b := fun h => nomatch (nw1 b h hb.2).symm.trans ho
        ⟨⟨hb.1, this⟩, this⟩)) (hxz.list_all _ (List.mem_of_getElem? hx0)) (fun a ha => ⟨H.fresh a (exb.fresh ha), fun h => h.elim (fun e => let ⟨_, ho⟩ := plb.there; nomatch (e ▸ ha).symm.trans ho) fun h => h.elim (fun e => let ⟨_, _, _, ho, _⟩ := nsb; nomatch (e ▸ ha).symm.trans ho) fun h => hit.there _ _ stb a h ha⟩) hok
    refine he A _ _ _ sb _ Hb hcf _ _ fun w sd y l ed rw_ hz => ?_
    obtain ⟨rfl, rfl, hz2⟩ := l0_inv hz
    rw [show w = _ from rw_.r.rep0.inv]
    have fin : ∀ h5, Heap.SameBut D sd.heap h5 → Set1 h5 D b led → ∃ m, m < xs.length - i ∧ ∃ i' seen m', m = xs.length - i' ∧ SInv Ok D B wr St s1 (fun x => (evA C.Γ me (ρ ++ [some (x, 0)])).val) xs b led Z i' seen m' { sd with heap := h5, toks := sd.toks + 1 } := fun h5 sb5 hs5 => by
      have kb5 : KeepBut (Chg D B wr) sd { sd with heap := h5, toks := sd.toks + 1 } := KeepBut.of_same sb5 (.inl rfl) _
      exact ⟨xs.length - (i + 1), Nat.sub_succ_lt_self _ _ hlt, i + 1, true, _, rfl, hlt, kb1.trans (ed.but.trans kb5), hw.frame _ _ _ stb fun b hb o ho => sb5.extBut b o (fun h => hDf (h ▸ hb)) (ed.keep b o ho), hs5, (nsb.keeps ed.keep).at' fun o => sb5.extBut B o (Ne.symm hDB), hz2⟩
    cases seen with
    | false => exact add_first (D := D) (led := led) (ed.keep _ _ plb) fun h5 sb5 hs5 => fin h5 sb5 hs5
    | true => exact add_again (D := D) (led := led) (ed.keep _ _ plb) (fin sd.heap (Heap.SameBut.refl D sd.heap) (ed.keep _ _ plb))
  · have hin' : i = xs.length := Nat.le_antisymm V.le (Nat.not_lt.mp hlt)
    subst hin'
    have hcf := V.run
    rw [List.drop_length] at hcf
    obtain ⟨rfl, hz⟩ := hcf
    refine hw.done s' _ _ V.st fun h' tk hk => ?_
    have kba : KeepBut (Chg D B wr) s' { s' with heap := h', toks := tk } := ⟨⟨rfl, rfl⟩, fun b o hb ho => hk b o (fun h => hb (.inr (.inr h))) ho⟩
    exact hR _ m' (KeepBut.after e1 (V.kb.trans kba) nw) (hk D _ hDw V.set) hz (V.ns.at' fun o => hk B o hBw)
end
end Mine
end
noncomputable section
namespace Mine
open Builtin
theorem slot_setiter_next : Slot "set_iterator" "__next__" "set_iterator.__next__" :=
  .of (owner := "set_iterator") (n := "__next__") (by rw [typeLookup_type, builtinLookup_eq_fast]; kernel_rfl) (by decide +kernel) (by decide +kernel) (by decide +kernel)
    (.inl (by decide +kernel)) (by rw [isSubtype_type]; kernel_rfl)
theorem entry_setiter_next : entryFor table "set_iterator.__next__" = some Builtin.«set_iterator.__next__» := entryFor_of_tree (by kernel_rfl)
theorem args_setiter_next (a : Value) : argsOk "set_iterator.__next__" ⟨[a], []⟩ := by unfold argsOk; kernel_rfl
theorem entry_set_iter : entryFor table "set.__iter__" = some Builtin.«frozenset.__iter__» :=
  entryFor_alias (id' := "frozenset.__iter__") (by kernel_rfl) rfl (by decide +kernel) (by kernel_rfl)
section
variable {prog : Program} {w : World} {A : Around} {E : Value → Shared → Prop} {s : Shared} {b : Bool} {D : Addr}
def ledOf (w : World) : Bool := !(w.params.followText "set-order")
def SetIt (h : Heap) (I D : Addr) (i n : Int) : Prop := h.get? I = some { cls := .type "set_iterator", data := .fields #[rawInt n, rawInt i, .ref D, rawInt 1, rawInt 1] }
theorem fits1 (b led : Bool) : (tab1 b led).fits 1 = true := by cases b <;> cases led <;> rfl
theorem iter_set1 {led : Bool} {Q : Value → Shared → Prop} (hS : Set1 s.heap D b led) (h : Q (.ref s.heap.objs.size) { s with heap := s.heap.push { cls := .type "set_iterator", data := .fields #[rawInt 0, rawInt 0, .ref D, rawInt 1, rawInt 1] } }) :
    wpAny (model prog w) A (pyIter (.ref D)) Q E s := by
  have hT : s.TypeIs (.ref D) "set" := ⟨_, hS, rfl⟩
  refine wpAny_pyIter_slot hT F.slot_set_iter (wpAny_call_entry F.slot_set_iter hT entry_set_iter ?_ (F.args_set_iter_1 _))
  unfold Builtin.«frozenset.__iter__»
  refine wpAny_bind (m := Frozenset.slot0 _ _) (wpAny_pure ?_)
  refine wpAny_bind (m := Frozenset.sizeOf D) (wpAny_bind (wpAny_setEntries_of hS rfl (fits1 b led) (wpAny_pure ?_)))
  have dr : ∀ {Q : Bool → Shared → Prop}, Q false s → wpAny (model prog w) A.in1 (setDrawn D) Q E s := fun {Q} q => by
    unfold setDrawn
    refine wpAny_bind (wpAny_setState_of hS rfl (fits1 b led) ?_)
    unfold setsByText
    refine wpAny_bind (wpAny_bind (wpAny_askSetting (wpAny_pure ?_)))
    show wpAny _ _ (pure (!(w.params.followText "set-order") && false)) _ _ _
    rw [Bool.and_false]
    exact wpAny_pure q
  refine wpAny_bind (dr ?_)
  rw [if_neg Bool.false_ne_true]
  refine wpAny_bind (wpAny_pure (wpAny_bind (wpAny_setEpoch_of hS rfl (fits1 b led) (wpAny_bind (wpAny_newObj_type (wpAny_pure ⟨_, rfl, "set_iterator", _, ⟨_, Heap.get?_push_size _ rfl, rfl⟩, slot_setiter_next.lookup, h⟩))))))
theorem pick_one {α : Type} (f : Nat → Nat) (x : α) : pickOrder f #[x] = #[x] := by
  show pickOrder.go f 1 0 [x] #[] = #[x]
  unfold pickOrder.go
  rw [show f 0 % [x].length = 0 from Nat.mod_one _]
  rfl
theorem walk_one {led : Bool} {Q : Array (Int × Value) → Shared → Prop} (hS : Set1 s.heap D b led) (hl : w.params.followText "set-order" = true) (h : Q #[(hashB b, .bool b)] s) : wpAny (model prog w) A (setWalk D) Q E s := by
  unfold setWalk
  refine wpAny_bind (wpAny_setState_of hS rfl (fits1 b led) ?_)
  unfold setsByText
  refine wpAny_bind (wpAny_bind (wpAny_askSetting (wpAny_pure ?_)))
  show wpAny _ _ (if (w.params.followText "set-order") = true then _ else _) _ _ _
  rw [if_pos hl]
  refine wpAny_bind (wpAny_askSetting (wpAny_pure ?_))
  rw [pick_one]; exact h
theorem setNext_one {n g : Nat} {Q : Option (Value × Nat) → Shared → Prop} (hS : Set1 s.heap D b (ledOf w)) (h0 : g = 0 → n = 0 → ∀ m : Nat, m ≤ 2 → (w.params.followText "set-order" = false → hashB b < m) → Q (some (.bool b, m)) s)
    (h1 : g = 1 → (w.params.followText "set-order" = false → hashB b < n) → Q none s) (hg : (g = 0 ∧ n = 0) ∨ (g = 1 ∧ (w.params.followText "set-order" = false → hashB b < n))) : wpAny (model prog w) A (setNext D n g 1) Q E s := by
  unfold setNext
  refine wpAny_bind (wpAny_setState_of hS rfl (fits1 b _) ?_)
  dsimp only
  unfold setsByText
  refine wpAny_bind (wpAny_bind (wpAny_askSetting (wpAny_pure ?_)))
  show wpAny _ _ (if (w.params.followText "set-order") = true then _ else _) _ _ _
  cases hb : w.params.followText "set-order" with
  | true =>
    rw [if_pos rfl]
    show wpAny _ _ (setWalk D >>= _) _ _ _
    refine wpAny_bind (walk_one hS hb (wpAny_pure ?_))
    rcases hg with ⟨rfl, rfl⟩ | ⟨rfl, hn⟩
    · exact h0 rfl rfl 0 (by decide) fun q => nomatch hb.symm.trans q
    · exact h1 rfl hn
  | false =>
    have hl : ledOf w = true := by unfold ledOf; rw [hb]; rfl
    rw [hl, if_neg Bool.false_ne_true]
    rcases hg with ⟨rfl, rfl⟩ | ⟨rfl, hn⟩
    · cases b with
      | false => exact wpAny_bind (wpAny_pure (wpAny_pure (h0 rfl rfl 1 (by decide) fun _ => by decide)))
      | true => exact wpAny_bind (wpAny_pure (wpAny_pure (h0 rfl rfl 2 (by decide) fun _ => by decide)))
    · have hn' := hn hb
      have hbel : SetTable.below (tab1 b true).place n = 1 := by
        cases b with
        | false =>
          show SetTable.below #[0] n = 1
          unfold SetTable.below
          show SetTable.below.go #[0] n 1 0 1 = 1
          unfold SetTable.below.go
          rw [if_pos (by decide)]
          show (if (0 : Nat) < n then _ else _) = 1
          rw [if_pos (by unfold hashB at hn'; have : ((0 : Int)) < n := hn'; omega)]
          rfl
        | true =>
          show SetTable.below #[1] n = 1
          unfold SetTable.below
          show SetTable.below.go #[1] n 1 0 1 = 1
          unfold SetTable.below.go
          rw [if_pos (by decide)]
          show (if (1 : Nat) < n then _ else _) = 1
          rw [if_pos (by unfold hashB at hn'; have : ((1 : Int)) < n := hn'; omega)]
          rfl
      refine wpAny_bind (wpAny_pure (wpAny_pure ?_))
      rw [hbel]
      exact h1 rfl hn
theorem next_set1 {I : Addr} {Q : Option Value → Shared → Prop} (hS : Set1 s.heap D b (ledOf w)) (hI : SetIt s.heap I D 0 0) (hne : I ≠ D) (h : ∀ h' (m : Nat), SetIt h' I D 1 m → (w.params.followText "set-order" = false → hashB b < m) → Heap.SameBut I s.heap h' → Q (some (.bool b)) { s with heap := h' }) :
    wpAny (model prog w) A (pyNext (.ref I)) Q E s := by
  have hT : s.TypeIs (.ref I) "set_iterator" := ⟨_, hI, rfl⟩
  unfold pyNext
  refine wpAny_bind (wpAny_attempt (wpAny_callSpecial?_slot (name := Str.ofString "__next__") hT slot_setiter_next (wpAny_call_entry slot_setiter_next hT entry_setiter_next ?_ (args_setiter_next _))))
  unfold Builtin.«set_iterator.__next__»
  refine wpAny_bind (m := slotArgs _ _ _) (wpAny_pure ?_)
  refine wpAny_bind (wpAny_fieldsOf hI rfl ?_)
  dsimp only
  refine wpAny_bind (wpAny_setEntries_of hS rfl (fits1 b _) ?_)
  rw [if_neg (show ¬ (((#[(hashB b, Value.bool b)].size : Nat) : Int) != 1) = true from Bool.false_ne_true)]
  refine wpAny_bind (setNext_one (n := 0) (g := 0) hS (fun _ _ m hm hm2 => ?_) (fun q => nomatch q) (.inl ⟨rfl, rfl⟩))
  dsimp only
  refine wpAny_bind (wpAny_setField_rec hI (by simp) fun h1 he1 hs1 => wpAny_bind (wpAny_setField_rec (s := { s with heap := h1 }) he1 (by simp) fun h2 he2 hs2 => wpAny_pure ⟨_, rfl, wpAny_pure (h h2 m he2 hm2 (hs1.trans hs2))⟩))
theorem end_set1 {I : Addr} {m : Nat} {Q : Option Value → Shared → Prop} (hh : A.handled = none) (hS : Set1 s.heap D b (ledOf w)) (hI : SetIt s.heap I D 1 m) (hm : w.params.followText "set-order" = false → hashB b < m) (h : ∀ h', Heap.ExtBut I s.heap h' → Q none { s with heap := h' }) :
    wpAny (model prog w) A (pyNext (.ref I)) Q E s := by
  have hT : s.TypeIs (.ref I) "set_iterator" := ⟨_, hI, rfl⟩
  unfold pyNext
  refine wpAny_bind (wpAny_attempt (wpAny_callSpecial?_slot (name := Str.ofString "__next__") hT slot_setiter_next (wpAny_call_entry slot_setiter_next hT entry_setiter_next ?_ (args_setiter_next _))))
  unfold Builtin.«set_iterator.__next__»
  refine wpAny_bind (m := slotArgs _ _ _) (wpAny_pure ?_)
  refine wpAny_bind (wpAny_fieldsOf hI rfl ?_)
  dsimp only
  refine wpAny_bind (wpAny_setEntries_of hS rfl (fits1 b _) ?_)
  rw [if_neg (show ¬ (((#[(hashB b, Value.bool b)].size : Nat) : Int) != 1) = true from Bool.false_ne_true)]
  refine wpAny_bind (setNext_one (n := m) (g := 1) hS (fun q => nomatch q) (fun _ _ => ?_) (.inr ⟨rfl, hm⟩))
  dsimp only
  refine wpAny_bind (wpAny_setField_rec hI (by simp) fun h1 he1 hs1 => ?_)
  show wpAny _ _ (newExc (.type "StopIteration") [] >>= _) _ _ _
  refine wpAny_bind ?_
  simp only [newExc, newTuple]
  refine wpAny_bind (wpAny_newObj_type ?_ (by size_fits))
  refine wpAny_bind (m := firstArgMember _ _) (wpAny_of_eq (a := Value.none) (by first | rfl | (simp only [firstArgMember]; rfl)) ?_)
  refine wpAny_newObj_type ?_ (by size_fits)
  simp only [raiseNew]
  refine wpAny_bind (wpAny_handled ?_)
  rw [show A.in1.handled = none from hh]
  refine wpAny_bind (wpAny_pure (wpAny_throw ?_))
  refine wpAny_bind (wpAny_isInstance (T := "StopIteration") (b := true) ⟨_, Heap.get?_push_size _ rfl, rfl⟩ isSubtype_stop ?_)
  exact wpAny_pure (h _ ((hs1.extBut.push _).push _))
theorem unpack_set1 {Q : List Value → Shared → Prop} (hh : A.handled = none) (hS : Set1 s.heap D b (ledOf w)) (h : ∀ h', (∀ b o, s.heap.get? b = some o → h'.get? b = some o) → Q [.bool b] { s with heap := h' }) :
    wpAny (model prog w) A (unpackItems (.ref D) 1 none) Q E s := by
  have hT : s.TypeIs (.ref D) "set" := ⟨_, hS, rfl⟩
  have hD : s.heap.objs.size ≠ D := fun q => Nat.lt_irrefl _ (q ▸ Heap.lt_size hS : s.heap.objs.size < s.heap.objs.size)
  unfold unpackItems
  refine wpAny_bind ?_
  unfold notIterableAtAll
  refine wpAny_bind (wpAny_specialOf hT F.slot_set_iter.lookup ?_)
  refine wpAny_pure ?_
  simp only [Bool.false_eq_true, if_false]
  refine wpAny_bind (wpAny_holding (iter_set1 hS ?_))
  refine wpAny_bind (wpAny_holding ?_)
  show wpAny _ _ (pyNext _ >>= _) _ _ _
  refine wpAny_bind (next_set1 (I := s.heap.objs.size) (D := D) (b := b) (Heap.get?_push_of_some _ hS) (Heap.get?_push_size _ rfl) hD fun h1 m hi hm hs1 => ?_)
  refine wpAny_bind (wpAny_holding (wpAny_pure (wpAny_pure ?_)))
  rw [if_neg (show ¬ [Value.bool b].length < 1 from Nat.lt_irrefl 1)]
  have hS1 : Set1 h1 D b (ledOf w) := hs1.extBut D _ (Ne.symm hD) (Heap.get?_push_of_some _ hS)
  refine wpAny_bind (wpAny_holding (end_set1 hh (D := D) (b := b) hS1 hi hm fun h2 he2 => ?_))
  simp only [Option.isSome_none, Bool.false_eq_true, if_false]
  refine wpAny_pure (h h2 fun c o ho => ?_)
  have hne : c ≠ s.heap.objs.size := fun q => Nat.lt_irrefl _ (q ▸ Heap.lt_size ho : s.heap.objs.size < s.heap.objs.size)
  exact he2 c o hne (hs1.extBut c o hne (Heap.get?_push_of_some _ ho))
end
end Mine
end
noncomputable section
namespace Mine
open Builtin
/-! ## a set of texts, from a list -/
def cpsOf : Value → List Nat
  | .str s _ => s.cps.toList
  | _ => []
def keysIn (es : Array (Int × Value)) : List (List Nat) := es.toList.map fun e => cpsOf e.2
structure SetS (prog : Program) (w : World) (h : Heap) (D : Addr) (es : Array (Int × Value)) (ep : Nat) (t : SetTable) : Prop where
  at_ : h.get? D = some { cls := .type "set", dict := none, data := .set es ep t }
  el : ElemsOf (_root_.PySem.strKind prog w) es.toList
  sz : es.size < scanBound
  fit : t.fits es.size = true
  led : t.led = ledOf w
  pl : es.size ≠ 0 → t.plain = false
  nd : (keysIn es).Nodup
theorem lay_flags (t : SetTable) (es : Array (Int × Value)) (h : Int) (x : Value) : (layNew t es h x).2.1.led = t.led ∧ (t.plain = false → (layNew t es h x).2.1.plain = false) := by
  unfold layNew
  cases t.freeSlot h with
  | none => exact ⟨rfl, fun _ => rfl⟩
  | some q =>
    obtain ⟨slot, d⟩ := q
    show ((t.put slot).1.orStandIn _).led = _ ∧ (_ → ((t.put slot).1.orStandIn _).plain = false)
    unfold SetTable.orStandIn
    split
    · exact ⟨rfl, fun h => h⟩
    · exact ⟨rfl, fun _ => rfl⟩
theorem relaid_flags {t t' : SetTable} {hs : Array Int} {n : Nat} {o : Array Nat} (h : t.relaid hs n = some (t', o)) : t'.led = t.led ∧ t'.plain = t.plain := by
  unfold SetTable.relaid SetTable.laid at h
  cases q : SetTable.layClean (SetTable.sizeAbove n - 1) hs with
  | none => rw [q] at h; exact nomatch h
  | some owner => rw [q] at h; cases h; exact ⟨rfl, rfl⟩
theorem relay_flags (t : SetTable) (es : Array (Int × Value)) (n : Nat) : (relayAll t es n).2.1.led = t.led ∧ (t.plain = false → (relayAll t es n).2.1.plain = false) := by
  unfold relayAll
  split
  · rename_i h
    have := relaid_flags h
    dsimp only
    split
    · exact ⟨this.1, fun h => this.2.trans h⟩
    · exact ⟨rfl, fun _ => rfl⟩
  · exact ⟨rfl, fun _ => rfl⟩
section
variable {prog : Program} {w : World} {A : Around} {E : Value → Shared → Prop} {s : Shared} {D : Addr} {es : Array (Int × Value)} {ep : Nat} {t : SetTable}
theorem SetS.to {h h' : Heap} (S : SetS prog w h D es ep t) (e : ∀ o, h.get? D = some o → h'.get? D = some o) : SetS prog w h' D es ep t := { S with at_ := e _ S.at_ }
theorem str_at {k : Str} {v : Value} (h : (_root_.PySem.strKind prog w).is k v = true) : ∃ tk, v = .str k tk := Value.isStrOf_shape h
theorem str_is (k : Str) (tk : Tok) : (_root_.PySem.strKind prog w).is k (.str k tk) = true := beq_self_eq_true k
theorem keys_perm {es es' : Array (Int × Value)} (p : List.Perm es'.toList es.toList) : (keysIn es').Perm (keysIn es) := p.map _
theorem keys_size (es : Array (Int × Value)) : (keysIn es).length = es.size := by unfold keysIn; rw [List.length_map, Array.length_toList]
theorem store_set {es' : Array (Int × Value)} {t' : SetTable} {Q : Unit → Shared → Prop} (hS : s.heap.get? D = some { cls := .type "set", dict := none, data := .set es ep t }) (hb : es'.size < scanBound)
    (h : ∀ h', Heap.SameBut D s.heap h' → h'.get? D = some { cls := .type "set", dict := none, data := .set es' (ep + 1) t' } → Q () { s with heap := h' }) : wpAny (model prog w) A (storeSet D es' t') Q E s :=
  wpAny_storeSet_of hS rfl (h _ (Heap.SameBut.update _ D _) (Heap.get?_update_self _ hS rfl)) (fits_of_scanBound hb)
/-- what an added text makes of the keys -/
def Added (u : List Nat) (es es' : Array (Int × Value)) : Prop := (∀ v, v ∈ keysIn es' ↔ v ∈ keysIn es ∨ v = u) ∧ es'.size ≤ es.size + 1
theorem key_of {e : Int × Value} {k : Str} (h : (_root_.PySem.strKind prog w).is k e.2 = true) : cpsOf e.2 = k.cps.toList := by obtain ⟨tk, q⟩ := str_at h; rw [q]; rfl
theorem str_eq {a b : Str} (h : a.cps.toList = b.cps.toList) : a = b := by cases a; cases b; exact congrArg Str.mk (Array.toList_inj.mp h)
theorem add_tail {g : Bool → Sem Unit} (hg : ∀ (b : Bool) (s₁ : Shared) (Q' : Unit → Shared → Prop), Q' () s₁ → wpAny (model prog w) A (g b) Q' E s₁) {es1 : Array (Int × Value)} {t2 : SetTable} {wasDummy : Bool} {R : Option Bool → Shared → Prop}
    (hS : s.heap.get? D = some { cls := .type "set", dict := none, data := .set es ep t }) (el : ElemsOf (_root_.PySem.strKind prog w) es1.toList) (hb : es1.size < scanBound) (hf : t2.fits es1.size = true) (hl : t2.led = ledOf w) (hp : t2.plain = false) (nd : (keysIn es1).Nodup)
    (h : ∀ h' es' ep' t', Heap.SameBut D s.heap h' → SetS prog w h' D es' ep' t' → (keysIn es').Perm (keysIn es1) → R (some true) { s with heap := h' }) :
    wpAny (model prog w) A (do
        storeSet D es1 t2
        if (!wasDummy && t2.tooFull) = true then do
            g (relayAll t2 es1 (SetTable.grown es1.size)).2.2
            storeSet D (relayAll t2 es1 (SetTable.grown es1.size)).1 (relayAll t2 es1 (SetTable.grown es1.size)).2.1
            pure (some true)
          else pure (some true)) R E s := by
  refine wpAny_bind (store_set hS hb fun h1 sb1 S1 => ?_)
  by_cases hc : (!wasDummy && t2.tooFull) = true
  · rw [if_pos hc]
    have hperm := relayAll_perm t2 es1 (SetTable.grown es1.size)
    have hfits := relayAll_fits t2 es1 (SetTable.grown es1.size)
    have hfl := relay_flags t2 es1 (SetTable.grown es1.size)
    revert hperm hfits hfl
    generalize relayAll t2 es1 (SetTable.grown es1.size) = Rl
    obtain ⟨es2, t3, gave⟩ := Rl
    intro hperm hfits hfl
    have hsz : es2.size = es1.size := by rw [← Array.length_toList, hperm.length_eq, Array.length_toList]
    refine wpAny_bind (hg _ _ _ (wpAny_bind (store_set (s := { s with heap := h1 }) S1 (hsz ▸ hb) fun h2 sb2 S2 => wpAny_pure (h h2 es2 _ t3 (sb1.trans sb2) ⟨S2, el.perm hperm, hsz ▸ hb, hfits, hfl.1.trans hl, fun _ => hfl.2 hp, (keys_perm hperm).nodup_iff.mpr nd⟩ (keys_perm hperm)))))
  · rw [if_neg hc]
    exact wpAny_pure (h h1 es1 _ t2 sb1 ⟨S1, el, hb, hf, hl, fun _ => hp, nd⟩ (List.Perm.refl _))
theorem add_str {u : List Nat} {tk : Tok} {Q : Bool → Shared → Prop} (S : SetS prog w s.heap D es ep t) (hroom : es.size + 1 < scanBound)
    (h : ∀ b h' es' ep' t', Heap.SameBut D s.heap h' → SetS prog w h' D es' ep' t' → Added u es es' → Q b { s with heap := h', toks := s.toks + 1 }) :
    wpAny (model prog w) A (setAdd D (.str ⟨u.toArray⟩ tk)) Q E s := by
  have hkey : (_root_.PySem.strKind prog w).is ⟨u.toArray⟩ (.str ⟨u.toArray⟩ tk) = true := str_is _ _
  have hsc : (Value.str ⟨u.toArray⟩ tk).scannable = true := rfl
  unfold setAdd
  refine wpAny_holding (wpAny_bind ((_root_.PySem.strKind prog w).pyHash hkey ?_))
  unfold setAddHashed setAddHashedIn
  refine wpAny_holding (wpAny_bind (wpAny_setState_of (s := { s with toks := s.toks + 1 }) S.at_ rfl S.fit ?_))
  dsimp only
  rw [byScan_of hsc S.sz S.el, if_pos rfl]
  unfold setAddByScan
  refine wpAny_bind (wpAny_bind (wpAny_rule (wpAny_bind (wpAny_setScan_of (s := { s with toks := s.toks + 1 }) hkey S.at_ rfl S.fit S.el ?_))))
  cases hr : List.findIdx? (fun e => (_root_.PySem.strKind prog w).is ⟨u.toArray⟩ e.2) es.toList with
  | some j =>
    dsimp only
    obtain ⟨hj, hpj, _⟩ := List.findIdx?_eq_some_iff_getElem.mp hr
    have hm : u ∈ keysIn es := List.mem_map.mpr ⟨es.toList[j], List.getElem_mem hj, key_of hpj⟩
    exact wpAny_pure (wpAny_pure (h false s.heap es ep t (Heap.SameBut.refl D s.heap) S ⟨fun v => ⟨.inl, fun q => q.elim id fun q => q ▸ hm⟩, Nat.le_succ _⟩))
  | none =>
    dsimp only
    have hm : u ∉ keysIn es := fun hm => by
      obtain ⟨e, he, hq⟩ := List.mem_map.mp hm
      obtain ⟨⟨k, hk, _⟩, _⟩ := S.el e he
      have hku : k = ⟨u.toArray⟩ := str_eq ((key_of hk).symm.trans hq)
      exact nomatch (hku ▸ hk).symm.trans (List.findIdx?_eq_none_iff.mp hr e he)
    have hperm := layNew_perm t es ((_root_.PySem.strKind prog w).hash ⟨u.toArray⟩) (.str ⟨u.toArray⟩ tk)
    have hfits := layNew_fits t es ((_root_.PySem.strKind prog w).hash ⟨u.toArray⟩) (.str ⟨u.toArray⟩ tk)
    have hfl := lay_flags t es ((_root_.PySem.strKind prog w).hash ⟨u.toArray⟩) (.str ⟨u.toArray⟩ tk)
    revert hperm hfits hfl
    generalize layNew t es ((_root_.PySem.strKind prog w).hash ⟨u.toArray⟩) (.str ⟨u.toArray⟩ tk) = L
    obtain ⟨es1, t1, wasDummy, gave⟩ := L
    intro hperm hfits hfl
    dsimp only at hperm hfits hfl ⊢
    rw [Array.toList_push] at hperm
    have hk1 : (keysIn es1).Perm (keysIn es ++ [u]) := by
      have := hperm.map (fun e : Int × Value => cpsOf e.2)
      rw [List.map_append] at this
      exact this
    have nd1 : (keysIn es1).Nodup := hk1.nodup_iff.mpr (List.nodup_append.mpr ⟨S.nd, List.nodup_cons.mpr ⟨List.not_mem_nil, List.nodup_nil⟩, fun a ha b hb q => hm ((List.mem_singleton.mp hb ▸ q) ▸ ha)⟩)
    have hsz : es1.size = es.size + 1 := by rw [← keys_size, hk1.length_eq, List.length_append, keys_size]; rfl
    have hel1 : ElemsOf (_root_.PySem.strKind prog w) es1.toList := (S.el.push hkey hsc).perm hperm
    have hgw : ∀ (b : Bool) (s₁ : Shared) (Q' : Unit → Shared → Prop), Q' () s₁ → wpAny (model prog w) A (match b with | true => rule "set.scan.the-table-gave-way" | false => pure ()) Q' E s₁ :=
      fun b s₁ Q' hq => by cases b <;> first | exact wpAny_pure hq | exact wpAny_rule hq
    refine wpAny_bind (hgw _ _ _ ?_)
    have fin : ∀ h' es' ep' t', Heap.SameBut D s.heap h' → SetS prog w h' D es' ep' t' → (keysIn es').Perm (keysIn es1) → Q true { s with heap := h', toks := s.toks + 1 } := fun h' es' ep' t' sb S' p =>
      h true h' es' ep' t' sb S' ⟨fun v => by rw [p.mem_iff, hk1.mem_iff, List.mem_append, List.mem_singleton], by rw [← keys_size es', p.length_eq, keys_size, hsz]; exact Nat.le_refl _⟩
    by_cases hp : t1.plain = true
    · rw [if_pos hp]
      refine wpAny_bind ?_
      rw [hashByValue_scannable 8 hsc]
      refine wpAny_pure ?_
      rw [show plainKind (.str ⟨u.toArray⟩ tk) = false from rfl, if_neg Bool.false_ne_true]
      exact add_tail (s := { s with toks := s.toks + 1 }) hgw S.at_ hel1 (hsz ▸ hroom) (SetTable.fits_plain_off hfits) (hfl.1.trans S.led) rfl nd1 fun h' es' ep' t' sb S' p => wpAny_pure (fin h' es' ep' t' sb S' p)
    · rw [if_neg hp]
      refine wpAny_bind (wpAny_pure ?_)
      rw [if_pos rfl]
      exact add_tail (s := { s with toks := s.toks + 1 }) hgw S.at_ hel1 (hsz ▸ hroom) hfits (hfl.1.trans S.led) (Bool.eq_false_iff.mpr hp) nd1 fun h' es' ep' t' sb S' p => wpAny_pure (fin h' es' ep' t' sb S' p)
end
end Mine
end
noncomputable section
namespace Mine
open Builtin
section
variable {prog : Program} {w : World} {A : Around} {E : Value → Shared → Prop} {s : Shared} {R : Result → Shared → Prop} {I D : Addr} {fp wr : List Addr} {G : Array GenState → Array GenState → Prop} {n : Nat} {P : Nat → Value → Prop} {St : Nat → Shared → Prop}
theorem set_fill (W : WalksS prog w A.in1 I fp wr G n P St) (hSf : D ∉ fp) {ts : List (List Nat)} (hn : ts.length = n) (hval : ∀ i v u, P i v → ts[i]? = some u → ∃ t, v = .str ⟨u.toArray⟩ t) (hb : n + 1 < scanBound) :
    ∀ (k i : Nat) (s : Shared) (es : Array (Int × Value)) (ep : Nat) (t : SetTable), n - i = k → i ≤ n → St i s → SetS prog w s.heap D es ep t → (∀ v, v ∈ keysIn es ↔ v ∈ ts.take i) → es.size ≤ i →
      (∀ s' es' ep' t', Moved (D :: wr) G s s' → SetS prog w s'.heap D es' ep' t' → (∀ v, v ∈ keysIn es' ↔ v ∈ ts) → es'.size ≤ n → R (.ok (.ret .none)) s') →
      codeAny (model prog w) A (.builtin "set.update.loop" ⟨[.ref D, .ref I], []⟩) R s := by
  have hSw : D ∉ wr := fun h => hSf (W.sub _ h)
  have hsub : ∀ b ∈ wr, b ∈ D :: wr := fun b hb => List.mem_cons_of_mem _ hb
  intro k
  induction k with
  | zero =>
    intro i s es ep t hk hi hst S hm hsz hR
    have hin : i = n := by omega
    subst hin
    refine codeAny_builtin F.entry_set_update_loop ?_
    rw [Around.under_plainId F.plain_set_update_loop _]
    show wpAny _ A.in1 (pyNext (.ref I) >>= _) _ _ s
    refine wpAny_bind (W.done s _ _ hst fun s' mv => ?_)
    show wpAny _ A.in1 (ret Value.none) _ _ s'
    rw [List.take_of_length_le (Nat.le_of_eq hn)] at hm
    exact wpAny_pure (hR s' es ep t (mv.mono hsub) (S.to fun o => mv.heap D o hSw) hm hsz)
  | succ k ih =>
    intro i s es ep t hk hi hst S hm hsz hR
    have hlt : i < n := by omega
    have hu : ts[i]? = some (ts[i]'(hn ▸ hlt)) := List.getElem?_eq_getElem (hn ▸ hlt)
    refine codeAny_builtin F.entry_set_update_loop ?_
    rw [Around.under_plainId F.plain_set_update_loop _]
    show wpAny _ A.in1 (pyNext (.ref I) >>= _) _ _ s
    refine wpAny_bind (W.item i s _ _ hlt hst fun v s' hP hst' mv => ?_)
    obtain ⟨tk, rfl⟩ := hval i v _ hP hu
    have S1 : SetS prog w s'.heap D es ep t := S.to fun o => mv.heap D o hSw
    show wpAny _ A.in1 (holding [_] (setAdd D _) >>= _) _ _ s'
    refine wpAny_bind (wpAny_holding (add_str S1 (by omega) fun b h' es' ep' t' sb S2 ad => ?_))
    refine wpAny_pure ⟨plainId_quiet F.plain_set_update_loop _, ih (i + 1) _ es' ep' t' (by omega) hlt (W.frame _ s' _ _ hst' (Nat.le_succ _) fun b hb o e => sb.extBut b o (fun h => hSf (h ▸ hb)) e) S2 (fun v => ?_) (Nat.le_trans ad.2 (Nat.succ_le_succ hsz)) fun s'' es2 ep2 t2 mv2 => hR s'' es2 ep2 t2 (Moved.trans W.gtrans ((mv.mono hsub).then_heap (Nat.le_succ _) fun b o hb e => sb.extBut b o (fun h => hb (h ▸ List.mem_cons_self)) e) mv2)⟩
    rw [ad.1, hm, List.take_succ_eq_append_getElem (hn ▸ hlt), List.mem_append, List.mem_singleton]
def emptySet (led : Bool) : Obj := { cls := .type "set", dict := none, data := .set #[] 0 (.fresh 0 0 led) }
theorem set_new (a : Value) {Q₁ : Value → Shared → Prop} (h : Q₁ (.ref s.heap.objs.size) { s with heap := s.heap.push (emptySet (ledOf w)) }) :
    codeAny (model prog w) A (.call (.builtin "set.__new__") ⟨[.type "set", a], []⟩) (wants Q₁ E) s := by
  refine codeAny_of_tree ?_
  show wpAny _ A.in1 (do checkBuiltinCall "set.__new__" ⟨[.type "set", a], []⟩; again (.builtin "set.__new__" ⟨[.type "set", a], []⟩)) _ _ s
  refine wpAny_bind (wpAny_of_eq (F.newCall_set_1 a) (wpAny_pure ⟨plainId_quiet F.plain_set_new _, codeAny_builtin F.entry_set_new ?_⟩))
  rw [Around.under_plainId F.plain_set_new _]
  unfold Builtin.«set.__new__» Builtin.Frozenset.newClass
  have hsub := sub_set_self
  obtain ⟨hp, g, d, tk, os⟩ := s
  dsimp only
  wp_walk
  refine wpAny_askSetting (wpAny_pure ?_)
  dsimp only
  simp only [newObj]
  exact wpAny_bind (wpAny_alloc (wpAny_pure (wpAny_pure h)))
theorem set_empty {h : Heap} (hS : h.get? D = some (emptySet (ledOf w))) : SetS prog w h D #[] 0 (.fresh 0 0 (ledOf w)) :=
  ⟨hS, fun e he => (nomatch he), by decide, by cases ledOf w <;> rfl, rfl, fun h => absurd rfl h, .nil⟩
set_option maxRecDepth 100000 in
set_option maxHeartbeats 3200000 in
theorem call_set {l : Addr} {items : Array Value} {ts : List (List Nat)} {Q : Value → Shared → Prop} (hh : A.handled = none) (hl : s.heap.IsList l items) (hi : TxtsAre items.toList (ts.map fun t => (false, t))) (hb : ts.length + 1 < scanBound)
    (h : ∀ (h' : Heap) (tk : Nat) es ep t, SetS prog w h' s.heap.objs.size es ep t → (∀ v, v ∈ keysIn es ↔ v ∈ ts) → es.size ≤ ts.length → (∀ b o, s.heap.get? b = some o → h'.get? b = some o) → Q (.ref s.heap.objs.size) { s with heap := h', toks := tk }) :
    wpAny (model prog w) A (call (.type "set") [.ref l]) Q E s := by
  obtain ⟨c, tl, hmro⟩ := F.called_set.mro
  have hmade := F.called_set.made
  have hsub := F.called_set.sub
  refine wpAny_call (codeAny_of_tree ?_)
  show wpAny _ _ (callAny (.type "set") _) _ _ _
  refine wpAny_pure ⟨Code.quiet_builtin _ (by decide +kernel), codeAny_builtin F.entry_type_call ?_⟩
  rw [Around.under_plain (weight_type_call_type "set" [.ref l] []) rfl]
  have h1 := F.called_set.notType
  have h2 := F.called_set.canCreate
  have hct := F.typeCall_set_1 (.ref l)
  repeat (any_goals (first | assumption | wp_step))
  refine codeAny_mono (set_new (.ref l) (E := E) (Q₁ := fun obj s₁ => obj = .ref s.heap.objs.size ∧ s₁ = { s with heap := s.heap.push (emptySet (ledOf w)) }) ⟨rfl, rfl⟩) fun r s₁ hr => ?_
  cases r with
  | error e => exact hr
  | ok fl =>
    cases fl with
    | ret obj =>
      obtain ⟨rfl, rfl⟩ := hr
      have hS : (s.heap.push (emptySet (ledOf w))).get? s.heap.objs.size = some (emptySet (ledOf w)) := Heap.get?_push_size _ rfl
      have hT : Shared.TypeIs { s with heap := s.heap.push (emptySet (ledOf w)) } (.ref s.heap.objs.size) "set" := ⟨_, hS, rfl⟩
      have hli := F.called_set.init.lookup
      have hbi := F.called_set.init.bind (.ref s.heap.objs.size)
      repeat (any_goals (first | assumption | wp_step))
      refine codeAny_mono (codeAny_call_builtin (R := wants (fun r s₂ => r = .none ∧ Q (.ref s.heap.objs.size) s₂) E) F.called_set.init.plain F.entry_set_init (check_set_init_1 hT ?_)) fun r₂ s₂ hr₂ => ?_
      · have hl1 := hl.push (emptySet (ledOf w))
        have hTl : Shared.TypeIs { s with heap := s.heap.push (emptySet (ledOf w)) } (.ref l) "list" := hl1.typeIs
        have hsls := F.sub_list_set
        have hslf := F.sub_list_frozenset
        have hne : (Value.type "list" == Value.type "dict") = false := by decide
        unfold Builtin.«set.__init__» noKeywords Builtin.Frozenset.updateFrom
        generalize hPI : pyIter = PI
        unfold emptySet at hS hT hTl ⊢
        wp_walk
        subst hPI
        have hlS : l < s.heap.objs.size := let ⟨_, e, _⟩ := hl; Heap.lt_size e
        have hsz : (s.heap.push (emptySet (ledOf w))).objs.size = s.heap.objs.size + 1 := Heap.size_push ..
        refine wpAny_pyIter_list hl1 (wpAny_bind (wpAny_runValue ?_))
        have hneI : l ≠ (s.heap.push (emptySet (ledOf w))).objs.size := by rw [hsz]; exact Nat.ne_of_lt (Nat.lt_succ_of_lt hlS)
        have hSf : s.heap.objs.size ∉ [(s.heap.push (emptySet (ledOf w))).objs.size, l] := by
          rw [hsz]; intro hm
          rcases List.mem_cons.mp hm with q | q
          · exact Nat.ne_of_lt (Nat.lt_succ_self _) q
          · exact Nat.ne_of_gt hlS (List.mem_singleton.mp q)
        have hlen : items.size = ts.length := by rw [← Array.length_toList, hi.1, List.length_map]
        refine set_fill (ts := ts) ((Walks.list (show A.in1.in1.in1.handled = none from hh) _ l hneI items).toS) hSf hlen.symm (fun i v u hv hu => ?_) (hlen ▸ hb) (items.size - 0) 0 _ #[] 0 _ rfl (Nat.zero_le _)
          ⟨⟨_, Heap.get?_push_size _ rfl, rfl, rfl⟩, (hl1.push _)⟩ (set_empty (Heap.get?_push_of_some _ hS)) (fun v => Iff.rfl) (Nat.le_refl _) ?_
        · have := hi.2 i v (false, u) (by rw [Array.getElem?_toList]; exact hv) (by rw [List.getElem?_map, hu]; rfl)
          cases (this : TxtIs v false u) with
          | str _ t => exact ⟨t, rfl⟩
        · intro s' es ep t mv S' hm hz
          obtain ⟨h', g', d', tk', os'⟩ := s'
          have eg : g' = s.gens := mv.gens
          have ed : d' = s.drawn := mv.drawn
          have eo : os' = s.os := mv.os
          subst eg; subst ed; subst eo
          refine wpAny_pure ?_
          show wpAny _ _ (ret Value.none) _ _ _
          refine wpAny_pure ⟨rfl, h h' tk' es ep t S' hm (hlen ▸ hz) fun b o e => ?_⟩
          have hb := Heap.lt_size e
          refine mv.heap b o (fun hm => ?_) (Heap.get?_push_of_some _ (Heap.get?_push_of_some _ e))
          rcases List.mem_cons.mp hm with q | q
          · exact Nat.ne_of_lt hb q
          · exact Nat.ne_of_lt (Nat.lt_succ_of_lt hb) ((List.mem_singleton.mp q).trans hsz)
      · cases r₂ with
        | error e => exact hr₂
        | ok fl₂ =>
          cases fl₂ with
          | ret r =>
            obtain ⟨rfl, hq⟩ := hr₂
            repeat (any_goals (first | assumption | wp_step))
          | _ => exact hr₂.elim
    | _ => exact hr.elim
end
end Mine
end
noncomputable section
namespace Mine
open Builtin
/-! ## the walk of a set of texts: some order of them -/
theorem erase_perm {α : Type} : ∀ {l : List α} {i : Nat} (h : i < l.length), (l[i] :: l.eraseIdx i).Perm l
  | a :: r, 0, _ => List.Perm.refl _
  | a :: r, i + 1, h => (List.Perm.swap a _ _).trans ((erase_perm (l := r) (i := i) (Nat.lt_of_succ_lt_succ h)).cons a)
theorem pick_go {α : Type} (next : Nat → Nat) : ∀ (n k : Nat) (left : List α) (out : Array α), left.length ≤ n → (pickOrder.go next n k left out).toList.Perm (out.toList ++ left) := by
  intro n
  induction n with
  | zero =>
    intro k left out h
    rw [List.eq_nil_of_length_eq_zero (Nat.le_zero.mp h), List.append_nil]
    exact List.Perm.refl _
  | succ n ih =>
    intro k left out h
    unfold pickOrder.go
    cases left with
    | nil => rw [List.append_nil]; exact List.Perm.refl _
    | cons a r =>
      have hi : next k % (a :: r).length < (a :: r).length := Nat.mod_lt _ (Nat.succ_pos _)
      rw [List.getElem?_eq_getElem hi]
      have h1 := ih (k + 1) ((a :: r).eraseIdx (next k % (a :: r).length)) (out.push (a :: r)[next k % (a :: r).length]) (by rw [List.length_eraseIdx_of_lt hi]; exact Nat.le_of_lt_succ (Nat.lt_of_lt_of_le (Nat.sub_lt (Nat.succ_pos _) Nat.one_pos) h))
      rw [Array.toList_push, List.append_assoc] at h1
      exact h1.trans ((erase_perm hi).append_left _)
theorem pick_perm {α : Type} (next : Nat → Nat) (xs : Array α) : (pickOrder next xs).toList.Perm xs.toList := pick_go next xs.size 0 xs.toList #[] (Nat.le_refl _)
section
variable {M : Model} {A : Around} {E : Value → Shared → Prop} {s : Shared}
theorem choose_one {src : Source} {n : Nat} {Q : Nat → Shared → Prop} (h0 : n ≠ 0) (h : ∀ i d, i < n → Q i { s with drawn := d }) : wpAny M A (choose src n) Q E s :=
  fun Γ p hΓ => (Sem.wp_choose M Γ _ _ p s src n _).mpr ⟨h0, h _ _ (Nat.mod_lt _ (Nat.pos_of_ne_zero h0))⟩
theorem draw_all {α : Type} : ∀ (n : Nat) (xs : List α) (s : Shared) {Q : List α → Shared → Prop}, xs.length ≤ n → (∀ ys d, ys.Perm xs → Q ys { s with drawn := d }) → wpAny M A (drawOrder n xs) Q E s := by
  intro n
  induction n with
  | zero =>
    intro xs s Q hn q
    rw [List.eq_nil_of_length_eq_zero (Nat.le_zero.mp hn)] at q ⊢
    exact wpAny_pure (q [] s.drawn (List.Perm.refl _))
  | succ n ih =>
    intro xs s Q hn q
    cases xs with
    | nil => exact wpAny_pure (q [] s.drawn (List.Perm.refl _))
    | cons a r =>
      refine wpAny_bind (m := choose .order (a :: r).length) (choose_one (Nat.succ_ne_zero _) fun i d hi => ?_)
      rw [List.getElem?_eq_getElem hi]
      refine wpAny_bind (ih ((a :: r).eraseIdx i) _ (by rw [List.length_eraseIdx_of_lt hi]; exact Nat.le_of_lt_succ (Nat.lt_of_lt_of_le (Nat.sub_lt (Nat.succ_pos _) Nat.one_pos) hn)) fun ys d2 hp => wpAny_pure (q _ d2 ((hp.cons _).trans (erase_perm hi))))
end
def valsIn (es : Array (Int × Value)) : List Value := es.toList.map (·.2)
def SetFs (h : Heap) (I D : Addr) (f : Value) (i n ep : Int) : Prop := h.get? I = some { cls := .type "set_iterator", data := .fields #[f, rawInt i, .ref D, rawInt n, rawInt ep] }
inductive How (w : World) (h : Heap) (D T : Addr) (es : Array (Int × Value)) (ep : Nat) (t : SetTable) (ord : List Value) : Nat → Value → Prop
  | text {i n : Nat} : w.params.followText "set-order" = true → ord = (pickOrder (w.params.setOrder D ep) es).toList.map (·.2) → How w h D T es ep t ord i (rawInt n)
  | drawn {i c : Nat} {js : List Nat} : w.params.followText "set-order" = false → h.get? T = some { cls := .type "tuple", data := .seq (js.map fun (j : Nat) => rawInt j).toArray c } → ord.length = js.length →
      (∀ k j : Nat, js[k]? = some j → ∃ e, es[j]? = some e ∧ ord[k]? = some e.2) → How w h D T es ep t ord i (.ref T)
  | none : w.params.followText "set-order" = false → es = #[] → ord = [] → How w h D T es ep t ord 0 (rawInt 0)
  | one0 {e : Int × Value} : w.params.followText "set-order" = false → es = #[e] → ord = [e.2] → How w h D T es ep t ord 0 (rawInt 0)
  | one1 {e : Int × Value} {j : Nat} : w.params.followText "set-order" = false → es = #[e] → ord = [e.2] → t.place = #[j] → How w h D T es ep t ord 1 (rawInt ((j + 1 : Nat) : Int))
section
variable {prog : Program} {w : World} {A : Around} {E : Value → Shared → Prop} {s : Shared} {I D T : Addr} {es : Array (Int × Value)} {ep i : Nat} {t : SetTable} {f : Value} {ord : List Value}
theorem How.to {h h' : Heap} (x : How w h D T es ep t ord i f) (e : ∀ o, h.get? T = some o → h'.get? T = some o) : How w h' D T es ep t ord i f := by
  cases x with
  | text a b => exact .text a b
  | drawn a b c d => exact .drawn a (e _ b) c d
  | none a b c => exact .none a b c
  | one0 a b c => exact .one0 a b c
  | one1 a b c d => exact .one1 a b c d
theorem by_text {Q : Bool → Shared → Prop} (h : Q (w.params.followText "set-order") s) : wpAny (model prog w) A setsByText Q E s := by
  unfold setsByText
  exact wpAny_bind (wpAny_askSetting (wpAny_pure h))
theorem led_of (S : SetS prog w s.heap D es ep t) (h : w.params.followText "set-order" = false) : t.led = true := by rw [S.led]; unfold ledOf; rw [h]; rfl
theorem walk_text {Q : Array (Int × Value) → Shared → Prop} (S : SetS prog w s.heap D es ep t) (hl : w.params.followText "set-order" = true) (h : Q (pickOrder (w.params.setOrder D ep) es) s) : wpAny (model prog w) A (setWalk D) Q E s := by
  unfold setWalk
  refine wpAny_bind (wpAny_setState_of S.at_ rfl S.fit (wpAny_bind (by_text ?_)))
  rw [if_pos hl]
  exact wpAny_bind (wpAny_askSetting (wpAny_pure h))
theorem next_text {n : Nat} {Q : Option (Value × Nat) → Shared → Prop} (S : SetS prog w s.heap D es ep t) (hl : w.params.followText "set-order" = true) (h : Q (((pickOrder (w.params.setOrder D ep) es)[i]?).map fun e => (e.2, n)) s) :
    wpAny (model prog w) A (setNext D n i ep) Q E s := by
  unfold setNext
  refine wpAny_bind (wpAny_setState_of S.at_ rfl S.fit (wpAny_bind (by_text ?_)))
  rw [if_pos hl, if_neg (by rw [bne_self_eq_false]; exact Bool.false_ne_true)]
  show wpAny _ _ (setWalk D >>= _) _ _ _
  exact wpAny_bind (walk_text S hl (wpAny_pure h))
theorem next_plain {n : Nat} {Q : Option (Value × Nat) → Shared → Prop} (S : SetS prog w s.heap D es ep t) (hl : w.params.followText "set-order" = false) (hs : es.size ≤ 1) (h : Q (match es[SetTable.below t.place n]?, t.place[SetTable.below t.place n]? with | some (_, x), some j => some (x, j + 1) | _, _ => none) s) :
    wpAny (model prog w) A (setNext D n i ep) Q E s := by
  have hled := led_of S hl
  unfold setNext
  refine wpAny_bind (wpAny_setState_of S.at_ rfl S.fit (wpAny_bind (by_text ?_)))
  rw [if_neg (by rw [hl]; exact Bool.false_ne_true)]
  obtain ⟨mask, place, dummies, finger, led, moves, plain⟩ := t
  cases (show led = true from hled)
  have hd : (!plain && decide (es.size > 1)) = false := by rw [decide_eq_false (Nat.not_lt.mpr hs), Bool.and_false]
  show wpAny _ _ (if (!plain && decide (es.size > 1)) = true then _ else _) _ _ _
  rw [hd, if_neg Bool.false_ne_true]
  exact wpAny_bind (wpAny_pure (wpAny_pure h))
theorem below_one_le {j n : Nat} (h : n ≤ j) : SetTable.below #[j] n = 0 := by
  unfold SetTable.below
  show SetTable.below.go #[j] n 1 0 1 = 0
  unfold SetTable.below.go
  rw [if_pos (by decide)]
  show (if j < n then _ else _) = 0
  rw [if_neg (Nat.not_lt.mpr h)]; rfl
theorem below_one_gt {j n : Nat} (h : j < n) : SetTable.below #[j] n = 1 := by
  unfold SetTable.below
  show SetTable.below.go #[j] n 1 0 1 = 1
  unfold SetTable.below.go
  rw [if_pos (by decide)]
  show (if j < n then _ else _) = 1
  rw [if_pos h]; rfl
theorem arr_one {α : Type} {a : Array α} (h : a.size = 1) : ∃ x, a = #[x] := by
  obtain ⟨l⟩ := a
  cases l with
  | nil => exact nomatch h
  | cons x r => cases r with
    | nil => exact ⟨x, rfl⟩
    | cons _ _ => exact nomatch Nat.succ.inj h
/-- an item -/
theorem set_item (S : SetS prog w s.heap D es ep t) (hI : SetFs s.heap I D f i es.size ep) (hw : How w s.heap D T es ep t ord i f) (hID : D ≠ I) (hIT : T ≠ I) {v : Value} (hv : ord[i]? = some v) {Q : Option Value → Shared → Prop}
    (h : ∀ h' f', SetFs h' I D f' ((i + 1 : Nat) : Int) es.size ep → How w h' D T es ep t ord (i + 1) f' → Heap.SameBut I s.heap h' → Q (some v) { s with heap := h' }) :
    wpAny (model prog w) A (pyNext (.ref I)) Q E s := by
  have hT : s.TypeIs (.ref I) "set_iterator" := ⟨_, hI, rfl⟩
  unfold pyNext
  refine wpAny_bind (wpAny_attempt (wpAny_callSpecial?_slot (name := Str.ofString "__next__") hT slot_setiter_next (wpAny_call_entry slot_setiter_next hT entry_setiter_next ?_ (args_setiter_next _))))
  unfold Builtin.«set_iterator.__next__»
  refine wpAny_bind (m := slotArgs _ _ _) (wpAny_pure ?_)
  refine wpAny_bind (wpAny_fieldsOf hI rfl ?_)
  dsimp only
  refine wpAny_bind (wpAny_setEntries_of S.at_ rfl S.fit ?_)
  rw [if_neg (show ¬ (((es.size : Nat) : Int) != ((es.size : Nat) : Int)) = true by rw [bne_self_eq_false]; exact Bool.false_ne_true)]
  have two : ∀ n : Nat, (∀ h', h'.get? T = s.heap.get? T → How w h' D T es ep t ord (i + 1) (rawInt (n : Int))) → ∀ {f0 : Value}, SetFs s.heap I D f0 i es.size ep → wpAny (model prog w) A.in1 (do
      setField (.ref I) 0 (rawInt (n : Int))
      setField (.ref I) 1 (rawInt ((i : Int) + 1))
      ret v) (fun fin s' => ∃ r, fin = .done (.ret r) ∧ wpAny (model prog w) A (pure (some r)) Q E s') (fun e s' => wpAny (model prog w) A (do if ← isInstance e (.type "StopIteration") then pure none else throw e) Q E s') s := fun n hn f0 hI0 =>
    wpAny_bind (wpAny_setField_rec hI0 (by simp) fun h1 he1 hs1 => wpAny_bind (wpAny_setField_rec (s := { s with heap := h1 }) he1 (by simp) fun h2 he2 hs2 => wpAny_pure ⟨_, rfl, wpAny_pure (h h2 _ he2 (hn h2 ((hs1.trans hs2).2 T hIT)) (hs1.trans hs2))⟩))
  cases hw with
  | @text i n hl ho =>
    try dsimp only
    refine wpAny_bind (next_text (i := i) (n := n) S hl ?_)
    have hx : ∃ e, (pickOrder (w.params.setOrder D ep) es)[i]? = some e ∧ e.2 = v := by
      rw [ho, List.getElem?_map, Array.getElem?_toList] at hv
      cases q : (pickOrder (w.params.setOrder D ep) es)[i]? with
      | none => rw [q] at hv; exact nomatch hv
      | some e => rw [q] at hv; exact ⟨e, rfl, Option.some.inj hv⟩
    obtain ⟨e, he, rfl⟩ := hx
    have he' : (pickOrder (w.params.setOrder D ((ep : Int).toNat)) es)[i]? = some e := he
    rw [he']
    exact two n (fun h' _ => .text hl ho) hI
  | @drawn i c js hl hT' hlen hjs =>
    dsimp only
    refine wpAny_bind (wpAny_seqItems hT' rfl ?_)
    dsimp only
    have hlt : i < js.length := hlen ▸ (List.getElem?_eq_some_iff.mp hv).1
    have hj := List.getElem?_eq_getElem hlt
    obtain ⟨e, he, hoe⟩ := hjs i _ hj
    have hve : e.2 = v := Option.some.inj (hoe.symm.trans hv)
    have hp : (js.map fun (j : Nat) => rawInt j).toArray[((i : Nat) : Int).toNat]? = some (rawInt ((js[i] : Nat) : Int)) := by
      rw [Int.toNat_natCast, List.getElem?_toArray, List.getElem?_map, hj]; rfl
    rw [hp]
    show wpAny _ _ (setNextDrawn D js[i] ep >>= _) _ _ _
    unfold setNextDrawn
    refine wpAny_bind (wpAny_bind (wpAny_setState_of S.at_ rfl S.fit ?_))
    dsimp only
    rw [if_neg (show ¬ (ep != ep) = true by rw [bne_self_eq_false]; exact Bool.false_ne_true), he]
    obtain ⟨e1, e2⟩ := e
    cases hve
    refine wpAny_pure (wpAny_bind (wpAny_setField_rec hI (by simp) fun h1 he1 hs1 => wpAny_pure ⟨_, rfl, wpAny_pure (h h1 _ he1 (.drawn hl ((hs1.2 T hIT).trans hT') hlen hjs) hs1)⟩))
  | none hl hes ho => rw [ho] at hv; exact nomatch hv
  | @one0 e hl hes ho =>
    try dsimp only
    have hes' : es.size = 1 := by rw [hes]; rfl
    have hpl : t.place.size = 1 := by
      have := S.fit
      unfold SetTable.fits at this
      rw [hes'] at this
      exact eq_of_beq (Bool.and_eq_true_iff.mp this).1
    obtain ⟨j, hj⟩ := arr_one hpl
    refine wpAny_bind (next_plain (n := 0) (i := 0) S hl (Nat.le_of_eq hes') ?_)
    rw [hj, below_one_le (Nat.zero_le _), hes]
    rw [ho] at hv
    cases Option.some.inj hv
    exact two (j + 1) (fun h' _ => .one1 hl hes ho hj) hI
  | @one1 e j hl hes ho hj => rw [ho] at hv; exact nomatch hv
/-- the end -/
theorem set_end (hh : A.handled = none) (S : SetS prog w s.heap D es ep t) (hI : SetFs s.heap I D f i es.size ep) (hw : How w s.heap D T es ep t ord i f) (hv : ord[i]? = none) {Q : Option Value → Shared → Prop}
    (h : ∀ h', Heap.ExtBut I s.heap h' → Q none { s with heap := h' }) :
    wpAny (model prog w) A (pyNext (.ref I)) Q E s := by
  have hT : s.TypeIs (.ref I) "set_iterator" := ⟨_, hI, rfl⟩
  unfold pyNext
  refine wpAny_bind (wpAny_attempt (wpAny_callSpecial?_slot (name := Str.ofString "__next__") hT slot_setiter_next (wpAny_call_entry slot_setiter_next hT entry_setiter_next ?_ (args_setiter_next _))))
  unfold Builtin.«set_iterator.__next__»
  refine wpAny_bind (m := slotArgs _ _ _) (wpAny_pure ?_)
  refine wpAny_bind (wpAny_fieldsOf hI rfl ?_)
  dsimp only
  refine wpAny_bind (wpAny_setEntries_of S.at_ rfl S.fit ?_)
  rw [if_neg (show ¬ (((es.size : Nat) : Int) != ((es.size : Nat) : Int)) = true by rw [bne_self_eq_false]; exact Bool.false_ne_true)]
  have stop : ∀ {h1 : Heap} {P : Fin → Shared → Prop}, Heap.SameBut I s.heap h1 → wpAny (model prog w) A.in1 (do raiseNew (← newExc (.type "StopIteration") [])) P (fun e s' => wpAny (model prog w) A (do if ← isInstance e (.type "StopIteration") then pure none else throw e) Q E s') { s with heap := h1 } := by
    intro h1 P hs1
    show wpAny _ _ (newExc (.type "StopIteration") [] >>= _) _ _ _
    refine wpAny_bind ?_
    simp only [newExc, newTuple]
    refine wpAny_bind (wpAny_newObj_type ?_ (by size_fits))
    refine wpAny_bind (m := firstArgMember _ _) (wpAny_of_eq (a := Value.none) (by first | rfl | (simp only [firstArgMember]; rfl)) ?_)
    refine wpAny_newObj_type ?_ (by size_fits)
    simp only [raiseNew]
    refine wpAny_bind (wpAny_handled ?_)
    rw [show A.in1.handled = none from hh]
    refine wpAny_bind (wpAny_pure (wpAny_throw ?_))
    refine wpAny_bind (wpAny_isInstance (T := "StopIteration") (b := true) ⟨_, Heap.get?_push_size _ rfl, rfl⟩ isSubtype_stop ?_)
    exact wpAny_pure (h _ ((hs1.extBut.push _).push _))
  have one : ∀ {f0 : Value} {P : Fin → Shared → Prop}, SetFs s.heap I D f0 i es.size ep → wpAny (model prog w) A.in1 (do setField (.ref I) 2 .none; raiseNew (← newExc (.type "StopIteration") [])) P (fun e s' => wpAny (model prog w) A (do if ← isInstance e (.type "StopIteration") then pure none else throw e) Q E s') s :=
    fun hI0 => wpAny_bind (wpAny_setField_rec hI0 (by simp) fun h1 he1 hs1 => stop hs1)
  cases hw with
  | @text i n hl ho =>
    try dsimp only
    refine wpAny_bind (next_text (i := i) (n := n) S hl ?_)
    have hx : (pickOrder (w.params.setOrder D ep) es)[i]? = none := by
      rw [ho, List.getElem?_map, Array.getElem?_toList] at hv
      cases q : (pickOrder (w.params.setOrder D ep) es)[i]? with
      | none => rfl
      | some e => rw [q] at hv; exact nomatch hv
    have hx' : (pickOrder (w.params.setOrder D ((ep : Int).toNat)) es)[i]? = none := hx
    rw [hx']
    exact one hI
  | @drawn i c js hl hT' hlen hjs =>
    dsimp only
    refine wpAny_bind (wpAny_seqItems hT' rfl ?_)
    dsimp only
    have hp : (js.map fun (j : Nat) => rawInt j).toArray[((i : Nat) : Int).toNat]? = none := by
      rw [Int.toNat_natCast, List.getElem?_toArray, List.getElem?_map, List.getElem?_eq_none (hlen ▸ List.getElem?_eq_none_iff.mp hv)]; rfl
    rw [hp]
    exact wpAny_bind (wpAny_setField_rec hI (by simp) fun h1 he1 hs1 => wpAny_bind (wpAny_setField_rec (s := { s with heap := h1 }) he1 (by simp) fun h2 he2 hs2 => stop (hs1.trans hs2)))
  | none hl hes ho =>
    try dsimp only
    refine wpAny_bind (next_plain (n := 0) (i := 0) S hl (by rw [hes]; exact Nat.zero_le _) ?_)
    rw [hes, show (#[] : Array (Int × Value))[SetTable.below t.place 0]? = none from rfl]
    exact one hI
  | @one0 e hl hes ho => rw [ho] at hv; exact nomatch hv
  | @one1 e j hl hes ho hj =>
    try dsimp only
    refine wpAny_bind (next_plain (n := j + 1) (i := 1) S hl (by rw [hes]; exact Nat.le_refl _) ?_)
    rw [hj, below_one_gt (Nat.lt_succ_self j), hes]
    exact one hI
end
end Mine
end
noncomputable section
namespace Mine
open Builtin
theorem slot_setiter_iter : Slot "set_iterator" "__iter__" "set_iterator.__iter__" :=
  .of (owner := "set_iterator") (n := "__iter__") (by rw [typeLookup_type, builtinLookup_eq_fast]; kernel_rfl) (by decide +kernel) (by decide +kernel) (by decide +kernel) (.inl (by decide +kernel)) (by rw [isSubtype_type]; kernel_rfl)
theorem entry_setiter_iter : entryFor table "set_iterator.__iter__" = some Builtin.«dict_keyiterator.__iter__» :=
  entryFor_alias (id' := "dict_keyiterator.__iter__") (by kernel_rfl) (by first | rfl | decide +kernel) (by decide +kernel) (by kernel_rfl)
theorem args_setiter_iter (a : Value) : argsOk "set_iterator.__iter__" ⟨[a], []⟩ := by unfold argsOk; kernel_rfl
section
variable {prog : Program} {w : World} {A : Around} {E : Value → Shared → Prop} {s : Shared} {I D T : Addr} {es : Array (Int × Value)} {ep i : Nat} {t : SetTable} {f : Value} {ord : List Value}
def SetSt (prog : Program) (w : World) (I D T : Addr) (es : Array (Int × Value)) (ep : Nat) (t : SetTable) (ord : List Value) (i : Nat) (h : Heap) : Prop :=
  SetS prog w h D es ep t ∧ ∃ f, SetFs h I D f (i : Int) es.size ep ∧ How w h D T es ep t ord i f
theorem set_walks (hh : A.handled = none) (hID : D ≠ I) (hIT : T ≠ I) : Walks prog w A I [I, D, T] [I] ord.length (fun i v => ord[i]? = some v) (SetSt prog w I D T es ep t ord) where
  sub := fun b hb => List.mem_singleton.mp hb ▸ .head _
  frame := fun i h h' ⟨S, f, hf, hw⟩ k => ⟨S.to (k D (.tail _ (.head _))), f, k I (.head _) _ hf, hw.to (k T (.tail _ (.tail _ (.head _))))⟩
  item := fun i s Q E hi ⟨S, f, hf, hw⟩ q => set_item S hf hw hID hIT (List.getElem?_eq_getElem hi) fun h' f' hf' hw' sb =>
    q _ h' s.toks (List.getElem?_eq_getElem hi) ⟨S.to fun o => sb.extBut D o hID, f', hf', hw'⟩ fun b o hb => sb.extBut b o fun h => hb (h ▸ .head _)
  done := fun s Q E ⟨S, f, hf, hw⟩ q => set_end hh S hf hw (List.getElem?_eq_none (Nat.le_refl _)) fun h' he => q h' s.toks fun b o hb => he b o fun h => hb (h ▸ .head _)
  self := fun i s Q E ⟨S, f, hf, hw⟩ q => by
    have hT : s.TypeIs (.ref I) "set_iterator" := ⟨_, hf, rfl⟩
    refine wpAny_pyIter_slot hT slot_setiter_iter (wpAny_call_entry slot_setiter_iter hT entry_setiter_iter ?_ (args_setiter_iter _))
    show wpAny _ _ (ret (.ref I)) _ _ s
    exact wpAny_pure ⟨_, rfl, "set_iterator", _, hT, slot_setiter_next.lookup, q⟩
theorem perm_vals {js : List Nat} (hp : js.Perm (List.range es.size)) : (js.map fun j => (es[j]?.map (·.2)).getD .none).Perm (valsIn es) := by
  have h1 := hp.map fun j => (es[j]?.map (·.2)).getD Value.none
  refine h1.trans (List.Perm.of_eq ?_)
  unfold valsIn
  refine List.ext_getElem (by rw [List.length_map, List.length_range, List.length_map, Array.length_toList]) fun i h1 h2 => ?_
  rw [List.length_map, List.length_range] at h1
  rw [List.getElem_map, List.getElem_range, List.getElem_map, Array.getElem_toList, Array.getElem?_eq_getElem h1]
  rfl
/-- the iterator, in some order of the set -/
theorem set_iter (S : SetS prog w s.heap D es ep t) {Q : Value → Shared → Prop}
    (h : ∀ s' I T ord, Ext s s' → s.heap.get? I = none → T ≠ I → (T = D ∨ s.heap.get? T = none) → SetSt prog w I D T es ep t ord 0 s'.heap → ord.Perm (valsIn es) → Q (.ref I) s') :
    wpAny (model prog w) A (pyIter (.ref D)) Q E s := by
  have hT : s.TypeIs (.ref D) "set" := ⟨_, S.at_, rfl⟩
  refine wpAny_pyIter_slot hT F.slot_set_iter (wpAny_call_entry F.slot_set_iter hT entry_set_iter ?_ (F.args_set_iter_1 _))
  unfold Builtin.«frozenset.__iter__»
  refine wpAny_bind (m := Frozenset.slot0 _ _) (wpAny_pure ?_)
  refine wpAny_bind (m := Frozenset.sizeOf D) (wpAny_bind (wpAny_setEntries_of S.at_ rfl S.fit (wpAny_pure ?_)))
  have dr : ∀ {Q : Bool → Shared → Prop}, Q (!(w.params.followText "set-order") && (!t.plain && decide (es.size > 1))) s → wpAny (model prog w) A.in1 (setDrawn D) Q E s := fun {Q} q => by
    unfold setDrawn
    exact wpAny_bind (wpAny_setState_of S.at_ rfl S.fit (wpAny_bind (by_text (wpAny_pure q))))
  have fin : ∀ (s1 : Shared) (f : Value) (T : Addr) (ord : List Value), Ext s s1 → (T = D ∨ s.heap.get? T = none) → T ≠ s1.heap.objs.size → (∀ h', (∀ b o, s1.heap.get? b = some o → h'.get? b = some o) → How w h' D T es ep t ord 0 f) → ord.Perm (valsIn es) →
      wpAny (model prog w) A.in1 (do ret (← newFields "set_iterator" [f, rawInt 0, .ref D, rawInt (es.size : Int), rawInt ((← setEpoch D : Nat) : Int)])) (fun fin s' => ∃ v, fin = .done (.ret v) ∧ ∃ T' r, s'.TypeIs v T' ∧ typeLookup (.type T') "__next__" = pure (some r) ∧ Q v s') (fun e s' => E e s') s1 := by
    intro s1 f T ord ex hb1 hT1 hw hp
    have S1 : SetS prog w s1.heap D es ep t := S.to fun o => ex.keep D o
    refine wpAny_bind (wpAny_setEpoch_of S1.at_ rfl S1.fit (wpAny_bind (wpAny_newObj_type (wpAny_pure ⟨_, rfl, "set_iterator", _, ⟨_, Heap.get?_push_size _ rfl, rfl⟩, slot_setiter_next.lookup, ?_⟩))))
    have e2 := Ext.push s1 { cls := .type "set_iterator", data := .fields #[f, rawInt 0, .ref D, rawInt (es.size : Int), rawInt (ep : Int)] }
    exact h _ s1.heap.objs.size T ord (ex.trans e2) (ex.fresh (get_size _)) hT1 hb1 ⟨S1.to fun o => e2.keep D o, f, Heap.get?_push_size _ rfl, hw _ e2.keep⟩ hp
  have hD : D ≠ s.heap.objs.size := fun q => Nat.lt_irrefl _ (q ▸ Heap.lt_size S.at_ : s.heap.objs.size < s.heap.objs.size)
  refine wpAny_bind (dr ?_)
  cases hb : w.params.followText "set-order" with
  | true =>
    rw [Bool.not_true, Bool.false_and, if_neg Bool.false_ne_true]
    refine wpAny_bind (wpAny_pure ?_)
    exact fin s (rawInt (0 : Nat)) D _ (.refl s) (.inl rfl) hD (fun h' _ => .text hb rfl) ((pick_perm _ es).map (·.2))
  | false =>
    by_cases hn : es.size > 1
    · rw [S.pl (fun e => by rw [e] at hn; exact absurd hn (by decide)), decide_eq_true hn]
      dsimp only
      rw [if_pos (show (!false && (!false && true)) = true from rfl)]
      refine wpAny_bind (draw_all es.size (List.range es.size) s (Nat.le_of_eq List.length_range) fun js d hp => ?_)
      have hlen : js.length = es.size := by rw [hp.length_eq, List.length_range]
      refine wpAny_bind (wpAny_newTuple ?_ (by rw [List.length_map, hlen]; exact fits_of_scanBound S.sz))
      have ed : Ext s { s with drawn := d } := ⟨⟨rfl, rfl⟩, fun _ _ e => e⟩
      have e2 := Ext.push ({ s with drawn := d } : Shared) { cls := .type "tuple", data := .seq (js.map fun (j : Nat) => rawInt j).toArray }
      refine fin _ (.ref s.heap.objs.size) s.heap.objs.size (js.map fun j => (es[j]?.map (·.2)).getD .none) (ed.trans e2) (.inr (get_size _)) (by show _ ≠ (s.heap.push _).objs.size; rw [Heap.size_push]; exact Nat.ne_of_lt (Nat.lt_succ_self _)) (fun h' k => .drawn (c := 0) hb (k _ _ (Heap.get?_push_size _ rfl)) (by rw [List.length_map]) fun k j hj => ?_) (perm_vals hp)
      have hjl : j < es.size := by have := hp.mem_iff.mp (List.mem_of_getElem? hj); exact List.mem_range.mp this
      refine ⟨es[j], Array.getElem?_eq_getElem hjl, ?_⟩
      rw [List.getElem?_map, hj, Option.map_some, Array.getElem?_eq_getElem hjl]; rfl
    · rw [decide_eq_false hn, Bool.and_false, Bool.and_false, if_neg Bool.false_ne_true]
      refine wpAny_bind (wpAny_pure ?_)
      rcases Nat.lt_or_ge es.size 1 with h0 | h1
      · have he : es = #[] := Array.eq_empty_of_size_eq_zero (Nat.lt_one_iff.mp h0)
        refine fin s (rawInt 0) D [] (.refl s) (.inl rfl) hD (fun h' _ => .none hb he rfl) ?_
        rw [he]; exact List.Perm.refl _
      · obtain ⟨e, he⟩ := arr_one (Nat.le_antisymm (Nat.not_lt.mp hn) h1)
        refine fin s (rawInt 0) D [e.2] (.refl s) (.inl rfl) hD (fun h' _ => .one0 hb he rfl) ?_
        rw [he]; exact List.Perm.refl _
end
end Mine
end
noncomputable section
namespace Mine
open Builtin
section
variable {prog : Program} {w : World} {A : Around} {E : Value → Shared → Prop} {s : Shared} {D : Addr} {es : Array (Int × Value)} {ep : Nat} {t : SetTable}
abbrev newL : Obj := { cls := .type "list", data := .seq ([] : List Value).toArray }
theorem collect_set (hh : A.handled = none) (S : SetS prog w s.heap D es ep t) {Q : List Value → Shared → Prop} (q : ∀ s' vs, Ext s s' → vs.Perm (valsIn es) → Q vs s') :
    wpAny (model prog w) A (collect (.ref D)) Q E s := by
  unfold collect
  refine wpAny_bind (wpAny_runValue (codeAny_builtin F.entry_proto_collect ?_))
  rw [Around.under_plainId F.plain_proto_collect _]
  show wpAny _ A.in1 (newList [] >>= fun l => again (.builtin "list.__iadd__" ⟨[l, .ref D], []⟩)) _ _ s
  refine wpAny_bind (wpAny_newObj_type (wpAny_pure ⟨plainId_quiet F.plain_list_iadd _, codeAny_builtin F.entry_list_iadd ?_⟩))
  rw [Around.under_plainId F.plain_list_iadd _]
  have hfr : s.heap.get? s.heap.objs.size = none := get_size _
  have e1 : Ext s { s with heap := s.heap.push newL } := Ext.push s newL
  have S1 : SetS prog w (s.heap.push newL) D es ep t := S.to fun o => e1.keep D o
  have hS1 : (s.heap.push newL).get? s.heap.objs.size = some newL := Heap.get?_push_size _ rfl
  have hTs : ∀ {s' : Shared}, Ext { s with heap := s.heap.push newL } s' → s'.TypeIs (.ref D) "set" := fun e => ⟨_, e.keep _ _ S1.at_, rfl⟩
  have hSD : s.heap.objs.size ≠ D := fun q => Nat.lt_irrefl _ (q ▸ Heap.lt_size S.at_ : s.heap.objs.size < s.heap.objs.size)
  show wpAny _ A.in1 (Builtin.List.listExtendWith (.ref s.heap.objs.size) (.ref D) (.ref s.heap.objs.size)) _ _ _
  unfold Builtin.List.listExtendWith
  refine wpAny_bind (wpAny_typeOf (hTs (.refl _)) ?_)
  have t1 : Builtin.List.listSameRef (.ref s.heap.objs.size) (.ref D) = false := by simp [Builtin.List.listSameRef, hSD]
  have t2 : (Value.type "set" == Value.type "list") = false := by decide
  have t3 : (Value.type "set" == Value.type "tuple") = false := by decide
  simp only [t1, t2, t3, Bool.or_false, Bool.false_eq_true, if_false]
  refine wpAny_bind (set_iter (s := { s with heap := s.heap.push newL }) S1 fun s2 I T ord e2 hI hTI hTD hst hperm => wpAny_bind (wpAny_holding ?_))
  unfold Builtin.List.listLengthHint
  refine wpAny_bind (wpAny_specialOf (hTs e2) F.slot_set_len.lookup ?_)
  generalize hid : ("set.__len__" : String) = id0
  wp_delta
  rw [show splitId id0 = some ("set", "__len__") from by subst hid; decide +kernel]
  subst hid
  refine wpAny_bind (wpAny_isInstance (b := true) (hTs e2) sub_set_self ?_)
  show wpAny _ A.in1 (typeOf (Value.ref D) >>= _) _ _ _
  refine wpAny_bind (wpAny_typeOf (hTs e2) (wpAny_pure ?_))
  show wpAny _ A.in1 (rule "list.extend.makes-room" >>= fun _ => Builtin.List.listTouch (.ref s.heap.objs.size) >>= fun _ =>
    again (.builtin "list.extend.loop" ⟨[.ref s.heap.objs.size, .ref I, .ref s.heap.objs.size], []⟩)) _ _ _
  have hS2 : s2.heap.get? s.heap.objs.size = some newL := e2.keep _ _ hS1
  refine wpAny_bind (wpAny_rule (wpAny_bind ?_))
  show wpAny _ A.in1 (updateSeq s.heap.objs.size (·.push .none) >>= fun _ => updateSeq s.heap.objs.size (·.pop)) _ _ _
  refine wpAny_bind (wpAny_updateSeq hS2 rfl ?_)
  have hS3 := Heap.get?_update_self (Obj.mapSeq (·.push Value.none)) hS2 rfl
  refine wpAny_updateSeq hS3 rfl ?_
  have hS4 := Heap.get?_update_self (Obj.mapSeq (·.pop)) hS3 rfl
  have hD2 := hst.1.at_
  have hI2 : ∃ o, s2.heap.get? I = some o := let ⟨_, f, hf, _⟩ := hst; ⟨_, hf⟩
  have sI : s.heap.objs.size ≠ I := fun q => by rw [← q] at hI; exact nomatch hS1.symm.trans hI
  have hw := set_walks (prog := prog) (w := w) (A := A.in1) (I := I) (D := D) (T := T) (es := es) (ep := ep) (t := t) (ord := ord) hh (fun q => by rw [← q] at hI; exact nomatch S1.at_.symm.trans hI) hTI
  have oth : ∀ b o, b ≠ s.heap.objs.size → s2.heap.get? b = some o → ((s2.heap.update s.heap.objs.size (Obj.mapSeq (·.push Value.none))).update s.heap.objs.size (Obj.mapSeq (·.pop))).get? b = some o :=
    fun b o hb e => (Heap.get?_update_other _ _ (Ne.symm hb)).trans ((Heap.get?_update_other _ _ (Ne.symm hb)).trans e)
  have sT : T ≠ s.heap.objs.size := fun q => hTD.elim (fun h => hSD (q.symm.trans h)) fun h => by rw [q] at h; exact nomatch hS1.symm.trans h
  have stay : ∃ f, SetFs s2.heap I D f (0 : Nat) es.size ep ∧ How w s2.heap D T es ep t ord 0 f := hst.2
  obtain ⟨f, hf, hhow⟩ := stay
  have hst3 : SetSt prog w I D T es ep t ord 0 ((s2.heap.update s.heap.objs.size (Obj.mapSeq (·.push Value.none))).update s.heap.objs.size (Obj.mapSeq (·.pop))) := by
    refine ⟨hst.1.to fun o => oth D o (Ne.symm hSD), f, oth I _ (Ne.symm sI) hf, ?_⟩
    cases hhow with
    | text a b => exact .text a b
    | drawn a b c d => exact .drawn a (oth T _ sT b) c d
    | none a b c => exact .none a b c
    | one0 a b c => exact .one0 a b c
  have hperml := hperm.length_eq
  have hvl : (valsIn es).length = es.size := by unfold valsIn; rw [List.length_map, Array.length_toList]
  have hn : ord.length ≤ sizeLine := by rw [hperml, hvl]; exact fits_of_scanBound S.sz
  refine wpAny_pure ⟨plainId_quiet F.plain_extend_loop _, codeAny_extend_loopS (Walks.toS hw) hn s.heap.objs.size (fun hm => ?_) _ ord.length 0 _ _ _ rfl (Nat.zero_le _) hst3 hS4 (ItemsOf.nil _) fun s' acc' c' mv hS' hacc => ?_⟩
  · rcases List.mem_cons.mp hm with h | h
    · exact sI h
    · rcases List.mem_cons.mp h with h | h
      · exact hSD h
      · exact sT (List.mem_singleton.mp h).symm
  · show wpAny _ A (load s.heap.objs.size >>= _) _ _ s'
    have hIs : s.heap.get? I = none := e1.fresh hI
    have kp : ∀ b o, s.heap.get? b = some o → s'.heap.get? b = some o := fun b o e => by
      have nb : b ≠ s.heap.objs.size := Nat.ne_of_lt (Heap.lt_size e)
      refine mv.heap b o (fun hm => ?_) (oth b o nb (e2.keep b o (e1.keep b o e)))
      rcases List.mem_cons.mp hm with h | h
      · exact nb h
      · rw [List.mem_singleton.mp h] at e; exact nomatch hIs.symm.trans e
    have e' : acc'.toList = ord := List.ext_getElem (by rw [Array.length_toList]; exact hacc.1) fun j h1 h2 => by
      have : ord[j]? = some acc'[j] := hacc.2 j acc'[j] (Array.getElem?_eq_getElem _)
      rw [List.getElem?_eq_getElem h2] at this
      exact (Option.some.inj this).symm
    exact wpAny_bind (wpAny_load hS' (wpAny_pure (q s' _ ⟨(e1.trans e2).same.trans ⟨mv.gens, mv.os⟩, kp⟩ (e' ▸ hperm))))
theorem rep_strs' {h : Heap} {Ok : Addr → Prop} {vs : List Value} {ss : List Str} (r : StrsAre vs ss) : RepAll h Ok vs ((ss.map fun x => x.cps.toList).map (PV.txt false)) := by
  induction r with
  | nil => exact .nil
  | cons x t _ ih => exact .cons (by obtain ⟨⟨l⟩⟩ := x; exact .str l t) ih
theorem vals_strs (S : SetS prog w s.heap D es ep t) : ∀ v ∈ valsIn es, ∃ k tk, v = Value.str k tk := fun v hv => by
  obtain ⟨e, he, rfl⟩ := List.mem_map.mp hv
  obtain ⟨⟨k, hk, _⟩, _⟩ := S.el e he
  obtain ⟨tk, q⟩ := str_at hk
  exact ⟨k, tk, q⟩
theorem call_sorted (hh : A.handled = none) (S : SetS prog w s.heap D es ep t) (h64 : es.size < 64) {Q : Value → Shared → Prop}
    (q : ∀ s' a (out : Array Value) (us : List (List Nat)), Ext s s' → s.heap.get? a = none → s'.heap.PlainList a out → StrsAre out.toList (us.map fun u => ⟨u.toArray⟩) → us.Perm (keysIn es) → Q (.ref a) s') :
    wpAny (model prog w) A (call (.builtin "sorted") [.ref D]) Q E s := by
  refine Calls.call_function_entry PyProof.Rows.kind_sorted PyProof.Rows.plain_sorted PyProof.Rows.entry_sorted (PyProof.Rows.args_sorted1 _) ?_
  unfold Builtin.«sorted»
  refine wpAny_bind (m := checkCount "sorted" 1 1 _) (wpAny_pure (wpAny_bind (collect_set (A := A.in1) hh S fun s1 vs e1 hp => ?_)))
  have hvl : (valsIn es).length = es.size := by unfold valsIn; rw [List.length_map, Array.length_toList]
  have hvs : vs.length = es.size := by rw [hp.length_eq, hvl]
  have hS : StrsAre vs (vs.map PyProof.Rows.strOf) := PyProof.Rows.strsAre_map vs fun v hv => vals_strs S v (hp.mem_iff.mp hv)
  refine wpAny_bind (wpAny_newList ?_ (by rw [hvs]; exact fits_of_scanBound S.sz))
  have hoL : (s1.heap.push (PyProof.Rows.seqObj "list" vs.toArray 0)).get? s1.heap.objs.size = some (PyProof.Rows.seqObj "list" vs.toArray 0) := Heap.get?_push_size _ rfl
  refine wpAny_bind (wpAny_holding (wpAny_call_entry PyProof.Rows.slot_list_sort ⟨_, hoL, rfl⟩ PyProof.Rows.entry_list_sort (PyProof.Rows.list_sort_treeK PyProof.Rows.strKind_oneLt hoL hS.keysOf (fun v₁ v₂ rest e => PyProof.Rows.keyKind_strs (by rw [← e]; exact hS)) (by rw [hvs]; exact h64) fun st' hp2 hs2 => ⟨_, rfl, ?_⟩) (PyProof.Rows.args_list_sort _)))
  obtain ⟨ss', h1, h2, h3⟩ := PyProof.Rows.sorted_out_str hS hp2 hs2
  obtain ⟨c, hat⟩ := PyProof.Rows.sortedHeap_at (out := (PyProof.Rows.arrOf st').map (·.2)) hoL
  have e2 := Ext.push s1 (PyProof.Rows.seqObj "list" vs.toArray 0)
  refine wpAny_pure ⟨_, rfl, q _ _ _ (ss'.map fun x => x.cps.toList) (e1.trans ⟨⟨rfl, rfl⟩, fun b o hb => ?_⟩) (e1.fresh (get_size _)) ⟨c, hat⟩ ?_ ?_⟩
  · have hlt := Heap.lt_size hb
    rw [PyProof.Rows.sortedHeap_old (Nat.ne_of_lt hlt) (by rw [Heap.size_push]; exact Nat.lt_succ_of_lt hlt)]
    exact e2.keep b o hb
  · rw [List.map_map]
    have : ss'.map ((fun u : List Nat => (⟨u.toArray⟩ : Str)) ∘ fun x => x.cps.toList) = ss' := List.map_id'' (fun x => by cases x; rfl) ss'
    rw [this]; exact h1
  · refine (h2.map fun x => x.cps.toList).trans ?_
    rw [List.map_map]
    refine (hp.map _).trans (List.Perm.of_eq ?_)
    unfold valsIn keysIn
    rw [List.map_map]
    refine List.map_congr_left fun e he => ?_
    obtain ⟨⟨k, hk, _⟩, _⟩ := S.el e he
    obtain ⟨tk, hq⟩ := str_at hk
    show (PyProof.Rows.strOf e.2).cps.toList = cpsOf e.2
    rw [hq]; rfl
end
end Mine
end
noncomputable section
namespace Mine
open Builtin

/-! ## += on a list that a name owns -/
section
variable {ρ : List Slt} {i j : Nat} {a b : Slt}
theorem set_comm (h : i ≠ j) : setS (setS ρ i a) j b = setS (setS ρ j b) i a := by
  induction ρ generalizing i j with
  | nil => rfl
  | cons x r ih => cases i with
    | zero => cases j with
      | zero => exact absurd rfl h
      | succ j => rfl
    | succ i => cases j with
      | zero => rfl
      | succ j => exact congrArg (x :: ·) (ih fun e => h (congrArg (· + 1) e))
end
section
variable {C : Cx}
/-! ## a tuple of names takes the values of a tuple display, some of them lists made anew -/
inductive MIt (h : Heap) (Ok : Addr → Prop) : List Nat → List Value → List PV → List Addr → Prop
  | nil : MIt h Ok [] [] [] []
  | plain {v : Value} {x : PV} {os : List Nat} {vs : List Value} {xs : List PV} {as : List Addr} : Rep h Ok v x → MIt h Ok os vs xs as → MIt h Ok (0 :: os) (v :: vs) (x :: xs) as
  | own {a : Addr} {ws : List Value} {ys : List PV} {os : List Nat} {vs : List Value} {xs : List PV} {as : List Addr} : h.PlainList a ws.toArray → RepAll h Ok ws ys → MIt h Ok os vs xs as → MIt h Ok (1 :: os) (.ref a :: vs) (.list ys :: xs) (a :: as)
  | two {a : Addr} {bs : List Addr} {ys : List PV} {os : List Nat} {vs : List Value} {xs : List PV} {as : List Addr} : h.PlainList a (bs.map Value.ref).toArray → RowsRep h Ok bs ys → MIt h Ok os vs xs as → MIt h Ok (2 :: os) (.ref a :: vs) (.list ys :: xs) ((a :: bs) ++ as)
section
variable {h : Heap} {Ok Ok' : Addr → Prop} {os os' : List Nat} {vs vs' : List Value} {xs xs' : List PV} {as as' : List Addr} {s s' : Shared} {X : Addr → Prop}
theorem MIt.move (r : MIt s.heap Ok os vs xs as) (e : KeepBut X s s') (h1 : ∀ b, Ok b → SeqAt s.heap b → Ok' b ∧ ¬ X b) (h2 : ∀ b ∈ as, ¬ X b) : MIt s'.heap Ok' os vs xs as := by
  induction r with
  | nil => exact .nil
  | plain r _ ih => exact .plain (r.mono (e.moves h1)) (ih h2)
  | own q r _ ih => exact .own (q.at fun o => e.keep _ o (h2 _ (.head _))) (r.mono (e.moves h1)) (ih fun b hb => h2 b (.tail _ hb))
  | two q r _ ih => exact .two (q.at fun o => e.keep _ o (h2 _ (.head _))) (r.mono (e.moves h1) fun b hb o => e.keep b o (h2 b (.tail _ (List.mem_append_left _ hb)))) (ih fun b hb => h2 b (List.mem_append_right _ hb))
theorem MIt.append (r : MIt h Ok os vs xs as) (r' : MIt h Ok os' vs' xs' as') : MIt h Ok (os ++ os') (vs ++ vs') (xs ++ xs') (as ++ as') := by
  induction r with
  | nil => exact r'
  | plain r _ ih => exact .plain r ih
  | own q r _ ih => exact .own q r ih
  | two q r _ ih => exact List.append_assoc .. ▸ .two q r ih
theorem MIt.reverse (r : MIt h Ok os vs xs as) : ∃ as', MIt h Ok os.reverse vs.reverse xs.reverse as' ∧ as'.Perm as := by
  induction r with
  | nil => exact ⟨_, .nil, .nil⟩
  | plain r _ ih =>
    obtain ⟨as', ih, hp⟩ := ih
    rw [List.reverse_cons, List.reverse_cons, List.reverse_cons]; have h := ih.append (.plain r .nil); rw [List.append_nil] at h; exact ⟨_, h, hp⟩
  | own q r _ ih =>
    obtain ⟨as', ih, hp⟩ := ih
    rw [List.reverse_cons, List.reverse_cons, List.reverse_cons]; exact ⟨_, ih.append (.own q r .nil), List.perm_append_comm.trans (.cons _ hp)⟩
  | two q r _ ih =>
    obtain ⟨as', ih, hp⟩ := ih
    rw [List.reverse_cons, List.reverse_cons, List.reverse_cons]
    refine ⟨_, ih.append (.two q r .nil), ?_⟩
    rw [List.append_nil]
    exact List.perm_append_comm.trans (hp.append_left _)
theorem MIt.length (r : MIt h Ok os vs xs as) : vs.length = xs.length ∧ os.length = xs.length := by
  induction r with
  | nil => exact ⟨rfl, rfl⟩
  | plain _ _ ih => exact ⟨congrArg (· + 1) ih.1, congrArg (· + 1) ih.2⟩
  | own _ _ _ ih => exact ⟨congrArg (· + 1) ih.1, congrArg (· + 1) ih.2⟩
  | two _ _ _ ih => exact ⟨congrArg (· + 1) ih.1, congrArg (· + 1) ih.2⟩
end
theorem owns_snoc {i : Nat} {o : Nat} {x : PV} {is : List Nat} : ∀ {os : List Nat} {xs : List PV} {ρ : List Slt}, is.length = xs.length → os.length = xs.length → i ∉ is →
    setOwns (is ++ [i]) (os ++ [o]) (xs ++ [x]) ρ = setOwns is os xs (setS ρ i (some (x, ownL o x))) := by
  induction is with
  | nil => intro os xs ρ h1 h2 _; cases List.eq_nil_of_length_eq_zero h1.symm; cases List.eq_nil_of_length_eq_zero h2; rfl
  | cons j is ih =>
    intro os xs ρ h1 h2 hi
    cases xs with
    | nil => exact nomatch h1
    | cons y xs => cases os with
      | nil => exact nomatch h2
      | cons p os =>
        show setOwns (is ++ [i]) (os ++ [o]) (xs ++ [x]) (setS ρ j _) = setOwns is os xs (setS (setS ρ i _) j _)
        rw [ih (Nat.succ.inj h1) (Nat.succ.inj h2) fun h => hi (.tail _ h), set_comm fun e => hi (List.mem_cons.mpr (.inl e.symm))]
theorem owns_reverse {is : List Nat} : ∀ {os : List Nat} {xs : List PV} {ρ : List Slt}, is.length = xs.length → os.length = xs.length → is.Nodup → setOwns is.reverse os.reverse xs.reverse ρ = setOwns is os xs ρ := by
  induction is with
  | nil => intro os xs ρ h1 h2 _; cases List.eq_nil_of_length_eq_zero h1.symm; cases List.eq_nil_of_length_eq_zero h2; rfl
  | cons j is ih =>
    intro os xs ρ h1 h2 hn
    obtain ⟨h3, h4⟩ := List.nodup_cons.mp hn
    cases xs with
    | nil => exact nomatch h1
    | cons y xs => cases os with
      | nil => exact nomatch h2
      | cons p os =>
        rw [List.reverse_cons, List.reverse_cons, List.reverse_cons, owns_snoc (by rw [List.length_reverse, List.length_reverse]; exact Nat.succ.inj h1) (by rw [List.length_reverse, List.length_reverse]; exact Nat.succ.inj h2) (fun h => h3 (List.mem_reverse.mp h)), ih (Nat.succ.inj h1) (Nat.succ.inj h2) h4]
        rfl
/-- places that were made since are not among those that may be walked -/
theorem Here.tights {A : Around} {env : Env} {Ok New : Addr → Prop} {ρ : List Slt} {s s1 : Shared} (H : Here C A env Ok ρ s) (e : Ext s s1) (ha : ∀ a, New a → s.heap.get? a = none ∧ s1.heap.get? a ≠ none) : Here C A env (fun b => Ok b ∧ ¬ New b) ρ s1 :=
  { H.ext e with fresh := fun b hb => ⟨(H.fresh.ext e) b hb, fun q => (ha b q).2 hb⟩, get := fun x i pv l h1 h2 => let ⟨v, p, q⟩ := H.get x i pv l h1 h2; ⟨v, p.keeps e.keep, q.ext' e fun b hb ⟨_, _, _, ho, _⟩ => ⟨hb, fun q => nomatch (ha b q).1.symm.trans ho⟩⟩ }
theorem Here.tight {A : Around} {env : Env} {Ok : Addr → Prop} {ρ : List Slt} {s s1 : Shared} {a : Addr} (H : Here C A env Ok ρ s) (e : Ext s s1) (ha : s.heap.get? a = none) (ha' : s1.heap.get? a ≠ none) : Here C A env (fun b => Ok b ∧ b ≠ a) ρ s1 :=
  H.tights (New := fun b => b = a) e fun b hb => hb ▸ ⟨ha, ha'⟩
/-- the values of a display -/
def SM (C : Cx) (os : List Nat) (me : ME) (es : List Expr) : Prop := ∀ A env Ok ρ s pos Z, Here C A env Ok ρ s → (evA C.Γ me ρ).lst Z →
  ∀ (E : Value → Shared → Prop) (R : List Value → Shared → Prop), (∀ vs s' xs as, Ext s s' → MIt s'.heap (fun b => Ok b ∧ b ∉ as) os vs xs as → as.Nodup → (∀ a ∈ as, s.heap.get? a = none ∧ s'.heap.get? a ≠ none) → (∀ x ∈ xs, Sz x) → Z xs → R vs s') → wpAny C.W.M A (spliced (backTo pos (starEach es env))) R E s
theorem sm_nil : SM C [] .nil [] := fun A env Ok ρ s pos Z H h E R q => Calls.spliced_nil (q [] s [] [] (.refl _) .nil .nil (fun _ h => absurd h List.not_mem_nil) (fun _ h => absurd h List.not_mem_nil) h)
theorem sm_plain {os : List Nat} {a r : ME} {e : Expr} {rest : List Expr} (hn : notStar e = true) (ha : SE C a e) (hr : SM C os r rest) : SM C (0 :: os) (.cons a r) (e :: rest) := by
  intro A env Ok ρ s pos Z H h E R q
  rw [starEach_plain hn]
  refine Calls.spliced_cons (ha A env Ok ρ s _ H h E _ fun v s1 x l e1 r1 h1 => ?_)
  obtain ⟨rfl, h1⟩ := l0_inv h1
  refine hr A env Ok ρ s1 pos _ (H.ext e1) h1 E _ fun vs s2 xs as e2 mi nd has sz h2 => q (v :: vs) s2 (x :: xs) as (e1.trans e2) (.plain (r1.r.rep0.mono fun b hb ⟨_, _, _, ho, _⟩ => ⟨⟨hb, fun hm => nomatch (has b hm).1.symm.trans ho⟩, fun o => e2.keep b o⟩) mi) nd
    (fun a hm => ⟨e1.fresh (has a hm).1, (has a hm).2⟩) (mem_cons_all r1.z sz) h2
theorem sm_own {os : List Nat} {a r : ME} {e : Expr} {rest : List Expr} (hn : notStar e = true) (ha : ∀ A env Ok ρ s (Q : PV → Prop), Here C A env Ok ρ s → (evA C.Γ a ρ).val (fun x l => l0 l (Q x)) → ∀ E R : Value → Shared → Prop, (∀ a vs s' xs, Ext s s' → s.heap.get? a = none → s'.heap.PlainList a vs.toArray → RepAll s'.heap (fun b => Ok b ∧ b ≠ a) vs xs → Sz (.list xs) → Q (.list xs) → R (.ref a) s') → wpAny C.W.M A (eval e env) R E s)
    (hr : SM C os r rest) : SM C (1 :: os) (.cons a r) (e :: rest) := by
  intro A env Ok ρ s pos Z H h E R q
  rw [starEach_plain hn]
  refine Calls.spliced_cons (ha A env Ok ρ s _ H h E _ fun a ws s1 ys e1 hfr hpl hra hsz h1 => ?_)
  have hex := plain_some hpl
  refine hr A env _ ρ s1 pos _ (H.tight e1 hfr hex) h1 E _ fun vs s2 xs as e2 mi nd has sz h2 => q (.ref a :: vs) s2 (.list ys :: xs) (a :: as) (e1.trans e2) ?_ (List.nodup_cons.mpr ⟨fun hm => hex (has a hm).1, nd⟩) (fun b hm => (List.mem_cons.mp hm).elim (fun e => e ▸ ⟨hfr, fun q => hex (e2.fresh q)⟩) fun hm => ⟨e1.fresh (has b hm).1, (has b hm).2⟩) (mem_cons_all hsz sz) h2
  refine .own (hpl.at fun o => e2.keep a o) (hra.mono fun b hb ⟨_, _, _, ho, _⟩ => ⟨⟨hb.1, fun hm => (List.mem_cons.mp hm).elim hb.2 fun hm => nomatch (has b hm).1.symm.trans ho⟩, fun o => e2.keep b o⟩) ?_
  exact mi.move (X := fun _ => False) (s := s2) (KeepBut.refl _ _) (fun b hb _ => ⟨⟨hb.1.1, fun hm => (List.mem_cons.mp hm).elim hb.1.2 hb.2⟩, fun h => h⟩) fun _ _ h => h
/-- a new list of new lists -/
def SN2 (C : Cx) (me : ME) (e : Expr) : Prop := ∀ A env Ok ρ s (Z : PV → Prop), Here C A env Ok ρ s → (evA C.Γ me ρ).val (fun x l => l0 l (Z x)) → ∀ E R : Value → Shared → Prop,
  (∀ a bs s' xs, Ext s s' → (∀ b ∈ a :: bs, s.heap.get? b = none ∧ s'.heap.get? b ≠ none) → (a :: bs).Nodup → s'.heap.PlainList a (bs.map Value.ref).toArray → RowsRep s'.heap (fun b => Ok b ∧ b ∉ a :: bs) bs xs → Sz (.list xs) → Z (.list xs) → R (.ref a) s') → wpAny C.W.M A (eval e env) R E s
theorem sm_two {os : List Nat} {a r : ME} {e : Expr} {rest : List Expr} (hn : notStar e = true) (ha : SN2 C a e) (hr : SM C os r rest) : SM C (2 :: os) (.cons a r) (e :: rest) := by
  intro A env Ok ρ s pos Z H h E R q
  rw [starEach_plain hn]
  refine Calls.spliced_cons (ha A env Ok ρ s _ H h E _ fun a bs s1 ys e1 hfr hnd hpl hra hsz h1 => ?_)
  refine hr A env _ ρ s1 pos _ (H.tights (New := fun b => b ∈ a :: bs) e1 hfr) h1 E _ fun vs s2 xs as e2 mi nd has sz h2 => q (.ref a :: vs) s2 (.list ys :: xs) ((a :: bs) ++ as) (e1.trans e2) ?_
    (List.nodup_append.mpr ⟨hnd, nd, fun b hb c hc q => (hfr b hb).2 (q ▸ (has c hc).1)⟩) (fun b hm => (List.mem_append.mp hm).elim (fun hm => ⟨(hfr b hm).1, fun q => (hfr b hm).2 (e2.fresh q)⟩) fun hm => ⟨e1.fresh (has b hm).1, (has b hm).2⟩) (mem_cons_all hsz sz) h2
  refine .two (hpl.at fun o => e2.keep a o) (hra.mono (fun b hb ⟨_, _, _, ho, _⟩ => ⟨⟨hb.1, fun hm => (List.mem_append.mp hm).elim hb.2 fun hm => nomatch (has b hm).1.symm.trans ho⟩, fun o => e2.keep b o⟩) fun b _ o => e2.keep b o) ?_
  exact mi.move (X := fun _ => False) (s := s2) (KeepBut.refl _ _) (fun b hb _ => ⟨⟨hb.1.1, fun hm => (List.mem_append.mp hm).elim hb.1.2 hb.2⟩, fun h => h⟩) fun _ _ h => h
/-- a display of one empty list -/
theorem sn2_nil {p pos : Pos} : SN2 C (.list (.cons (.list .nil) .nil)) (.List [.List [] p] pos) := by
  intro A env Ok ρ s Z H h E R q
  have h1 : shortN 64 [PV.list []] = true ∧ Z (.list [.list []]) := (show _ ∧ _ from h).2
  refine List_ ?_
  rw [starEach_plain (e := .List [] p) rfl]
  refine Calls.spliced_cons (List_ (Calls.spliced_nil (wpAny_newList (newlist_at (Ok := Ok) (vs := []) (xs := []) 0 s.toks .nil E (fun v s1 => wpAny C.W.M A (spliced []) (fun vs s₂ => wpAny C.W.M A (newList (v :: vs)) R E s₂) E s1) fun b ws s1 e1 hb hpb rb => ?_) (Nat.zero_le _))))
  rw [rb.inv_nil] at hpb
  refine Calls.spliced_nil (wpAny_newList (newlist_at (Ok := fun c => c = b) 0 s1.toks (RepAll.cons (.list rfl hpb .nil) .nil) E _ fun a vs s2 e2 ha hpa ra => ?_) (show 1 ≤ sizeLine by decide))
  obtain ⟨v, ws', rfl, r1, r2⟩ := ra.inv_cons
  obtain ⟨b', vs', rfl, ⟨rfl, hba⟩, hpb2, r3⟩ := r1.inv
  rw [r2.inv_nil] at hpa
  rw [r3.inv_nil] at hpb2
  refine q a [b'] s2 [.list []] (e1.trans e2) (fun c hc => (List.mem_cons.mp hc).elim (fun q => q ▸ ⟨e1.fresh ha, plain_some hpa⟩) fun hc => List.mem_singleton.mp hc ▸ ⟨hb, plain_some hpb2⟩) (List.nodup_cons.mpr ⟨fun hm => hba (List.mem_singleton.mp hm).symm, List.nodup_cons.mpr ⟨List.not_mem_nil, List.nodup_nil⟩⟩) hpa (.cons hpb2 .nil .nil) (.list (by decide) fun x hx => List.mem_singleton.mp hx ▸ .list (by decide) fun x hx => nomatch hx) h1.2
end
end Mine
end
noncomputable section
namespace Mine
open Builtin
section
variable {C : Cx} {F : Fr} {own own' : Nat → Addr → Prop} {ρ ρ' : List Slt} {s s' : Shared} {E : Value → Shared → Prop}
theorem SN.sm {os : List Nat} {a r : ME} {e : Expr} {rest : List Expr} (hn : notStar e = true) (h : SN C a e) (hr : SM C os r rest) : SM C (1 :: os) (.cons a r) (e :: rest) :=
  sm_own hn (fun A env Ok ρ s Q H h1 => h A env Ok ρ s (fun x l => l0 l (Q x)) H h1) hr
/-- stores into names -/
inductive Sts (M : Model) (A : Around) (cc : CC) (env : Env) : List (Value → Sem Unit) → List (Str × Nat) → Prop
  | nil : Sts M A cc env [] []
  | cons {st : Value → Sem Unit} {x : Str} {i : Nat} {sts : List (Value → Sem Unit)} {ns : List (Str × Nat)} : cc.σ x = some i → (∀ (v : Value) (s : Shared) (E : Value → Shared → Prop) (Q : Unit → Shared → Prop), wpAny M A (storeName env x v) Q E s → wpAny M A (st v) Q E s) →
      Sts M A cc env sts ns → Sts M A cc env (st :: sts) ((x, i) :: ns)
theorem Sts.append {M : Model} {A : Around} {cc : CC} {env : Env} {st st' : List (Value → Sem Unit)} {ns ns' : List (Str × Nat)} (h : Sts M A cc env st ns) (h' : Sts M A cc env st' ns') : Sts M A cc env (st ++ st') (ns ++ ns') := by
  induction h with
  | nil => exact h'
  | cons a b _ ih => exact .cons a b ih
theorem storeMany (G : C.cc.Good) {stores : List (Value → Sem Unit)} {ns : List (Str × Nat)} (h : Sts C.W.M F.A C.cc F.env stores ns) : ∀ {own : Nat → Addr → Prop} {ρ : List Slt} {s : Shared} {os : List Nat} {vs : List Value} {xs : List PV} {as : List Addr} {Q : Unit → Shared → Prop},
    StR C F own ρ s → MIt s.heap (Okc F.Ok own) os vs xs as → as.Nodup → (∀ a ∈ as, own C.cc.n a) → (∀ x ∈ xs, Sz x) → ns.length = xs.length →
    (∀ own' s', StR C F own' (setOwns (ns.map (·.2)) os xs ρ) s' → Q () s') → wpAny C.W.M F.A (assignInOrder stores vs) Q E s := by
  induction h with
  | nil =>
    intro own ρ s os vs xs as Q S mi nd has sz hl q
    cases List.eq_nil_of_length_eq_zero hl.symm
    cases mi
    exact wpAny_assignInOrder_none (q own s S)
  | cons hx hst hs ih =>
    intro own ρ s os vs xs as Q S mi nd has sz hl q
    have ne := Nat.ne_of_gt (G.lt _ _ hx)
    cases mi with
    | nil => exact nomatch hl
    | plain r rs =>
      refine wpAny_assignInOrder_more (hst _ s _ _ (S.storeH G hx (new := fun _ => False) (fun _ h => h.elim) (.zero r) (sz _ (.head _)) fun s' kb S' =>
        ih S' (rs.move kb (fun b hb hs => ⟨takes_ok (n := C.cc.n) (fun _ h => h.elim) hb, S.plc_not hs⟩) fun b hb => (S.owned _ b (has b hb)).2.1) nd (fun a ha => .inr ⟨ne, has a ha, fun h => h⟩) (fun y hy => sz y (.tail _ hy)) (Nat.succ.inj hl) q))
    | own pl r rs =>
      rename_i a ws ys os' vs' xs' as'
      obtain ⟨hna, hnd⟩ := List.nodup_cons.mp nd
      have hnew : ∀ (i : Nat) (b : Addr), b = a → Mine.Mine C.cc.n own i b := fun i b hb => ⟨C.cc.n, hb ▸ has a (.head _), .inr (Nat.le_refl _)⟩
      refine wpAny_assignInOrder_more (hst _ s _ _ (S.storeH G hx (new := fun b => b = a) (hnew _) (.one rfl pl r) (sz _ (.head _)) fun s' kb S' =>
        ih S' (rs.move kb (fun b hb hs => ⟨takes_ok (hnew _) hb, S.plc_not hs⟩) fun b hb => (S.owned _ b (has b (.tail _ hb))).2.1) hnd (fun b hb => .inr ⟨ne, has b (.tail _ hb), fun q => hna (q ▸ hb)⟩) (fun y hy => sz y (.tail _ hy)) (Nat.succ.inj hl) q))
    | two pl r rs =>
      rename_i a bs ys os' vs' xs' as'
      obtain ⟨n1, hnd, n3⟩ := List.nodup_append.mp nd
      have hnew : ∀ (i : Nat) (b : Addr), b ∈ a :: bs → Mine.Mine C.cc.n own i b := fun i b hb => ⟨C.cc.n, has b (List.mem_append_left _ hb), .inr (Nat.le_refl _)⟩
      refine wpAny_assignInOrder_more (hst _ s _ _ (S.storeH G hx (new := fun b => b ∈ a :: bs) (hnew _) (.two (.head _) (fun b hb => .tail _ hb) n1 pl r) (sz _ (.head _)) fun s' kb S' =>
        ih S' (rs.move kb (fun b hb hs => ⟨takes_ok (hnew _) hb, S.plc_not hs⟩) fun b hb => (S.owned _ b (has b (List.mem_append_right _ hb))).2.1) hnd (fun b hb => .inr ⟨ne, has b (List.mem_append_right _ hb), fun q => n3 b q b hb rfl⟩) (fun y hy => sz y (.tail _ hy)) (Nat.succ.inj hl) q))
def nameOf : Expr → Option Str
  | .Name nm _ => some nm
  | _ => none
def nameIf (P : Str → Pos → Bool) : Expr → Option Str
  | .Name nm p => if P nm p = true then some nm else none
  | _ => none
theorem Names.sts {M : Model} {A : Around} {cc : CC} {env : Env} {es : List Expr} {is : List Nat} (h : Names cc es is) : ∃ ns : List (Str × Nat), Sts M A cc env ((assignEach es env).map (·.2)) ns ∧ ns.map (·.2) = is ∧ es.filterMap nameOf = ns.map (·.1) := by
  induction h with
  | nil => exact ⟨[], .nil, rfl, rfl⟩
  | cons hx hh ih =>
    obtain ⟨ns, h1, h2, h3⟩ := ih
    rename_i x p i es is
    exact ⟨(x, i) :: ns, .cons hx (fun v s E Q hq => wpAny_assign_Name hq) h1, congrArg _ h2, (List.filterMap_cons_some (show nameOf (.Name x p) = some x from rfl)).trans (congrArg _ h3)⟩
theorem sts_reverse {M : Model} {A : Around} {cc : CC} {env : Env} {stores : List (Value → Sem Unit)} {ns : List (Str × Nat)} (h : Sts M A cc env stores ns) : Sts M A cc env (ns.reverse.map fun x => bindName env x.1) ns.reverse := by
  induction h with
  | nil => exact .nil
  | cons hx _ _ ih =>
    rw [List.reverse_cons, List.map_append]
    exact ih.append (.cons hx (fun v s E Q hq => bindName_ hq) .nil)
theorem filter_names {cc : CC} {P : Str → Pos → Bool} {es : List Expr} {is : List Nat} (h : Names cc es is) : (es.filterMap (nameIf P)).length = es.length → es.filterMap (nameIf P) = es.filterMap nameOf := by
  induction h with
  | nil => exact fun _ => rfl
  | cons hx hr ih =>
    rename_i x p i es' is'
    intro hl
    by_cases hp : P x p = true
    · rw [List.filterMap_cons_some (show nameIf P (.Name x p) = some x from if_pos hp)] at hl ⊢
      rw [List.filterMap_cons_some (show nameOf (.Name x p) = some x from rfl), ih (Nat.succ.inj hl)]
    · rw [List.filterMap_cons_none (show nameIf P (.Name x p) = none from if_neg hp), List.length_cons] at hl
      exact absurd (hl ▸ List.length_filterMap_le (nameIf P) es') (Nat.not_succ_le_self _)
theorem swapped_cases {cc : CC} {env : Env} {es vs : List Expr} {is : List Nat} {n m : Nat} {p q : Pos} (h : Names cc es is) (hc : vs.all (constantsAlone 8) = false) :
    swappedStores [.Tuple es n p] (.Tuple vs m q) env = pure none ∨ swappedStores [.Tuple es n p] (.Tuple vs m q) env = pure (some (es.filterMap nameOf)) := by
  unfold swappedStores
  dsimp only
  split
  · exact .inl rfl
  · split
    · exact .inl rfl
    · split
      · exact .inl rfl
      · split
        · exact .inl rfl
        · rename_i a1 a2 a3 a4
          rw [if_neg (by rw [hc]; exact Bool.false_ne_true)]
          right
          have key : (es.filterMap (nameIf fun nm pos => env.kindOf nm == some NameKind.local && pos.line == (Option.map (fun x => x.pos.line) es.head?).getD 0)).length = es.length := by
            have a5 := a3
            simp only [Bool.or_eq_true, not_or, bne_iff_ne, ne_eq, Decidable.not_not] at a5
            exact a5.1
          exact congrArg (fun z => (pure (some z) : Sem (Option (List Str)))) (filter_names h key)
theorem made_items (G : C.cc.Good) {vs : List Expr} {os : List Nat} {me : ME} {m : Nat} {q : Pos} {Z : List PV → Prop} {Q1 : Shared → Prop} (hv : SM C os me vs) (S : StR C F own ρ s) (hxs : (evA C.Γ me ρ).lst fun xs => shortN 64 xs = true ∧ Z xs)
    (N : Nat) (Fn : List Value → Sem Unit) (hN : ∀ xs, Z xs → N = xs.length) (hF : ∀ vs' xs as own' s', StR C F own' ρ s' → MIt s'.heap (Okc F.Ok own') os vs' xs as → as.Nodup → (∀ a ∈ as, own' C.cc.n a) → (∀ x ∈ xs, Sz x) → Z xs → wpAny C.W.M F.A (Fn vs') (fun _ => Q1) E s') :
    wpAny C.W.M F.A (eval (.Tuple vs m q) F.env) (fun v s₁ => wpAny C.W.M F.A (unpackItems v N none) (fun items s₂ => wpAny C.W.M F.A (Fn items) (fun _ => Q1) E s₂) E s₁) E s := by
  refine Tuple_ (hv F.A F.env _ ρ s q _ S.here hxs E _ fun vs' s' xs as e1 mi nd has sz ⟨hsh, hz⟩ => ?_)
  have hlv := mi.length.1
  rw [hN xs hz]
  refine wpAny_newTuple ?_ (by rw [hlv]; exact lst_size (short_lst hsh))
  have e2 := Ext.push s' { cls := .type "tuple", data := .seq vs'.toArray 0 }
  have hun := wpAny_unpackItems_tuple (prog := C.W.prog) (w := C.W.w) (A := F.A) (E := E) (t := s'.heap.objs.size) (items := vs'.toArray) (s := { s' with heap := s'.heap.push { cls := .type "tuple", data := .seq vs'.toArray 0 } })
    (Q := fun items s₂ => wpAny C.W.M F.A (Fn items) (fun _ => Q1) E s₂) S.st.room.hd ⟨_, Heap.get?_push_size _ rfl, rfl, 0, rfl⟩ fun h' hx => ?_
  · rw [show vs'.toArray.size = xs.length from hlv] at hun
    exact hun
  · have e3 : Ext { s' with heap := s'.heap.push { cls := .type "tuple", data := .seq vs'.toArray 0 } } { s' with heap := h' } := ⟨⟨rfl, rfl⟩, fun b o hb => hx b o (fun q => nomatch (q ▸ get_size _).symm.trans hb) hb⟩
    have e4 := e2.trans e3
    exact hF vs' xs as _ _ (S.hide (new := fun b => b ∈ as) (e1.trans e4) fun a ha => ⟨(has a ha).1, fun q => (has a ha).2 (e4.fresh q)⟩) (mi.move (X := fun _ => False) e4.but (fun b hb _ => ⟨hide_ok hb.1 hb.2, fun h => h⟩) fun _ _ h => h) nd (fun a ha => .inr ⟨rfl, ha⟩) sz hz
/-- a tuple of names takes the values of a tuple display -/
theorem ss_multi (G : C.cc.Good) {es vs : List Expr} {is : List Nat} {os : List Nat} {me : ME} {n m : Nat} {p q pos : Pos} (hn : Names C.cc es is) (hnd : is.Nodup) (hc : vs.all (constantsAlone 8) = false) (hv : SM C os me vs) :
    SS C (.multi is os me) (.Assign [.Tuple es n p] (.Tuple vs m q) pos) := by
  intro F own0 ρ0 s P S0 hp E Q q'
  obtain ⟨own, S⟩ := S0.freeze G (esc true me)
  have hp : (evA C.Γ me (freeze (esc true me) ρ0)).lst fun xs => shortN 64 xs = true ∧ sameLen is xs (P .next (setOwns is os xs (freeze (esc true me) ρ0))) := hp
  revert S hp
  generalize freeze (esc true me) ρ0 = ρ
  intro S hp
  obtain ⟨ns, h1, h2, h3⟩ := hn.sts (M := C.W.M) (A := F.A) (env := F.env)
  have hsw : swapsWithSole [.Tuple es n p] (.Tuple vs m q) pos.line F.env = pure false := rfl
  have hnl : ns.length = is.length := by rw [← h2, List.length_map]
  have hZ : ∀ xs, sameLen is xs (P .next (setOwns is os xs ρ)) → is.length = xs.length ∧ P .next (setOwns is os xs ρ) := fun xs h => same_inv h
  rcases swapped_cases (env := F.env) (n := n) (m := m) (p := p) (q := q) hn hc with hw | hw
  · refine Assign_Tuple ?_ hsw hw
    have h4 := made_items (Q1 := Q .next) (E := E) (m := m) (q := q) G hv S hp is.length (fun items => assignInOrder ((assignEach es F.env).map (·.2)) items) (fun xs h => (hZ xs h).1) fun vs' xs as own' s' S' mi nd has sz hz =>
      storeMany G h1 S' mi nd has sz (hnl.trans (hZ xs hz).1) fun own'' s'' S'' => by rw [h2] at S''; exact q' own'' s'' _ .next _ S'' rfl (hZ xs hz).2
    refine wpAny_mono h4 (fun v s₁ h => ?_) fun _ _ x => x
    rw [arm_assign_Tuple]
    refine wpAny_bind (wpAny_standAt ?_)
    unfold unpack
    rw [hn.length, hn.nostar]
    exact wpAny_bind (wpAny_holding h)
  · refine Assign_Tuple_swapped (names := es.filterMap nameOf) ?_ hsw hw
    have fin : ∀ (vs' : List Value) (xs : List PV) (as : List Addr) (own' : Nat → Addr → Prop) (s' : Shared), StR C F own' ρ s' → MIt s'.heap (Okc F.Ok own') os vs' xs as → as.Nodup → (∀ a ∈ as, own' C.cc.n a) → (∀ x ∈ xs, Sz x) → sameLen is xs (P .next (setOwns is os xs ρ)) →
        wpAny C.W.M F.A (assignInOrder (ns.reverse.map fun x => bindName F.env x.1) vs'.reverse) (fun _ => Q .next) E s' := fun vs' xs as own' s' S' mi nd has sz hz => by
      obtain ⟨hl, hz⟩ := hZ xs hz
      obtain ⟨as', mi', hpm⟩ := mi.reverse
      refine storeMany (os := os.reverse) (xs := xs.reverse) (as := as') (vs := vs'.reverse) G (sts_reverse h1) S' mi' (hpm.nodup_iff.mpr nd) (fun a ha => has a (hpm.mem_iff.mp ha)) (fun x hx => sz x (List.mem_reverse.mp hx)) (by rw [List.length_reverse, List.length_reverse]; exact hnl.trans hl) fun own'' s'' S'' => ?_
      rw [List.map_reverse, h2, owns_reverse hl mi.length.2 hnd] at S''
      exact q' own'' s'' _ .next _ S'' rfl hz
    have h4 := made_items (Q1 := Q .next) (E := E) (m := m) (q := q) G hv S hp (ns.map (·.1)).length (fun items => assignInOrder (ns.reverse.map fun x => bindName F.env x.1) items.reverse) (fun xs h => by rw [List.length_map]; exact hnl.trans (hZ xs h).1) fin
    rw [h3, show (ns.map (·.1)).reverse.map (fun n => bindName F.env n) = ns.reverse.map (fun x => bindName F.env x.1) by rw [← List.map_reverse, List.map_map]; rfl]
    exact h4
end
end Mine
end
noncomputable section
namespace Mine
open Builtin
/-! ## a name that owns a list of lists of its own -/
theorem rows_inv {y : Slt} {Q : List PV → Prop} (h : rowsP y Q) : ∃ xs, y = some (.list xs, 2) ∧ Q xs := by
  cases y with
  | none => exact h.elim
  | some p =>
    obtain ⟨x, l⟩ := p
    cases x with
    | list xs => match l, h with
      | 2, h => exact ⟨xs, rfl, h⟩
    | _ => exact h.elim
section
variable {W : Wld} {h h' : Heap} {Ok Ok' o : Addr → Prop} {bs : List Addr} {xs ys : List PV} {v : Value}
theorem BOwn.two_inv (r : BOwn W h Ok o 2 v (.list xs)) : ∃ a bs, v = .ref a ∧ o a ∧ (∀ b ∈ bs, o b) ∧ (a :: bs).Nodup ∧ h.PlainList a (bs.map Value.ref).toArray ∧ RowsRep h Ok bs xs := by
  cases r with | two a b c d e => exact ⟨_, _, rfl, a, b, c, d, e⟩
theorem RowsRep.length (r : RowsRep h Ok bs xs) : bs.length = xs.length := by
  induction r with
  | nil => rfl
  | cons _ _ _ ih => exact congrArg (· + 1) ih
theorem RowsRep.snoc {b : Addr} {vs : List Value} (r : RowsRep h Ok bs xs) (q : h.PlainList b vs.toArray) (ra : RepAll h Ok vs ys) : RowsRep h Ok (bs ++ [b]) (xs ++ [.list ys]) := by
  induction r with
  | nil => exact .cons q ra .nil
  | cons q r _ ih => exact .cons q r ih
/-- one of the lists is turned -/
theorem RowsRep.set {b : Addr} {vs : List Value} (hm : Moves h h' Ok Ok') (hk : ∀ c ∈ bs, c ≠ b → ∀ o, h.get? c = some o → h'.get? c = some o) (pl : h'.PlainList b vs.toArray) (ra : RepAll h' Ok' vs ys) :
    ∀ {n : Nat}, RowsRep h Ok bs xs → bs.Nodup → bs[n]? = some b → RowsRep h' Ok' bs (xs.set n (.list ys)) := by
  intro n r
  induction r generalizing n with
  | nil => exact fun _ e => nomatch e
  | cons q r t ih =>
    intro hnd hn
    obtain ⟨h1, h2⟩ := List.nodup_cons.mp hnd
    cases n with
    | zero =>
      cases Option.some.inj hn
      exact .cons pl ra (t.mono hm fun c hc => hk c (.tail _ hc) fun e => h1 (e ▸ hc))
    | succ n =>
      have hb := List.mem_of_getElem? (List.getElem?_cons_succ.symm.trans hn)
      exact .cons (q.at (hk _ (.head _) fun e => h1 (e.symm ▸ hb))) (r.mono hm) (ih (fun c hc => hk c (.tail _ hc)) h2 hn)
end
/-- an expression that makes a new list -/
def SNL (C : Cx) (me : ME) (e : Expr) : Prop := ∀ A env Ok ρ s (Z : List PV → Prop), Here C A env Ok ρ s → (evA C.Γ me ρ).val (fun v l => l0 l (listP v Z)) →
  ∀ E R : Value → Shared → Prop, (∀ a vs s' xs, Ext s s' → s.heap.get? a = none → s'.heap.PlainList a vs.toArray → RepAll s'.heap (fun b => Ok b ∧ b ≠ a) vs xs → Sz (.list xs) → Z xs → R (.ref a) s') → wpAny C.W.M A (eval e env) R E s
section
variable {C : Cx} {F : Fr} {own own' : Nat → Addr → Prop} {ρ ρ' : List Slt} {s s' : Shared}
theorem SN.snl {me : ME} {e : Expr} (h : SN C me e) : SNL C me e := fun A env Ok ρ s Z H hz E R q => h A env Ok ρ s _ H hz E R fun a vs s' xs ex ha pl ra sz z => q a vs s' xs ex ha pl ra sz z
theorem snl_add {a b : ME} {l r : Expr} {pos : Pos} (ha : SE C a l) (hb : SE C b r) : SNL C (.bin .add a b) (.BinOp l .Add r pos) := by
  refine fun A env Ok ρ s Z H h E R q => wpAny_BinOp (ha A env Ok ρ s _ H h E _ fun v s1 x lx e1 r1 h1 => hb A env Ok ρ s1 _ (H.ext e1) h1 E _ fun u s2 y ly e2 r2 h2 => ?_)
  obtain ⟨hl, h3⟩ := l1_inv h2
  obtain ⟨hl', h4⟩ := l1_inv h3
  cases x with
  | list xs =>
    obtain ⟨ys, rfl, hz, z⟩ := list_inv h4
    obtain ⟨a1, vs, rfl, q1, _, r3, _⟩ := (r1.ext e2).r.inv
    obtain ⟨a2, ws, rfl, q2, _, r4, _⟩ := r2.r.inv
    exact add_lists hz q1 q2 (r3 hl) (r4 hl') E R fun c us s3 e3 hc pl ra => q c us s3 _ ((e1.trans e2).trans e3) ((e1.trans e2).fresh hc) pl ra (sz_append hz r1.z r2.z) z
  | int i => obtain ⟨j, rfl, z⟩ := int_inv h4; exact z.elim
  | txt k cs => obtain ⟨_, d, rfl, _, _, z⟩ := txt_inv h4; exact z.elim
  | _ => exact h4.elim
theorem snl_ite {c a b : ME} {t e1 e2 : Expr} {pos : Pos} (hc : ST C c t) (ha : SNL C a e1) (hb : SNL C b e2) : SNL C (.ite c a b) (.IfExp t e1 e2 pos) :=
  fun A env Ok ρ s Z H h E R q => IfExp_ (hc A env Ok ρ s _ H h E _ fun b s1 x1 z => ite_bool z (fun z => ha A env Ok ρ s1 _ (H.ext x1) z E _ fun a vs s2 xs x2 hn => q a vs s2 xs (x1.trans x2) (x1.fresh hn)) fun z => hb A env Ok ρ s1 _ (H.ext x1) z E _ fun a vs s2 xs x2 hn => q a vs s2 xs (x1.trans x2) (x1.fresh hn))
/-- rows.append(a new list) -/
theorem ss_push2 (G : C.cc.Good) {x : Str} {i : Nat} {me : ME} {e : Expr} {p apos pos pos' : Pos} (hx : C.cc.σ x = some i) (hd : (x == ("__debug__" : Str)) = false) (hcd : (x == ("__classdict__" : Str)) = false)
    (hline : (apos.endLine == pos.line) = true) (hn : notStar e = true) (h : SNL C me e) : SS C (.push2 i me) (.Expr (.Call (.Attribute (.Name x p) "append" apos) [e] [] pos) pos') := by
  intro F own0 ρ0 s P S0 hp E Q q
  obtain ⟨own, S⟩ := S0.freeze G (esc true me)
  obtain ⟨xs, h1, h2⟩ := rows_inv hp
  obtain ⟨w, hw, hb, hz⟩ := S.get x i hx _ _ h1
  obtain ⟨a, bs, rfl, ho, hob, hnd, hpl, hra⟩ := hb.two_inv
  refine wpAny_Expr (call_own S hw hd hcd hpl hline PySem.F.slot_list_append PySem.F.type_list_append (by rw [starEach_plain hn]; rfl) (plain_one hn) (spliced_one hn (h F.A F.env _ _ s _ S.here h2 E _ fun b vs s1 ys e1 hb0 plb rb szb hy => ?_))) (not_inter S.st.kind) rfl
  obtain ⟨hlt, hq⟩ := hy
  refine wpAny_list_append_plain (hpl.at fun o => e1.keep a o) (fun h' pl' sb => ?_) (by rw [List.size_toArray, List.length_map, hra.length]; exact lst_size hz.list_len)
  have hex : s1.heap.get? b ≠ none := plain_some plb
  have S1 := S.hide (new := fun c => c = b) e1 fun c hc => hc ▸ ⟨hb0, hex⟩
  have hba : b ≠ a := fun q => (S.owned i a ho).1 (q ▸ hb0)
  have ho1 : addOwn own C.cc.n (fun c => c = b) i a := .inl ho
  have hm : Moves s1.heap h' (Okc F.Ok (addOwn own C.cc.n fun c => c = b)) (Okc F.Ok (addOwn own C.cc.n fun c => c = b)) := turn_moves ho1 sb
  have hhide : ∀ c, Okc F.Ok own c → SeqAt s.heap c → Okc F.Ok (addOwn own C.cc.n fun c => c = b) c := fun c hc ⟨_, _, _, hoc, _⟩ => hide_ok hc fun e => nomatch (e ▸ hb0).symm.trans hoc
  have hbs : ∀ c ∈ bs, s.heap.get? c ≠ none := fun c hc => (S.owned i c (hob c hc)).1
  have hac : ∀ c ∈ bs, c ≠ a := fun c hc e => (List.nodup_cons.mp hnd).1 (e ▸ hc)
  have rr : RowsRep h' (Okc F.Ok (addOwn own C.cc.n fun c => c = b)) (bs ++ [b]) (xs ++ [.list ys]) := by
    refine RowsRep.snoc ((hra.mono (fun c hc hs => ⟨hhide c hc hs, fun o => e1.keep c o⟩) fun c hc o => e1.keep c o).mono hm fun c hc o => sb.extBut c o (hac c hc)) (plb.at fun o => sb.extBut b o hba) ?_
    exact (rb.weaken fun c hc => hide_ok hc.1 hc.2).mono hm
  have kbX : KeepBut (fun c => c = a) s1 { s1 with heap := h' } := KeepBut.of_same (X := fun c => c = a) sb rfl s1.toks
  have np : ∀ c, Plc F.env c → c ≠ a := fun c hc q => (S.owned i a ho).2.1 (q ▸ hc)
  have kp : ∀ c, Plc F.env c → ∀ o, s1.heap.get? c = some o → h'.get? c = some o := fun c hc o => sb.extBut c o (np c hc)
  have hnew : ∀ c, (own i c ∨ c = b) → Mine C.cc.n (addOwn own C.cc.n fun c => c = b) i c := fun c hc => hc.elim (fun h => ⟨i, .inl h, .inl rfl⟩) fun h => ⟨C.cc.n, .inr ⟨rfl, h⟩, .inr (Nat.le_refl _)⟩
  have hex' : h'.get? a ≠ none := plain_some pl'
  have S2 := S1.put G (s' := { s1 with heap := h' }) (y := some (.list (xs ++ [.list ys]), 2)) hnew kbX (fun c hc => by cases (show c = a from hc); exact ⟨hex', .inr ⟨i, ho1, .inl rfl⟩⟩) (let ⟨m, h⟩ := S1.ns; ⟨m, h.at' (kp _ (.inl rfl))⟩) (fun y c hy => let ⟨v0, h⟩ := S1.cells y c hy; ⟨v0, IsCell.to h (kp c (.inr ⟨y, hy⟩))⟩)
    (fun y hy pv' l' e' => by
      cases e'
      refine ⟨.ref a, G.inj x y i hx hy ▸ (hw.keeps e1.keep).to kp, ?_, sz_snoc hz hlt szb⟩
      refine .two (.inl ⟨rfl, .inl ho⟩) (fun c hc => .inl ⟨rfl, (List.mem_append.mp hc).elim (fun hc => .inl (hob c hc)) fun hc => .inr (List.mem_singleton.mp hc)⟩) ?_ ?_ (rr.mono (h' := h') (fun c hc _ => ⟨takes_ok (n := C.cc.n) hnew hc, fun o h => h⟩) fun c _ o h => h)
      · obtain ⟨n1, n2⟩ := List.nodup_cons.mp hnd
        exact List.nodup_cons.mpr ⟨fun hm => (List.mem_append.mp hm).elim n1 fun hm => hba (List.mem_singleton.mp hm).symm, List.nodup_append.mpr ⟨n2, List.nodup_cons.mpr ⟨List.not_mem_nil, List.nodup_nil⟩, fun c hc d hd q => hbs c hc ((List.mem_singleton.mp hd ▸ q) ▸ hb0)⟩⟩
      · rw [List.map_append]; exact List.push_toArray (bs.map Value.ref) (.ref b) ▸ pl') fun z w _ hw => hw.to kp
  exact q _ _ _ .next _ S2 rfl hq
end
end Mine
end
noncomputable section
namespace Mine
open Builtin
section
variable {C : Cx} {F : Fr} {own own' : Nat → Addr → Prop} {ρ ρ' : List Slt} {s s' : Shared}
/-- rows[i].append(v) -/
theorem ss_append2 (G : C.cc.Good) {x : Str} {i : Nat} {mi me : ME} {ei e : Expr} {p p' apos pos pos' : Pos} (hx : C.cc.σ x = some i) (hd : (x == ("__debug__" : Str)) = false) (hcd : (x == ("__classdict__" : Str)) = false)
    (hline : (apos.endLine == pos.line) = true) (hn : notStar e = true) (hi : SE C mi ei) (h : SE C me e) : SS C (.append2 i mi me) (.Expr (.Call (.Attribute (.Subscript (.Name x p) ei p') "append" apos) [e] [] pos) pos') := by
  intro F own0 ρ0 s P S0 hp E Q q
  obtain ⟨own, S⟩ := S0.freeze G (esc true me)
  obtain ⟨xs, h1, h2⟩ := rows_inv hp
  obtain ⟨w, hw, hb, hz⟩ := S.get x i hx _ _ h1
  obtain ⟨a, bs, rfl, ho, hob, hnd, hpl, hra⟩ := hb.two_inv
  have hl : (bs.map Value.ref).length ≤ LST := by rw [List.length_map, hra.length]; exact hz.list_len
  refine wpAny_Expr ?_ (not_inter S.st.kind) rfl
  rw [arm_eval_Call, base_plain (o := .Subscript (.Name x p) ei p') rfl]
  refine wpAny_bind (subscript_of (C := C) (hw.load (h := s.heap) S.st.kind hd hcd (hi F.A F.env _ _ s _ S.here h2 E _ fun iv s1 y li e1 r1 h3 => ?_)))
  obtain ⟨kk, rfl, ys, hys, h4⟩ := int_inv h3
  obtain ⟨m, hxm, hcase⟩ := idxAt_at hys
  have hm : placeOfI xs kk = m := by
    unfold placeOfI
    rcases hcase with ⟨h0, rfl, _⟩ | ⟨h0, _, rfl⟩
    · exact if_pos h0
    · exact if_neg (Int.not_le.mpr h0)
  rw [hm] at h4
  obtain ⟨ti, rfl⟩ := r1.r.inv.inv
  obtain ⟨b, vs, ys', hbm, e5, plb, rab⟩ := hra.get m _ hxm
  cases e5
  have hbs : b ∈ bs := List.mem_of_getElem? hbm
  have hbref : (bs.map Value.ref)[m]? = some (.ref b) := by rw [List.getElem?_map, hbm]; rfl
  have hlen : (bs.map Value.ref).length = xs.length := by rw [List.length_map, hra.length]
  rw [← hlen] at hcase
  have hpl1 := hpl.at fun o => e1.keep a o
  refine ⟨⟨_, _, hpl1.isList.typeIs, slot_list_getitem.lookup⟩, getItem_raw hpl1 hl hbref hcase (wpAny_bind (wpAny_standAt ?_))⟩
  have hform : methodCallForm (([e] : List Expr).length + ([] : List Keyword).length) (backTo pos (starEach [e] F.env)) (backToKw pos (keywordEach [] F.env)) = true := by
    rw [starEach_plain hn]; rfl
  have hpos : methodCallPos true (.Subscript (.Name x p) ei p') F.env apos pos = pure pos := if_pos (by rw [hline]; rfl)
  unfold methodCall
  rw [hform]
  refine wpAny_bind (wpAny_holding (getMethod_lst (plb.at fun o => e1.keep b o) PySem.F.slot_list_append PySem.F.type_list_append (wpAny_bind (wpAny_of_eq hpos (Calls.callWith_builtin (plain_one hn) (evalArgs_of (fun y hy => nomatch (hy ▸ plain_one (env := F.env) (pos := pos) hn : ([(true, y)] : List (Bool × Sem Value)).any (·.1) = false)) (spliced_one hn (h F.A F.env _ _ s1 _ (S.ext e1).here h4 E _ fun u s2 z l e2 r2 hy => ?_))))))))
  obtain ⟨rfl, hlt, hq⟩ := l0_inv hy
  have e12 := e1.trans e2
  have hzb : Sz (.list ys) := hz.list_all _ (List.mem_of_getElem? hxm)
  refine wpAny_list_append_plain (plb.at fun o => e12.keep b o) (fun h' pl' sb => ?_) (by rw [List.size_toArray, rab.length]; exact lst_size hzb.list_len)
  have hob' := hob b hbs
  have hab : a ≠ b := fun e => (List.nodup_cons.mp hnd).1 (e ▸ hbs)
  have hmv : Moves s2.heap h' (Okc F.Ok own) (Okc F.Ok own) := turn_moves hob' sb
  have hnew : RepAll h' (Okc F.Ok own) (vs ++ [u]) (ys ++ [z]) := ((rab.ext e12).append (.cons r2.r.rep0 .nil)).mono hmv
  have hrr : RowsRep h' (Okc F.Ok own) bs (xs.set m (.list (ys ++ [z]))) :=
    RowsRep.set (n := m) hmv (fun c _ hc o => sb.extBut c o hc) (List.push_toArray vs u ▸ pl') hnew (hra.mono e12.moves fun c _ o => e12.keep c o) (List.nodup_cons.mp hnd).2 hbm
  exact q _ _ _ .next _ (S.turn G (tk := s2.toks) e12 hx hob' sb (plain_some pl') hw (.two ho hob hnd ((hpl.at fun o => e12.keep a o).at fun o => sb.extBut a o hab) hrr) (set_sz hz (sz_snoc hzb hlt r2.z))) rfl hq
end
end Mine
end
noncomputable section
namespace Mine
open Builtin
/-! ## x = [[] for y in src], the lists its own -/
section
variable {C : Cx} {A : Around} {env : Env} {Ok : Addr → Prop} {ρ : List Slt} {s s' : Shared}
structure RInv (D B : Addr) (wr : List Addr) (St : Nat → Heap → Prop) (n : Nat) (s1 : Shared) (i : Nat) (bs : List Addr) (m : Str → Option Value) (s' : Shared) : Prop where
  le : i ≤ n
  kb : KeepBut (Chg D B wr) s1 s'
  st : St i s'.heap
  pl : s'.heap.PlainList D (bs.map Value.ref).toArray
  rr : RowsRep s'.heap (fun _ => False) bs (List.replicate i (.list []))
  new : ∀ b ∈ bs, s1.heap.get? b = none ∧ s'.heap.get? b ≠ none ∧ ¬ Chg D B wr b
  nd : bs.Nodup
  ns : s'.heap.Ns B m
theorem rows_rep_none {h h' : Heap} {bs : List Addr} {xs : List PV} (r : RowsRep h (fun _ => False) bs xs) (k : ∀ b ∈ bs, ∀ o, h.get? b = some o → h'.get? b = some o) : RowsRep h' (fun _ => False) bs xs :=
  r.mono (fun _ h => h.elim) k
theorem rows_loop {iter : Expr} {x : Str} {px lp : Pos} {scope : Scope} {pos : Pos} {cl : List (Str × Addr)} {s0 s1 s2 : Shared} {I : Addr} {fp wr : List Addr} {P : Nat → Value → Prop} {St : Nat → Heap → Prop} {xs : List PV} {D B : Addr} {R : Result → Shared → Prop} {m : Str → Option Value} {z : Prop}
    (H : Here C A env Ok ρ s0) (hc : CompOk C.cc scope x)
    (e1 : Ext s0 s1) (hit : Itr C.W Ok z s0 s1 xs I fp wr P St) (hxz : Sz (.list xs)) (e2 : Ext s1 s2) (hD : s1.heap.get? D = none) (hB : s1.heap.get? B = none) (hDB : D ≠ B) (hD2 : s2.heap.PlainList D #[]) (hB2 : s2.heap.Ns B m) (hDf : D ∉ fp) (hBf : B ∉ fp)
    (hR : ∀ s' bs m', Ext s0 s' → s'.heap.PlainList D (bs.map Value.ref).toArray → RowsRep s'.heap (fun _ => False) bs (List.replicate xs.length (.list [])) → (∀ b ∈ bs, s0.heap.get? b = none ∧ s'.heap.get? b ≠ none ∧ b ≠ B) → (D :: bs).Nodup → s'.heap.Ns B m' → R (.ok .next) s') :
    codeAny C.W.M A (.compLoop (.ListComp (.List [] lp) [⟨.Name x px, iter, [], 0⟩] scope pos) 0 (.ref I) (.ref D) (compEnvC scope cl B env)) R s2 := by
  have hw := hit.walks A H.room.hd
  have hDw : D ∉ wr := fun h => hDf (hw.sub _ h)
  have hBw : B ∉ wr := fun h => hBf (hw.sub _ h)
  have nw : ∀ b, Chg D B wr b → s0.heap.get? b = none := fun b h => h.elim (fun e => e ▸ e1.fresh hD) fun h => h.elim (fun e => e ▸ e1.fresh hB) (hit.new b)
  refine codeAny_compLoop_tests (I := fun n s' => ∃ i bs m', n = xs.length - i ∧ RInv D B wr St xs.length s1 i bs m' s') ?_ xs.length
    ⟨0, [], m, rfl, Nat.zero_le _, e2.but, hw.frame _ _ _ hit.st fun b _ o => e2.keep b o, hD2, .nil, (fun _ h => nomatch h), .nil, hB2⟩
  rintro n s' ⟨i, bs, m', rfl, V⟩
  by_cases hlt : i < xs.length
  · refine hw.item i s' _ _ hlt V.st fun v h' tk hp st' hk => ?_
    have kba : KeepBut (Chg D B wr) s' { s' with heap := h', toks := tk } := ⟨⟨rfl, rfl⟩, fun b o hb ho => hk b o (fun h => hb (.inr (.inr h))) ho⟩
    have nsa : h'.Ns B m' := V.ns.at' fun o => hk B o hBw
    refine wpAny_assign_Name (wpAny_storeName_local (m := m') (lookup_relabel_local hc.loc) nsa (fun hb nsb sbb => ?_) (by unfold compEnvC relabel; rw [hc.kind]; rfl))
    have kb2 : KeepBut (Chg D B wr) s' { s' with heap := hb, toks := tk + 1 } := kba.trans (KeepBut.of_same (s := { s' with heap := h', toks := tk }) sbb (.inr (.inl rfl)) (tk + 1))
    have stb : St (i + 1) hb := hw.frame _ _ _ st' fun b hb o ho => sbb.extBut b o (fun h => hBf ((show b = B from h) ▸ hb)) ho
    have plb : hb.PlainList D (bs.map Value.ref).toArray := V.pl.at fun o ho => sbb.extBut D o hDB (hk D o hDw ho)
    revert nsb kb2 stb plb
    generalize hsb : ({ s' with heap := hb, toks := tk + 1 } : Shared) = sb
    intro nsb kb2 stb plb
    have nsb : sb.heap.Ns B (fun y => if y = x then some v else m' y) := by rw [← hsb]; exact nsb
    have stb : St (i + 1) sb.heap := by rw [← hsb]; exact stb
    have plb : sb.heap.PlainList D (bs.map Value.ref).toArray := by rw [← hsb]; exact plb
    refine wpAny_tests_nil ?_
    refine List_ (Calls.spliced_nil (wpAny_newList (newlist_at (Ok := fun _ => False) (vs := []) (xs := []) 0 sb.toks .nil (notedBy C.W.M A (compEnvC scope cl B env) fun e s' => R (.error e) s') (fun x s₄ => wpAny C.W.M A (call (.builtin "list.append") [.ref D, x]) (fun x s₅ => ∃ m, m < xs.length - i ∧ ∃ i bs m', m = xs.length - i ∧ RInv D B wr St xs.length s1 i bs m' s₅) (notedBy C.W.M A (compEnvC scope cl B env) fun e s' => R (.error e) s') s₄) fun b ws s3 e3 hb0 hpb rb => ?_) (Nat.zero_le _)))
    rw [rb.inv_nil] at hpb
    have hlen : bs.length = i := by rw [V.rr.length, List.length_replicate]
    refine wpAny_list_append_plain (plb.at fun o => e3.keep D o) (fun h5 pl5 sb5 => ?_) (by rw [List.size_toArray, List.length_map, hlen]; exact lst_size (Nat.le_trans V.le hxz.list_len))
    have kb5 : KeepBut (Chg D B wr) s3 { s3 with heap := h5 } := KeepBut.of_same sb5 (.inl rfl) s3.toks
    have bD : b ≠ D := fun q => let ⟨_, ho⟩ := plb; nomatch (q ▸ hb0).symm.trans ho
    have bB : b ≠ B := fun q => let ⟨_, _, _, ho, _⟩ := nsb; nomatch (q ▸ hb0).symm.trans ho
    have bW : b ∉ wr := fun h => hit.there _ _ stb b h hb0
    have kall := V.kb.trans kb2
    have live : ∀ c ∈ bs, sb.heap.get? c ≠ none := fun c hc q => let ⟨o, ho⟩ := ne_some (V.new c hc).2.1; nomatch (kb2.keep c o (V.new c hc).2.2 ho).symm.trans q
    have nb : s1.heap.get? b = none := by
      cases q : s1.heap.get? b with
      | none => rfl
      | some o => exact nomatch (kall.keep b o (fun h => h.elim bD fun h => h.elim bB bW) q).symm.trans hb0
    have nx : ∀ c ∈ bs, c ≠ D := fun c hc q => (V.new c hc).2.2 (.inl q)
    refine ⟨xs.length - (i + 1), Nat.sub_succ_lt_self _ _ hlt, i + 1, bs ++ [b], _, rfl, hlt, kall.trans (e3.but.trans kb5), hw.frame _ _ _ stb fun c hc o ho => sb5.extBut c o (fun h => hDf (h ▸ hc)) (e3.keep c o ho), ?_, ?_, ?_, ?_, (nsb.keeps e3.keep).at' fun o => sb5.extBut B o (Ne.symm hDB)⟩
    · rw [List.map_append]; exact List.push_toArray (bs.map Value.ref) (.ref b) ▸ pl5
    · rw [List.replicate_succ']
      exact RowsRep.snoc (rows_rep_none V.rr fun c hc o ho => sb5.extBut c o (nx c hc) (e3.keep c o (kb2.keep c o (V.new c hc).2.2 ho))) (hpb.at fun o => sb5.extBut b o bD) .nil
    · intro c hc
      rcases List.mem_append.mp hc with hc | hc
      · refine ⟨(V.new c hc).1, fun q => ?_, (V.new c hc).2.2⟩
        obtain ⟨o, ho⟩ := ne_some (live c hc)
        exact nomatch (sb5.extBut c o (nx c hc) (e3.keep c o ho)).symm.trans q
      · cases List.mem_singleton.mp hc
        exact ⟨nb, (fun q => let ⟨_, ho⟩ := hpb; nomatch (sb5.extBut b _ bD ho).symm.trans q), fun h => h.elim bD fun h => h.elim bB bW⟩
    · exact List.nodup_append.mpr ⟨V.nd, List.nodup_cons.mpr ⟨List.not_mem_nil, List.nodup_nil⟩, fun c hc d hd q => live c hc ((List.mem_singleton.mp hd ▸ q) ▸ hb0)⟩
  · have hin' : i = xs.length := Nat.le_antisymm V.le (Nat.not_lt.mp hlt)
    subst hin'
    refine hw.done s' _ _ V.st fun h' tk hk => ?_
    have kba : KeepBut (Chg D B wr) s' { s' with heap := h', toks := tk } := ⟨⟨rfl, rfl⟩, fun b o hb ho => hk b o (fun h => hb (.inr (.inr h))) ho⟩
    have far : ∀ b ∈ bs, b ∉ wr := fun b hb h => (V.new b hb).2.2 (.inr (.inr h))
    exact hR _ bs m' (KeepBut.after e1 (V.kb.trans kba) nw) (V.pl.at fun o => hk D o hDw) (rows_rep_none V.rr fun b hb o => hk b o (far b hb))
      (fun b hb => ⟨e1.fresh (V.new b hb).1, (fun q => let ⟨o, ho⟩ := ne_some (V.new b hb).2.1; nomatch (hk b o (far b hb) ho).symm.trans q), fun q => (V.new b hb).2.2 (.inr (.inl q))⟩)
      (List.nodup_cons.mpr ⟨fun h => (V.new D h).2.2 (.inl rfl), V.nd⟩) (V.ns.at' fun o => hk B o hBw)
theorem rows_sound {iter : Expr} {x : Str} {px lp : Pos} {scope : Scope} {pos fpos : Pos} {src : ME} {s0 : Shared} {use : Option (Value → Sem Unit)} {E Q : Value → Shared → Prop} {Z : List PV → Prop}
    (H : Here C A env Ok ρ s0) (hc : CompOk C.cc scope x) (hs : SI C src iter) (hns : notSet iter = true)
    (hev : (evA C.Γ src ρ).its fun xs _ => Z xs)
    (hR : ∀ D B s' bs xs m', s0.heap.get? D = none → s'.heap.get? D ≠ none → s0.heap.get? B = none → D ≠ B → Ext s0 s' → s'.heap.PlainList D (bs.map Value.ref).toArray → RowsRep s'.heap (fun _ => False) bs (List.replicate xs.length (.list [])) → (∀ b ∈ bs, s0.heap.get? b = none ∧ s'.heap.get? b ≠ none ∧ b ≠ B) → (D :: bs).Nodup → Sz (.list xs) → Z xs → s'.heap.Ns B m' → compPost C.W.M A E use Q (.ref D) B (.ok .next) s') :
    wpAny C.W.M A (comprehension (.ListComp (.List [] lp) [⟨.Name x px, iter, [], 0⟩] scope pos) scope env fpos (newList []) false (eval iter env) use) Q E s0 := by
  obtain ⟨cl, hclos, hcl⟩ := closure_of (env := env) (scope := scope) fun y hy hf => (H.cl y.1 (hc.free y hy hf)).2
  refine wpAny_comprehension_free (use := use) rfl (folded_plain hns env) hclos hc.kind hc.names (hs A env Ok ρ s0 _ H hev E _ fun it s1 xs l e1 hit hxz hz => ?_)
  obtain ⟨I, fp, wr, P, St, rfl, hit⟩ := hit
  refine wpAny_newObj_type (wpAny_newFunctionEnv hc.nocell (fun y hy => nomatch hy) (fun h₁ hns₁ hsb₁ => ?_) hc.kind)
  revert hns₁ hsb₁
  show Heap.Ns h₁ (s1.heap.push { cls := .type "list", dict := none, data := .seq ([] : List Value).toArray }).objs.size _ → Heap.SameBut _ _ _ → _
  generalize hH2 : s1.heap.push { cls := .type "list", dict := none, data := .seq ([] : List Value).toArray } = H2
  intro hns₁ hsb₁
  have hC : H2.objs.size = s1.heap.objs.size + 1 := by rw [← hH2, Heap.size_push]
  have hDC : s1.heap.objs.size ≠ H2.objs.size := by rw [hC]; exact Nat.ne_of_lt (Nat.lt_succ_self _)
  have ge : ∀ b, s1.heap.objs.size ≤ b → s1.heap.get? b = none := fun b hb => by
    cases q : s1.heap.get? b with
    | none => rfl
    | some o => exact absurd (Heap.lt_size q) (Nat.not_lt.mpr hb)
  have hle : s1.heap.objs.size ≤ H2.objs.size := by rw [hC]; exact Nat.le_succ _
  have hC2 := ge _ hle
  have old : ∀ b o, s1.heap.get? b = some o → h₁.get? b = some o := fun b o e => hsb₁.extBut b o (fun q => nomatch (q ▸ hC2).symm.trans e) (Heap.get?_push_of_some _ (hH2 ▸ Heap.get?_push_of_some _ e))
  have hacc : h₁.PlainList s1.heap.objs.size #[] := ⟨_, hsb₁.extBut _ _ hDC (Heap.get?_push_of_some _ (hH2 ▸ Heap.get?_push_size _ rfl))⟩
  have e2 : Ext s1 { s1 with heap := h₁, toks := s1.toks + ([] : List (Str × Value)).length } := ⟨⟨rfl, rfl⟩, old⟩
  have nf : ∀ b, s1.heap.objs.size ≤ b → b ∉ fp := fun b hb h => Nat.lt_irrefl b (Nat.lt_of_lt_of_le (hit.old b h) hb)
  have loop := rows_loop (iter := iter) (px := px) (lp := lp) (pos := pos) (cl := cl) (R := compPost C.W.M A E use Q (.ref s1.heap.objs.size) H2.objs.size) H hc e1 hit hxz e2 (get_size _) hC2 hDC hacc hns₁ (nf _ (Nat.le_refl _)) (nf _ hle)
    fun s' bs m' ex pl rr nb nd ns => hR _ _ s' bs xs m' (e1.fresh (get_size _)) (plain_some pl) (e1.fresh hC2) hDC ex pl rr nb nd hxz hz ns
  have hw := hit.walks A H.room.hd
  exact codeAny_compStart_list loop (hw.self 0 _ _ _ (hw.frame _ _ _ hit.st fun b _ o => old b o) loop)
end
section
variable {C : Cx} {F : Fr} {own own' : Nat → Addr → Prop} {ρ ρ' : List Slt} {s s' : Shared}
theorem sz_rows {xs : List PV} (h : Sz (.list xs)) : Sz (.list (List.replicate xs.length (.list []))) :=
  .list (by rw [List.length_replicate]; exact h.list_len) fun x hx => List.eq_of_mem_replicate hx ▸ .list (Nat.zero_le _) fun _ h => nomatch h
theorem comp_place2 {F : Fr} {own own2 : Nat → Addr → Prop} {ρ ρ2 : List Slt} {s s2 : Shared} {B : Addr} {h' : Heap} {m : Str → Option Value} (S : StR C F own ρ s) (S2 : StR C F own2 ρ2 s2) (hB : s.heap.get? B = none) (hn : ∀ i, ¬ own2 i B) (ns : s2.heap.Ns B m) (sb : Heap.SameBut B s2.heap h') :
    StR C F own2 ρ2 { s2 with heap := h' } :=
  S2.scr (X := fun b => b = B) (KeepBut.of_same (X := fun b => b = B) sb rfl s2.toks) (fun b hb => by rw [show b = B from hb]; exact ⟨(fun o hk => nomatch hB.symm.trans (S.kept B o hk)), fun _ => S.fresh B hB⟩) fun b hb => by rw [show b = B from hb]; exact ⟨fun h => none_ne hB (S.plc_some h), hn, fun hs => absurd hs (ns_seq ns)⟩
theorem ss_rows (G : C.cc.Good) {y : Str} {i : Nat} {iter : Expr} {x : Str} {px lp : Pos} {scope : Scope} {pos p p' : Pos} {src : ME} (hy : C.cc.σ y = some i)
    (hc : CompOk C.cc scope x) (hs : SI C src iter) (hns : notSet iter = true) : SS C (.rows i src) (.Assign [.Name y p'] (.ListComp (.List [] lp) [⟨.Name x px, iter, [], 0⟩] scope pos) p) := by
  intro F own0 ρ s P S hp E Q q
  obtain ⟨own1, S1⟩ := S.freeze G (esc false src)
  have hp : (evA C.Γ src (freeze (esc false src) ρ)).its fun xs _ => P .next (setS (freeze (esc false src) ρ) i (some (.list (List.replicate xs.length (.list [])), 2))) := hp
  revert S1 hp
  generalize freeze (esc false src) ρ = ρ1
  intro S1 hp
  have store : ∀ (D : Addr) (s' : Shared) (bs : List Addr) (xs : List PV) (Q' : Unit → Shared → Prop), s.heap.get? D = none → s'.heap.get? D ≠ none → Ext s s' → s'.heap.PlainList D (bs.map Value.ref).toArray → RowsRep s'.heap (fun _ => False) bs (List.replicate xs.length (.list [])) →
      (∀ b ∈ bs, s.heap.get? b = none ∧ s'.heap.get? b ≠ none) → (D :: bs).Nodup → Sz (.list xs) →
      (∀ s'' own2, (∀ j a, own2 j a → own1 j a ∨ a ∈ D :: bs) → KeepBut (Plc F.env) s' s'' → StR C F own2 (setS ρ1 i (some (.list (List.replicate xs.length (.list [])), 2))) s'' → Q' () s'') → wpAny C.W.M F.A (storeName F.env y (.ref D)) Q' E s' := by
    intro D s' bs xs Q' hD hD' ex pl rr nb nd sz q'
    have hnew : ∀ b, b ∈ D :: bs → s.heap.get? b = none ∧ s'.heap.get? b ≠ none := fun b hb => (List.mem_cons.mp hb).elim (fun e => e ▸ ⟨hD, hD'⟩) (nb b)
    exact (S1.hide (new := fun b => b ∈ D :: bs) ex hnew).storeH G hy (new := fun b => b ∈ D :: bs) (fun b hb => ⟨_, .inr ⟨rfl, hb⟩, .inr (Nat.le_refl _)⟩)
      (.two (.head _) (fun b hb => .tail _ hb) nd pl (rr.mono (fun _ h => h.elim) fun _ _ _ h => h)) (sz_rows sz) fun s'' kb S2 => q' s'' _ (fun j b h => h.elim (fun q => .inr q.2) fun q => q.2.1.imp_right fun r => r.2) kb S2
  by_cases hsw : (F.env.blockKind == .function && F.env.kindOf y == some .local && p'.line == pos.line && !(scope.names.any fun (n, k) => n == y && (k == .local || k == .cell))) = true
  · have hw : swapsWith (.ListComp (.List [] lp) [⟨.Name x px, iter, [], 0⟩] scope pos) (some (.Name y p')) p.line F.env = pure true := by rw [← hsw]; rfl
    rw [exec_Assign_Name_used _ _ _ _ hw]
    refine wpAny_bind (wpAny_standAt (wpAny_bind ?_))
    show wpAny _ F.A (do let _ ← comprehension (.ListComp (.List [] lp) [⟨.Name x px, iter, [], 0⟩] scope pos) scope F.env _ (newList []) false (eval iter F.env) (some (assign (.Name y p') F.env))) _ _ s
    refine wpAny_bind (rows_sound (use := some (assign (.Name y p') F.env)) (Q := fun _ s' => wpAny C.W.M F.A _ _ E s') S1.here hc hs hns hp fun D B s' bs xs m' hD hD' hB hDB ex pl rr nb nd sz z ns => ?_)
    show wpAny C.W.M F.A (assign (.Name y p') F.env (.ref D)) _ E s'
    refine wpAny_assign_Name (store D s' bs xs _ hD hD' ex pl rr (fun b hb => ⟨(nb b hb).1, (nb b hb).2.1⟩) nd sz fun s'' own2 how kb S2 => ?_)
    have ns2 : s''.heap.Ns B m' := ns.at' fun o => kb.keep B o fun h => none_ne hB (S1.plc_some h)
    exact ⟨m', ns2, fun h' sb => wpAny_pure (wpAny_pure (q own2 _ _ .next _ (comp_place2 S1 S2 hB (fun j h => (how j B h).elim (fun h => (S1.owned j B h).1 hB) fun h => (List.mem_cons.mp h).elim (fun h => hDB h.symm) fun h => (nb B h).2.2 rfl) ns2 sb) rfl z))⟩
  · have hw : swapsWith (.ListComp (.List [] lp) [⟨.Name x px, iter, [], 0⟩] scope pos) (some (.Name y p')) p.line F.env = pure false := by rw [← Bool.eq_false_iff.mpr hsw]; rfl
    refine wpAny_Assign_Name ?_ hw
    rw [eval_ListComp]
    refine rows_sound (use := none) S1.here hc hs hns hp fun D B s' bs xs m' hD hD' hB hDB ex pl rr nb nd sz z ns => ⟨m', ns, fun h' sb => ?_⟩
    have kb : KeepBut (fun b => b = B) s' { s' with heap := h' } := KeepBut.of_same (X := fun b => b = B) sb rfl s'.toks
    refine store D _ bs xs _ hD (plain_some (pl.at fun o => sb.extBut D o hDB)) (KeepBut.after ex kb fun b e => e ▸ hB) (pl.at fun o => sb.extBut D o hDB) (rows_rep_none rr fun b hb o => sb.extBut b o (nb b hb).2.2) (fun b hb => ⟨(nb b hb).1, fun q => let ⟨o, ho⟩ := ne_some (nb b hb).2.1; nomatch (sb.extBut b o (nb b hb).2.2 ho).symm.trans q⟩) nd sz fun s'' own2 _ _ S2 => q own2 s'' _ .next _ S2 rfl z
end
end Mine
end
noncomputable section
namespace Mine
open Builtin
section
variable {C : Cx}
/-- xs.extend(a list) -/
theorem ss_extendM (G : C.cc.Good) {x : Str} {i : Nat} {me : ME} {e : Expr} {p apos pos pos' : Pos} (hx : C.cc.σ x = some i) (hd : (x == ("__debug__" : Str)) = false) (hcd : (x == ("__classdict__" : Str)) = false)
    (hline : (apos.endLine == pos.line) = true) (hn : notStar e = true) (h : SE C me e) : SS C (.extend i me) (.Expr (.Call (.Attribute (.Name x p) "extend" apos) [e] [] pos) pos') := by
  intro F own0 ρ0 s P S0 hp E Q q
  obtain ⟨own, S⟩ := S0.freeze G (esc false me)
  obtain ⟨xs, h1, h2⟩ := own_inv hp
  obtain ⟨w, hw, hb, hz⟩ := S.get x i hx _ _ h1
  obtain ⟨a, vs, rfl, ho, hpl, hra⟩ := hb.one_inv
  refine wpAny_Expr (call_own S hw hd hcd hpl hline PySem.F.slot_list_extend PySem.F.type_list_extend (by rw [starEach_plain hn]; rfl) (plain_one hn) (spliced_one hn (h F.A F.env _ _ s _ S.here h2 E _ fun u s1 y l e1 r1 hy => ?_))) (not_inter S.st.kind) rfl
  obtain ⟨rfl, hy⟩ := l0_inv hy
  obtain ⟨ys, rfl, hlt, hq⟩ := list_inv hy
  obtain ⟨b, ws, rfl, _, ⟨m, hob⟩, hrb⟩ := r1.r.rep0.inv
  obtain ⟨n, hoa⟩ := hpl.at fun o => e1.keep a o
  have hsz : vs.toArray.size + ws.toArray.size ≤ LST := by rw [List.size_toArray, List.size_toArray, hra.length, hrb.length]; exact hlt
  have hsl := lst_size hsz
  refine call_meets PySem.F.slot_list_extend ⟨_, hoa, rfl⟩ PySem.F.entry_list_extend (PySem.F.args_list_extend_2 _ _) (AutoSeq1.list_extend_list_list_0 a vs.toArray n b ws.toArray m (by
    unfold Builtin.List.listTooLong
    rw [decide_eq_false (Nat.not_lt.mpr hsl), Bool.and_false]; exact Bool.false_ne_true) (Nat.le_trans (Nat.le_add_right _ _) hsl) (Nat.le_succ_of_le hsl)) ⟨hoa, hob, ?_⟩
  have pl' := plain_update (fun x => x ++ ws.toArray) hoa
  rw [List.append_toArray] at pl'
  exact q _ _ _ .next _ (S.turned G (v := .none) e1 hx ho hw (Heap.SameBut.update ..) pl' ((hra.ext e1).append hrb) (sz_append hlt hz r1.z)) rfl hq
end
end Mine
end
noncomputable section
namespace Mine
open Builtin
/-! ## count and index of a list; max of two ints -/
section
variable {W : Wld} {A : Around} {s : Shared} {Ok Ok' : Addr → Prop} {v u : Value} {x y : PV} {xs : List PV} {vs : List Value} {a : Addr}
theorem count_like {h : Heap} {Ok : Addr → Prop} (r : RepAll h Ok vs xs) : vs.countP (likeV h Ok x) = xs.countP (likeB x) :=
  r.ind (P := fun vs xs => vs.countP (likeV h Ok x) = xs.countP (likeB x)) rfl fun a _ ih => by rw [List.countP_cons, List.countP_cons, ih, like_eq a]
theorem list_recv {P : Prop} (h : listR x P) : (∃ xs, x = .list xs) ∧ P := by
  cases x with
  | list xs => exact ⟨⟨xs, rfl⟩, h⟩
  | _ => exact h.elim
theorem any_rep {l : Nat} {h : Heap} (hu : Val W h Ok l u y) (hn : ∀ es, y ≠ .dict es) : Rep h (fun _ => True) u y := hu.r.any hn
theorem ok_count : MethOk W .count where
  get A s Ok l v x P pl E Q hv h q := by
    obtain ⟨⟨xs, rfl⟩, p⟩ := list_recv h
    obtain ⟨a, vs, rfl, ⟨n, ho⟩, _⟩ := hv.r.inv
    exact getMethod_builtin (T := "list") ⟨_, ho, rfl⟩ F.plainAttrs_list F.slot_list_count F.type_list_count (fun b e => Value.ref.inj e ▸ ⟨_, ho, rfl⟩) (q p)
  run A s Ok l l' v u x y Z H hv hu hl h := by
    obtain ⟨hn, h⟩ := nd_inv h
    obtain ⟨xs, rfl, hd, z⟩ := list_inv h
    obtain ⟨a, vs, rfl, ⟨n, ho⟩, r, _⟩ := hv.r.inv
    refine Gets.yld (fun E Q q => ?_) (.int _) z
    show wpAny W.M A (call (.builtin "list.count") [.ref a, u]) Q E s
    refine call_meets F.slot_list_count ⟨_, ho, rfl⟩ F.entry_list_count (F.args_list_count_2 _ _) (PySem.SeqAt.list_countAt a vs.toArray n none #[] u (likeV s.heap (fun _ => True) y)) ⟨ho, fun v hv => like_at H.un r (any_rep hu hn) hd v (List.mem_toArray.mp hv), ?_⟩
    rw [List.toList_toArray, count_like r]
    exact q _ _ (.toks _ _) (.int _ _)
theorem ok_index : MethOk W .index where
  get A s Ok l v x P pl E Q hv h q := by
    obtain ⟨⟨xs, rfl⟩, p⟩ := list_recv h
    obtain ⟨a, vs, rfl, ⟨n, ho⟩, _⟩ := hv.r.inv
    exact getMethod_builtin (T := "list") ⟨_, ho, rfl⟩ F.plainAttrs_list F.slot_list_index F.type_list_index (fun b e => Value.ref.inj e ▸ ⟨_, ho, rfl⟩) (q p)
  run A s Ok l l' v u x y Z H hv hu hl h := by
    obtain ⟨hn, h⟩ := nd_inv h
    obtain ⟨xs, rfl, hd, i, hi, z⟩ := list_inv h
    obtain ⟨a, vs, rfl, ⟨n, ho⟩, r, _⟩ := hv.r.inv
    have hlen := r.length
    obtain ⟨hlt, hit, hno⟩ := List.findIdx?_eq_some_iff_getElem.mp hi
    have hz := hv.z.list_len
    have hlt' : i < vs.toArray.size := by rw [List.size_toArray, hlen]; exact hlt
    have at' : ∀ j (h1 : j < vs.toArray.size) (h2 : j < xs.length), likeV s.heap (fun _ => True) y vs.toArray[j] = likeB y xs[j] := fun j h1 h2 => like_eq (r.at (List.getElem?_eq_getElem h1) (List.getElem?_eq_getElem h2))
    refine Gets.yld (fun E Q q => ?_) (.int _) z
    show wpAny W.M A (call (.builtin "list.index") [.ref a, u]) Q E s
    refine call_meets F.slot_list_index ⟨_, ho, rfl⟩ F.entry_list_index (F.args_list_index_2 _ _) (PySem.SeqAt.list_indexAt a vs.toArray n none #[] u (likeV s.heap (fun _ => True) y) i hlt' (Int.lt_of_lt_of_le (Int.ofNat_lt.mpr (Nat.lt_of_lt_of_le hlt hz)) (by decide)) ?_ ?_) ⟨ho, fun v hv => like_at H.un r (any_rep hu hn) hd v (List.mem_toArray.mp hv), ?_⟩
    · rw [at' i hlt' hlt]; exact hit
    · intro m hm hmi
      have hm' : m < xs.length := Nat.lt_trans hmi hlt
      rw [at' m hm hm']
      exact Bool.eq_false_iff.mpr fun q => hno m hmi q
    · exact q _ _ (.toks _ _) (.int _ _)
theorem b2_max : Bi2Ok W .max := by
  intro A s Ok v u x y Z H hv hu h
  obtain ⟨a, rfl, h⟩ := int_inv h
  obtain ⟨b, rfl, z⟩ := int_inv h
  obtain ⟨t, rfl⟩ := hv.r.inv.inv; obtain ⟨t', rfl⟩ := hu.r.inv.inv
  exact Gets.yld (fun E Q q => max_two_ints H.hd fun h' tk hk => q _ _ ⟨⟨rfl, rfl⟩, hk⟩ (by split <;> exact .int _ _)) (.int _) z
end
end Mine
end
noncomputable section
namespace Mine
open Builtin
/-! ## the compiler's further cases: += on an owned list, a tuple of names from a tuple display -/
section
variable {cfg : Cfg} {fns : List Str} {cc : CC} (ih : ∀ (cc : CC) (e : Expr), CE cfg fns cc e) (owns : List Str)
abbrev CM (cfg : Cfg) (fns : List Str) (cc : CC) (vs : List Expr) : Type := { p : List Nat × ME // Snd cfg fns cc fun C => SM C p.1 p.2 vs }
def cMade1 (x : Str) (v : Expr) (vs : List Expr) (hn : notStar v = true) (r : CM cfg fns cc vs) : CM cfg fns cc (v :: vs) :=
  match v with
  | .List ls q => if owns.contains x = true then ⟨(1 :: r.1.1, .cons (.list (cList ih ls).1) r.1.2), fun W Γ k H => SN.sm rfl (sn_list ((cList ih ls).2 W Γ k H)) (r.2 W Γ k H)⟩
      else ⟨(0 :: r.1.1, .cons (.list (cList ih ls).1) r.1.2), fun W Γ k H => sm_plain rfl (se_list ((cList ih ls).2 W Γ k H)) (r.2 W Γ k H)⟩
  | v => ⟨(0 :: r.1.1, .cons (ih cc v).1 r.1.2), fun W Γ k H => sm_plain hn ((ih cc v).2 W Γ k H).se (r.2 W Γ k H)⟩
end
end Mine
end
noncomputable section
namespace Mine
open Builtin
section
variable {C : Cx} {A : Around} {env : Env} {Ok : Addr → Prop} {ρ : List Slt} {s : Shared}
theorem new_set {prog : Program} {w : World} {E Q : Value → Shared → Prop} (h : Q (.ref s.heap.objs.size) { s with heap := s.heap.push { cls := .type "set", dict := none, data := .set #[] 0 (.fresh 0 0 (ledOf w)) } }) :
    wpAny (model prog w) A (newSet (.type "set")) Q E s := by
  unfold newSet setsByText
  refine wpAny_bind (wpAny_bind (wpAny_askSetting (wpAny_pure ?_)))
  dsimp only
  simp only [newObj]
  exact wpAny_bind (wpAny_alloc (wpAny_pure h))
theorem set_sound {elt iter : Expr} {x : Str} {px : Pos} {scope : Scope} {pos : Pos} {me src : ME} {s0 : Shared} {E Q : Value → Shared → Prop} {Z : Bool → Prop}
    (H : Here C A env Ok ρ s0) (hc : CompOk C.cc scope x) (hs : SI C src iter) (hns : notSet iter = true)
    (he : SE (C.comp scope x) me elt)
    (hev : (evA C.Γ src ρ).its fun xs _ => ∃ b, onesP (fun x => (evA C.Γ me (ρ ++ [some (x, 0)])).val) b false xs (Z b))
    (hR : ∀ D s' b, Ext s0 s' → Set1 s'.heap D b (ledOf C.W.w) → Z b → Q (.ref D) s') :
    wpAny C.W.M A (eval (.SetComp elt [⟨.Name x px, iter, [], 0⟩] scope pos) env) Q E s0 := by
  rw [arm_eval_SetComp]
  obtain ⟨cl, hclos, hcl⟩ := closure_of (env := env) (scope := scope) fun y hy hf => (H.cl y.1 (hc.free y hy hf)).2
  refine wpAny_comprehension_free (use := none) rfl (folded_plain hns env) hclos hc.kind hc.names (hs A env Ok ρ s0 _ H hev E _ fun it s1 xs l e1 hit hxz hcp => ?_)
  obtain ⟨I, fp, wr, P, St, rfl, hit⟩ := hit
  obtain ⟨b, hcp⟩ := hcp
  refine new_set (wpAny_newFunctionEnv hc.nocell (fun y hy => nomatch hy) (fun h₁ hns₁ hsb₁ => ?_) hc.kind)
  revert hns₁ hsb₁
  show Heap.Ns h₁ (s1.heap.push { cls := .type "set", dict := none, data := .set #[] 0 (.fresh 0 0 (ledOf C.W.w)) }).objs.size _ → Heap.SameBut _ _ _ → _
  generalize hH2 : s1.heap.push { cls := .type "set", dict := none, data := .set #[] 0 (.fresh 0 0 (ledOf C.W.w)) } = H2
  intro hns₁ hsb₁
  have hC : H2.objs.size = s1.heap.objs.size + 1 := by rw [← hH2, Heap.size_push]
  have hDC : s1.heap.objs.size ≠ H2.objs.size := by rw [hC]; exact Nat.ne_of_lt (Nat.lt_succ_self _)
  have ge : ∀ b, s1.heap.objs.size ≤ b → s1.heap.get? b = none := fun b hb => by
    cases q : s1.heap.get? b with
    | none => rfl
    | some o => exact absurd (Heap.lt_size q) (Nat.not_lt.mpr hb)
  have hle : s1.heap.objs.size ≤ H2.objs.size := by rw [hC]; exact Nat.le_succ _
  have hC2 := ge _ hle
  have old : ∀ b o, s1.heap.get? b = some o → h₁.get? b = some o := fun b o e => hsb₁.extBut b o (fun q => nomatch (q ▸ hC2).symm.trans e) (Heap.get?_push_of_some _ (hH2 ▸ Heap.get?_push_of_some _ e))
  have hacc : Set0 h₁ s1.heap.objs.size (ledOf C.W.w) := hsb₁.extBut _ _ hDC (Heap.get?_push_of_some _ (hH2 ▸ Heap.get?_push_size _ rfl))
  have e2 : Ext s1 { s1 with heap := h₁, toks := s1.toks + ([] : List (Str × Value)).length } := ⟨⟨rfl, rfl⟩, old⟩
  have nf : ∀ b, s1.heap.objs.size ≤ b → b ∉ fp := fun b hb h => Nat.lt_irrefl b (Nat.lt_of_lt_of_le (hit.old b h) hb)
  have loop := set_loop (elt := elt) (iter := iter) (px := px) (pos := pos) (R := compPost C.W.M A E none Q (.ref s1.heap.objs.size) H2.objs.size) H hc hcl he e1 hit hxz e2 (get_size _) hC2 hDC hacc hns₁ (nf _ (Nat.le_refl _)) (nf _ hle) hcp
    fun s' m' ex hS z ns => ⟨m', ns, fun h' sb =>
      have kb : KeepBut (fun b => b = H2.objs.size) s' { s' with heap := h' } := KeepBut.of_same (X := fun b => b = H2.objs.size) sb rfl s'.toks
      hR _ _ b (KeepBut.after ex kb fun b e => e ▸ e1.fresh hC2) (sb.extBut _ _ hDC hS) z⟩
  have hw := hit.walks A H.room.hd
  exact compStart_set loop (hw.self 0 _ _ _ (hw.frame _ _ _ hit.st fun b _ o => old b o) loop)
/-- x, = {elt for y in iter} -/
theorem ss_oneOf (G : C.cc.Good) {y : Str} {i : Nat} {elt iter : Expr} {x : Str} {px : Pos} {scope : Scope} {pos p p' p'' : Pos} {n : Nat} {me src : ME} (hy : C.cc.σ y = some i)
    (hc : CompOk C.cc scope x) (hs : SI C src iter) (hns : notSet iter = true) (he : SE (C.comp scope x) me elt) :
    SS C (.oneOf i me src) (.Assign [.Tuple [.Name y p''] n p'] (.SetComp elt [⟨.Name x px, iter, [], 0⟩] scope pos) p) := by
  intro F own0 ρ s P S0 hp E Q q
  obtain ⟨own, S⟩ := S0.freeze G (esc true me ++ esc false src)
  refine Assign_Tuple (set_sound S.here hc hs hns he hp fun D s' b ex hS hz => ?_) rfl rfl
  rw [arm_assign_Tuple]
  refine wpAny_bind (wpAny_standAt ?_)
  unfold unpack
  refine wpAny_bind (wpAny_holding (unpack_set1 S.st.room.hd hS fun h' k => ?_))
  have ex2 : Ext s { s' with heap := h' } := ex.trans ⟨⟨rfl, rfl⟩, k⟩
  show wpAny C.W.M F.A (assignInOrder [assign (.Name y p'') F.env] [.bool b]) _ E _
  refine wpAny_assignInOrder_more (wpAny_assign_Name ((S.ext ex2).store0 G hy (.bool b) (.bool b) fun s'' _ S'' => wpAny_assignInOrder_none (q _ s'' _ .next _ S'' rfl hz)))
end
end Mine
end
noncomputable section
namespace Mine
open Builtin
section
variable {C : Cx} {F : Fr} {own own' : Nat → Addr → Prop} {ρ ρ' : List Slt} {s s' : Shared}
theorem tuple_stored2 (G : C.cc.Good) {es : List Expr} {is : List Nat} {n : Nat} {p : Pos} {a : Addr} {vs : List Value} {xs : List PV} (h : Names C.cc es is) (S : StR C F own ρ s)
    (ht : s.heap.IsTuple a vs.toArray) (r : RepAll s.heap (Okc F.Ok own) vs xs) (sz : ∀ x ∈ xs, Sz x) (hl : is.length = xs.length) {E : Value → Shared → Prop} {Q : Unit → Shared → Prop} (q : ∀ own' s', StR C F own' (setAll is xs ρ) s' → Q () s') :
    wpAny C.W.M F.A (assign (.Tuple es n p) F.env (.ref a)) Q E s := by
  refine wpAny_assign_Tuple S.st.room.hd ht (by rw [h.length, hl, List.size_toArray, r.length]) h.nostar fun h' hx => ?_
  have e : Ext s { s with heap := h' } := ⟨⟨rfl, rfl⟩, fun b o hb => hx b o (fun q => nomatch (q ▸ get_size s.heap).symm.trans hb) hb⟩
  exact storeAll G h (S.ext e) (r.ext e) sz hl q
theorem enum_get (xs : List PV) : ∀ (k i : Nat), (enumF k xs)[i]? = (xs[i]?).map fun x => .tup [.int ((k + i : Nat) : Int), x] := by
  induction xs with
  | nil => exact fun k i => rfl
  | cons x xs ih =>
    intro k i
    cases i with
    | zero => rfl
    | succ i => exact (ih (k + 1) i).trans (by rw [show k + 1 + i = k + (i + 1) by omega]; rfl)
theorem enum_len (xs : List PV) : ∀ k : Nat, (enumF k xs).length = xs.length := by
  induction xs with
  | nil => exact fun k => rfl
  | cons x xs ih => exact fun k => congrArg (· + 1) (ih (k + 1))
/-- for i, c in enumerate(e) -/
theorem ss_forEnum (G : C.cc.Good) {i1 i2 : Nat} {src : ME} {m : MS} {es : List Expr} {e : Expr} {n : Nat} {body : List Stmt} {p p' p2 pos : Pos} (hn : Names C.cc es [i1, i2]) (gE : C.cc.gl "enumerate" = true) (bE : C.W.glob "enumerate" = some (.type "enumerate")) (hs : SE C src e) (hne : notStar e = true) (hm : SB C m body) :
    SS C (.for_ [i1, i2] (.enum src) m) (.For (.Tuple es n p') (.Call (.Name "enumerate" p2) [e] [] pos) body [] p) := by
  intro F own0 ρ0 s P S0 hp E Q q
  obtain ⟨own, S1⟩ := S0.freeze G (esc true (.enum src))
  have hp : (evA C.Γ src (freeze (esc true (.enum src)) ρ0)).val fun x l => l1 l (listP x fun xs => l0 l (forP (wp C.Γ m) [i1, i2] (enumF 0 xs) (freeze (esc true (.enum src)) ρ0) P)) := hp
  revert S1 hp
  generalize freeze (esc true (.enum src)) ρ0 = ρ
  intro S1 hp
  refine wpAny_For (call_named S1.here gE bE (by decide) (.inr ⟨_, rfl⟩) (plain_one hne) (spliced_one hne (hs F.A F.env _ _ s _ S1.here hp E _ fun v s1 x l e1 r1 h1 => ?_))) (fun _ => rfl)
  obtain ⟨hl, h1⟩ := l1_inv h1
  obtain ⟨xs, rfl, h1⟩ := list_inv h1
  obtain ⟨rfl, h1⟩ := l0_inv h1
  obtain ⟨la, vs, rfl, hok, ql, ra⟩ := r1.r.rep0.inv
  have hlen := ra.length
  refine call_enumerate_list ql.isList fun h2 hE hI hz2 hk2 => ?_
  have n0 : s1.heap.get? s1.heap.objs.size = none := get_size _
  have n1 : s1.heap.get? (s1.heap.objs.size + 1) = none := by
    cases q : s1.heap.get? (s1.heap.objs.size + 1) with
    | none => rfl
    | some o => exact absurd (Nat.lt_of_succ_lt (Heap.lt_size q)) (Nat.lt_irrefl _)
  have dEI : s1.heap.objs.size + 1 ≠ s1.heap.objs.size := Nat.succ_ne_self _
  have dlE : la ≠ s1.heap.objs.size + 1 := fun q => let ⟨_, ho, _⟩ := ql.isList; nomatch (q ▸ n1).symm.trans ho
  have dlI : la ≠ s1.heap.objs.size := fun q => let ⟨_, ho, _⟩ := ql.isList; nomatch (q ▸ n0).symm.trans ho
  have hw := WalksT.enumerate (prog := C.W.prog) (w := C.W.w) (A := F.A) S1.st.room.hd (s1.heap.objs.size + 1) s1.heap.objs.size la dEI dlE dlI vs.toArray
  have hst0 : (∃ old, IsEnum h2 (s1.heap.objs.size + 1) s1.heap.objs.size 0 old) ∧ h2.IsListIter s1.heap.objs.size la 0 ∧ h2.IsList la vs.toArray := ⟨⟨_, hE⟩, hI, ql.isList.at fun o => hk2 la o⟩
  revert hw hst0 dEI dlE dlI n0 n1
  clear hE hI hz2
  generalize s1.heap.objs.size + 1 = e
  generalize s1.heap.objs.size = it
  intro n0 n1 dEI dlE dlI hw hst0
  have e2 : Ext s { s1 with heap := h2 } := e1.trans ⟨⟨rfl, rfl⟩, hk2⟩
  have wrN : ∀ b ∈ [e, it], s.heap.get? b = none := fun b hb => (List.mem_cons.mp hb).elim (fun q => q ▸ e1.fresh n1) fun hb => List.mem_singleton.mp hb ▸ e1.fresh n0
  have wrN1 : ∀ b ∈ [e, it], s1.heap.get? b = none := fun b hb => (List.mem_cons.mp hb).elim (fun q => q ▸ n1) fun hb => List.mem_singleton.mp hb ▸ n0
  have thereB : ∀ {i : Nat} {h : Heap}, ((∃ old, IsEnum h e it i old) ∧ h.IsListIter it la i ∧ h.IsList la vs.toArray) → ∀ b, h.get? b = none → b ∈ [e, it] → False := fun st b hb hm => by
    obtain ⟨⟨old, h1⟩, ⟨o, h2, _⟩, _⟩ := st
    rcases List.mem_cons.mp hm with rfl | hm
    · exact nomatch hb.symm.trans h1
    · rw [List.mem_singleton.mp hm] at hb; exact nomatch hb.symm.trans h2
  have hst0 : ((∃ old, IsEnum ({ s1 with heap := h2 } : Shared).heap e it ((0 : Nat) : Int) old) ∧ ({ s1 with heap := h2 } : Shared).heap.IsListIter it la 0 ∧ ({ s1 with heap := h2 } : Shared).heap.IsList la vs.toArray) := hst0
  revert hst0 e2
  have k12 : Ext s1 ({ s1 with heap := h2 } : Shared) := ⟨⟨rfl, rfl⟩, hk2⟩
  revert k12
  generalize ({ s1 with heap := h2 } : Shared) = s2
  intro k12 e2 hst0
  have S2 := S1.ext e2
  have wrK : ∀ b ∈ [e, it], ∀ o, ¬ F.Kp b o := fun b hb o hk => nomatch (wrN b hb).symm.trans (S1.kept b o hk)
  have wrO : ∀ b ∈ [e, it], ∀ i, ¬ own i b := fun b hb i hi => (S1.owned i b hi).1 (wrN b hb)
  have wrP : ∀ b ∈ [e, it], ¬ Plc F.env b := fun b hb h => none_ne (wrN b hb) (S1.plc_some h)
  have wrL : ∀ b ∈ [e, it], ∀ o, ¬ LKp F own [e, it] s2 b o := fun b hb o h => h.elim (wrK b hb o) fun h => h.2.2.2 hb
  have S3 : StR C (LF F own [e, it] s2) own ρ s2 := S1.more e2 (fun b o h => .inl h) (fun b o h => h.elim (S2.kept b o) fun h => h.1) (fun b hb o h => h.elim (S1.st.plc b hb o) fun h => h.2.1 hb)
    (fun i b h => ⟨⟨(S1.owned i b h).2.2.1, fun hb => wrO b hb i h⟩, fun o hk => hk.elim ((S1.owned i b h).2.2.2 o) fun hk => hk.2.2.1 i h⟩) (fun a ha => ⟨S2.fresh a ha, fun hb => thereB hst0 a ha hb⟩) fun b hb ⟨_, _, _, ho, _⟩ => ⟨hb, fun hw => nomatch (wrN b hw).symm.trans ho⟩
  have seen : ∀ b, Okc F.Ok own b → SeqAt s2.heap b → b ∉ [e, it] → ∀ o, s2.heap.get? b = some o → LKp F own [e, it] s2 b o := fun b hb hs hw o ho => .inr ⟨ho, S2.plc_not hs, hb.2, hw⟩
  have laW : la ∉ [e, it] := fun h => (List.mem_cons.mp h).elim dlE fun h => dlI (List.mem_singleton.mp h)
  have laK : ∃ o, LKp F own [e, it] s2 la o := by
    have ql2 : s2.heap.PlainList la vs.toArray := ql.at fun o => k12.keep la o
    obtain ⟨n, ho⟩ := ql2
    exact ⟨_, seen la hok ⟨_, _, _, ho, rfl⟩ laW _ ho⟩
  have back : ∀ {own1 : Nat → Addr → Prop} {ρ1 : List Slt} {s1 : Shared}, StR C (LF F own [e, it] s2) own1 ρ1 s1 → StR C F own1 ρ1 s1 := fun S => StR.less S S1.st (fun b o h => .inl h) fun b hb => hb.1
  have ra2 : RepAll s2.heap (fun b => Okc F.Ok own b ∧ b ∉ [e, it]) vs xs := ra.mono fun b hb ⟨_, _, _, ho, _⟩ => ⟨⟨hb, fun hw => nomatch (wrN1 b hw).symm.trans ho⟩, fun o => k12.keep b o⟩
  refine hw.self 0 _ _ _ hst0 (codeAny_forLoop_any (I := fun n s' => ∃ i own1 ρ1, n = xs.length - i ∧ i ≤ xs.length ∧ StR C (LF F own [e, it] s2) own1 ρ1 s' ∧ ((∃ old, IsEnum s'.heap e it i old) ∧ s'.heap.IsListIter it la i ∧ s'.heap.IsList la vs.toArray) ∧ forP (wp C.Γ m) [i1, i2] ((enumF 0 xs).drop i) ρ1 P) ?_ xs.length ⟨0, own, ρ, rfl, Nat.zero_le _, S3, hst0, h1⟩)
  rintro n s' ⟨i, own1, ρ1, rfl, hi, S4, st4, hfor⟩
  have wr1 : ∀ b ∈ [e, it], ¬ Plc F.env b ∧ (∀ i, ¬ own1 i b) ∧ (SeqAt s'.heap b → ¬ LOk F [e, it] b) := fun b hb => ⟨wrP b hb, fun j hj => (S4.owned j b hj).2.2.1.2 hb, fun _ h => h.2 hb⟩
  have hsz : vs.toArray.size = xs.length := by rw [List.size_toArray, hlen]
  by_cases hlt : i < xs.length
  · have hel : i < (enumF 0 xs).length := by rw [enum_len]; exact hlt
    have hx0 : xs[i]? = some xs[i] := List.getElem?_eq_getElem hlt
    have hen : (enumF 0 xs)[i] = .tup [.int (i : Int), xs[i]] := by
      have := enum_get xs 0 i
      rw [List.getElem?_eq_getElem hel, hx0, Nat.zero_add] at this
      exact Option.some.inj this
    rw [List.drop_eq_getElem_cons hel, hen] at hfor
    revert hx0 hfor
    generalize xs[i] = x0
    intro hfor hx0
    refine hw.item i s' _ _ (by rw [hsz]; exact hlt) st4 fun T vals h' tk hp' _ hT hmid hk => ?_
    obtain ⟨t, v, hv, rfl⟩ := hp'
    have S5 : StR C (LF F own [e, it] s2) own1 ρ1 { s' with heap := h', toks := tk } := S4.scr (X := fun b => b ∈ [e, it]) ⟨⟨rfl, rfl⟩, hk⟩ (fun b hb => ⟨wrL b hb, fun hn => by
      obtain ⟨⟨y, h1⟩, ⟨o, h2, _⟩, _⟩ := hmid
      rcases List.mem_cons.mp hb with rfl | hb
      · exact nomatch hn.symm.trans h1
      · rw [List.mem_singleton.mp hb] at hn; exact nomatch hn.symm.trans h2⟩) wr1
    refine hw.go es n p' i T _ _ _ hmid fun h5 st5 hk5 => ?_
    have tW := hw.apart i T _ hmid
    have hT5 : h5.IsTuple T #[.int i t, v] := hT.at fun o => hk5 T o tW
    have S5' : StR C (LF F own [e, it] s2) own1 ρ1 { s' with heap := h5, toks := tk } := S5.scr (X := fun b => b ∈ [e, it]) (s' := { s' with heap := h5, toks := tk }) ⟨⟨rfl, rfl⟩, hk5⟩ (fun b hb => ⟨wrL b hb, fun hn => absurd hb (fun hb => thereB st5 b hn hb)⟩) fun b hb => ⟨wrP b hb, fun j hj => (S4.owned j b hj).2.2.1.2 hb, fun _ h => h.2 hb⟩
    revert st5 S5' hT5
    show ((∃ old, IsEnum ({ s' with heap := h5, toks := tk } : Shared).heap e it ((i + 1 : Nat) : Int) old) ∧ ({ s' with heap := h5, toks := tk } : Shared).heap.IsListIter it la (i + 1) ∧ ({ s' with heap := h5, toks := tk } : Shared).heap.IsList la vs.toArray) → ({ s' with heap := h5, toks := tk } : Shared).heap.IsTuple T #[.int i t, v] → _
    generalize ({ s' with heap := h5, toks := tk } : Shared) = sa
    intro st5 hT5 S5'
    obtain ⟨v', hv', rv0⟩ := ra2.get i x0 hx0
    rw [List.getElem?_toArray, hv'] at hv
    cases hv
    have rv : Rep sa.heap (Okc (LF F own [e, it] s2).Ok own1) v x0 := rv0.mono fun b hb hs =>
      have hK' := seen b hb.1 hs hb.2
      ⟨⟨⟨hb.1.1, hb.2⟩, fun j hj => let ⟨o, _, _, ho, _⟩ := hs; (S5'.owned j b hj).2.2.2 o (hK' o ho)⟩, fun o ho => S5'.kept b o (hK' o ho)⟩
    have S6 : StR C (LF2 F own [e, it] s2 sa) own1 ρ1 sa :=
      S5'.more (.refl sa) (fun b o h => .inl h) (fun b o h => h.elim (S5'.kept b o) fun h => h.2) (fun b hb o h => h.elim (S5'.st.plc b hb o) fun h => (wr1 b h.1).1 hb) (fun j b h => ⟨(S5'.owned j b h).2.2.1, fun o hk => hk.elim ((S5'.owned j b h).2.2.2 o) fun hk => (wr1 b hk.1).2.1 j h⟩) S5'.fresh fun _ h _ => h
    have hfor2 : sameLen [i1, i2] [.int (i : Int), x0] (wp C.Γ m (setAll [i1, i2] [.int (i : Int), x0] ρ1) (loopK (fun ρ' => forP (wp C.Γ m) [i1, i2] ((enumF 0 xs).drop (i + 1)) ρ' P) P)) := hfor
    refine tuple_stored2 (F := LF2 F own [e, it] s2 sa) (vs := [.int i t, v]) (xs := [.int i, x0]) G hn S6 hT5 (.cons (.int _ _) (.cons rv .nil)) (fun y hy => (List.mem_cons.mp hy).elim (fun q => q ▸ .int _) fun hy => List.mem_singleton.mp hy ▸ r1.z.list_all _ (List.mem_of_getElem? hx0)) rfl fun own2 s6 S7 => hm (LF2 F own [e, it] s2 sa) own2 _ s6 _ S7 hfor2 _ _ fun own3 s7 ρ3 fl f S8 hf z => ?_
    have st7 : (∃ old, IsEnum s7.heap e it ((i + 1 : Nat) : Int) old) ∧ s7.heap.IsListIter it la (i + 1) ∧ s7.heap.IsList la vs.toArray := hw.frame _ _ _ st5 fun b hb o ho => by
      by_cases hbw : b ∈ [e, it]
      · exact S8.kept b o (.inr ⟨hbw, ho⟩)
      · have hbl : b = la := by
          rcases List.mem_cons.mp hb with rfl | hb
          · exact absurd (List.mem_cons_self ..) hbw
          · rcases List.mem_cons.mp hb with rfl | hb
            · exact absurd (List.mem_cons_of_mem _ (List.mem_singleton.mpr rfl)) hbw
            · exact List.mem_singleton.mp hb
        subst hbl
        obtain ⟨o', hK'⟩ := laK
        have := S5'.kept b o' hK'
        rw [ho] at this
        exact Option.some.inj this ▸ S8.kept b o' (.inl hK')
    have S9 : StR C (LF F own [e, it] s2) own3 ρ3 s7 := StR.less S8 S5'.st (fun b o h => .inl h) fun b h => h
    cases fl with
    | next => cases hf; exact ⟨xs.length - (i + 1), Nat.sub_succ_lt_self _ _ hlt, i + 1, own3, ρ3, rfl, hlt, S9, st7, z⟩
    | cont => cases hf; exact ⟨xs.length - (i + 1), Nat.sub_succ_lt_self _ _ hlt, i + 1, own3, ρ3, rfl, hlt, S9, st7, z⟩
    | brk => cases hf; exact q own3 s7 _ .next _ (back S9) rfl z
    | ret r => obtain ⟨v', rfl, hv, hz⟩ := hf; exact q own3 s7 _ (.ret r) _ (back S9) ⟨v', rfl, hv.weaken fun b hb => hb.1, hz⟩ z
  · have hi' : i = xs.length := Nat.le_antisymm hi (Nat.not_lt.mp hlt)
    subst hi'
    rw [← enum_len xs 0, List.drop_length] at hfor
    refine hw.done s' _ _ (by rw [hsz]; exact st4) fun h' tk hk => wpAny_execs_nil (q own1 _ ρ1 .next _ ?_ rfl hfor)
    exact StR.scr' (Kp' := LKp F own [e, it] s2) (Ok' := LOk F [e, it]) S4 S1.st (fun b o h => .inl h) (fun b h => h.1) (X := fun b => b ∈ [e, it]) ⟨⟨rfl, rfl⟩, hk⟩ (fun b hb => ⟨wrK b hb, fun _ => S1.fresh b (wrN b hb)⟩) wr1
end
end Mine
end
noncomputable section
namespace Mine
open Builtin
/-! ## the compiler's further cases for laws 5, 1, 6 -/
section
variable {cfg : Cfg} {fns : List Str} {cc : CC} (ih : ∀ (cc : CC) (e : Expr), CE cfg fns cc e) (owns : List Str) (rec : ∀ st, CS cfg fns cc st)
theorem clsIn {c : String} (h : cfg.cls.contains c = true) {C : Cx} (H : Hy cfg fns C) : C.W.glob (Str.ofString c) = some (.type c) := H.cls (List.contains_iff_mem.mp h)
/-- tuple(map(f, xs)) -/
def cMapFn (x y f : Str) (p p2 p3 pos pos2 : Pos) (e : Expr) : CE cfg fns cc (.Call (.Name x p) [.Call (.Name y p2) [.Name f p3, e] [] pos2] [] pos) :=
  if h : ((x = ("tuple" : Str) ∧ y = ("map" : Str)) ∧ notStar e = true) ∧ ((cc.gl "tuple" = true ∧ cc.gl "map" = true) ∧ (cc.gl f = true ∧ badName f ≠ true)) ∧ (cfg.cls.contains "tuple" = true ∧ cfg.cls.contains "map" = true) then
    match pickF f fns with
    | some i => ⟨.mapfn i.1 (ih cc e).1, fun W Γ k H => by
        obtain ⟨⟨⟨rfl, rfl⟩, hn⟩, ⟨⟨g1, g2⟩, g3, g4⟩, c1, c2⟩ := h
        exact both_plain (se_mapfn H.gk i.2 g3 (badName_of g4).1 g1 g2 (clsIn c1 H) (clsIn c2 H) hn ((ih cc e).2 W Γ k H).se) (fun _ _ => rfl) fun _ => rfl⟩
    | none => .bad
  else .bad
def cMore5E (e : Expr) : CE cfg fns cc e :=
  match e with
  | .Call (.Name x p) [.Call (.Name y p2) [.Name f p3, e] [] pos2] [] pos => cMapFn ih x y f p p2 p3 pos pos2 e
  | _ => .bad
/-- for i, c in enumerate(e) -/
def cForEnum (es : List Expr) (n : Nat) (p' p p2 pos : Pos) (y : Str) (e : Expr) (body : List Stmt) : CS cfg fns cc (.For (.Tuple es n p') (.Call (.Name y p2) [e] [] pos) body [] p) :=
  match cNames (cc := cc) es with
  | some ⟨[i1, i2], hn⟩ => if h : (y = ("enumerate" : Str) ∧ notStar e = true) ∧ (cc.gl "enumerate" = true ∧ cfg.cls.contains "enumerate" = true) then
      ⟨.for_ [i1, i2] (.enum (ih cc e).1) (cBk rec body).1, fun W Γ k H => by
        obtain ⟨⟨rfl, hs⟩, g, c⟩ := h
        exact ss_forEnum H.good hn g (clsIn c H) ((ih cc e).2 W Γ k H).se hs ((cBk rec body).2 W Γ k H)⟩ else .bad
  | _ => .bad
/-- x, = {elt for y in it} -/
def cOne (y : Str) (p'' p' p pos : Pos) (n : Nat) (elt : Expr) (gens : List Comprehension) (scope : Scope) : CS cfg fns cc (.Assign [.Tuple [.Name y p''] n p'] (.SetComp elt gens scope pos) p) :=
  match h : cc.σ y with
  | none => .bad
  | some i => match gens with
    | [⟨.Name x px, iter, [], 0⟩] => if hc : compOkB cc scope x = true ∧ notSet iter = true then ⟨.oneOf i (ih (cc.comp scope x) elt).1 (cSrc ih iter).1, fun W Γ k H =>
        ss_oneOf H.good h (compOk_of H.good hc.1) ((cSrc ih iter).2 W Γ k H) hc.2 ((ih (cc.comp scope x) elt).2 W Γ k (H.comp scope x)).se⟩ else .bad
    | _ => .bad
/-- an expression that makes a new list -/
abbrev CNw (cfg : Cfg) (fns : List Str) (cc : CC) (e : Expr) : Type := { me : ME // Snd cfg fns cc fun C => SNL C me e }
def cNew1 (e : Expr) : Option (CNw cfg fns cc e) :=
  match e with
  | .List es p => some ⟨.list (cList ih es).1, fun W Γ k H => (sn_list ((cList ih es).2 W Γ k H)).snl⟩
  | .BinOp l .Add r p => some ⟨.bin .add (ih cc l).1 (ih cc r).1, fun W Γ k H => snl_add ((ih cc l).2 W Γ k H).se ((ih cc r).2 W Γ k H).se⟩
  | _ => none
def cNew (e : Expr) : Option (CNw cfg fns cc e) :=
  match e with
  | .IfExp t a b p => (match cNew1 (cc := cc) ih a, cNew1 (cc := cc) ih b with
    | some x, some y => some ⟨.ite (ih cc t).1 x.1 y.1, fun W Γ k H => snl_ite ((ih cc t).2 W Γ k H).st (x.2 W Γ k H) (y.2 W Γ k H)⟩
    | _, _ => none)
  | e => cNew1 ih e
def cPush2 (x m : Str) (p apos pos pos' : Pos) (e : Expr) : CS cfg fns cc (.Expr (.Call (.Attribute (.Name x p) m apos) [e] [] pos) pos') :=
  match h : cc.σ x, cNew (cfg := cfg) (fns := fns) (cc := cc) ih e with
  | some i, some c => if hb : (badName x ≠ true ∧ m = ("append" : Str)) ∧ ((apos.endLine == pos.line) = true ∧ notStar e = true) then ⟨.push2 i c.1, fun W Γ k H => by
      obtain ⟨⟨b, rfl⟩, l, n⟩ := hb
      exact ss_push2 H.good h (badName_of b).1 (badName_of b).2 l n (c.2 W Γ k H)⟩ else .bad
  | _, _ => .bad
def cAppend2 (x m : Str) (ei : Expr) (p p' apos pos pos' : Pos) (e : Expr) : CS cfg fns cc (.Expr (.Call (.Attribute (.Subscript (.Name x p) ei p') m apos) [e] [] pos) pos') :=
  match h : cc.σ x with
  | some i => if hb : (badName x ≠ true ∧ m = ("append" : Str)) ∧ ((apos.endLine == pos.line) = true ∧ notStar e = true) then ⟨.append2 i (ih cc ei).1 (ih cc e).1, fun W Γ k H => by
      obtain ⟨⟨b, rfl⟩, l, n⟩ := hb
      exact ss_append2 H.good h (badName_of b).1 (badName_of b).2 l n ((ih cc ei).2 W Γ k H).se ((ih cc e).2 W Γ k H).se⟩ else .bad
  | none => .bad
/-- several names, some of them for lists of lists -/
def cMade2 : (vs es : List Expr) → Option (CM cfg fns cc vs)
  | [], _ => some ⟨([], .nil), fun _ _ _ _ => sm_nil⟩
  | v :: vs, es => match es with
    | [] => none
    | e :: es => match e, cMade2 vs es with
      | .Name x _, some r => if hn : notStar v = true then some (if twice owns x = true then (match v with
          | .List [.List [] p] pos => ⟨(2 :: r.1.1, .cons (.list (.cons (.list .nil) .nil)) r.1.2), fun W Γ k H => sm_two rfl sn2_nil (r.2 W Γ k H)⟩
          | v => cMade1 ih owns x v vs hn r) else cMade1 ih owns x v vs hn r) else none
      | _, _ => none
def cMulti2 (es : List Expr) (n : Nat) (p' p : Pos) (e : Expr) : CS cfg fns cc (.Assign [.Tuple es n p'] e p) :=
  match e with
  | .Tuple vs m q => (match cNames (cc := cc) es, cMade2 (cc := cc) ih owns vs es with
    | some is, some r => if h : vs.all (constantsAlone 8) = false ∧ is.1.Nodup then ⟨.multi is.1 r.1.1 r.1.2, fun W Γ k H => ss_multi H.good is.2 h.2 h.1 (r.2 W Γ k H)⟩ else .bad
    | _, _ => .bad)
  | _ => .bad
def cMore5S (st : Stmt) : CS cfg fns cc st :=
  match st with
  | .Assign [.Tuple [.Name y p''] n p'] (.SetComp elt gens scope pos) p => cOne ih y p'' p' p pos n elt gens scope
  | .Assign [.Tuple es n p'] e p => cMulti2 ih owns es n p' p e
  | .For (.Tuple es n p') (.Call (.Name y p2) [e] [] pos) body [] p => cForEnum ih rec es n p' p p2 pos y e body
  | .Expr (.Call (.Attribute (.Name x p) m apos) [e] [] pos) pos' => cPush2 ih x m p apos pos pos' e
  | .Expr (.Call (.Attribute (.Subscript (.Name x p) ei p') m apos) [e] [] pos) pos' => cAppend2 ih x m ei p p' apos pos pos' e
  | _ => .bad
end
end Mine
end
noncomputable section
namespace Mine
open Builtin
/-! ## sorted(set(xs)); the compiler's further cases for law 1 -/
theorem b2_sorted {W : Wld} : Bi2Ok W .sorted := by
  intro A s Ok v u x y Z H hv hu h
  exact h.elim
section
variable {C : Cx}
theorem se_sortset {a : ME} {e : Expr} {p p2 pos pos2 : Pos} (g1 : C.cc.gl "sorted" = true) (g2 : C.cc.gl "set" = true) (h1 : C.W.glob "sorted" = some (.builtin "sorted")) (h2 : C.W.glob "set" = some (.type "set")) (hn : notStar e = true) (ha : SE C a e) :
    SE C (.sortset a) (.Call (.Name "sorted" p) [.Call (.Name "set" p2) [e] [] pos2] [] pos) := by
  intro A env Ok ρ s Q H h E R q
  refine call_named H g1 h1 (by decide) (.inl ⟨_, rfl⟩) (plain_one rfl) (spliced_one rfl ?_)
  refine call_named H g2 h2 (by decide) (.inr ⟨_, rfl⟩) (plain_one hn) (spliced_one hn (ha A env Ok ρ s _ H h E _ fun v s1 x l e1 r1 h1 => ?_))
  obtain ⟨hl, h1⟩ := l1_inv h1
  obtain ⟨xs, rfl, ts, rfl, hz, hq⟩ := list_inv h1
  obtain ⟨a', vs, rfl, hpl, _, hra, _⟩ := r1.r.inv
  have e3 : ts.map (PV.txt false) = (ts.map fun t => (false, t)).map fun p => PV.txt p.1 p.2 := (List.map_map (f := fun t => (false, t)) (g := fun (p : Bool × List Nat) => PV.txt p.1 p.2) (l := ts)).symm
  have ht : TxtsAre vs (ts.map fun t => (false, t)) := txts_of (e3 ▸ hra hl)
  refine call_set (items := vs.toArray) H.room.hd hpl.isList (by exact ht) (Nat.lt_of_le_of_lt hz (by decide)) fun h' tk es ep t S hm hsz hk => ?_
  have e2 : Ext s1 { s1 with heap := h', toks := tk } := ⟨⟨rfl, rfl⟩, hk⟩
  refine call_sorted (s := { s1 with heap := h', toks := tk }) H.room.hd S (Nat.lt_of_le_of_lt hsz hz) fun s' b out us e4 hb hpb hst hp => ?_
  have rr : RepAll s'.heap Ok out.toList (us.map (PV.txt false)) := by
    have := rep_strs' (h := s'.heap) (Ok := Ok) hst
    have e5 : ((us.map fun u => (⟨u.toArray⟩ : Str)).map fun x => x.cps.toList) = us := by
      rw [List.map_map]; exact List.map_id'' (fun x => rfl) us
    rw [e5] at this; exact this
  have hul : us.length ≤ ts.length := by rw [hp.length_eq, keys_size]; exact hsz
  have hmem : ∀ u, u ∈ us ↔ u ∈ ts := fun u => hp.mem_iff.trans (hm u)
  have h3 : Sz (.list (ts.map (PV.txt false))) := r1.z
  refine q _ s' _ 0 ((e1.trans e2).trans e4) ⟨.zero (.list (H.fresh b ((e1.trans e2).fresh hb)) (show s'.heap.PlainList b out.toList.toArray from hpb) rr), ?_⟩ (hq us (hp.nodup_iff.mpr S.nd) hmem hul)
  refine .list (by rw [List.length_map]; exact Nat.le_trans hul (Nat.le_trans (Nat.le_of_lt hz) (by decide))) fun x hx => ?_
  obtain ⟨u, hu, rfl⟩ := List.mem_map.mp hx
  exact h3.list_all _ (List.mem_map_of_mem ((hmem u).mp hu))
end
section
variable {cfg : Cfg} {fns : List Str} {cc : CC} (ih : ∀ (cc : CC) (e : Expr), CE cfg fns cc e) (owns : List Str) (rec : ∀ st, CS cfg fns cc st)
theorem b2In (h : (cfg.b2.any fun c => c.1.nameS == ("sorted" : Str)) = true) {C : Cx} (H : Hy cfg fns C) : C.W.glob "sorted" = some (.builtin "sorted") := by
  obtain ⟨b, hb, hn⟩ := List.any_eq_true.mp h
  have := H.b2 hb
  rw [eq_of_beq hn] at this
  obtain ⟨b, ok⟩ := b
  cases b with
  | sorted => exact this
  | min => exact absurd (show ((BI2.nameS .min) == ("sorted" : Str)) = true from hn) (by decide)
  | max => exact absurd (show ((BI2.nameS .max) == ("sorted" : Str)) = true from hn) (by decide)
  | isinst => exact absurd (show ((BI2.nameS .isinst) == ("sorted" : Str)) = true from hn) (by decide)
  | issub => exact absurd (show ((BI2.nameS .issub) == ("sorted" : Str)) = true from hn) (by decide)
def cSortSet (x y : Str) (p p2 pos pos2 : Pos) (e : Expr) : CE cfg fns cc (.Call (.Name x p) [.Call (.Name y p2) [e] [] pos2] [] pos) :=
  if h : ((x = ("sorted" : Str) ∧ y = ("set" : Str)) ∧ notStar e = true) ∧ (cc.gl "sorted" = true ∧ cc.gl "set" = true) ∧ ((cfg.b2.any fun c => c.1.nameS == ("sorted" : Str)) = true ∧ cfg.cls.contains "set" = true) then
    ⟨.sortset (ih cc e).1, fun W Γ k H => by
        obtain ⟨⟨⟨rfl, rfl⟩, hn⟩, ⟨g1, g2⟩, c1, c2⟩ := h
        exact both_plain (se_sortset g1 g2 (b2In c1 H) (clsIn c2 H) hn ((ih cc e).2 W Γ k H).se) (fun _ _ => rfl) fun _ => rfl⟩
  else .bad
def cMore1E (e : Expr) : CE cfg fns cc e :=
  match e with
  | .Call (.Name x p) [.Call (.Name y p2) [e] [] pos2] [] pos => cSortSet ih x y p p2 pos pos2 e
  | e => cMore5E ih e
def cRows (y : Str) (p' p : Pos) (lp pos : Pos) (gens : List Comprehension) (scope : Scope) : CS cfg fns cc (.Assign [.Name y p'] (.ListComp (.List [] lp) gens scope pos) p) :=
  match h : cc.σ y with
  | none => .bad
  | some i => match gens with
    | [⟨.Name x px, iter, [], 0⟩] => if hc : compOkB cc scope x = true ∧ notSet iter = true then ⟨.rows i (cSrc ih iter).1, fun W Γ k H =>
        ss_rows H.good h (compOk_of H.good hc.1) ((cSrc ih iter).2 W Γ k H) hc.2⟩ else .bad
    | _ => .bad
def cExtend (x m : Str) (p apos pos pos' : Pos) (e : Expr) : CS cfg fns cc (.Expr (.Call (.Attribute (.Name x p) m apos) [e] [] pos) pos') :=
  match h : cc.σ x with
  | some i => if hb : (badName x ≠ true ∧ m = ("extend" : Str)) ∧ ((apos.endLine == pos.line) = true ∧ notStar e = true) then ⟨.extend i (ih cc e).1, fun W Γ k H => by
      obtain ⟨⟨b, rfl⟩, l, n⟩ := hb
      exact ss_extendM H.good h (badName_of b).1 (badName_of b).2 l n ((ih cc e).2 W Γ k H).se⟩ else .bad
  | none => .bad
def cMore1S (st : Stmt) : CS cfg fns cc st :=
  match st with
  | .Assign [.Name y p'] (.ListComp (.List [] lp) gens scope pos) p => cRows ih y p' p lp pos gens scope
  | .Expr (.Call (.Attribute (.Name x p) m apos) [e] [] pos) pos' => if m = ("extend" : Str) then cExtend ih x m p apos pos pos' e else cPush2 ih x m p apos pos pos' e
  | st => cMore5S ih owns rec st
end
def more1 {cfg : Cfg} {fns : List Str} : More cfg fns := ⟨fun ih _ e => cMore1E ih e, fun ih owns _ rec st => cMore1S ih owns rec st⟩
end Mine
end
noncomputable section
namespace Mine
open Builtin
/-! ## three and four parameters -/
section
variable {name qual : Str} {a b c d : Arg} {kd : List (Option Expr)} {ds : List Expr} {body : FuncBody} {scope : Scope} {g : Addr} {cl : List (Str × Addr)} {kw doc pm : Value} {an : Option Addr} {cd ct : Value} {bi : Addr} {v u w x : Value}
end
end Mine
end
noncomputable section
namespace Mine
open Builtin
open AutoSeq1 (wpAny_loadPart')
open MeetsSeq MeetsSeq2 MeetsSeq3 SeqRoads2
/-! the order of texts, and of lists of texts -/
theorem tlt_list (a : List Nat) : ∀ b, decide (a < b) = tlt a b := by
  induction a with
  | nil => intro b; cases b <;> rfl
  | cons x a ih =>
    intro b
    cases b with
    | nil => rfl
    | cons y b =>
      unfold tlt
      rw [← ih b]
      by_cases h1 : x < y
      · rw [if_pos h1]; exact decide_eq_true (List.cons_lt_cons_iff.mpr (.inl h1))
      · rw [if_neg h1]
        by_cases h2 : y < x
        · rw [if_pos h2]; exact decide_eq_false fun h => (List.cons_lt_cons_iff.mp h).elim (fun h => h1 h) fun h => absurd h2 (h.1 ▸ Nat.lt_irrefl _)
        · rw [if_neg h2]
          have e : x = y := Nat.le_antisymm (Nat.not_lt.mp h2) (Nat.not_lt.mp h1)
          subst e
          exact Bool.eq_iff_iff.mpr (decide_eq_true_iff.trans ((List.cons_lt_cons_iff.trans ⟨fun h => h.elim (fun h => absurd h h1) fun h => h.2, fun h => .inr ⟨rfl, h⟩⟩).trans decide_eq_true_iff.symm))
theorem tlt_bytes (a : List UInt8) : ∀ b, ((Bytes.order a b == .lt) = tlt (a.map UInt8.toNat) (b.map UInt8.toNat)) ∧ ((Bytes.order a b == .gt) = tlt (b.map UInt8.toNat) (a.map UInt8.toNat)) := by
  induction a with
  | nil => intro b; cases b <;> exact ⟨rfl, rfl⟩
  | cons x a ih =>
    intro b
    cases b with
    | nil => exact ⟨rfl, rfl⟩
    | cons y b =>
      simp only [Bytes.order, List.map_cons, tlt]
      have e1 : (x < y) = (x.toNat < y.toNat) := propext UInt8.lt_iff_toNat_lt
      have e2 : (x > y) = (y.toNat < x.toNat) := propext UInt8.lt_iff_toNat_lt
      simp only [e1, e2]
      by_cases h1 : x.toNat < y.toNat
      · rw [if_pos h1, if_pos h1, if_neg (Nat.lt_asymm h1), if_pos h1]; exact ⟨rfl, rfl⟩
      · rw [if_neg h1, if_neg h1]
        by_cases h2 : y.toNat < x.toNat
        · rw [if_pos h2, if_pos h2, if_pos h2]; exact ⟨rfl, rfl⟩
        · rw [if_neg h2, if_neg h2, if_neg h2, if_neg h1]; exact ih b
theorem slot_b_lt : Slot "bytes" (cmpInfo .Lt).2.1 "bytes.__lt__" :=
  .of (owner := "bytes") (n := "__lt__") (by rw [typeLookup_type, builtinLookup_eq_fast]; kernel_rfl) (by decide +kernel) (by decide +kernel) (by decide +kernel)
    (by first | exact .inl (by decide +kernel) | exact .inr (by decide +kernel)) (by rw [isSubtype_type]; kernel_rfl)
theorem entry_b_lt : entryFor table "bytes.__lt__" = some Builtin.«bytes.__lt__» := entryFor_of_tree (by kernel_rfl)
theorem args_b_lt (a b : Value) : argsOk "bytes.__lt__" ⟨[a, b], []⟩ := by
  unfold argsOk; rw [signature?_of (id := "bytes.__lt__") (n := ['_', '_', 't', 'l', '_', '_']) (o := ['s', 'e', 't', 'y', 'b']) (by kernel_rfl) FB.owner_bytes]; kernel_rfl
theorem slot_b_gt : Slot "bytes" (cmpInfo .Gt).2.1 "bytes.__gt__" :=
  .of (owner := "bytes") (n := "__gt__") (by rw [typeLookup_type, builtinLookup_eq_fast]; kernel_rfl) (by decide +kernel) (by decide +kernel) (by decide +kernel)
    (by first | exact .inl (by decide +kernel) | exact .inr (by decide +kernel)) (by rw [isSubtype_type]; kernel_rfl)
theorem entry_b_gt : entryFor table "bytes.__gt__" = some Builtin.«bytes.__gt__» := entryFor_of_tree (by kernel_rfl)
theorem args_b_gt (a b : Value) : argsOk "bytes.__gt__" ⟨[a, b], []⟩ := by
  unfold argsOk; rw [signature?_of (id := "bytes.__gt__") (n := ['_', '_', 't', 'g', '_', '_']) (o := ['s', 'e', 't', 'y', 'b']) (by kernel_rfl) FB.owner_bytes]; kernel_rfl
section
variable {W : Wld} {A : Around} {s : Shared} {v u : Value}
theorem lt_txt {k : Bool} {a b : List Nat} (hv : TxtIs v k a) (hu : TxtIs u k b) {prog : Program} {w : World} {E Q : Value → Shared → Prop} (q : Q (.bool (tlt a b)) s) : wpAny (model prog w) A (richCompare .Lt v u) Q E s := by
  cases hv with
  | str cs t =>
    cases hu with
    | str cs' t' => exact P.lt_str (by rw [← tlt_list] at q; exact q)
  | bytes bs t =>
    cases hu with
    | bytes bs' t' =>
      refine richCompare_gives (op := .Lt) (typeIs_bytes s _ t) (typeIs_bytes s _ t') slot_b_lt entry_b_lt (args_b_lt _ _) (m := .val (.bool (Bytes.order bs bs' == .lt))) (.of_wp fun M A E s Q hq => ?_) (fun e => nomatch e) (by rw [← (tlt_bytes bs bs').1] at q; exact q)
      show wpAny M A (isInstance (.bytes bs'.toArray t') (.type "bytes") >>= fun r => _) _ E s
      refine wpAny_bind (wpAny_isInstance (typeIs_bytes s _ t') F.sub_bytes_bytes ?_)
      exact wpAny_pure ⟨_, rfl, hq⟩
theorem gt_txt {k : Bool} {a b : List Nat} (hv : TxtIs v k a) (hu : TxtIs u k b) {prog : Program} {w : World} {E Q : Value → Shared → Prop} (q : Q (.bool (tlt b a)) s) : wpAny (model prog w) A (richCompare .Gt v u) Q E s := by
  cases hv with
  | str cs t =>
    cases hu with
    | str cs' t' => exact P.gt_str (by rw [← tlt_list] at q; exact q)
  | bytes bs t =>
    cases hu with
    | bytes bs' t' =>
      refine richCompare_gives (op := .Gt) (typeIs_bytes s _ t) (typeIs_bytes s _ t') slot_b_gt entry_b_gt (args_b_gt _ _) (m := .val (.bool (Bytes.order bs bs' == .gt))) (.of_wp fun M A E s Q hq => ?_) (fun e => nomatch e) (by rw [← (tlt_bytes bs bs').2] at q; exact q)
      show wpAny M A (isInstance (.bytes bs'.toArray t') (.type "bytes") >>= fun r => _) _ E s
      refine wpAny_bind (wpAny_isInstance (typeIs_bytes s _ t') F.sub_bytes_bytes ?_)
      exact wpAny_pure ⟨_, rfl, hq⟩
/-- the texts of a list's items -/
def TxtAll (vs : Array Value) (k : Bool) (as : List (List Nat)) : Prop := vs.size = as.length ∧ ∀ i (h : i < vs.size) a, as[i]? = some a → TxtIs vs[i] k a
theorem lt_loop (l b : Addr) (items items2 : Array Value) (n n2 : Nat) (dd dd2 : Option Addr) (sl sl2 : Array (Option Value)) {k : Bool} {as bs : List (List Nat)} (ha : TxtAll items k as) (hb : TxtAll items2 k bs) (m : Nat) :
    ∀ i : Nat, as.length - i = m → i ≤ as.length → i ≤ bs.length → Meets (Builtin.«list.__eq__.loop» ⟨[.ref l, .ref b, rawInt i, rawInt 0], []⟩)
      (fun A R s => s.heap.get? l = some { cls := .type "list", dict := dd, data := .seq items n, slots := sl } ∧ s.heap.get? b = some { cls := .type "list", dict := dd2, data := .seq items2 n2, slots := sl2 } ∧
        R (.ok (.ret (.bool (rlt (as.drop i) (bs.drop i))))) s) := by
  induction m with
  | zero =>
    intro i hk hi hj prog w A R s h
    obtain ⟨hp, g, d, tk, os⟩ := s; obtain ⟨hl, hb0, h⟩ := h
    wp_walk using wpAny_loadPart' hl, wpAny_loadPart' hb0
    have e : i = as.length := Nat.le_antisymm hi (Nat.le_of_sub_eq_zero hk)
    have hi1 : items[((i : Nat) : Int).toNat]? = none := by rw [Int.toNat_natCast]; exact Array.getElem?_eq_none (ha.1 ▸ Nat.le_of_eq e.symm)
    rw [hi1]
    wp_walk using wpAny_loadPart' hl, wpAny_loadPart' hb0
    show R (.ok (.ret (.bool (decide (items.size < items2.size))))) _
    rw [e, List.drop_length] at h
    rw [ha.1, hb.1]
    rw [e] at hj
    cases hd : bs.drop as.length with
    | nil =>
      have := List.drop_eq_nil_iff.mp hd
      rw [hd] at h
      have e2 : bs.length = as.length := Nat.le_antisymm this hj
      rw [e2, decide_eq_false (Nat.lt_irrefl _)]
      exact h
    | cons x xs =>
      have : as.length < bs.length := Nat.lt_of_not_le fun h => nomatch hd.symm.trans (List.drop_eq_nil_iff.mpr h)
      rw [hd] at h
      rw [decide_eq_true this]
      exact h
  | succ m ih =>
    intro i hk hi hj prog w A R s h
    obtain ⟨hp, g, d, tk, os⟩ := s; obtain ⟨hl, hb0, h⟩ := h
    have hlt : i < as.length := Nat.lt_of_sub_pos (hk ▸ Nat.succ_pos m)
    have hlt1 : i < items.size := ha.1 ▸ hlt
    have hi1 : items[((i : Nat) : Int).toNat]? = some items[i] := by rw [Int.toNat_natCast]; exact Array.getElem?_eq_getElem hlt1
    wp_walk using wpAny_loadPart' hl, wpAny_loadPart' hb0
    by_cases hlt2 : i < bs.length
    · have hlt3 : i < items2.size := hb.1 ▸ hlt2
      have hi2 : items2[((i : Nat) : Int).toNat]? = some items2[i] := by rw [Int.toNat_natCast]; exact Array.getElem?_eq_getElem hlt3
      have ta := ha.2 i hlt1 _ (List.getElem?_eq_getElem hlt)
      have tb := hb.2 i hlt3 _ (List.getElem?_eq_getElem hlt2)
      have hc : ((i : Int) + 1) = ((i + 1 : Nat) : Int) := rfl
      rw [List.drop_eq_getElem_cons hlt, List.drop_eq_getElem_cons hlt2] at h
      rw [hi1, hi2]
      refine wpAny_bind ((eq_txt ta tb).2 prog w _ _ ?_)
      cases hq : as[i] == bs[i] with
      | true =>
        unfold rlt at h
        rw [if_pos (beq_iff_eq.mp hq)] at h
        wp_walk
        rw [hc]
        exact ⟨plainId_quiet plain_eq_loop _, codeAny_builtin entry_eq_loop (by
          rw [Around.under_plainId plain_eq_loop _]
          exact ih (i + 1) (by rw [Nat.sub_succ, hk]; rfl) hlt hlt2 prog w A R _ ⟨hl, hb0, h⟩)⟩
      | false =>
        unfold rlt at h
        rw [if_neg (beq_eq_false_iff_ne.mp hq)] at h
        wp_walk using wpAny_loadPart' hl, wpAny_loadPart' hb0
        rw [hi1, hi2]
        show wpAny _ _ (richCompare .Lt items[i] items2[i] >>= _) _ _ _
        exact wpAny_bind (lt_txt ta tb (wpAny_pure h))
    · have e : i = bs.length := Nat.le_antisymm hj (Nat.not_lt.mp hlt2)
      have hi2 : items2[((i : Nat) : Int).toNat]? = none := by rw [Int.toNat_natCast]; exact Array.getElem?_eq_none (hb.1 ▸ Nat.le_of_eq e.symm)
      rw [hi1, hi2]
      wp_walk using wpAny_loadPart' hl, wpAny_loadPart' hb0
      show R (.ok (.ret (.bool (decide (items.size < items2.size))))) _
      have hdb : bs.drop i = [] := e ▸ List.drop_length
      rw [List.drop_eq_getElem_cons hlt, hdb] at h
      rw [ha.1, hb.1]
      rw [decide_eq_false (by rw [← e]; exact Nat.lt_asymm hlt)]
      exact h
theorem gt_loop (l b : Addr) (items items2 : Array Value) (n n2 : Nat) (dd dd2 : Option Addr) (sl sl2 : Array (Option Value)) {k : Bool} {as bs : List (List Nat)} (ha : TxtAll items k as) (hb : TxtAll items2 k bs) (m : Nat) :
    ∀ i : Nat, as.length - i = m → i ≤ as.length → i ≤ bs.length → Meets (Builtin.«list.__eq__.loop» ⟨[.ref l, .ref b, rawInt i, rawInt 4], []⟩)
      (fun A R s => s.heap.get? l = some { cls := .type "list", dict := dd, data := .seq items n, slots := sl } ∧ s.heap.get? b = some { cls := .type "list", dict := dd2, data := .seq items2 n2, slots := sl2 } ∧
        R (.ok (.ret (.bool (rlt (bs.drop i) (as.drop i))))) s) := by
  induction m with
  | zero =>
    intro i hk hi hj prog w A R s h
    obtain ⟨hp, g, d, tk, os⟩ := s; obtain ⟨hl, hb0, h⟩ := h
    wp_walk using wpAny_loadPart' hl, wpAny_loadPart' hb0
    have e : i = as.length := Nat.le_antisymm hi (Nat.le_of_sub_eq_zero hk)
    have hi1 : items[((i : Nat) : Int).toNat]? = none := by rw [Int.toNat_natCast]; exact Array.getElem?_eq_none (ha.1 ▸ Nat.le_of_eq e.symm)
    rw [hi1]
    wp_walk using wpAny_loadPart' hl, wpAny_loadPart' hb0
    show R (.ok (.ret (.bool (decide (items2.size < items.size))))) _
    rw [e, List.drop_length] at h
    rw [ha.1, hb.1]
    rw [e] at hj
    cases hd : bs.drop as.length with
    | nil =>
      have := List.drop_eq_nil_iff.mp hd
      rw [hd] at h
      have e2 : bs.length = as.length := Nat.le_antisymm this hj
      rw [e2, decide_eq_false (Nat.lt_irrefl _)]
      exact h
    | cons x xs =>
      have : as.length < bs.length := Nat.lt_of_not_le fun h => nomatch hd.symm.trans (List.drop_eq_nil_iff.mpr h)
      rw [hd] at h
      rw [decide_eq_false (Nat.lt_asymm this)]
      exact h
  | succ m ih =>
    intro i hk hi hj prog w A R s h
    obtain ⟨hp, g, d, tk, os⟩ := s; obtain ⟨hl, hb0, h⟩ := h
    have hlt : i < as.length := Nat.lt_of_sub_pos (hk ▸ Nat.succ_pos m)
    have hlt1 : i < items.size := ha.1 ▸ hlt
    have hi1 : items[((i : Nat) : Int).toNat]? = some items[i] := by rw [Int.toNat_natCast]; exact Array.getElem?_eq_getElem hlt1
    wp_walk using wpAny_loadPart' hl, wpAny_loadPart' hb0
    by_cases hlt2 : i < bs.length
    · have hlt3 : i < items2.size := hb.1 ▸ hlt2
      have hi2 : items2[((i : Nat) : Int).toNat]? = some items2[i] := by rw [Int.toNat_natCast]; exact Array.getElem?_eq_getElem hlt3
      have ta := ha.2 i hlt1 _ (List.getElem?_eq_getElem hlt)
      have tb := hb.2 i hlt3 _ (List.getElem?_eq_getElem hlt2)
      have hc : ((i : Int) + 1) = ((i + 1 : Nat) : Int) := rfl
      rw [List.drop_eq_getElem_cons hlt, List.drop_eq_getElem_cons hlt2] at h
      rw [hi1, hi2]
      refine wpAny_bind ((eq_txt ta tb).2 prog w _ _ ?_)
      cases hq : as[i] == bs[i] with
      | true =>
        unfold rlt at h
        rw [if_pos ((beq_iff_eq.mp hq).symm)] at h
        wp_walk
        rw [hc]
        exact ⟨plainId_quiet plain_eq_loop _, codeAny_builtin entry_eq_loop (by
          rw [Around.under_plainId plain_eq_loop _]
          exact ih (i + 1) (by rw [Nat.sub_succ, hk]; rfl) hlt hlt2 prog w A R _ ⟨hl, hb0, h⟩)⟩
      | false =>
        unfold rlt at h
        rw [if_neg (Ne.symm (beq_eq_false_iff_ne.mp hq))] at h
        wp_walk using wpAny_loadPart' hl, wpAny_loadPart' hb0
        rw [hi1, hi2]
        show wpAny _ _ (richCompare .Gt items[i] items2[i] >>= _) _ _ _
        exact wpAny_bind (gt_txt ta tb (wpAny_pure h))
    · have e : i = bs.length := Nat.le_antisymm hj (Nat.not_lt.mp hlt2)
      have hi2 : items2[((i : Nat) : Int).toNat]? = none := by rw [Int.toNat_natCast]; exact Array.getElem?_eq_none (hb.1 ▸ Nat.le_of_eq e.symm)
      rw [hi1, hi2]
      wp_walk using wpAny_loadPart' hl, wpAny_loadPart' hb0
      show R (.ok (.ret (.bool (decide (items2.size < items.size))))) _
      have hdb : bs.drop i = [] := e ▸ List.drop_length
      rw [List.drop_eq_getElem_cons hlt, hdb] at h
      rw [ha.1, hb.1]
      rw [decide_eq_true (by rw [← e]; exact hlt)]
      exact h
end
end Mine
end
noncomputable section
namespace Mine
open Builtin
open AutoSeq1 (wpAny_loadPart')
open MeetsSeq MeetsSeq2 MeetsSeq3 SeqRoads2
section
variable {W : Wld} {A : Around} {s : Shared} {v u : Value} {Ok Ok' : Addr → Prop}
theorem lt_list (l b : Addr) (items items2 : Array Value) (n n2 : Nat) (dd dd2 : Option Addr) (sl sl2 : Array (Option Value)) {k : Bool} {as bs : List (List Nat)} (ha : TxtAll items k as) (hb : TxtAll items2 k bs) :
    Meets (Builtin.«list.__lt__» ⟨[.ref l, .ref b], []⟩)
      (fun A R s => s.heap.get? l = some { cls := .type "list", dict := dd, data := .seq items n, slots := sl } ∧ s.heap.get? b = some { cls := .type "list", dict := dd2, data := .seq items2 n2, slots := sl2 } ∧
        R (.ok (.ret (.bool (rlt as bs)))) s) := by
  intro prog w A R s h
  obtain ⟨hp, g, d, tk, os⟩ := s; obtain ⟨hl, hb0, h⟩ := h
  have f3 := AutoSeq1.sub_list_list
  wp_walk using wpAny_loadPart' hl, wpAny_loadPart' hb0
  exact ⟨plainId_quiet plain_eq_loop _, codeAny_builtin entry_eq_loop (by
    rw [Around.under_plainId plain_eq_loop _]
    exact lt_loop l b items items2 n n2 dd dd2 sl sl2 ha hb _ 0 rfl (Nat.zero_le _) (Nat.zero_le _) prog w A R _ ⟨hl, hb0, h⟩)⟩
theorem gt_list (l b : Addr) (items items2 : Array Value) (n n2 : Nat) (dd dd2 : Option Addr) (sl sl2 : Array (Option Value)) {k : Bool} {as bs : List (List Nat)} (ha : TxtAll items k as) (hb : TxtAll items2 k bs) :
    Meets (Builtin.«list.__gt__» ⟨[.ref l, .ref b], []⟩)
      (fun A R s => s.heap.get? l = some { cls := .type "list", dict := dd, data := .seq items n, slots := sl } ∧ s.heap.get? b = some { cls := .type "list", dict := dd2, data := .seq items2 n2, slots := sl2 } ∧
        R (.ok (.ret (.bool (rlt bs as)))) s) := by
  intro prog w A R s h
  obtain ⟨hp, g, d, tk, os⟩ := s; obtain ⟨hl, hb0, h⟩ := h
  have f3 := AutoSeq1.sub_list_list
  wp_walk using wpAny_loadPart' hl, wpAny_loadPart' hb0
  exact ⟨plainId_quiet plain_eq_loop _, codeAny_builtin entry_eq_loop (by
    rw [Around.under_plainId plain_eq_loop _]
    exact gt_loop l b items items2 n n2 dd dd2 sl sl2 ha hb _ 0 rfl (Nat.zero_le _) (Nat.zero_le _) prog w A R _ ⟨hl, hb0, h⟩)⟩
/-- the texts of a list that stands -/
theorem row_inv {h : Heap} {k : Bool} {as : List (List Nat)} (r : Rep h Ok v (rowV k as)) : ∃ (a : Addr) (vs : List Value), v = .ref a ∧ h.PlainList a vs.toArray ∧ TxtAll vs.toArray k as := by
  obtain ⟨a, vs, rfl, o, l, r⟩ := r.inv
  have hl : vs.length = as.length := r.length.trans (List.length_map _)
  refine ⟨a, vs, rfl, l, hl, fun i hi x hx => ?_⟩
  exact (r.at (List.getElem?_eq_getElem hi) (by rw [List.getElem?_map, hx]; rfl)).inv
theorem rc_lt_row {k : Bool} {as bs : List (List Nat)} (hA : A.units < cLine) (hv : Rep s.heap Ok v (rowV k as)) (hu : Rep s.heap Ok' u (rowV k bs)) {prog : Program} {w : World} {E Q : Value → Shared → Prop} (q : Q (.bool (rlt as bs)) s) : wpAny (model prog w) A (richCompare .Lt v u) Q E s := by
  obtain ⟨a, vs, rfl, ⟨n, l⟩, ta⟩ := row_inv hv
  obtain ⟨b, ws, rfl, ⟨m, l'⟩, tb⟩ := row_inv hu
  exact richCompare_meets_room (op := .Lt) ⟨_, l, rfl⟩ ⟨_, l', rfl⟩ F.slot_list_lt F.entry_list_lt (F.args_list_lt_2 _ _) (lt_list a b _ _ n m _ _ _ _ ta tb)
    ⟨l, l', show Value.bool (rlt as bs) ≠ Value.notImplemented ∧ Q (.bool (rlt as bs)) s from ⟨(fun x => nomatch x), q⟩⟩ hA
theorem rc_gt_row {k : Bool} {as bs : List (List Nat)} (hA : A.units < cLine) (hv : Rep s.heap Ok v (rowV k as)) (hu : Rep s.heap Ok' u (rowV k bs)) {prog : Program} {w : World} {E Q : Value → Shared → Prop} (q : Q (.bool (rlt bs as)) s) : wpAny (model prog w) A (richCompare .Gt v u) Q E s := by
  obtain ⟨a, vs, rfl, ⟨n, l⟩, ta⟩ := row_inv hv
  obtain ⟨b, ws, rfl, ⟨m, l'⟩, tb⟩ := row_inv hu
  exact richCompare_meets_room (op := .Gt) ⟨_, l, rfl⟩ ⟨_, l', rfl⟩ F.slot_list_gt F.entry_list_gt (F.args_list_gt_2 _ _) (gt_list a b _ _ n m _ _ _ _ ta tb)
    ⟨l, l', show Value.bool (rlt bs as) ≠ Value.notImplemented ∧ Q (.bool (rlt bs as)) s from ⟨(fun x => nomatch x), q⟩⟩ hA
end
end Mine
end
set_option maxRecDepth 100000
noncomputable section
namespace Mine
open Builtin
/-! min and max over what stands -/
/-- what is better, at any state that keeps the first one's heap -/
def CmpK (prog : Program) (w : World) (A : Around) (op : CmpOp) (h0 : Heap) (wr : List Addr) (P : Nat → Value → Prop) (bt : Nat → Nat → Bool) : Prop :=
  ∀ i j vi vj (s : Shared) (Q : Value → Shared → Prop) (E : Value → Shared → Prop), (∀ b o, b ∉ wr → h0.get? b = some o → s.heap.get? b = some o) → P i vi → P j vj → Q (.bool (bt i j)) s → wpAny (model prog w) A (richCompare op vi vj) Q E s
section
variable {prog : Program} {w : World} {A : Around} {R : Result → Shared → Prop} {I : Addr} {fp wr : List Addr} {n : Nat} {P : Nat → Value → Prop} {St : Nat → Heap → Prop}
theorem min_loop (W : Walks prog w A.in1 I fp wr n P St) (bt : Nat → Nat → Bool) (h0 : Heap) (hcmp : CmpK prog w A.in1 .Lt h0 wr P bt) (S : Addr) (hSf : S ∉ fp) (hS0 : h0.get? S = none) :
    ∀ (k j : Nat) (s : Shared) (vb : Value) (c : Nat), n - (j + 1) = k → j + 1 ≤ n → St (j + 1) s.heap → P (argBest bt j) vb → (∀ b o, b ∉ wr → h0.get? b = some o → s.heap.get? b = some o) →
    s.heap.get? S = some { cls := .type "list", dict := none, data := .seq #[vb, vb] c, slots := #[] } →
    (∀ v h' tk, P (argBest bt (n - 1)) v → (∀ b o, b ∉ wr → h0.get? b = some o → h'.get? b = some o) → R (.ok (.ret v)) { s with heap := h', toks := tk }) →
    codeAny (model prog w) A (.builtin "min.loop" ⟨[.ref I, .none, .ref S], []⟩) R s := by
  have hSw : S ∉ wr := fun h => hSf (W.sub _ h)
  have hname : (toString "min" ++ toString ".loop" : String) = "min.loop" := by decide
  have hup : ∀ {h : Heap} {f : Obj → Obj}, (∀ b o, b ∉ wr → h0.get? b = some o → h.get? b = some o) → ∀ b o, b ∉ wr → h0.get? b = some o → (h.update S f).get? b = some o := fun hk b o hb e => (Heap.get?_update_other _ _ (fun q : S = b => nomatch (q ▸ hS0).symm.trans e)).trans (hk b o hb e)
  intro k
  induction k with
  | zero =>
    intro j s vb c hk hj hst hPb hk0 hS hR
    have hin : j + 1 = n := Nat.le_antisymm hj (Nat.le_of_sub_eq_zero hk)
    refine codeAny_builtin F.entry_min_loop ?_
    rw [Around.under_plainId F.plain_min_loop _]
    show wpAny _ A.in1 (seqItems? (.ref S) >>= _) _ _ s
    refine wpAny_bind (wpAny_seqItems hS rfl ?_)
    show wpAny _ A.in1 (tryCatch (pyNext (.ref I)) _ >>= _) _ _ s
    refine wpAny_bind (wpAny_tryCatch (W.done s _ _ (hin ▸ hst) fun h' tk hk' => ?_))
    have hS' := hk' S _ hSw hS
    show wpAny _ A.in1 (updateSeq S (fun _ => #[]) >>= _) _ _ _
    refine wpAny_bind ?_
    refine wpAny_updateSeq hS' rfl (wpAny_bind (wpAny_letGo (wpAny_pure ?_)))
    exact hR vb _ tk (by rw [← hin]; exact hPb) (hup fun b o hb e => hk' b o hb (hk0 b o hb e))
  | succ k ih =>
    intro j s vb c hk hj hst hPb hk0 hS hR
    have hlt : j + 1 < n := Nat.lt_of_sub_pos (hk ▸ Nat.succ_pos k)
    refine codeAny_builtin F.entry_min_loop ?_
    rw [Around.under_plainId F.plain_min_loop _]
    show wpAny _ A.in1 (seqItems? (.ref S) >>= _) _ _ s
    refine wpAny_bind (wpAny_seqItems hS rfl ?_)
    show wpAny _ A.in1 (tryCatch (pyNext (.ref I)) _ >>= _) _ _ s
    refine wpAny_bind (wpAny_tryCatch (W.item (j + 1) s _ _ hlt hst fun v h' tk hP hst' hk' => ?_))
    have hS' := hk' S _ hSw hS
    have hk2 : ∀ b o, b ∉ wr → h0.get? b = some o → h'.get? b = some o := fun b o hb e => hk' b o hb (hk0 b o hb e)
    show wpAny _ A.in1 (tryCatch (holding [v, v] (richCompare .Lt v vb >>= _)) _ >>= _) _ _ _
    refine wpAny_bind (wpAny_tryCatch (wpAny_holding (wpAny_bind (hcmp (j + 1) (argBest bt j) v vb _ _ _ hk2 hP hPb ?_))))
    refine wpAny_bind (wpAny_holding (wpAny_truthy_bool ?_))
    refine wpAny_bind (wpAny_letGo (wpAny_pure ?_))
    cases hb : bt (j + 1) (argBest bt j) with
    | true =>
      rw [if_pos rfl]
      refine wpAny_bind ?_
      refine wpAny_updateSeq hS' rfl (wpAny_bind (wpAny_letGo ?_))
      rw [hname]
      exact wpAny_pure ⟨plainId_quiet F.plain_min_loop _, ih (j + 1) _ v _ (by rw [Nat.sub_succ, hk]; rfl) hlt (W.frame _ _ _ hst' fun b hbf o e => (Heap.get?_update_other _ _ (fun h : S = b => hSf (h ▸ hbf))).trans e) (by unfold argBest; rw [hb]; exact hP) (hup hk2) (Heap.get?_update_self _ hS' rfl) hR⟩
    | false =>
      rw [if_neg (fun e => nomatch e)]
      refine wpAny_bind (wpAny_letGo ?_)
      rw [hname]
      exact wpAny_pure ⟨plainId_quiet F.plain_min_loop _, ih (j + 1) _ vb c (by rw [Nat.sub_succ, hk]; rfl) hlt hst' (by unfold argBest; rw [hb]; exact hPb) hk2 hS' hR⟩
theorem min_call {E : Value → Shared → Prop} {s : Shared} {x : Value} {Q : Value → Shared → Prop}
    (h : wpAny (model prog w) A.in1 (pyIter x) (fun it s₂ => ∃ I fp wr n P St bt, it = .ref I ∧ Walks prog w A.in1 I fp wr n P St ∧ St 0 s₂.heap ∧ (∀ b ∈ fp, b < s₂.heap.objs.size) ∧ 0 < n ∧ CmpK prog w A.in1 .Lt s₂.heap wr P bt ∧
      ∀ v h' tk, P (argBest bt (n - 1)) v → (∀ b o, b ∉ wr → s₂.heap.get? b = some o → h'.get? b = some o) → Q v { s₂ with heap := h', toks := tk }) E s) :
    wpAny (model prog w) A (call (.builtin "min") [x]) Q E s := by
  have hname : (toString "min" ++ toString ".loop" : String) = "min.loop" := by decide
  refine call_function_tree F.kind_min F.plain_min F.entry_min (F.args_min1 _) ?_
  show wpAny _ A.in1 (Builtin.Builtins.bindParams "min" ["key", "default"] 0 ⟨[], []⟩ >>= _) _ _ s
  refine wpAny_bind (wpAny_of_eq (show Builtin.Builtins.bindParams "min" ["key", "default"] 0 ⟨[], []⟩ = pure [none, none] from rfl) ?_)
  refine wpAny_bind (wpAny_pure ?_)
  refine wpAny_bind (wpAny_mono h (fun it s₂ h₂ => ?_) fun _ _ e => e)
  obtain ⟨I, fp, wr, n, P, St, bt, rfl, W, hst, hfp, hn, hcmp, hQ⟩ := h₂
  refine wpAny_bind (wpAny_newObj_type ?_)
  have hSf : s₂.heap.objs.size ∉ fp := fun hm => Nat.lt_irrefl _ (hfp _ hm)
  have hSw : s₂.heap.objs.size ∉ wr := fun h => hSf (W.sub _ h)
  have hS0 : s₂.heap.get? s₂.heap.objs.size = none := get_size _
  rw [hname]
  refine wpAny_pure ⟨plainId_quiet F.plain_min_loop _, ?_⟩
  refine codeAny_builtin F.entry_min_loop ?_
  rw [Around.under_plainId F.plain_min_loop _]
  have hS : (s₂.heap.push { cls := .type "list", dict := none, data := .seq #[] 0, slots := #[] }).get? s₂.heap.objs.size = some _ := Heap.get?_push_size _ rfl
  show wpAny _ A.in1 (seqItems? (.ref s₂.heap.objs.size) >>= _) _ _ _
  refine wpAny_bind (wpAny_seqItems hS rfl ?_)
  show wpAny _ A.in1 (tryCatch (pyNext (.ref I)) _ >>= _) _ _ _
  refine wpAny_bind (wpAny_tryCatch (W.item 0 _ _ _ hn (W.frame _ _ _ hst fun b _ o e => Heap.get?_push_of_some _ e) fun v h' tk hP hst' hk' => ?_))
  have hS' := hk' _ _ hSw hS
  show wpAny _ A.in1 (updateSeq s₂.heap.objs.size (fun _ => #[v, v]) >>= _) _ _ _
  refine wpAny_bind ?_
  refine wpAny_updateSeq hS' rfl ?_
  rw [hname]
  exact wpAny_pure ⟨plainId_quiet F.plain_min_loop _, min_loop W bt s₂.heap hcmp _ hSf hS0 _ 0 _ v _ rfl hn (W.frame _ _ _ hst' fun b hbf o e => (Heap.get?_update_other _ _ (fun h : s₂.heap.objs.size = b => hSf (h ▸ hbf))).trans e) hP
    (fun b o hb e => (Heap.get?_update_other _ _ (fun q : s₂.heap.objs.size = b => nomatch (q ▸ hS0).symm.trans e)).trans (hk' b o hb (Heap.get?_push_of_some _ e))) (Heap.get?_update_self _ hS' rfl) hQ⟩
end
section
variable {prog : Program} {w : World} {A : Around} {R : Result → Shared → Prop} {I : Addr} {fp wr : List Addr} {n : Nat} {P : Nat → Value → Prop} {St : Nat → Heap → Prop}
theorem max_loop (W : Walks prog w A.in1 I fp wr n P St) (bt : Nat → Nat → Bool) (h0 : Heap) (hcmp : CmpK prog w A.in1 .Gt h0 wr P bt) (S : Addr) (hSf : S ∉ fp) (hS0 : h0.get? S = none) :
    ∀ (k j : Nat) (s : Shared) (vb : Value) (c : Nat), n - (j + 1) = k → j + 1 ≤ n → St (j + 1) s.heap → P (argBest bt j) vb → (∀ b o, b ∉ wr → h0.get? b = some o → s.heap.get? b = some o) →
    s.heap.get? S = some { cls := .type "list", dict := none, data := .seq #[vb, vb] c, slots := #[] } →
    (∀ v h' tk, P (argBest bt (n - 1)) v → (∀ b o, b ∉ wr → h0.get? b = some o → h'.get? b = some o) → R (.ok (.ret v)) { s with heap := h', toks := tk }) →
    codeAny (model prog w) A (.builtin "max.loop" ⟨[.ref I, .none, .ref S], []⟩) R s := by
  have hSw : S ∉ wr := fun h => hSf (W.sub _ h)
  have hname : (toString "max" ++ toString ".loop" : String) = "max.loop" := by decide
  have hup : ∀ {h : Heap} {f : Obj → Obj}, (∀ b o, b ∉ wr → h0.get? b = some o → h.get? b = some o) → ∀ b o, b ∉ wr → h0.get? b = some o → (h.update S f).get? b = some o := fun hk b o hb e => (Heap.get?_update_other _ _ (fun q : S = b => nomatch (q ▸ hS0).symm.trans e)).trans (hk b o hb e)
  intro k
  induction k with
  | zero =>
    intro j s vb c hk hj hst hPb hk0 hS hR
    have hin : j + 1 = n := Nat.le_antisymm hj (Nat.le_of_sub_eq_zero hk)
    refine codeAny_builtin F.entry_max_loop ?_
    rw [Around.under_plainId F.plain_max_loop _]
    show wpAny _ A.in1 (seqItems? (.ref S) >>= _) _ _ s
    refine wpAny_bind (wpAny_seqItems hS rfl ?_)
    show wpAny _ A.in1 (tryCatch (pyNext (.ref I)) _ >>= _) _ _ s
    refine wpAny_bind (wpAny_tryCatch (W.done s _ _ (hin ▸ hst) fun h' tk hk' => ?_))
    have hS' := hk' S _ hSw hS
    show wpAny _ A.in1 (updateSeq S (fun _ => #[]) >>= _) _ _ _
    refine wpAny_bind ?_
    refine wpAny_updateSeq hS' rfl (wpAny_bind (wpAny_letGo (wpAny_pure ?_)))
    exact hR vb _ tk (by rw [← hin]; exact hPb) (hup fun b o hb e => hk' b o hb (hk0 b o hb e))
  | succ k ih =>
    intro j s vb c hk hj hst hPb hk0 hS hR
    have hlt : j + 1 < n := Nat.lt_of_sub_pos (hk ▸ Nat.succ_pos k)
    refine codeAny_builtin F.entry_max_loop ?_
    rw [Around.under_plainId F.plain_max_loop _]
    show wpAny _ A.in1 (seqItems? (.ref S) >>= _) _ _ s
    refine wpAny_bind (wpAny_seqItems hS rfl ?_)
    show wpAny _ A.in1 (tryCatch (pyNext (.ref I)) _ >>= _) _ _ s
    refine wpAny_bind (wpAny_tryCatch (W.item (j + 1) s _ _ hlt hst fun v h' tk hP hst' hk' => ?_))
    have hS' := hk' S _ hSw hS
    have hk2 : ∀ b o, b ∉ wr → h0.get? b = some o → h'.get? b = some o := fun b o hb e => hk' b o hb (hk0 b o hb e)
    show wpAny _ A.in1 (tryCatch (holding [v, v] (richCompare .Gt v vb >>= _)) _ >>= _) _ _ _
    refine wpAny_bind (wpAny_tryCatch (wpAny_holding (wpAny_bind (hcmp (j + 1) (argBest bt j) v vb _ _ _ hk2 hP hPb ?_))))
    refine wpAny_bind (wpAny_holding (wpAny_truthy_bool ?_))
    refine wpAny_bind (wpAny_letGo (wpAny_pure ?_))
    cases hb : bt (j + 1) (argBest bt j) with
    | true =>
      rw [if_pos rfl]
      refine wpAny_bind ?_
      refine wpAny_updateSeq hS' rfl (wpAny_bind (wpAny_letGo ?_))
      rw [hname]
      exact wpAny_pure ⟨plainId_quiet F.plain_max_loop _, ih (j + 1) _ v _ (by rw [Nat.sub_succ, hk]; rfl) hlt (W.frame _ _ _ hst' fun b hbf o e => (Heap.get?_update_other _ _ (fun h : S = b => hSf (h ▸ hbf))).trans e) (by unfold argBest; rw [hb]; exact hP) (hup hk2) (Heap.get?_update_self _ hS' rfl) hR⟩
    | false =>
      rw [if_neg (fun e => nomatch e)]
      refine wpAny_bind (wpAny_letGo ?_)
      rw [hname]
      exact wpAny_pure ⟨plainId_quiet F.plain_max_loop _, ih (j + 1) _ vb c (by rw [Nat.sub_succ, hk]; rfl) hlt hst' (by unfold argBest; rw [hb]; exact hPb) hk2 hS' hR⟩
theorem max_call {E : Value → Shared → Prop} {s : Shared} {x : Value} {Q : Value → Shared → Prop}
    (h : wpAny (model prog w) A.in1 (pyIter x) (fun it s₂ => ∃ I fp wr n P St bt, it = .ref I ∧ Walks prog w A.in1 I fp wr n P St ∧ St 0 s₂.heap ∧ (∀ b ∈ fp, b < s₂.heap.objs.size) ∧ 0 < n ∧ CmpK prog w A.in1 .Gt s₂.heap wr P bt ∧
      ∀ v h' tk, P (argBest bt (n - 1)) v → (∀ b o, b ∉ wr → s₂.heap.get? b = some o → h'.get? b = some o) → Q v { s₂ with heap := h', toks := tk }) E s) :
    wpAny (model prog w) A (call (.builtin "max") [x]) Q E s := by
  have hname : (toString "max" ++ toString ".loop" : String) = "max.loop" := by decide
  refine call_function_tree F.kind_max F.plain_max F.entry_max (F.args_max1 _) ?_
  show wpAny _ A.in1 (Builtin.Builtins.bindParams "max" ["key", "default"] 0 ⟨[], []⟩ >>= _) _ _ s
  refine wpAny_bind (wpAny_of_eq (show Builtin.Builtins.bindParams "max" ["key", "default"] 0 ⟨[], []⟩ = pure [none, none] from rfl) ?_)
  refine wpAny_bind (wpAny_pure ?_)
  refine wpAny_bind (wpAny_mono h (fun it s₂ h₂ => ?_) fun _ _ e => e)
  obtain ⟨I, fp, wr, n, P, St, bt, rfl, W, hst, hfp, hn, hcmp, hQ⟩ := h₂
  refine wpAny_bind (wpAny_newObj_type ?_)
  have hSf : s₂.heap.objs.size ∉ fp := fun hm => Nat.lt_irrefl _ (hfp _ hm)
  have hSw : s₂.heap.objs.size ∉ wr := fun h => hSf (W.sub _ h)
  have hS0 : s₂.heap.get? s₂.heap.objs.size = none := get_size _
  rw [hname]
  refine wpAny_pure ⟨plainId_quiet F.plain_max_loop _, ?_⟩
  refine codeAny_builtin F.entry_max_loop ?_
  rw [Around.under_plainId F.plain_max_loop _]
  have hS : (s₂.heap.push { cls := .type "list", dict := none, data := .seq #[] 0, slots := #[] }).get? s₂.heap.objs.size = some _ := Heap.get?_push_size _ rfl
  show wpAny _ A.in1 (seqItems? (.ref s₂.heap.objs.size) >>= _) _ _ _
  refine wpAny_bind (wpAny_seqItems hS rfl ?_)
  show wpAny _ A.in1 (tryCatch (pyNext (.ref I)) _ >>= _) _ _ _
  refine wpAny_bind (wpAny_tryCatch (W.item 0 _ _ _ hn (W.frame _ _ _ hst fun b _ o e => Heap.get?_push_of_some _ e) fun v h' tk hP hst' hk' => ?_))
  have hS' := hk' _ _ hSw hS
  show wpAny _ A.in1 (updateSeq s₂.heap.objs.size (fun _ => #[v, v]) >>= _) _ _ _
  refine wpAny_bind ?_
  refine wpAny_updateSeq hS' rfl ?_
  rw [hname]
  exact wpAny_pure ⟨plainId_quiet F.plain_max_loop _, max_loop W bt s₂.heap hcmp _ hSf hS0 _ 0 _ v _ rfl hn (W.frame _ _ _ hst' fun b hbf o e => (Heap.get?_update_other _ _ (fun h : s₂.heap.objs.size = b => hSf (h ▸ hbf))).trans e) hP
    (fun b o hb e => (Heap.get?_update_other _ _ (fun q : s₂.heap.objs.size = b => nomatch (q ▸ hS0).symm.trans e)).trans (hk' b o hb (Heap.get?_push_of_some _ e))) (Heap.get?_update_self _ hS' rfl) hQ⟩
end
end Mine
end
noncomputable section
namespace Mine
open Builtin
theorem bestOf_snoc {α : Type} (f : α → α → Bool) (y : α) : ∀ (xs : List α) (b : α), bestOf f b (xs ++ [y]) = if f y (bestOf f b xs) then y else bestOf f b xs
  | [], b => rfl
  | x :: xs, b => bestOf_snoc f y xs _
theorem argBest_at {α : Type} (f : α → α → Bool) (b : α) (xs : List α) (bt : Nat → Nat → Bool) (hbt : ∀ i j x y, (b :: xs)[i]? = some x → (b :: xs)[j]? = some y → bt i j = f x y) : ∀ m, m ≤ xs.length → (b :: xs)[argBest bt m]? = some (bestOf f b (xs.take m)) := by
  intro m
  induction m with
  | zero => exact fun _ => rfl
  | succ m ih =>
    intro hm
    have h1 := ih (Nat.le_of_succ_le hm)
    have h2 : (b :: xs)[m + 1]? = some xs[m] := List.getElem?_eq_getElem hm
    rw [List.take_succ_eq_append_getElem hm, bestOf_snoc]
    unfold argBest
    rw [hbt _ _ _ _ h2 h1]
    cases f xs[m] (bestOf f b (xs.take m)) with
    | true => exact h2
    | false => exact h1
/-- the one looked at, at places -/
def atB {α : Type} (f : α → α → Bool) (L : List α) (i j : Nat) : Bool := match L[i]?, L[j]? with
  | some x, some y => f x y
  | _, _ => false
section
variable {W : Wld} {A : Around} {Ok : Addr → Prop} {s : Shared} {v : Value}
theorem bestOf_mem {α : Type} (f : α → α → Bool) : ∀ (xs : List α) (b : α), bestOf f b xs ∈ b :: xs
  | [], b => .head _
  | x :: xs, b => by
    show bestOf f (if f x b then x else b) xs ∈ _
    have := bestOf_mem f xs (if f x b then x else b)
    rcases List.mem_cons.mp this with h | h
    · rw [h]; split
      · exact .tail _ (.head _)
      · exact .head _
    · exact .tail _ (.tail _ h)
theorem min_gets {α : Type} (g : α → PV) (f : α → α → Bool) (hcmp : ∀ (s' : Shared) (Ok' : Addr → Prop) (v u : Value) (x y : α) (E Q : Value → Shared → Prop), Rep s'.heap Ok' v (g x) → Rep s'.heap Ok' u (g y) → Q (.bool (f x y)) s' → wpAny W.M A.in1 (richCompare .Lt v u) Q E s')
    (H : At A Ok s) {a : Addr} {vs : List Value} {b : α} {xs : List α} (ql : s.heap.PlainList a vs.toArray) (r : RepAll s.heap Ok vs ((b :: xs).map g)) : Gets W A Ok s (call (.builtin "min") [.ref a]) (g (bestOf f b xs)) := by
  refine fun E Q q => min_call (iter_list (z := False) ql r (fun h => h.elim) fun it s' e hi => ?_)
  obtain ⟨I, fp, wr, P, St, rfl, hi⟩ := hi
  have hmv : ∀ {h : Heap}, (∀ b o, b ∉ wr → s'.heap.get? b = some o → h.get? b = some o) → Moves s'.heap h (fun b => Ok b ∧ b ∉ wr) Ok := fun hk b hb _ => ⟨hb.1, fun o ho => hk b o hb.2 ho⟩
  have hat : ∀ i v, (i < ((b :: xs).map g).length ∧ P i v) → ∃ x, (b :: xs)[i]? = some x ∧ Rep s'.heap (fun b => Ok b ∧ b ∉ wr) v (g x) := fun i v ⟨hlt, hp⟩ => by
    rw [List.length_map] at hlt
    exact ⟨_, List.getElem?_eq_getElem hlt, hi.item i v _ (by rw [List.getElem?_map, List.getElem?_eq_getElem hlt]; rfl) hp⟩
  have hbt : ∀ i j x y, (b :: xs)[i]? = some x → (b :: xs)[j]? = some y → atB f (b :: xs) i j = f x y := fun i j x y h1 h2 => by unfold atB; rw [h1, h2]
  refine ⟨I, fp, wr, _, _, St, atB f (b :: xs), rfl, (hi.walks A.in1 H.hd).bound, hi.st, hi.old, by rw [List.length_map]; exact Nat.succ_pos _, fun i j vi vj s2 Q2 E2 hk h1 h2 q2 => ?_, fun v h' tk hp hk => ?_⟩
  · obtain ⟨x, e1, r1⟩ := hat i vi h1
    obtain ⟨y, e2, r2⟩ := hat j vj h2
    exact hcmp s2 Ok vi vj x y E2 Q2 (r1.mono (hmv hk)) (r2.mono (hmv hk)) (hbt i j x y e1 e2 ▸ q2)
  · obtain ⟨x, e1, r1⟩ := hat _ v hp
    rw [List.length_map, show (b :: xs).length - 1 = xs.length from rfl, argBest_at f b xs _ hbt _ (Nat.le_refl _), List.take_length] at e1
    cases e1
    refine q _ _ ⟨?_, fun c o ho => hk c o (fun hb => nomatch (hi.new c hb).symm.trans ho) (e.keep c o ho)⟩ (r1.mono (hmv hk))
    exact e.same.trans ⟨rfl, rfl⟩
theorem b1_min : Bi1Ok W .min := by
  intro A s Ok l v x Z H hv h
  obtain ⟨xs, rfl, h⟩ := list_inv h
  obtain ⟨hl, h⟩ := l1_inv h
  obtain ⟨a, vs, rfl, ql, _, r, _⟩ := hv.r.inv
  rcases h with ⟨i, is, rfl, z⟩ | ⟨k, b, rs, rfl, z⟩
  · exact (min_gets PV.int _ (fun s' Ok' v u x y E Q r1 r2 q => by
      obtain ⟨_, rfl⟩ := rep_int r1; obtain ⟨_, rfl⟩ := rep_int r2
      exact PySem.P.lt_int q) H ql (r hl)).yld (.int _) z
  · refine (min_gets (rowV k) (turnB false rlt) (fun s' Ok' v u x y E Q r1 r2 q => rc_lt_row (Nat.lt_of_le_of_lt (Nat.le_trans (Nat.le_refl (A.units + 1)) (Nat.add_le_add_left (by decide) _)) H.un) r1 r2 q) H ql (r hl)).yld (hv.z.list_all _ ?_) z
    exact List.mem_map.mpr ⟨_, bestOf_mem _ _ _, rfl⟩
theorem max_gets {α : Type} (g : α → PV) (f : α → α → Bool) (hcmp : ∀ (s' : Shared) (Ok' : Addr → Prop) (v u : Value) (x y : α) (E Q : Value → Shared → Prop), Rep s'.heap Ok' v (g x) → Rep s'.heap Ok' u (g y) → Q (.bool (f x y)) s' → wpAny W.M A.in1 (richCompare .Gt v u) Q E s')
    (H : At A Ok s) {a : Addr} {vs : List Value} {b : α} {xs : List α} (ql : s.heap.PlainList a vs.toArray) (r : RepAll s.heap Ok vs ((b :: xs).map g)) : Gets W A Ok s (call (.builtin "max") [.ref a]) (g (bestOf f b xs)) := by
  refine fun E Q q => max_call (iter_list (z := False) ql r (fun h => h.elim) fun it s' e hi => ?_)
  obtain ⟨I, fp, wr, P, St, rfl, hi⟩ := hi
  have hmv : ∀ {h : Heap}, (∀ b o, b ∉ wr → s'.heap.get? b = some o → h.get? b = some o) → Moves s'.heap h (fun b => Ok b ∧ b ∉ wr) Ok := fun hk b hb _ => ⟨hb.1, fun o ho => hk b o hb.2 ho⟩
  have hat : ∀ i v, (i < ((b :: xs).map g).length ∧ P i v) → ∃ x, (b :: xs)[i]? = some x ∧ Rep s'.heap (fun b => Ok b ∧ b ∉ wr) v (g x) := fun i v ⟨hlt, hp⟩ => by
    rw [List.length_map] at hlt
    exact ⟨_, List.getElem?_eq_getElem hlt, hi.item i v _ (by rw [List.getElem?_map, List.getElem?_eq_getElem hlt]; rfl) hp⟩
  have hbt : ∀ i j x y, (b :: xs)[i]? = some x → (b :: xs)[j]? = some y → atB f (b :: xs) i j = f x y := fun i j x y h1 h2 => by unfold atB; rw [h1, h2]
  refine ⟨I, fp, wr, _, _, St, atB f (b :: xs), rfl, (hi.walks A.in1 H.hd).bound, hi.st, hi.old, by rw [List.length_map]; exact Nat.succ_pos _, fun i j vi vj s2 Q2 E2 hk h1 h2 q2 => ?_, fun v h' tk hp hk => ?_⟩
  · obtain ⟨x, e1, r1⟩ := hat i vi h1
    obtain ⟨y, e2, r2⟩ := hat j vj h2
    exact hcmp s2 Ok vi vj x y E2 Q2 (r1.mono (hmv hk)) (r2.mono (hmv hk)) (hbt i j x y e1 e2 ▸ q2)
  · obtain ⟨x, e1, r1⟩ := hat _ v hp
    rw [List.length_map, show (b :: xs).length - 1 = xs.length from rfl, argBest_at f b xs _ hbt _ (Nat.le_refl _), List.take_length] at e1
    cases e1
    refine q _ _ ⟨?_, fun c o ho => hk c o (fun hb => nomatch (hi.new c hb).symm.trans ho) (e.keep c o ho)⟩ (r1.mono (hmv hk))
    exact e.same.trans ⟨rfl, rfl⟩
theorem b1_max : Bi1Ok W .max := by
  intro A s Ok l v x Z H hv h
  obtain ⟨xs, rfl, h⟩ := list_inv h
  obtain ⟨hl, h⟩ := l1_inv h
  obtain ⟨a, vs, rfl, ql, _, r, _⟩ := hv.r.inv
  rcases h with ⟨i, is, rfl, z⟩ | ⟨k, b, rs, rfl, z⟩
  · exact (max_gets PV.int _ (fun s' Ok' v u x y E Q r1 r2 q => by
      obtain ⟨_, rfl⟩ := rep_int r1; obtain ⟨_, rfl⟩ := rep_int r2
      exact PySem.P.gt_int q) H ql (r hl)).yld (.int _) z
  · refine (max_gets (rowV k) (turnB true rlt) (fun s' Ok' v u x y E Q r1 r2 q => rc_gt_row (Nat.lt_of_le_of_lt (Nat.le_trans (Nat.le_refl (A.units + 1)) (Nat.add_le_add_left (by decide) _)) H.un) r1 r2 q) H ql (r hl)).yld (hv.z.list_all _ ?_) z
    exact List.mem_map.mpr ⟨_, bestOf_mem _ _ _, rfl⟩
end
end Mine
end
noncomputable section
namespace Mine
/-! ## what law 1's text uses -/
def cfg1 : Cfg where
  bop := [⟨.add, fun _ => bin_add⟩, ⟨.sub, fun _ => bin_sub⟩, ⟨.fdiv, fun _ => bin_fdiv⟩, ⟨.fmod, fun _ => bin_fmod⟩, ⟨.pow, fun _ => bin_pow⟩]
  aop := [⟨.add, fun _ => aug_add⟩]
  cop := [⟨.eq, fun _ => cmp_eq⟩, ⟨.ne, fun _ => cmp_ne⟩, ⟨.isin, fun _ => cmp_in⟩, ⟨.notin, fun _ => cmp_notin⟩]
  meth := [⟨.split, fun _ => ok_split⟩, ⟨.join, fun _ => ok_join⟩, ⟨.startswith, fun _ => ok_startswith⟩, ⟨.count, fun _ => ok_count⟩, ⟨.index, fun _ => ok_index⟩]
  b1 := [⟨.len, fun _ => b1_len⟩, ⟨.chr, fun _ => b1_chr⟩, ⟨.ord, fun _ => b1_ord⟩, ⟨.sum, fun _ => b1_sum⟩, ⟨.min, fun _ => b1_min⟩, ⟨.max, fun _ => b1_max⟩, ⟨.bytes, fun _ => b1_bytes⟩, ⟨.typ, fun _ => b1_typ⟩]
  b2 := [⟨.min, fun _ => b2_min⟩, ⟨.max, fun _ => b2_max⟩, ⟨.isinst, fun _ => b2_isinst⟩, ⟨.issub, fun _ => b2_issub⟩, ⟨.sorted, fun _ => b2_sorted⟩]
  cls := ["str", "bytes", "tuple", "map", "enumerate", "set"]
def nms1 (l : List String) : List Str := l.map Str.ofString
def sg1Fspath : Sig := ⟨"fspath", nms1 ["path", "kind", "hook", "given"], 1, false, []⟩
def sg1Commonpath : Sig := ⟨"commonpath", nms1 ["paths", "sep", "curdir", "split_paths", "isabs", "s1", "s2", "common", "i", "c", "prefix"], 1, false, []⟩
def sg1Piece : Sig := ⟨"_law_piece", nms1 ["x"], 1, false, []⟩
def sg1Rows : Sig := ⟨"_law_rows", nms1 ["script", "rows", "i"], 1, false, nms1 ["rows", "rows"]⟩
def sg1Kind : Sig := ⟨"_law_kind", nms1 ["text", "octets"], 2, false, []⟩
def sg1Path : Sig := ⟨"_law_path", nms1 ["row", "rooted", "text"], 2, false, []⟩
def sg1Fronts : Sig := ⟨"_law_fronts", nms1 ["names"], 1, false, []⟩
def sg1Choices : Sig := ⟨"_law_choices", nms1 ["count"], 1, false, []⟩
def sigs1 : List Sig := [sg1Fspath, sg1Commonpath, sg1Piece, sg1Rows, sg1Kind, sg1Path, sg1Fronts, sg1Choices]
def slLaw1 : List Str := nms1 ["script", "rows", "rooted", "octets", "paths", "ways", "folders", "way", "root", "spelled", "told", "choice", "chosen", "answer", "place", "k", "due", "folder", "below", "firsts", "inside"]
def owLaw1 : List Str := nms1 ["folders", "told", "due"]
end Mine
end
noncomputable section
namespace Mine
open Builtin
/-! ## the frame of a law with captured names -/
theorem cells_ok (h : Heap) (o : Obj) (names : List (Str × NameKind)) : CellsOk (pushCells (h.push o) names) (h.objs.size + 1) (cellsFrom (h.objs.size + 1) names []) := by
  have := cellsFrom_ok names (h.push o) (h.objs.size + 1) [] ⟨(fun _ _ hm => nomatch hm), .nil⟩ (by rw [Heap.size_push]; exact Nat.le_refl _)
  rwa [Heap.size_push] at this
theorem cells_at {cm : Str → Option Value} {cs : List (Str × Addr)} {cells : List (Addr × Obj)} {h0 h : Heap} {L : Addr} (X : CellsAre cm cs cells) (N : News h0 L h cells) : ∀ y c, cs.lookup y = some c → h.IsCell c (cm y) ∧ c ≠ L ∧ h0.get? c = none := by
  induction X with
  | nil => exact fun _ _ e => nomatch e
  | cons hd _ ih =>
    rename_i n' c' o cs cells _
    intro y c e
    rw [List.lookup_cons] at e
    cases q : y == n' with
    | true =>
      rw [q] at e
      cases e
      have := N _ (.head _)
      rw [eq_of_beq q]
      exact ⟨⟨o, this.1, hd⟩, this.2⟩
    | false => rw [q] at e; exact ih (fun p hp => N p (.tail _ hp)) y c e
theorem law_topC {cfg : Cfg} {fns : List Str} {W : Wld} {Γ : FEnv} {k : Nat} {mo : More cfg fns} {slots owns : List Str} {body : List Stmt} {ms : MS} {A : Around} {env : Env} {s0 s1 : Shared} {m cm : Str → Option Value} {cells : List (Addr × Obj)} {x : Str} {a : Addr} {vs : List Value} {ns : List Int}
    (hon : W.On s0.heap) (bg : ∀ p ∈ cfg.names, W.glob p.1 = some p.2) (G : GOk W k Γ fns) (hms : (cB mo owns FUEL (CC.of slots env.scope) body).1 = ms) (hsc : scopeOkB slots env.scope 1 = true) (hx : slots.take 1 = [x])
    (hxl : env.scope.names.lookup x = some .local) (hroom : Room A k) (hg : env.globals = mainGlobals) (hb : env.builtins = builtinsNs)
    (hcells : env.cells = cellsFrom (s0.heap.objs.size + 1) env.scope.names []) (hCA : CellsAre cm env.cells cells) (hN : News s0.heap env.locals s1.heap cells)
    (hL : env.locals = s0.heap.objs.size) (hns : s1.heap.Ns env.locals m) (hkeep : ∀ b o, s0.heap.get? b = some o → s1.heap.get? b = some o) (hsame : Same s0 s1)
    (hm : m x = some (.ref a)) (hl : s0.heap.PlainList a vs.toArray) (hI : IntsAre vs ns) (hn : ns.length ≤ LST) (hrun : callP Γ slots.length ms [.list (ns.map .int)] fun v => v = .bool true)
    (E : Value → Shared → Prop) (Q : Flow → Shared → Prop) (q : ∀ s' : Shared, Same s0 s' → (∀ b o, s0.heap.get? b = some o → s'.heap.get? b = some o) → Q (.ret (.bool true)) s') :
    wpAny W.M A (execs body env) Q E s1 := by
  have sc := scopeOk_of hsc
  rw [hx] at sc
  have ca := cells_at hCA hN
  have hap := (cells_ok s0.heap default env.scope.names).apart
  rw [← hcells] at hap
  have hcell : ∀ {y}, env.scope.names.lookup y = some .cell → ∃ c, env.cells.lookup y = some c := fun h => by
    rw [hcells]; exact Option.isSome_iff_exists.mp (cells_acc (.inr (lookup_mem h)))
  have T : StS ⟨W, Γ, k, CC.of slots env.scope⟩ ⟨A, env, fun b o => s0.heap.get? b = some o, s0, fun _ => True⟩ :=
    ⟨hroom, fun h hh => hon.keeps hh, sc.kind, hg, hb, sc.gl, fun y hy => ⟨.inl (sc.cl y hy), hcell (sc.cl y hy)⟩, fun y i hy => (sc.st y i hy).imp_right fun h => ⟨h, hcell h⟩, fun y z c h1 h2 => name_of_addr hap (mem_of_lookup h1) (mem_of_lookup h2), fun b hb o hk => by
      have hk : s0.heap.get? b = some o := hk
      rcases hb with rfl | ⟨y, hy⟩
      · exact Nat.lt_irrefl _ (hL ▸ Heap.lt_size hk)
      · exact nomatch (ca y b hy).2.2.symm.trans hk⟩
  have S : StR ⟨W, Γ, k, CC.of slots env.scope⟩ ⟨A, env, fun b o => s0.heap.get? b = some o, s0, fun _ => True⟩ (fun _ _ => False) (slotsOf [.list (ns.map .int)] slots.length) s1 := by
    refine ⟨T, hkeep, hsame, fun _ _ => trivial, slots_len sc.few, fun y i hy pv l hi => ?_, ⟨m, hns⟩, fun y c h => ⟨_, (ca y c h).1⟩, fun _ _ h => h.elim, fun _ _ _ h => h.elim⟩
    obtain ⟨hv, rfl⟩ := get_args hi
    cases i with
    | succ i => exact nomatch hv
    | zero =>
      cases hv
      have e : x = y := sc.good.inj _ _ _ (sc.par 0 x rfl) hy
      subst e
      exact ⟨_, .inl ⟨hxl, m, hns, hm⟩, .zero (.list ⟨trivial, fun _ h => h⟩ (hl.at fun o => hkeep a o) (rep_ints hI)), .list (by rw [List.length_map]; exact hn) fun w hw => let ⟨i, _, e⟩ := List.mem_map.mp hw; e ▸ .int i⟩
  have hB := (cB mo owns FUEL (CC.of slots env.scope) body).2 W Γ k ⟨bg, G, sc.good⟩
  rw [hms] at hB
  refine hB _ _ _ s1 _ S hrun E Q fun own' s' ρ' fl f S' hf hz => ?_
  cases fl with
  | ret v =>
    obtain ⟨w, rfl, hw, _⟩ := hf
    have hz : v = .bool true := hz
    subst hz
    rw [show w = _ from hw.inv]
    exact q s' S'.same S'.kept
  | next => exact nomatch (show PV.none = .bool true from hz)
  | brk => exact hz.elim
  | cont => exact hz.elim
end Mine
end
noncomputable section
namespace Mine
/-! ## law 1 put together -/
def more1L : ∀ fns, More cfg1 fns := fun _ => more1
def val1 : Bool × List (Bool × MS) := (true, [(true, msFspath1), (true, msCommonpath), (true, msPiece), (true, msRows1), (true, msKind), (true, msPath1), (true, msFronts), (true, msChoices)])
def as1 : List Addr := [3, 93, 94, 105, 106, 112, 113, 117, 118, 122, 123, 129, 130, 134, 135, 141, 142]
def hook1 : Hook := headHook more1L sigs1 as1 val1
theorem boots1 : Boots cfg1.names := by
  refine ⟨by kernel_rfl, by kernel_rfl, by kernel_rfl, by kernel_rfl, by kernel_rfl, by kernel_rfl, by kernel_rfl, by kernel_rfl, by kernel_rfl, by kernel_rfl, by kernel_rfl, by kernel_rfl, by kernel_rfl, by kernel_rfl, by kernel_rfl, by kernel_rfl, by kernel_rfl, by kernel_rfl, by kernel_rfl, by kernel_rfl, trivial⟩
def fns8 : List Str := nms1 ["fspath", "commonpath", "_law_piece", "_law_rows", "_law_kind", "_law_path", "_law_fronts", "_law_choices"]
theorem gok1 {W : Wld} {h : Heap} (hon : W.On h) (bg : ∀ p ∈ cfg1.names, W.glob p.1 = some p.2) (e : obsAll more1L sigs1 [] W.K = val1.2) : GOk W 8 gam1L fns8 := by
  have G := GOk.step (k := 0) (F := fspathF) hon bg ⟨GOk.nil, e⟩ rfl (fun fd h => packs_one h) fspath1_run
  have G := GOk.step (F := commonpathF) hon bg G rfl (fun fd h => packs_one h) (commonpath_run rfl)
  have G := GOk.step (F := pieceF1) hon bg G rfl (fun fd h => packs_one h) piece1_run
  have G := GOk.step (F := rowsF1) hon bg G rfl (fun fd h => packs_one h) (rows1_run rfl)
  have G := GOk.step (F := kindF) hon bg G rfl (fun fd h => packs_two (by decide) h) kind_run
  have G := GOk.step (F := pathF1) hon bg G rfl (fun fd h => packs_two (by decide) h) path1_run
  have G := GOk.step (F := frontsF) hon bg G rfl (fun fd h => packs_one h) fronts_run
  have G := GOk.step (F := choicesF) hon bg G rfl (fun fd h => packs_one h) choices_run
  exact G.1
end Mine
end
noncomputable section
namespace Mine
theorem room8 (env : Env) : Room (callerA.deeper env) 8 := ⟨rfl, by show callerA.depth + 1 + 2 * 8 < 900; decide, by show callerA.units + 3 + 200 * 8 + 200 < cLine; decide⟩
theorem law1_end {prog : Program} {w : World} {mg mb : Str → Option Value} {pr : Program} {loose : List Str} {mean : ExcName → Option Value} {s0 s1 : Shared} {name : Str} {scope : Scope} {fa : Addr} {cd : Value} {body : List Stmt} {m cm : Str → Option Value} {cells : List (Addr × Obj)} {a : Addr} {vs : List Value} {ns : List Int}
    (T : Top pr loose mean mg mb s0.heap) (Y : hook1.says w s0.heap) (hcb : (cB (more1L fns8) owLaw1 FUEL (CC.of slLaw1 scope) body).1 = msLaw1) (hsc : scopeOkB slLaw1 scope 1 = true) (hxl : scope.names.lookup (Str.ofString "script") = some .local)
    (hns : s1.heap.Ns s0.heap.objs.size m) (hkeep : ∀ b o, s0.heap.get? b = some o → s1.heap.get? b = some o) (hCA : CellsAre cm (cellsFrom (s0.heap.objs.size + 1) scope.names []) cells) (hN : News s0.heap s0.heap.objs.size s1.heap cells)
    (hsame : ∃ h tk, s1 = { s0 with heap := h, toks := tk }) (hm : m (Str.ofString "script") = some (.ref a)) (hl : s0.heap.PlainList a vs.toArray) (hI : IntsAre vs ns) (hn : ns.length ≤ 63)
    (E : Value → Shared → Prop) (Q : Flow → Shared → Prop) (q : ∀ s' : Shared, (∃ h d tk, s' = { s0 with heap := h, drawn := d, toks := tk }) → (∀ b o, s0.heap.get? b = some o → s'.heap.get? b = some o) → Q (.ret (.bool true)) s') :
    wpAny (model prog w) (callerA.deeper (envOfC name scope s0.heap.objs.size fa cd)) (execs body (envOfC name scope s0.heap.objs.size fa cd)) Q E s1 := by
  obtain ⟨K, KX, hK⟩ := Y
  obtain ⟨h1, h2⟩ := Prod.mk.inj hK
  have hon : Wld.On ⟨prog, w, mg, mb, K⟩ s0.heap := ⟨T.g, T.b, T.nolimit, KX⟩
  have bg := names_of hon T.builtins h1 boots1
  have hs1 : Same s0 s1 := by obtain ⟨h, tk, e⟩ := hsame; rw [e]; exact ⟨rfl, rfl⟩
  refine law_topC (W := ⟨prog, w, mg, mb, K⟩) (k := 8) (env := envOfC name scope s0.heap.objs.size fa cd) hon bg (gok1 hon bg h2) hcb hsc rfl hxl (room8 _) rfl rfl rfl hCA hN rfl hns hkeep hs1 hm hl hI (Nat.le_trans hn (by decide)) (law1_run ns hn) E Q fun s' hs hk => q s' ?_ hk
  obtain ⟨h', g', d', tk', os'⟩ := s'
  obtain ⟨e1, e2⟩ := hs
  have e1 : g' = s0.gens := e1
  have e2 : os' = s0.os := e2
  subst e1; subst e2
  exact ⟨_, _, _, rfl⟩
def view1 : Program := PySem.W.view PySem.Challenge.pw_kq0046_01 [0, 2, 4, 6, 7, 9, 11, 13, 15, 16, 17, 18, 19, 20, 21]
abbrev row1 : RowW := OpenRow.toRowW (OpenLaw.row PySem.Challenge.rw_kq0046_01)
set_option maxRecDepth 100000 in
set_option maxHeartbeats 80000000 in
theorem left1 : LeftO PySem.Challenge.pw_kq0046_01 view1 [] (fun s => xlAt view1 [] s && recOk (RowW.records row1) s) hook1.obs hook1.val 2034 := by
  unfold LeftO openEnds fencedOpening topFrom
  rw [PySem.W.Fast.te10274390034422433532, PySem.W.Fast.te1435165496053646825, PySem.W.Fast.te14289696077712309145, PySem.W.Fast.te14082659384304107361, PySem.W.Fast.te8920871248978507458, PySem.W.Fast.te14364793385576792824, PySem.W.Fast.te4187177175401517315, PySem.W.Fast.te5923862056798008813]
  intro w
  kernel_rfl
end Mine
end
set_option profiler true
set_option maxRecDepth 100000 in
set_option maxHeartbeats 8000000 in
theorem PySem.Challenge.cw_kq0046_01_holds : PySem.Challenge.rw_kq0046_01.Holds := by
  w_on
  o_law
  refine holds_open (q := Mine.view1) (loose := []) (Xt := fun s => xlAt Mine.view1 [] s && recOk (RowW.records Mine.row1) s) (XP := XL Mine.view1 []) (Yf := Hook.obs Mine.hook1) (Ya := Hook.val Mine.hook1) (YP := Hook.says Mine.hook1) (N := 2034) Mine.left1 (Hook.of Mine.hook1) (Hook.keeps Mine.hook1) (fun s e => xl_of s (Bool.and_eq_true_iff.mp e).1) XL.keeps (by rfl) (by rfl) (by rfl) (fun s e => recFacts_of (Bool.and_eq_true_iff.mp e).2) (by rfl) (by first | assumption | decide +kernel) (by decide +kernel) ⟨rfl, rfl, rfl, rfl, rfl, by decide +kernel⟩ ?hw ?hc
  case hw => w_witness2
  w_strict
  intro w s₀ s₁ mg mb G Y fa o pm cd doc dV kV ho hd hcd hD hmg hg args vals as hpre hlay hrd hwl hlo
  k_behind G ho hd hcd hD hmg hpre hlay hrd hwl hlo cd
  have T1 := ‹Top _ _ _ _ _ _›
  have hI1 := ‹IntsAre _ _›
  have w1 := ‹Well _ _ _ _›
  have hL1 := ‹Heap.IsList _ _ _›
  have F1 := ‹PyProof.Rows.Fr _ _ _ _›
  have N1 := ‹News _ _ _ _›
  have X1 := ‹CellsAre _ _ _›
  refine Mine.law1_end T1 Y (by kernel_rfl) (by kernel_rfl) (by kernel_rfl) F1.ns F1.keep X1 N1 ⟨_, _, rfl⟩ rfl ?_ hI1 (by omega) _ _ fun s' hs hk => ?_
  · cases w1
    rename_i h0 h1
    obtain ⟨o, ho, _, n, hd'⟩ := hL1
    rw [h0] at ho
    cases ho
    exact ⟨_, by rw [h0]; cases hd'; rfl⟩
  · obtain ⟨hh, dd, tk, rfl⟩ := hs
    refine ⟨.inl ⟨.bool true, .bool true, [], rfl, fun _ => rfl, .bool true, ?_, fun _ => ⟨.nil, fun _ h => nomatch h⟩⟩, hk, rfl, by assumption⟩
    wrow_post
