import PyProof.Rows.All
import Wide.All
import OpenK.AllK
import Wide.FinOn
import PySem.Challenge.RW_kq0046_06
open PySem PySem.W PyProof.Rows
set_option Elab.async false
set_option linter.unusedVariables false
set_option genInjectivity false
set_option genSizeOfSpec false
noncomputable section
namespace Mine

/-- pure values: a text is a str (k = false) or bytes (k = true) -/
inductive PV where
  | none
  | bool (b : Bool)
  | int (i : Int)
  | txt (k : Bool) (cs : List Nat)
  | list (xs : List PV)
  | tup (xs : List PV)
  | dict (es : List (Int × PV))
  | cls (c : String)

def PlainTup (h : Heap) (a : Addr) (items : Array Value) : Prop := ∃ n, h.get? a = some { cls := .type "tuple", data := .seq items n }
theorem PlainTup.isTup {h : Heap} {a : Addr} {items : Array Value} (x : PlainTup h a items) : IsTup h a items := let ⟨n, e⟩ := x; ⟨_, e, rfl, n, rfl⟩
theorem PlainTup.typeIs {s : Shared} {a : Addr} {items : Array Value} (x : PlainTup s.heap a items) : s.TypeIs (.ref a) "tuple" := let ⟨_, e⟩ := x; ⟨_, e, rfl⟩

mutual
inductive Rep (h : Heap) (Ok : Addr → Prop) : Value → PV → Prop
  | none : Rep h Ok .none .none
  | bool (b : Bool) : Rep h Ok (.bool b) (.bool b)
  | int (i : Int) (t : Tok) : Rep h Ok (.int i t) (.int i)
  | str (cs : List Nat) (t : Tok) : Rep h Ok (.str ⟨cs.toArray⟩ t) (.txt false cs)
  | bytes (bs : List UInt8) (t : Tok) {cs : List Nat} : cs = bs.map UInt8.toNat → Rep h Ok (.bytes bs.toArray t) (.txt true cs)
  | cls (c : String) : Rep h Ok (.type c) (.cls c)
  | list {a : Addr} {vs : List Value} {xs : List PV} : Ok a → h.PlainList a vs.toArray → RepAll h Ok vs xs → Rep h Ok (.ref a) (.list xs)
  | tup {a : Addr} {vs : List Value} {xs : List PV} : Ok a → PlainTup h a vs.toArray → RepAll h Ok vs xs → Rep h Ok (.ref a) (.tup xs)
inductive RepAll (h : Heap) (Ok : Addr → Prop) : List Value → List PV → Prop
  | nil : RepAll h Ok [] []
  | cons {v : Value} {vs : List Value} {x : PV} {xs : List PV} : Rep h Ok v x → RepAll h Ok vs xs → RepAll h Ok (v :: vs) (x :: xs)
end

section
variable {h h' : Heap} {Ok Ok' : Addr → Prop} {vs ws : List Value} {xs ys : List PV} {v : Value} {x : PV}
theorem RepAll.ind {P : List Value → List PV → Prop} (n : P [] []) (c : ∀ {v vs x xs}, Rep h Ok v x → RepAll h Ok vs xs → P vs xs → P (v :: vs) (x :: xs)) (r : RepAll h Ok vs xs) : P vs xs :=
  RepAll.rec (motive_1 := fun _ _ _ => True) (motive_2 := fun vs xs _ => P vs xs) trivial (fun _ => trivial) (fun _ _ => trivial) (fun _ _ => trivial) (fun _ _ _ _ => trivial) (fun _ => trivial)
    (fun _ _ _ _ => trivial) (fun _ _ _ _ => trivial) n (fun a r _ ih => c a r ih) r
theorem RepAll.inv_cons (r : RepAll h Ok vs (x :: xs)) : ∃ v ws, vs = v :: ws ∧ Rep h Ok v x ∧ RepAll h Ok ws xs := by
  cases r with | cons a r => exact ⟨_, _, rfl, a, r⟩
theorem RepAll.inv_nil (r : RepAll h Ok vs []) : vs = [] := by cases r; rfl
theorem RepAll.inv_two {x y : PV} (r : RepAll h Ok vs [x, y]) : ∃ v u, vs = [v, u] ∧ Rep h Ok v x ∧ Rep h Ok u y := by
  obtain ⟨v, ws, rfl, a, r⟩ := r.inv_cons
  obtain ⟨u, ws, rfl, b, r⟩ := r.inv_cons
  rw [r.inv_nil]
  exact ⟨v, u, rfl, a, b⟩

/-- a text's value -/
inductive TxtIs : Value → Bool → List Nat → Prop
  | str (cs : List Nat) (t : Tok) : TxtIs (.str ⟨cs.toArray⟩ t) false cs
  | bytes (bs : List UInt8) (t : Tok) : TxtIs (.bytes bs.toArray t) true (bs.map UInt8.toNat)
/-- what a value is that stands for x -/
def RepInv (h : Heap) (Ok : Addr → Prop) (v : Value) : PV → Prop
  | .none => v = .none
  | .bool b => v = .bool b
  | .int i => ∃ t, v = .int i t
  | .txt k cs => TxtIs v k cs
  | .list xs => ∃ a vs, v = .ref a ∧ Ok a ∧ h.PlainList a vs.toArray ∧ RepAll h Ok vs xs
  | .tup xs => ∃ a vs, v = .ref a ∧ Ok a ∧ PlainTup h a vs.toArray ∧ RepAll h Ok vs xs
  | .dict _ => False
  | .cls c => v = .type c
theorem Rep.inv (r : Rep h Ok v x) : RepInv h Ok v x :=
  Rep.rec (motive_1 := fun v x _ => RepInv h Ok v x) (motive_2 := fun _ _ _ => True) rfl (fun _ => rfl) (fun _ t => ⟨t, rfl⟩) .str (fun bs t _ e => e ▸ .bytes bs t) (fun _ => rfl)
    (fun o l r _ => ⟨_, _, rfl, o, l, r⟩) (fun o l r _ => ⟨_, _, rfl, o, l, r⟩) trivial (fun _ _ _ _ => trivial) r
/-- an object that holds a sequence -/
def SeqAt (h : Heap) (a : Addr) : Prop := ∃ o xs n, h.get? a = some o ∧ o.data = .seq xs n
theorem seqAt_list {a : Addr} {vs : Array Value} (x : h.PlainList a vs) : SeqAt h a := let ⟨_, e⟩ := x; ⟨_, _, _, e, rfl⟩
theorem seqAt_tup {a : Addr} {vs : Array Value} (x : PlainTup h a vs) : SeqAt h a := let ⟨_, e⟩ := x; ⟨_, _, _, e, rfl⟩
theorem SeqAt.lt {a : Addr} (x : SeqAt h a) : a < h.objs.size := let ⟨_, _, _, e, _⟩ := x; Heap.lt_size e

/-- what is kept of the places that are told of -/
def Moves (h h' : Heap) (Ok Ok' : Addr → Prop) : Prop := ∀ a, Ok a → SeqAt h a → Ok' a ∧ ∀ o, h.get? a = some o → h'.get? a = some o
theorem Moves.list (hk : Moves h h' Ok Ok') {a : Addr} (o : Ok a) (l : h.PlainList a vs.toArray) : Ok' a ∧ h'.PlainList a vs.toArray := ⟨(hk a o (seqAt_list l)).1, let ⟨n, e⟩ := l; ⟨n, (hk a o (seqAt_list l)).2 _ e⟩⟩
theorem Moves.tup (hk : Moves h h' Ok Ok') {a : Addr} (o : Ok a) (l : PlainTup h a vs.toArray) : Ok' a ∧ PlainTup h' a vs.toArray := ⟨(hk a o (seqAt_tup l)).1, let ⟨n, e⟩ := l; ⟨n, (hk a o (seqAt_tup l)).2 _ e⟩⟩
theorem Rep.mono (hk : Moves h h' Ok Ok') (r : Rep h Ok v x) : Rep h' Ok' v x :=
  Rep.rec (motive_1 := fun v x _ => Rep h' Ok' v x) (motive_2 := fun vs xs _ => RepAll h' Ok' vs xs) .none .bool .int .str (fun bs t _ e => .bytes bs t e) .cls
    (fun o l _ r => .list (hk.list o l).1 (hk.list o l).2 r) (fun o l _ r => .tup (hk.tup o l).1 (hk.tup o l).2 r) .nil (fun _ _ a r => .cons a r) r
theorem RepAll.mono (hk : Moves h h' Ok Ok') (r : RepAll h Ok vs xs) : RepAll h' Ok' vs xs := r.ind .nil fun a _ r => .cons (a.mono hk) r
theorem Moves.weak (hk : ∀ a, Ok a → Ok' a) : Moves h h Ok Ok' := fun a ha _ => ⟨hk a ha, fun _ e => e⟩
theorem RepAll.weaken (hk : ∀ a, Ok a → Ok' a) (r : RepAll h Ok vs xs) : RepAll h Ok' vs xs := r.mono (.weak hk)
theorem Rep.weaken (hk : ∀ a, Ok a → Ok' a) (r : Rep h Ok v x) : Rep h Ok' v x := r.mono (.weak hk)

theorem RepAll.length (r : RepAll h Ok vs xs) : vs.length = xs.length := r.ind (P := fun vs xs => vs.length = xs.length) rfl fun _ _ ih => congrArg (· + 1) ih
theorem RepAll.append (r : RepAll h Ok vs xs) (q : RepAll h Ok ws ys) : RepAll h Ok (vs ++ ws) (xs ++ ys) := r.ind (P := fun vs xs => RepAll h Ok (vs ++ ws) (xs ++ ys)) q fun a _ ih => .cons a ih
theorem RepAll.get (r : RepAll h Ok vs xs) : ∀ (i : Nat) (x : PV), xs[i]? = some x → ∃ v, vs[i]? = some v ∧ Rep h Ok v x :=
  r.ind (P := fun vs xs => ∀ (i : Nat) (x : PV), xs[i]? = some x → ∃ v, vs[i]? = some v ∧ Rep h Ok v x) (fun _ _ e => nomatch e) fun {v _ _ _} a _ ih i => Nat.casesOn i (fun _ e => Option.some.inj e ▸ ⟨v, rfl, a⟩) fun n x e => ih n x e
theorem RepAll.at (r : RepAll h Ok vs xs) {i : Nat} (hv : vs[i]? = some v) (hx : xs[i]? = some x) : Rep h Ok v x := by
  obtain ⟨u, hu, ru⟩ := r.get i x hx
  rw [hv] at hu; cases hu; exact ru
theorem RepAll.drop (r : RepAll h Ok vs xs) : ∀ n, RepAll h Ok (vs.drop n) (xs.drop n) :=
  r.ind (P := fun vs xs => ∀ n, RepAll h Ok (vs.drop n) (xs.drop n)) (fun n => by rw [List.drop_nil, List.drop_nil]; exact .nil) fun a r ih n => Nat.casesOn n (.cons a r) ih
theorem RepAll.take (r : RepAll h Ok vs xs) : ∀ n, RepAll h Ok (vs.take n) (xs.take n) :=
  r.ind (P := fun vs xs => ∀ n, RepAll h Ok (vs.take n) (xs.take n)) (fun n => by rw [List.take_nil, List.take_nil]; exact .nil) fun a r ih n => Nat.casesOn n .nil fun n => .cons a (ih n)
theorem RepAll.set (hv : Rep h Ok v x) (r : RepAll h Ok vs xs) : ∀ n, RepAll h Ok (vs.set n v) (xs.set n x) :=
  r.ind (P := fun vs xs => ∀ n, RepAll h Ok (vs.set n v) (xs.set n x)) (fun _ => .nil) fun a r ih n => Nat.casesOn n (.cons hv r) fun n => .cons a (ih n)
theorem RepAll.mem (r : RepAll h Ok vs xs) : ∀ v ∈ vs, ∃ y ∈ xs, Rep h Ok v y :=
  r.ind (P := fun vs xs => ∀ v ∈ vs, ∃ y ∈ xs, Rep h Ok v y) (fun _ h => nomatch h) fun {w _ y _} a _ ih v hm => (List.mem_cons.mp hm).elim (fun e => ⟨y, .head _, e ▸ a⟩) fun hm => let ⟨z, hz, rz⟩ := ih v hm; ⟨z, .tail _ hz, rz⟩
end

/-- what no step of ours turns -/
def Same (s s' : Shared) : Prop := s'.gens = s.gens ∧ s'.os = s.os
theorem Same.trans {a b c : Shared} (x : Same a b) (y : Same b c) : Same a c := ⟨y.1.trans x.1, y.2.trans x.2⟩
/-- pure growth of a state -/
structure Ext (s s' : Shared) : Prop where
  same : Same s s'
  keep : ∀ b o, s.heap.get? b = some o → s'.heap.get? b = some o
theorem Ext.refl (s : Shared) : Ext s s := ⟨⟨rfl, rfl⟩, fun _ _ e => e⟩
theorem Ext.trans {a b c : Shared} (x : Ext a b) (y : Ext b c) : Ext a c :=
  ⟨x.same.trans y.same, fun b o e => y.keep b o (x.keep b o e)⟩
theorem Ext.toks (s : Shared) (t : Nat) : Ext s { s with toks := t } := ⟨⟨rfl, rfl⟩, fun _ _ e => e⟩
theorem Ext.push_toks (s : Shared) (o : Obj) (t : Nat) : Ext s { s with heap := s.heap.push o, toks := t } :=
  ⟨⟨rfl, rfl⟩, fun _ _ e => Heap.get?_push_of_some _ e⟩
theorem Ext.push (s : Shared) (o : Obj) : Ext s { s with heap := s.heap.push o } := .push_toks s o s.toks
theorem Ext.fresh {s s' : Shared} (e : Ext s s') {a : Addr} (h : s'.heap.get? a = none) : s.heap.get? a = none := by
  cases q : s.heap.get? a with
  | none => rfl
  | some o => rw [e.keep a o q] at h; cases h
theorem get_size (h : Heap) : h.get? h.objs.size = none := by
  cases q : h.get? h.objs.size with
  | none => rfl
  | some o => exact absurd (Heap.lt_size q) (Nat.lt_irrefl _)
theorem Ext.moves {s s' : Shared} {Ok : Addr → Prop} (e : Ext s s') : Moves s.heap s'.heap Ok Ok := fun a ha _ => ⟨ha, fun o => e.keep a o⟩
theorem Rep.ext {s s' : Shared} {Ok : Addr → Prop} {v : Value} {x : PV} (r : Rep s.heap Ok v x) (e : Ext s s') : Rep s'.heap Ok v x := r.mono e.moves
theorem RepAll.ext {s s' : Shared} {Ok : Addr → Prop} {vs : List Value} {xs : List PV} (r : RepAll s.heap Ok vs xs) (e : Ext s s') : RepAll s'.heap Ok vs xs := r.mono e.moves

/-! ## the world of one law -/
structure Wld where
  prog : Program
  w : World
  mg : Str → Option Value
  mb : Str → Option Value
  K : Frag
structure Wld.On (W : Wld) (h : Heap) : Prop where
  g : h.Ns mainGlobals W.mg
  b : h.Ns builtinsNs W.mb
  nolimit : h.NoLimit
  frag : W.K.In h
theorem Wld.On.keeps {W : Wld} {h h' : Heap} (x : W.On h) (k : ∀ b o, h.get? b = some o → h'.get? b = some o) : W.On h' :=
  ⟨x.g.keeps k, x.b.keeps k, x.nolimit.keeps k, x.frag.keeps k⟩
theorem Wld.On.ext {W : Wld} {s s' : Shared} (x : W.On s.heap) (e : Ext s s') : W.On s'.heap := x.keeps e.keep
abbrev Wld.M (W : Wld) : Model := model W.prog W.w
/-- what a global name gives -/
def Wld.glob (W : Wld) (x : Str) : Option Value := match W.mg x with | some v => some v | none => W.mb x
theorem Wld.loadGlobal {W : Wld} {M : Model} {A : Around} {E : Value → Shared → Prop} {s : Shared} {env : Env} {x : Str} {v : Value} {Q : Value → Shared → Prop}
    (h : W.On s.heap) (hg : env.globals = mainGlobals) (hb : env.builtins = builtinsNs) (hx : W.glob x = some v) (q : Q v s) : wpAny M A (loadGlobal env x) Q E s := by
  unfold Wld.glob at hx
  cases e : W.mg x with
  | some u =>
    rw [e] at hx
    cases hx
    exact Calls.loadGlobal_global (by rw [hg]; exact h.g) e q
  | none =>
    rw [e] at hx
    exact Calls.loadGlobal_builtin (by rw [hg]; exact h.g) e (by rw [hb]; exact h.b) hx q
/-- room above: depth and units -/
structure Room (A : Around) (k : Nat) : Prop where
  hd : A.handled = none
  dep : A.depth + 2 * k < 900
  un : A.units + 200 * k + 200 < cLine
/-- the room that a call wants: some of the evaluator's may be spent on builtin functions ahead of it -/
structure RoomF (A : Around) (k : Nat) : Prop where
  hd : A.handled = none
  dep : A.depth + 2 * k < 900
  un : A.units + 200 * k + 100 < cLine
theorem Room.toF {A : Around} {k : Nat} (r : Room A k) : RoomF A k := ⟨r.hd, r.dep, by have := r.un; omega⟩
/-- what a name gives in a function's or a comprehension's environment -/
def Holds (h : Heap) (env : Env) (x : Str) (v : Value) : Prop :=
  (env.kindOf x = some .local ∧ ∃ m, h.Ns env.locals m ∧ m x = some v) ∨
  ((env.kindOf x = some .cell ∨ env.kindOf x = some .free) ∧ ∃ c, env.cells.lookup x = some c ∧ h.IsCell c (some v))
theorem Holds.keeps {h h' : Heap} {env : Env} {x : Str} {v : Value} (H : Holds h env x v) (k : ∀ b o, h.get? b = some o → h'.get? b = some o) : Holds h' env x v :=
  H.imp (fun ⟨a, m, hn, e⟩ => ⟨a, m, hn.keeps k, e⟩) fun ⟨a, c, e, hc⟩ => ⟨a, c, e, hc.keeps k⟩
theorem Holds.load {h : Heap} {M : Model} {A : Around} {E : Value → Shared → Prop} {s : Shared} {env : Env} {x : Str} {pos : Pos} {v : Value} {Q : Value → Shared → Prop}
    (H : Holds s.heap env x v) (hk : env.scope.kind = .function) (hd : (x == ("__debug__" : Str)) = false) (hcd : (x == ("__classdict__" : Str)) = false) (q : Q v s) : wpAny M A (eval (.Name x pos) env) Q E s := by
  refine wpAny_Name ?_ hd
  rcases H with ⟨hl, m, hn, hv⟩ | ⟨hl | hl, c, hc, hv⟩
  · exact wpAny_loadName_local hk hl hn hv q
  · exact wpAny_loadName_cell hk hl hc hv q
  · exact wpAny_loadName_free hk hl hc hv q hcd
end Mine
end
noncomputable section
namespace Mine

def LIM : Nat := 1048576
def LST : Nat := 2097152
theorem lim_size {n : Nat} (h : n ≤ LIM) : n ≤ sizeLine := Nat.le_trans h (by decide)
theorem lst_size {n : Nat} (h : n ≤ LST) : n ≤ sizeLine := Nat.le_trans h (by decide)
theorem lim_lst {n : Nat} (h : n ≤ LIM) : n ≤ LST := Nat.le_trans h (by decide)
theorem lst_63 {n : Nat} (h : n ≤ LST) : (n : Int) < 2 ^ 63 := Int.lt_of_le_of_lt (Int.ofNat_le.mpr h) (by decide)
theorem not_63 {n : Nat} (h : n ≤ LST) : ¬ ((n : Nat) : Int) ≥ 2 ^ 63 := Int.not_le.mpr (lst_63 h)

/-- a value is of a size that the model bears -/
inductive Sz : PV → Prop
  | none : Sz .none
  | bool (b : Bool) : Sz (.bool b)
  | int (i : Int) : Sz (.int i)
  | txt (k : Bool) {cs : List Nat} : cs.length ≤ LIM → Sz (.txt k cs)
  | list {xs : List PV} : xs.length ≤ LST → (∀ x ∈ xs, Sz x) → Sz (.list xs)
  | tup {xs : List PV} : xs.length ≤ LST → (∀ x ∈ xs, Sz x) → Sz (.tup xs)
  | dict {es : List (Int × PV)} : (∀ e ∈ es, Sz e.2) → Sz (.dict es)
  | cls (c : String) : Sz (.cls c)
theorem Sz.txt_len {k : Bool} {cs : List Nat} (h : Sz (.txt k cs)) : cs.length ≤ LIM := by cases h; assumption
theorem Sz.list_len {xs : List PV} (h : Sz (.list xs)) : xs.length ≤ LST := by cases h; assumption
theorem Sz.list_all {xs : List PV} (h : Sz (.list xs)) : ∀ x ∈ xs, Sz x := by cases h; assumption
theorem Sz.tup_len {xs : List PV} (h : Sz (.tup xs)) : xs.length ≤ LST := by cases h; assumption
theorem Sz.tup_all {xs : List PV} (h : Sz (.tup xs)) : ∀ x ∈ xs, Sz x := by cases h; assumption

theorem wp_pos {α : Type} {M : Model} {A : Around} {c : Prop} [Decidable c] {a b : Sem α} {Q : α → Shared → Prop} {E : Value → Shared → Prop} {s : Shared} (h : c) (g : wpAny M A a Q E s) : wpAny M A (if c then a else b) Q E s := by rw [if_pos h]; exact g
theorem wp_neg {α : Type} {M : Model} {A : Around} {c : Prop} [Decidable c] {a b : Sem α} {Q : α → Shared → Prop} {E : Value → Shared → Prop} {s : Shared} (h : ¬ c) (g : wpAny M A b Q E s) : wpAny M A (if c then a else b) Q E s := by rw [if_neg h]; exact g
/-- a tree that hands back a value that stands for x, all else as it stood -/
def Gets (W : Wld) (A : Around) (Ok : Addr → Prop) (s : Shared) (t : Sem Value) (x : PV) : Prop :=
  ∀ (E Q : Value → Shared → Prop), (∀ v s', Ext s s' → Rep s'.heap Ok v x → Q v s') → wpAny W.M A t Q E s
/-- the same for a new list -/
def GetsL (W : Wld) (A : Around) (Ok : Addr → Prop) (s : Shared) (t : Sem Value) (xs : List PV) : Prop :=
  ∀ (E Q : Value → Shared → Prop), (∀ a vs s', Ext s s' → s.heap.get? a = none → s'.heap.PlainList a vs.toArray → RepAll s'.heap (fun b => Ok b ∧ b ≠ a) vs xs → Q (.ref a) s') → wpAny W.M A t Q E s
def Fresh (Ok : Addr → Prop) (s : Shared) : Prop := ∀ a, s.heap.get? a = none → Ok a
theorem Fresh.ext {Ok : Addr → Prop} {s s' : Shared} (f : Fresh Ok s) (e : Ext s s') : Fresh Ok s' := fun a h => f a (e.fresh h)
theorem GetsL.gets {W : Wld} {A : Around} {Ok : Addr → Prop} {s : Shared} {t : Sem Value} {xs : List PV} (g : GetsL W A Ok s t xs) (f : Fresh Ok s) : Gets W A Ok s t (.list xs) :=
  fun E Q q => g E Q fun a vs s' e ha hl r => q _ _ e (.list (f a ha) hl (r.weaken fun _ x => x.1))
/-- a tree that hands back a value of which Z holds -/
def Yld (W : Wld) (A : Around) (Ok : Addr → Prop) (s : Shared) (t : Sem Value) (Z : PV → Prop) : Prop :=
  ∀ (E Q : Value → Shared → Prop), (∀ v s' x, Ext s s' → Rep s'.heap Ok v x → Sz x → Z x → Q v s') → wpAny W.M A t Q E s
theorem Gets.yld {W : Wld} {A : Around} {Ok : Addr → Prop} {s : Shared} {t : Sem Value} {x : PV} {Z : PV → Prop} (g : Gets W A Ok s t x) (h : Sz x) (z : Z x) : Yld W A Ok s t Z :=
  fun E Q q => g E Q fun v s' e r => q v s' x e r h z

section
variable {W : Wld} {A : Around} {Ok Ok' Ok'' : Addr → Prop} {s : Shared} {v u : Value} {a b : Int} {n : Nat}
theorem rep_int (h : Rep s.heap Ok v (.int a)) : ∃ t, v = .int a t := h.inv
/-! ints -/
theorem add_ints (ha : Rep s.heap Ok v (.int a)) (hb : Rep s.heap Ok' u (.int b)) : Gets W A Ok'' s (binaryOp .Add v u) (.int (a + b)) := by
  obtain ⟨_, rfl⟩ := rep_int ha; obtain ⟨_, rfl⟩ := rep_int hb; exact fun E Q q => PySem.P.add_int (q _ _ (.toks _ _) (.int _ _))
theorem sub_ints (ha : Rep s.heap Ok v (.int a)) (hb : Rep s.heap Ok' u (.int b)) : Gets W A Ok'' s (binaryOp .Sub v u) (.int (a - b)) := by
  obtain ⟨_, rfl⟩ := rep_int ha; obtain ⟨_, rfl⟩ := rep_int hb; exact fun E Q q => PySem.P.sub_int (q _ _ (.toks _ _) (.int _ _))
theorem no_pylong (hb : b.natAbs < 2 ^ 64) : Builtin.divisionGoesByPylong a b = false := by
  have h : (if (b == 0) = true then 0 else b.natAbs.log2 / 30 + 1) ≤ 300 := by
    split
    · exact Nat.zero_le _
    · refine Nat.le_trans (Nat.add_le_add_right (Nat.div_le_self _ _) 1) ?_
      rcases Nat.eq_zero_or_pos b.natAbs with h0 | h0
      · rw [h0]; decide
      · exact Nat.le_trans ((Nat.log2_lt (Nat.ne_of_gt h0)).mpr hb) (by decide)
  exact (Bool.and_eq_false_iff (x := decide _)).mpr (.inl (decide_eq_false (Nat.not_lt.mpr h)))
theorem fdiv_ints (hn : b.natAbs < 2 ^ 64) (h0 : b ≠ 0) (ha : Rep s.heap Ok v (.int a)) (hb : Rep s.heap Ok' u (.int b)) : Gets W A Ok'' s (binaryOp .FloorDiv v u) (.int (a.fdiv b)) := by
  obtain ⟨_, rfl⟩ := rep_int ha; obtain ⟨_, rfl⟩ := rep_int hb; exact fun E Q q => floordiv_int h0 (q _ _ (.toks _ _) (.int _ _)) (.inl (no_pylong hn))
theorem fmod_ints (h0 : b ≠ 0) (ha : Rep s.heap Ok v (.int a)) (hb : Rep s.heap Ok' u (.int b)) : Gets W A Ok'' s (binaryOp .Mod v u) (.int (a.fmod b)) := by
  obtain ⟨_, rfl⟩ := rep_int ha; obtain ⟨_, rfl⟩ := rep_int hb; exact fun E Q q => mod_int' h0 (q _ _ (.toks _ _) (.int _ _))
theorem neg_ints (ha : Rep s.heap Ok v (.int a)) : Gets W A Ok'' s (unaryOp .USub v) (.int (-a)) := by
  obtain ⟨_, rfl⟩ := rep_int ha; exact fun E Q q => neg_int (q _ _ (.toks _ _) (.int _ _))
theorem lt_ints (ha : Rep s.heap Ok v (.int a)) (hb : Rep s.heap Ok' u (.int b)) : Gets W A Ok'' s (compareOp .Lt v u) (.bool (decide (a < b))) := by
  obtain ⟨_, rfl⟩ := rep_int ha; obtain ⟨_, rfl⟩ := rep_int hb; exact fun E Q q => PySem.P.lt_int (q _ _ (.refl _) (.bool _))
theorem gt_ints (ha : Rep s.heap Ok v (.int a)) (hb : Rep s.heap Ok' u (.int b)) : Gets W A Ok'' s (compareOp .Gt v u) (.bool (decide (b < a))) := by
  obtain ⟨_, rfl⟩ := rep_int ha; obtain ⟨_, rfl⟩ := rep_int hb; exact fun E Q q => PySem.P.gt_int (q _ _ (.refl _) (.bool _))
end
theorem str_append (a b : List Nat) : ((⟨a.toArray⟩ : Str) ++ (⟨b.toArray⟩ : Str)) = (⟨(a ++ b).toArray⟩ : Str) := congrArg Str.mk (List.append_toArray ..)
end Mine
end
noncomputable section
namespace Mine
open SeqAt

/-! ## Python's == : kinds alike, lists to depth n -/
def eqs (f : PV → PV → Option Bool) : List PV → List PV → Option Bool
  | [], [] => some true
  | x :: xs, y :: ys => (f x y).bind fun a => (eqs f xs ys).map fun b => a && b
  | _, _ => none
def eqV (f : List PV → List PV → Option Bool) (x y : PV) : Option Bool := match x with
  | .none => (match y with | .none => some true | _ => none)
  | .bool a => (match y with | .bool b => some (a == b) | _ => none)
  | .int a => (match y with | .int b => some (a == b) | _ => none)
  | .txt k a => (match y with | .txt k' b => (match k, k' with | false, false => some (a == b) | true, true => some (a == b) | _, _ => none) | _ => none)
  | .list a => (match y with | .list b => f a b | _ => none)
  | _ => none
def eqL : Nat → List PV → List PV → Option Bool
  | 0, _, _ => none
  | n + 1, xs, ys => if xs.length = ys.length then eqs (eqV (eqL n)) xs ys else some false
abbrev pvEq (n : Nat) : PV → PV → Option Bool := eqV (eqL n)

inductive EqIs (f : List PV → List PV → Option Bool) : PV → PV → Bool → Prop
  | none : EqIs f .none .none true
  | bool (a b : Bool) : EqIs f (.bool a) (.bool b) (a == b)
  | int (a b : Int) : EqIs f (.int a) (.int b) (a == b)
  | txt (k : Bool) (a b : List Nat) : EqIs f (.txt k a) (.txt k b) (a == b)
  | list {a b : List PV} {t : Bool} : f a b = some t → EqIs f (.list a) (.list b) t
theorem eqV_is {f : List PV → List PV → Option Bool} {x y : PV} {t : Bool} (h : eqV f x y = some t) : EqIs f x y t := by
  cases x with
  | none => cases y with
    | none => exact Option.some.inj h ▸ .none
    | _ => exact nomatch h
  | bool a => cases y with
    | bool b => exact Option.some.inj h ▸ .bool a b
    | _ => exact nomatch h
  | int a => cases y with
    | int b => exact Option.some.inj h ▸ .int a b
    | _ => exact nomatch h
  | txt k a => cases y with
    | txt k' b => cases k <;> cases k' <;> first | exact Option.some.inj h ▸ .txt _ a b | exact nomatch h
    | _ => exact nomatch h
  | list a => cases y with
    | list b => exact .list h
    | _ => exact nomatch h
  | _ => exact nomatch h
theorem eqV_txt (f : List PV → List PV → Option Bool) (k : Bool) (a b : List Nat) : eqV f (.txt k a) (.txt k b) = some (a == b) := by cases k <;> rfl

theorem eqs_get {f : PV → PV → Option Bool} (xs : List PV) : ∀ {ys : List PV} {b : Bool}, eqs f xs ys = some b →
    ∃ e : Nat → Bool, (∀ (j : Nat) x y, xs[j]? = some x → ys[j]? = some y → f x y = some (e j)) ∧ b = (List.range xs.length).all e := by
  induction xs with
  | nil =>
    intro ys b h
    cases ys with
    | nil => exact ⟨fun _ => true, (fun j x y hx => nomatch hx), (Option.some.inj h).symm⟩
    | cons _ _ => exact nomatch h
  | cons x xs ih =>
    intro ys b h
    cases ys with
    | nil => exact nomatch h
    | cons y ys =>
      obtain ⟨a, h1, h2⟩ := Option.bind_eq_some_iff.mp (show (f x y).bind _ = some b from h)
      obtain ⟨c, h3, h4⟩ := Option.map_eq_some_iff.mp h2
      obtain ⟨e, he, hc⟩ := ih h3
      refine ⟨fun j => Nat.casesOn j a e, fun j => Nat.casesOn j (fun x' y' hx hy => Option.some.inj hx ▸ Option.some.inj hy ▸ h1) he, ?_⟩
      rw [List.length_cons, List.range_succ_eq_map, List.all_cons, List.all_map, ← h4, hc]; rfl
theorem eqs_refl {f : PV → PV → Option Bool} (hf : ∀ x b, f x x = some b → b = true) (xs : List PV) : ∀ {b : Bool}, eqs f xs xs = some b → b = true := by
  induction xs with
  | nil => exact fun h => (Option.some.inj h).symm
  | cons x xs ih =>
    intro b h
    obtain ⟨a, h1, h2⟩ := Option.bind_eq_some_iff.mp (show (f x x).bind _ = some b from h)
    obtain ⟨c, h3, h4⟩ := Option.map_eq_some_iff.mp h2
    rw [← h4, hf x a h1, ih h3]; rfl
theorem eqV_refl {f : List PV → List PV → Option Bool} (hf : ∀ x b, f x x = some b → b = true) (x : PV) (b : Bool) (h : eqV f x x = some b) : b = true := by
  cases x with
  | list a => exact hf _ _ h
  | txt k a => rw [eqV_txt] at h; exact (Option.some.inj h).symm.trans (beq_self_eq_true a)
  | none => exact (Option.some.inj h).symm
  | bool a => exact (Option.some.inj h).symm.trans (beq_self_eq_true a)
  | int a => exact (Option.some.inj h).symm.trans (beq_self_eq_true a)
  | _ => exact nomatch h
theorem eqL_refl (n : Nat) : ∀ x b, eqL n x x = some b → b = true := by
  induction n with
  | zero => exact fun _ _ h => nomatch h
  | succ n ih => exact fun x b h => eqs_refl (eqV_refl ih) x ((if_pos rfl).symm.trans h)

/-! what an address holds stands for one value alone -/
theorem seq_det {h : Heap} {a : Addr} {T U : String} {vs ws : List Value} {n m : Nat} (e : h.get? a = some { cls := .type T, data := .seq vs.toArray n }) (e' : h.get? a = some { cls := .type U, data := .seq ws.toArray m }) : T = U ∧ vs = ws := by
  have q := Option.some.inj (e.symm.trans e')
  exact ⟨Value.type.inj (congrArg Obj.cls q), congrArg (fun o => match o.data with | .seq xs _ => xs.toList | _ => []) q⟩
theorem list_tup {h : Heap} {a : Addr} {vs ws : List Value} (l : h.PlainList a vs.toArray) (l' : PlainTup h a ws.toArray) : False := by
  obtain ⟨n, e⟩ := l; obtain ⟨m, e'⟩ := l'; exact absurd (seq_det e e').1 (by decide)
theorem Rep.inj {h : Heap} {Ok Ok' : Addr → Prop} {v : Value} {x y : PV} (r : Rep h Ok v x) (q : Rep h Ok' v y) : x = y :=
  Rep.rec (motive_1 := fun v x _ => ∀ y, RepInv h Ok v x → Rep h Ok' v y → x = y) (motive_2 := fun vs xs _ => ∀ ys, RepAll h Ok' vs ys → xs = ys)
    (fun y _ r => by cases r; rfl) (fun b y _ r => by cases r; rfl) (fun i t y _ r => by cases r; rfl) (fun cs t y _ r => by cases r; rfl)
    (fun bs t cs e y _ r => by
      generalize hv : Value.bytes bs.toArray t = v at r
      cases r with
      | bytes bs' t' e' =>
        have : bs = bs' := congrArg (fun v => match v with | Value.bytes b _ => b.toList | _ => []) hv
        rw [e, e', this]
      | _ => exact nomatch hv)
    (fun c y _ r => by cases r; rfl)
    (fun o l _ ih y _ r => by
      cases r with
      | list o' l' q => obtain ⟨n, e⟩ := l; obtain ⟨m, e'⟩ := l'; exact congrArg PV.list (ih _ ((seq_det e e').2 ▸ q))
      | tup o' l' q => exact (list_tup l l').elim)
    (fun o l _ ih y _ r => by
      cases r with
      | list o' l' q => exact (list_tup l' l).elim
      | tup o' l' q => obtain ⟨n, e⟩ := l; obtain ⟨m, e'⟩ := l'; exact congrArg PV.tup (ih _ ((seq_det e e').2 ▸ q)))
    (fun ys r => by cases r; rfl)
    (fun a q ih1 ih2 ys r => by cases r with | cons a' q' => rw [ih1 _ a.inv a', ih2 _ q']) r y r.inv q

section
variable {W : Wld} {A : Around} {s : Shared} {Ok Ok' Ok'' : Addr → Prop} {v u : Value} {x y : PV} {t : Bool}
theorem byte_map_inj {a b : List UInt8} : (a == b) = (a.map UInt8.toNat == b.map UInt8.toNat) :=
  Bool.eq_iff_iff.mpr (beq_iff_eq.trans ((List.map_inj_right fun _ _ h => UInt8.toNat_inj.mp h).symm.trans beq_iff_eq.symm))
theorem str_eq_lists (a b : List Nat) : ((⟨a.toArray⟩ : Str) == ⟨b.toArray⟩) = (a == b) :=
  Bool.eq_iff_iff.mpr (beq_iff_eq.trans ((Iff.intro (fun e => congrArg (fun x => x.cps.toList) e) fun e => congrArg (fun x => (⟨List.toArray x⟩ : Str)) e).trans beq_iff_eq.symm))
theorem eq_txt {k : Bool} {a b : List Nat} (hv : TxtIs v k a) (hu : TxtIs u k b) : RcAt A s v u (a == b) ∧ EqAt A s v u (a == b) := by
  cases hv with
  | str cs t =>
    cases hu with
    | str cs' t' => rw [← str_eq_lists]; exact ⟨.str_str _ _ _ _, .str_str _ _ _ _⟩
  | bytes bs t =>
    cases hu with
    | bytes bs' t' =>
      rw [← byte_map_inj]
      have rc : RcAt A s (.bytes bs.toArray t) (.bytes bs'.toArray t') (bs == bs') := fun prog w E Q q => eq_bytes q
      refine ⟨rc, fun prog w E Q q => ?_⟩
      unfold eqBool
      refine wpAny_holding (wpAny_ite_split (fun hab => ?_) fun _ => wpAny_bind (rc prog w E _ (wpAny_truthy_bool q)))
      rw [show bs = bs' from congrArg Array.toList (Value.bytes.inj (eq_of_beq hab)).1, beq_self_eq_true] at q
      exact wpAny_bind (wpAny_rule (wpAny_pure q))
theorem ne_txt {k : Bool} {a b : List Nat} (hv : TxtIs v k a) (hu : TxtIs u k b) : RcNeAt A s v u (!(a == b)) := by
  cases hv with
  | str cs t =>
    cases hu with
    | str cs' t' => rw [← str_eq_lists]; exact fun prog w E Q q => PyProof.Rows.ne_str q
  | bytes bs t =>
    cases hu with
    | bytes bs' t' => rw [← byte_map_inj]; exact fun prog w E Q q => ne_bytes q
/-- two lists, item by item -/
theorem eqs_at {n : Nat} {xs ys : List PV} {vs ws : List Value} (ih : ∀ {v u x y t}, EqIs (eqL n) x y t → Rep s.heap Ok v x → Rep s.heap Ok' u y → EqAt A.in1 s v u t) (h : eqs (eqV (eqL n)) xs ys = some t)
    (r : RepAll s.heap Ok vs xs) (r' : RepAll s.heap Ok' ws ys) (hl : xs.length = ys.length) : ∃ e : Nat → Bool, (∀ j (h1 : j < vs.toArray.size) (h2 : j < ws.toArray.size), EqAt A.in1 s vs.toArray[j] ws.toArray[j] (e j)) ∧ t = (List.range vs.toArray.size).all e := by
  obtain ⟨e, he, ht⟩ := eqs_get xs h
  refine ⟨e, fun j h1 h2 => ?_, ht.trans (by rw [List.size_toArray, r.length])⟩
  have q1 : j < xs.length := r.length ▸ h1
  have q2 : j < ys.length := hl ▸ q1
  exact ih (eqV_is (he j _ _ (List.getElem?_eq_getElem q1) (List.getElem?_eq_getElem q2))) (r.at (List.getElem?_eq_getElem h1) (List.getElem?_eq_getElem q1)) (r'.at (List.getElem?_eq_getElem h2) (List.getElem?_eq_getElem q2))
theorem eqL_cases {n : Nat} {xs ys : List PV} (h : eqL n xs ys = some t) : ∃ m, n = m + 1 ∧ ((xs.length = ys.length ∧ eqs (eqV (eqL m)) xs ys = some t) ∨ (xs.length ≠ ys.length ∧ t = false)) := by
  cases n with
  | zero => exact nomatch h
  | succ m =>
    refine ⟨m, rfl, ?_⟩
    by_cases hl : xs.length = ys.length
    · exact .inl ⟨hl, (if_pos hl).symm.trans h⟩
    · exact .inr ⟨hl, (Option.some.inj ((if_neg hl).symm.trans h)).symm⟩
theorem sizes_ne {xs ys : List PV} {vs ws : List Value} (r : RepAll s.heap Ok vs xs) (r' : RepAll s.heap Ok' ws ys) (hl : xs.length ≠ ys.length) : (vs.toArray.size != ws.toArray.size) = true := by
  rw [List.size_toArray, List.size_toArray, r.length, r'.length]; exact bne_iff_ne.mpr hl
theorem sizes_eq {xs ys : List PV} {vs ws : List Value} (r : RepAll s.heap Ok vs xs) (r' : RepAll s.heap Ok' ws ys) (hl : xs.length = ys.length) : vs.toArray.size = ws.toArray.size := by
  rw [List.size_toArray, List.size_toArray, r.length, r'.length]; exact hl
theorem eq_flat (f : List PV → List PV → Option Bool) {x y : PV} {t : Bool} (h : EqIs f x y t) (hv : Rep s.heap Ok v x) (hu : Rep s.heap Ok' u y) (hl : ∀ {a b}, x = .list a → y = .list b → f a b = some t → RcAt A s v u t ∧ EqAt A s v u t) : RcAt A s v u t ∧ EqAt A s v u t := by
  cases h with
  | none => rw [show v = _ from hv.inv, show u = _ from hu.inv]; exact ⟨.none_none, .same _⟩
  | bool a b => rw [show v = _ from hv.inv, show u = _ from hu.inv]; exact ⟨.bool_bool _ _, .bool_bool _ _⟩
  | int a b => obtain ⟨_, rfl⟩ := rep_int hv; obtain ⟨_, rfl⟩ := rep_int hu; exact ⟨.int_int _ _ _ _, .int_int _ _ _ _⟩
  | txt k a b => exact eq_txt hv.inv hu.inv
  | list h => exact hl rfl rfl h
theorem list_inj {a b : List PV} (h : PV.list a = .list b) : a = b := by cases h; rfl
theorem eq_is (n : Nat) : ∀ {A : Around} {v u : Value} {x y : PV} {t : Bool}, A.units + n < cLine → EqIs (eqL n) x y t → Rep s.heap Ok v x → Rep s.heap Ok' u y → RcAt A s v u t ∧ EqAt A s v u t := by
  induction n with
  | zero => exact fun hA h hv hu => eq_flat _ h hv hu fun _ _ h => nomatch h
  | succ n ih =>
    intro A v u x y t hA h hv hu
    refine eq_flat _ h hv hu fun {xs ys} ex ey h' => ?_
    clear h; revert h'; intro h
    subst ex ey
    obtain ⟨a, vs, rfl, o, l, r⟩ := hv.inv
    obtain ⟨a', ws, rfl, o', l', r'⟩ := hu.inv
    have hA1 : A.in1.units + n < cLine := by rw [Nat.add_comm n 1, ← Nat.add_assoc] at hA; exact hA
    have rc : RcAt A s (.ref a) (.ref a') t := by
      obtain ⟨m, hm, ⟨hl, h'⟩ | ⟨hl, rfl⟩⟩ := eqL_cases h
      · cases hm
        obtain ⟨e, he, rfl⟩ := eqs_at (A := A) (fun h hv hu => (ih hA1 h hv hu).2) h' r r' hl
        exact .lists l.isList l'.isList (sizes_eq r r' hl) (Nat.lt_of_le_of_lt (Nat.le_add_right _ _) hA) he
      · exact .lists_lengths l.isList l'.isList (sizes_ne r r' hl) (Nat.lt_of_le_of_lt (Nat.le_add_right _ _) hA)
    refine ⟨rc, ?_⟩
    by_cases haa : a = a'
    · subst haa
      have exy := list_inj (Rep.inj hv hu)
      subst exy
      rw [eqL_refl _ _ _ h]
      exact .same _
    · exact .of_refs haa rc
theorem ne_is (n : Nat) {A : Around} (hA : A.units + n < cLine) (h : EqIs (eqL n) x y t) (hv : Rep s.heap Ok v x) (hu : Rep s.heap Ok' u y) : RcNeAt A s v u (!t) := by
  cases h with
  | none => rw [show v = _ from hv.inv, show u = _ from hu.inv]; exact .none_none
  | bool a b => rw [show v = _ from hv.inv, show u = _ from hu.inv]; exact .bool_bool _ _
  | int a b => obtain ⟨_, rfl⟩ := rep_int hv; obtain ⟨_, rfl⟩ := rep_int hu; exact .int_int _ _ _ _
  | txt k a b => exact ne_txt hv.inv hu.inv
  | list h =>
    obtain ⟨a, vs, rfl, o, l, r⟩ := hv.inv
    obtain ⟨a', ws, rfl, o', l', r'⟩ := hu.inv
    have hA0 := Nat.lt_of_le_of_lt (Nat.le_add_right A.units n) hA
    obtain ⟨m, rfl, ⟨hl, h'⟩ | ⟨hl, rfl⟩⟩ := eqL_cases h
    · have hA1 : A.in1.units + m < cLine := by rw [Nat.add_comm m 1, ← Nat.add_assoc] at hA; exact hA
      obtain ⟨e, he, rfl⟩ := eqs_at (A := A) (fun h hv hu => (eq_is m hA1 h hv hu).2) h' r r' hl
      exact .lists l.isList l'.isList (sizes_eq r r' hl) hA0 he
    · exact .lists_lengths l.isList l'.isList (sizes_ne r r' hl) hA0

/-! in, not in, count, index: an item alike -/
def allEq (x : PV) (xs : List PV) : Prop := ∀ y ∈ xs, ∃ b, pvEq 4 y x = some b
def likeB (x y : PV) : Bool := pvEq 4 y x == some true
open Classical in
/-- the items' values, each alike or not -/
def likeV (h : Heap) (Ok : Addr → Prop) (x : PV) (v : Value) : Bool := decide (∃ y, Rep h Ok v y ∧ likeB x y = true)
open Classical in
theorem like_eq {h : Heap} {v : Value} {y : PV} (r : Rep h Ok v y) : likeV h Ok x v = likeB x y :=
  Bool.eq_iff_iff.mpr ⟨fun q => let ⟨z, rz, e⟩ := of_decide_eq_true q; Rep.inj r rz ▸ e, fun e => decide_eq_true ⟨y, r, e⟩⟩
theorem like_at {vs : List Value} {xs : List PV} (hA : A.units + 10 < cLine) (r : RepAll s.heap Ok vs xs) (ru : Rep s.heap Ok' u x) (hd : allEq x xs) : ∀ v, v ∈ vs → EqAt A.in1 s v u (likeV s.heap Ok x v) := by
  intro v hv
  obtain ⟨y, hy, ry⟩ := r.mem v hv
  obtain ⟨b, hb⟩ := hd y hy
  have e : likeB x y = b := by unfold likeB; rw [hb]; cases b <;> rfl
  rw [like_eq ry, e]
  exact (eq_is (A := A.in1) 4 (Nat.lt_of_le_of_lt (Nat.add_le_add_left (by decide : 1 + 4 ≤ 10) A.units) hA) (eqV_is hb) ry ru).2
theorem any_like {h : Heap} {vs : List Value} {xs : List PV} (r : RepAll h Ok vs xs) : vs.any (likeV h Ok x) = xs.any (likeB x) :=
  r.ind (P := fun vs xs => vs.any (likeV h Ok x) = xs.any (likeB x)) rfl fun a _ ih => by rw [List.any_cons, List.any_cons, ih, like_eq a]
theorem in_seq {xs : List PV} {a : Addr} {vs : List Value} (hA : A.units + 10 < cLine) (ha : s.heap.PlainList a vs.toArray ∨ PlainTup s.heap a vs.toArray) (r : RepAll s.heap Ok vs xs) (ru : Rep s.heap Ok' u x) (hd : allEq x xs) :
    Gets W A Ok'' s (compareOp .In u (.ref a)) (.bool (xs.any (likeB x))) ∧ Gets W A Ok'' s (compareOp .NotIn u (.ref a)) (.bool (!(xs.any (likeB x)))) := by
  have h := fun v (hv : v ∈ vs.toArray) => like_at hA r ru hd v (List.mem_toArray.mp hv)
  have e : vs.toArray.any (likeV s.heap Ok x) = xs.any (likeB x) := (List.any_toArray ..).trans (any_like r)
  rw [← e]
  cases ha with
  | inl ha => exact ⟨fun E Q q => in_listAt _ ha.isList h (q _ _ (.refl _) (.bool _)), fun E Q q => notIn_listAt _ ha.isList h (q _ _ (.refl _) (.bool _))⟩
  | inr ha => exact ⟨fun E Q q => in_tupleAt _ ha.isTup h (q _ _ (.refl _) (.bool _)), fun E Q q => notIn_tupleAt _ ha.isTup h (q _ _ (.refl _) (.bool _))⟩
end
end Mine
end
noncomputable section
namespace Mine
open SeqAt

/-- Python's xs[lo:hi] -/
def cut {α : Type} (xs : List α) (lo hi : Option Int) : List α :=
  (xs.drop (lo.elim 0 (clipAt xs.length))).take (hi.elim xs.length (clipAt xs.length) - lo.elim 0 (clipAt xs.length))
theorem cut_sub {α : Type} (xs : List α) (lo hi : Option Int) : (cut xs lo hi).Sublist xs := (List.take_sublist _ _).trans (List.drop_sublist _ _)
def idxAt {α : Type} (xs : List α) (i : Int) : Option α := if 0 ≤ i then xs[i.toNat]? else if -(xs.length : Int) ≤ i then xs[(i + xs.length).toNat]? else none

section
variable {W : Wld} {A : Around} {s : Shared} {Ok Ok' Ok'' : Addr → Prop} {v u : Value} {x y : PV} {xs ys : List PV} {a b c : Addr} {vs ws : List Value} {i : Int}
/-- a new plain list -/
theorem newlist_at (n k : Nat) (r : RepAll s.heap Ok vs xs) (E Q : Value → Shared → Prop)
    (q : ∀ a vs s', Ext s s' → s.heap.get? a = none → s'.heap.PlainList a vs.toArray → RepAll s'.heap (fun b => Ok b ∧ b ≠ a) vs xs → Q (.ref a) s') :
    Q (.ref s.heap.objs.size) { s with heap := s.heap.push { cls := .type "list", data := .seq vs.toArray n }, toks := k } :=
  q _ vs _ (.push_toks _ _ _) (get_size _) ⟨n, Heap.get?_push_size _ rfl⟩ (r.mono fun a ha sa => ⟨⟨ha, fun e => Nat.lt_irrefl a (e ▸ sa.lt)⟩, fun o e => Heap.get?_push_of_some _ e⟩)
theorem size_le (r : RepAll s.heap Ok vs xs) (h : xs.length ≤ LST) : vs.toArray.size ≤ sizeLine := by rw [List.size_toArray, r.length]; exact lst_size h
theorem size_63 (r : RepAll s.heap Ok vs xs) (h : xs.length ≤ LST) : ((vs.toArray.size : Nat) : Int) < 2 ^ 63 := by rw [List.size_toArray, r.length]; exact lst_63 h
theorem lim_40 {n : Nat} (h : n ≤ LIM) : n ≤ 1099511627776 := Nat.le_trans h (by decide)

theorem add_lists (hz : xs.length + ys.length ≤ LST) (ha : s.heap.PlainList a vs.toArray) (hb : s.heap.PlainList b ws.toArray)
    (r : RepAll s.heap Ok vs xs) (r' : RepAll s.heap Ok ws ys) : GetsL W A Ok s (binaryOp .Add (.ref a) (.ref b)) (xs ++ ys) := by
  intro E Q q
  obtain ⟨n, ho⟩ := ha
  obtain ⟨n2, ho2⟩ := hb
  refine concat_meets ⟨_, ho, rfl⟩ ⟨_, ho2, rfl⟩ noFill_list_add seq_list_add PySem.F.slot_list_add PySem.F.entry_list_add (PySem.F.args_list_add_2 _ _)
    (list_addW a b vs.toArray ws.toArray n n2 none none #[] #[] (by rw [List.size_toArray, List.size_toArray, r.length, r'.length]; exact lst_size hz)) ⟨ho, ho2, ?_⟩
  rw [List.append_toArray]
  exact newlist_at 0 s.toks (r.append r') E Q q

theorem idxAt_at {α : Type} {xs : List α} {x : α} (h : idxAt xs i = some x) : ∃ n : Nat, xs[n]? = some x ∧ ((0 ≤ i ∧ n = i.toNat ∧ i < xs.length) ∨ (i < 0 ∧ -(xs.length : Int) ≤ i ∧ n = (i + xs.length).toNat)) := by
  unfold idxAt at h
  split at h
  · rename_i h0
    have := (List.getElem?_eq_some_iff.mp h).1
    exact ⟨_, h, .inl ⟨h0, rfl, (Int.toNat_lt h0).mp this⟩⟩
  · rename_i h0
    split at h
    · rename_i h1; exact ⟨_, h, .inr ⟨Int.not_le.mp h0, h1, rfl⟩⟩
    · exact nomatch h
theorem getItem_raw {t : Tok} {n : Nat} {E Q : Value → Shared → Prop} (ha : s.heap.PlainList a vs.toArray) (hz : vs.length ≤ LST) (hv : vs[n]? = some v)
    (hn : (0 ≤ i ∧ n = i.toNat ∧ i < vs.length) ∨ (i < 0 ∧ -(vs.length : Int) ≤ i ∧ n = (i + vs.length).toNat)) (q : Q v s) : wpAny W.M A (getItem (.ref a) (.int i t)) Q E s := by
  rcases hn with ⟨h0, rfl, h1⟩ | ⟨h0, h1, rfl⟩
  · exact wpAny_getItem_list ha.isList h0 (Int.lt_trans h1 (lst_63 hz)) (by rw [List.getElem?_toArray]; exact hv) q
  · exact wpAny_getItem_list_neg ha.isList h0 (by rw [List.size_toArray]; exact h1) (Int.le_trans (Int.neg_le_neg (Int.le_of_lt (lst_63 hz))) h1) (by rw [List.size_toArray, List.getElem?_toArray]; exact hv) q
theorem getItem_tup {n : Nat} (ha : PlainTup s.heap a vs.toArray) (r : RepAll s.heap Ok vs xs) (hz : xs.length ≤ LST) (hi : Rep s.heap Ok' u (.int n)) (hx : xs[n]? = some x) : Gets W A Ok s (getItem (.ref a) u) x := by
  intro E Q q
  obtain ⟨t, rfl⟩ := rep_int hi
  obtain ⟨v, hv, rv⟩ := r.get _ _ hx
  have hlt := (List.getElem?_eq_some_iff.mp hx).1
  have h63 : (n : Int) < 2 ^ 63 := Int.lt_trans (Int.ofNat_lt.mpr hlt) (lst_63 hz)
  exact getItem_tuple ha.isTup (by omega) (by omega) (show seqIndex? n vs.toArray.size = some n by rw [List.size_toArray, r.length]; exact seqIndex_of (Int.natCast_nonneg n) (Int.ofNat_lt.mpr hlt)) (by rw [List.getElem?_toArray]; exact hv) (q _ _ (.refl _) rv)

/-- what stands at a bound of a cut -/
inductive PartIs : Value → Option Int → Prop
  | none : PartIs .none none
  | int (i : Int) (t : Tok) : PartIs (.int i t) (some i)
theorem PartIs.isPart {o : Option Int} (h : PartIs v o) : IsPart v o := h.rec .none .int
theorem cut_list {l h : Value} {lo hi : Option Int} (ha : s.heap.PlainList a vs.toArray) (r : RepAll s.heap Ok vs xs) (hz : xs.length ≤ LST)
    (hs : s.heap.IsSliceOf c l h .none) (pl : PartIs l lo) (ph : PartIs h hi) : GetsL W A Ok s (getItem (.ref a) (.ref c)) (cut xs lo hi) := by
  intro E Q q
  refine wpAny_getItem_list_slice ha.isList hs pl.isPart ph.isPart .none (fun e => nomatch e) ?_ (size_le r hz)
  rw [slicePick_plain, List.size_toArray, List.toList_toArray]
  have e : RepAll s.heap Ok ((vs.drop (lo.elim 0 (clipAt vs.length))).take (hi.elim vs.length (clipAt vs.length) - lo.elim 0 (clipAt vs.length))) (cut xs lo hi) := by
    rw [r.length]; exact (r.drop _).take _
  exact newlist_at 0 s.toks e E Q q
theorem foldl_rep (vs : List Value) (n : Nat) : ∀ acc : List Value, List.foldl (fun x1 x2 => x1 ++ x2) acc.toArray (List.replicate n vs.toArray) = (acc ++ (List.replicate n vs).flatten).toArray := by
  induction n with
  | zero => exact fun acc => congrArg List.toArray (List.append_nil acc).symm
  | succ n ih => intro acc; rw [List.replicate_succ, List.foldl_cons, List.append_toArray, ih, List.replicate_succ, List.flatten_cons, List.append_assoc]
theorem RepAll.replicate {h : Heap} (r : RepAll h Ok vs xs) (n : Nat) : RepAll h Ok ((List.replicate n vs).flatten) ((List.replicate n xs).flatten) := by
  induction n with
  | zero => exact .nil
  | succ n ih => rw [List.replicate_succ, List.flatten_cons, List.replicate_succ, List.flatten_cons]; exact r.append ih
theorem flat_nil (n : Nat) : (List.replicate n ([] : List Value)).flatten = [] := by
  induction n with
  | zero => rfl
  | succ n ih => rw [List.replicate_succ, List.flatten_cons, ih]; rfl
theorem mul_list (ha : s.heap.PlainList a vs.toArray) (r : RepAll s.heap Ok vs xs) (hz : xs.length * i.toNat ≤ LST) (h1 : -(2 ^ 40 : Int) ≤ i ∧ i < 2 ^ 40)
    (hi : Rep s.heap Ok' u (.int i)) : GetsL W A Ok s (binaryOp .Mult (.ref a) u) ((List.replicate i.toNat xs).flatten) := by
  intro E Q q
  obtain ⟨t, rfl⟩ := rep_int hi
  have hl := r.length
  obtain ⟨n, ho⟩ := ha
  simp only [LST] at hz
  refine wpAny_binaryOp_repeat_ref (T := "list") (U := "int") (by decide) ⟨_, ho, rfl⟩ (fun s' => typeIs_int s' i t) noFill_list_mul F.fills_int_mul F.slot_int_rmul repeat_list F.slot_int_index.lookup
    (call_meets F.slot_int_rmul (typeIs_int s i t) F.entry_int_rmul (F.args_int_rmul_2 _ _) (int___rmul___int_list i t a vs.toArray n)
      ⟨ho, rfl, ⟨_, ho, rfl⟩, call_meets F.slot_list_mul ⟨_, ho, rfl⟩ F.entry_list_mul (F.args_list_mul_2 _ _)
        (AutoListH.list___mul___list_int_3 a vs.toArray n i t (by simp [Builtin.List.listFitsIndex]; omega) (by rw [List.size_toArray, hl]; omega) (by simp only [Builtin.List.listTooLong, sizeLine, List.size_toArray, hl]; simp; omega))
        ⟨ho, ?_⟩⟩)
  have e : List.foldl (fun x1 x2 => x1 ++ x2) #[] (List.replicate (if vs.toArray.isEmpty = true then 0 else i.toNat) vs.toArray) = ((List.replicate i.toNat vs).flatten).toArray := by
    cases vs with
    | nil => rw [flat_nil]; rfl
    | cons w ws => exact foldl_rep _ _ []
  rw [e]
  exact newlist_at 0 s.toks (r.replicate _) E Q q

/-! len -/
theorem len_list (ha : s.heap.PlainList a vs.toArray) (hl : vs.length = xs.length) (hz : xs.length ≤ LST) : Gets W A Ok s (call (.builtin "len") [.ref a]) (.int xs.length) := by
  intro E Q q
  refine PySem.Calls.call_len_list ha.isList (by rw [List.size_toArray, hl]; exact lst_63 hz) ?_
  rw [List.size_toArray, hl]
  exact q _ _ (.toks _ _) (.int _ _)
theorem len_tup (ha : PlainTup s.heap a vs.toArray) (r : RepAll s.heap Ok' vs xs) (hz : xs.length ≤ LST) : Gets W A Ok s (call (.builtin "len") [.ref a]) (.int xs.length) := by
  intro E Q q
  refine len_tuple ha.isTup (size_63 r hz) ?_
  rw [List.size_toArray, r.length]
  exact q _ _ (.toks _ _) (.int _ _)
theorem len_txt {k : Bool} {cs : List Nat} (hv : TxtIs v k cs) (hz : cs.length ≤ LIM) : Gets W A Ok s (call (.builtin "len") [v]) (.int cs.length) := by
  intro E Q q
  cases hv with
  | str _ t => exact PySem.P.len_str (show ¬ ((cs.toArray.size : Nat) : Int) ≥ 2 ^ 63 from not_63 (lim_lst hz)) (q _ _ (.toks _ _) (.int _ _))
  | bytes bs t =>
    rw [List.length_map] at hz q
    exact len_bytes (lim_40 hz) (q _ _ (.toks _ _) (.int _ _))

/-! truth -/
def Tells (W : Wld) (A : Around) (s : Shared) (t : Sem Bool) (Z : Bool → Prop) : Prop :=
  ∀ (E : Value → Shared → Prop) (Q : Bool → Shared → Prop), (∀ b s', Ext s s' → Z b → Q b s') → wpAny W.M A t Q E s
theorem size_ne (n : Nat) : ((n : Int) != 0) = !(n == 0) := by
  cases n with
  | zero => rfl
  | succ m => exact bne_iff_ne.mpr (Int.ofNat_ne_zero.mpr (Nat.succ_ne_zero m))
theorem len_isEmpty {α : Type} (xs : List α) : (xs.length == 0) = xs.isEmpty := by cases xs <;> rfl
theorem truthy_txt {k : Bool} {cs : List Nat} (hv : TxtIs v k cs) (hz : cs.length ≤ LIM) {Z : Bool → Prop} (z : Z (!cs.isEmpty)) : Tells W A s (truthy v) Z := by
  intro E Q q
  have q' := fun k => q _ { s with toks := k } (.toks s k) z
  rw [← len_isEmpty, ← size_ne] at q'
  cases hv with
  | str _ t => exact PySem.P.truthy_str (show ¬ ((cs.toArray.size : Nat) : Int) ≥ 2 ^ 63 from not_63 (lim_lst hz)) (q' _)
  | bytes bs t =>
    rw [List.length_map] at hz q'
    exact truthy_bytes (lim_40 hz) (q' _)
theorem truthy_list (ha : s.heap.PlainList a vs.toArray) (hl : vs.length = xs.length) (hz : xs.length ≤ LST) {Z : Bool → Prop} (z : Z (!xs.isEmpty)) : Tells W A s (truthy (.ref a)) Z := by
  intro E Q q
  refine wpAny_truthy_list ha.isList (by rw [List.size_toArray, hl]; exact lst_63 hz) ?_
  have e : vs.toArray.isEmpty = xs.isEmpty := by rw [← len_isEmpty, ← hl, len_isEmpty]; exact List.isEmpty_toArray ..
  rw [e]
  exact q _ _ (.toks _ _) z
end
end Mine
end
noncomputable section
namespace Mine

/-! the plain functions upon texts -/
/-- a sign ahead of the first piece -/
def consP (x : Nat) : List (List Nat) → List (List Nat)
  | [] => [[x]]
  | p :: ps => (x :: p) :: ps
def splitC (c : Nat) : List Nat → List (List Nat)
  | [] => [[]]
  | x :: r => if x = c then [] :: splitC c r else consP x (splitC c r)
def joinC (sep : List Nat) : List (List Nat) → List Nat
  | [] => []
  | p :: r => p ++ (r.map fun q => sep ++ q).flatten
theorem joinC_cons (sep p q : List Nat) (r : List (List Nat)) : joinC sep (p :: q :: r) = p ++ sep ++ joinC sep (q :: r) := by
  show p ++ ((sep ++ q) ++ _) = p ++ sep ++ (q ++ _); rw [List.append_assoc, List.append_assoc]
theorem splitC_eq (c : Nat) (r : List Nat) : splitC c (c :: r) = [] :: splitC c r := if_pos rfl
theorem splitC_ne {c x : Nat} (h : x ≠ c) (r : List Nat) : splitC c (x :: r) = consP x (splitC c r) := if_neg h
theorem splitC_cons (c : Nat) (cs : List Nat) : ∃ p ps, splitC c cs = p :: ps := by
  cases cs with
  | nil => exact ⟨_, _, rfl⟩
  | cons x r =>
    by_cases h : x = c
    · exact ⟨_, _, if_pos h⟩
    · rw [splitC_ne h]; cases splitC c r <;> exact ⟨_, _, rfl⟩
theorem splitC_free (c : Nat) (cs : List Nat) : ∀ p ∈ splitC c cs, c ∉ p := by
  induction cs with
  | nil => exact fun p hp hc => nomatch (List.mem_singleton.mp hp ▸ hc)
  | cons x r ih =>
    intro p hp
    by_cases h : x = c
    · rw [h, splitC_eq] at hp
      exact (List.mem_cons.mp hp).elim (fun e hc => nomatch (e ▸ hc)) (ih p)
    · obtain ⟨q, qs, e⟩ := splitC_cons c r
      rw [splitC_ne h, e] at hp
      rw [e] at ih
      exact (List.mem_cons.mp hp).elim (fun e hc => (List.mem_cons.mp (e ▸ hc)).elim (fun e => h e.symm) (ih q (.head _))) fun hp => ih p (.tail _ hp)
theorem splitC_app (c : Nat) (r p : List Nat) (h : c ∉ p) : splitC c (p ++ c :: r) = p :: splitC c r := by
  induction p with
  | nil => exact splitC_eq c r
  | cons x p ih =>
    show splitC c (x :: (p ++ c :: r)) = _
    rw [splitC_ne (fun e => h (List.mem_cons.mpr (.inl e.symm))), ih fun hm => h (.tail _ hm)]; rfl
theorem splitC_self (c : Nat) (p : List Nat) (h : c ∉ p) : splitC c p = [p] := by
  induction p with
  | nil => rfl
  | cons x p ih => rw [splitC_ne (fun e => h (List.mem_cons.mpr (.inl e.symm))), ih fun hm => h (.tail _ hm)]; rfl
/-- pieces without the sign, joined by it, are what the cut gives -/
theorem splitC_join (c : Nat) (ps : List (List Nat)) : ∀ p, (∀ q ∈ p :: ps, c ∉ q) → splitC c (joinC [c] (p :: ps)) = p :: ps := by
  induction ps with
  | nil => intro p h; rw [show joinC [c] [p] = p from List.append_nil p]; exact splitC_self c p (h p (.head _))
  | cons q r ih => intro p h; rw [joinC_cons, List.append_assoc, List.singleton_append, splitC_app c _ p (h p (.head _)), ih q fun x hx => h x (.tail _ hx)]
theorem joinC_split (c : Nat) (cs : List Nat) : joinC [c] (splitC c cs) = cs := by
  induction cs with
  | nil => rfl
  | cons x r ih =>
    obtain ⟨q, qs, e⟩ := splitC_cons c r
    by_cases h : x = c
    · rw [h, splitC_eq, e, joinC_cons, ← e, ih]; rfl
    · rw [e] at ih
      rw [splitC_ne h, e]
      exact congrArg (x :: ·) ih
theorem splitC_length (c : Nat) (cs : List Nat) : (splitC c cs).length ≤ cs.length + 1 := by
  induction cs with
  | nil => exact Nat.le_refl _
  | cons x r ih =>
    by_cases h : x = c
    · rw [h, splitC_eq]; exact Nat.succ_le_succ ih
    · obtain ⟨q, qs, e⟩ := splitC_cons c r
      rw [e] at ih
      rw [splitC_ne h, e]
      exact Nat.le_succ_of_le ih
theorem piece_le (sep : List Nat) {p : List Nat} (ps : List (List Nat)) (h : p ∈ ps) : p.length ≤ (joinC sep ps).length := by
  cases ps with
  | nil => exact nomatch h
  | cons a r =>
    show _ ≤ (a ++ _).length
    rw [List.length_append]
    exact (List.mem_cons.mp h).elim (fun e => e ▸ Nat.le_add_right _ _) fun h => Nat.le_trans (Nat.le_trans (by rw [List.length_append]; exact Nat.le_add_left _ sep.length) (List.sublist_flatten_of_mem (List.mem_map_of_mem (f := fun q => sep ++ q) h)).length_le) (Nat.le_add_left _ _)
theorem split_le (c : Nat) {p : List Nat} (cs : List Nat) (h : p ∈ splitC c cs) : p.length ≤ cs.length := by
  have := piece_le [c] _ h; rw [joinC_split] at this; exact this
theorem joinC_length (sep : List Nat) (ps : List (List Nat)) : (joinC sep ps).length ≤ (ps.map List.length).sum + ps.length * sep.length := by
  cases ps with
  | nil => exact Nat.zero_le _
  | cons p r =>
    show (p ++ _).length ≤ _
    rw [List.length_append, List.map_cons, List.sum_cons, Nat.add_assoc]
    refine Nat.add_le_add_left ?_ _
    induction r with
    | nil => exact Nat.zero_le _
    | cons q r ih =>
      rw [List.map_cons, List.flatten_cons, List.length_append, List.length_append, List.map_cons, List.sum_cons, List.length_cons, List.length_cons, Nat.succ_mul]
      rw [List.length_cons] at ih
      omega

def strL (cs : List Nat) : Str := ⟨cs.toArray⟩
theorem strL_append (a b : List Nat) : strL a ++ strL b = strL (a ++ b) := str_append a b
theorem strL_join (sep : List Nat) (ps : List (List Nat)) : Str.join (strL sep) (ps.map strL) = strL (joinC sep ps) := by
  induction ps with
  | nil => rfl
  | cons p r ih =>
    cases r with
    | nil => exact (congrArg strL (List.append_nil p)).symm
    | cons q r =>
      rw [joinC_cons, ← strL_append, ← strL_append, ← ih]; rfl
theorem map_strL (l : List Str) : (l.map fun x => x.cps.toList).map strL = l := by
  rw [List.map_map]; exact List.map_id l
theorem txt_split_ne (x y : Str) : ∃ p ps, Txt.split x y = p :: ps := by
  unfold Txt.split
  split
  · exact ⟨_, _, rfl⟩
  · split
    · exact ⟨_, _, rfl⟩
    · rename_i h
      unfold Builtin.Str.partsBetween
      cases e : Builtin.Str.occurrences x y 0 x.length (x.length + 1) with
      | nil => rw [e] at h; exact absurd rfl h
      | cons a b => exact ⟨_, _, rfl⟩
theorem txt_split (cs : List Nat) (c : Nat) : Txt.split (strL cs) (strL [c]) = (splitC c cs).map strL := by
  have h1 := StrLaws.join_split (strL cs) (strL [c])
  have h2 : ∀ p ∈ Txt.split (strL cs) (strL [c]), c ∉ p.cps.toList := StrLaws.split_free (strL cs) c
  obtain ⟨p, ps, e⟩ := txt_split_ne (strL cs) (strL [c])
  rw [e] at h1 h2 ⊢
  rw [← map_strL (p :: ps)] at h1
  rw [strL_join] at h1
  have e1 : joinC [c] ((p :: ps).map fun x => x.cps.toList) = cs := congrArg (fun x : Str => x.cps.toList) h1
  rw [← e1, List.map_cons, splitC_join c _ _ fun q hq => ?_]
  · exact (map_strL (p :: ps)).symm
  · obtain ⟨x, hx, rfl⟩ := List.mem_map.mp (show q ∈ (p :: ps).map fun x => x.cps.toList from hq)
    exact h2 x hx
theorem txt_startswith (a b : List Nat) : Txt.startswith (strL a) (strL b) = b.isPrefixOf a := by
  unfold Txt.startswith
  rw [StrLaws.subAt_eq, Bool.eq_iff_iff, Bool.and_eq_true, decide_eq_true_iff, beq_iff_eq, List.isPrefixOf_iff_prefix, List.prefix_iff_eq_take]
  exact ⟨fun h => h.2.symm, fun e => ⟨Nat.le_trans (Nat.le_of_eq (Nat.zero_add _)) (Nat.le_trans (Nat.le_of_eq (congrArg List.length e)) (by rw [List.length_take]; exact Nat.min_le_right _ _)), e.symm⟩⟩
theorem txt_endswith (a b : List Nat) : Txt.endswith (strL a) (strL b) = b.isSuffixOf a := by
  unfold Txt.endswith
  rw [StrLaws.subAt_eq, Bool.eq_iff_iff, Bool.and_eq_true, decide_eq_true_iff, beq_iff_eq, List.isSuffixOf_iff_suffix, List.suffix_iff_eq_drop]
  show (0 + b.length ≤ a.length ∧ (a.drop (a.length - b.length)).take b.length = b) ↔ b = a.drop (a.length - b.length)
  rw [Nat.zero_add]
  have key : b.length ≤ a.length → (a.drop (a.length - b.length)).take b.length = a.drop (a.length - b.length) := fun h => List.take_of_length_le (by rw [List.length_drop, Nat.sub_sub_self h]; exact Nat.le_refl _)
  refine ⟨fun h => (key h.1 ▸ h.2).symm, fun e => ?_⟩
  have h : b.length ≤ a.length := Nat.le_trans (Nat.le_of_eq (congrArg List.length e)) (by rw [List.length_drop]; exact Nat.sub_le _ _)
  exact ⟨h, (key h).trans e.symm⟩
end Mine
end
noncomputable section
namespace Mine
open Builtin Builtin.Bytes

/-! facts about the type bytes -/
theorem by_buffer : typeLookup (.type "bytes") "__buffer__" = pure (some (.builtin "bytes.__buffer__")) := by rw [typeLookup_type, builtinLookup_eq_fast]; kernel_rfl
theorem by_release : typeLookup (.type "bytes") "__release_buffer__" = pure none := by rw [typeLookup_type, builtinLookup_eq_fast]; kernel_rfl
theorem by_tuple : isSubtype (.type "bytes") (.type "tuple") = pure false := by rw [isSubtype_type]; kernel_rfl
theorem by_bytes : isSubtype (.type "bytes") (.type "bytes") = pure true := by rw [isSubtype_type]; kernel_rfl
theorem by_str1 : (!"bytes.__buffer__".endsWith ("." ++ "__buffer__")) = false := by decide +kernel
theorem by_str2 : "bytes.__buffer__".dropRight ("__buffer__".length + 1) = "bytes" := by decide +kernel

section
variable {M : Model} {A : Around} {E : Value → Shared → Prop} {s : Shared} {c : Array UInt8} {u : Tok}
theorem slotIsOwn_buffer {Q : Bool → Shared → Prop} (h : Q true s) : wpAny M A (slotIsOwn (.bytes c u) "__buffer__") Q E s := by
  unfold slotIsOwn
  refine wpAny_bind (wpAny_specialOf (T := "bytes") rfl by_buffer ?_)
  dsimp only
  rw [if_neg (by rw [by_str1]; exact Bool.false_ne_true), by_str2]
  exact wpAny_isInstance_val (T := "bytes") rfl by_bytes h
theorem ownRelease_bytes {Q : Bool → Shared → Prop} (h : Q false s) : wpAny M A (ownRelease (.bytes c u)) Q E s := by
  unfold ownRelease slotIsOwn
  exact wpAny_bind (wpAny_bind (wpAny_specialOf (T := "bytes") rfl by_release (wpAny_pure (wpAny_pure h))))
theorem buffer_bytes {id : String} {full : Bool} {Q : Option (Array UInt8) → Shared → Prop} (h : Q (some c) s) : wpAny M A (buffer? id (.bytes c u) full) Q E s := by
  unfold buffer?
  refine wpAny_bind (wpAny_specialOf (T := "bytes") rfl by_buffer (wpAny_bind (slotIsOwn_buffer ?_)))
  rw [if_neg (by decide)]
  exact wpAny_bind (wpAny_specialOf (T := "bytes") rfl by_buffer (wpAny_bind (ownRelease_bytes (wpAny_pure h))))
theorem bytesLike_bytes {id : String} {Q : Array UInt8 → Shared → Prop} (h : Q c s) : wpAny M A (bytesLike id (.bytes c u)) Q E s :=
  wpAny_bind (buffer_bytes (wpAny_pure h))
theorem takeBuffer_bytes {id : String} {Q : Option (Array UInt8 × Option Value) → Shared → Prop} (h : Q (some (c, none)) s) : wpAny M A (takeBufferQuiet? id (.bytes c u) 0) Q E s := by
  unfold takeBufferQuiet?
  refine wpAny_bind (wpAny_attempt ?_)
  unfold takeBuffer?
  refine wpAny_bind (wpAny_specialOf (T := "bytes") rfl by_buffer (wpAny_bind (slotIsOwn_buffer ?_)))
  rw [if_neg (by decide)]
  exact wpAny_bind (wpAny_specialOf (T := "bytes") rfl by_buffer (wpAny_bind (buffer_bytes (wpAny_pure (wpAny_pure h)))))
end

theorem arr_beq (a b : Array UInt8) : (a == b) = (a.toList == b.toList) :=
  Bool.eq_iff_iff.mpr (beq_iff_eq.trans (Array.toList_inj.symm.trans beq_iff_eq.symm))
/-- the signs' numbers of bytes -/
def nums (b : Array UInt8) : List Nat := b.toList.map UInt8.toNat
theorem nums_length (b : Array UInt8) : (nums b).length = b.size := by unfold nums; rw [List.length_map, Array.length_toList]
theorem byte_inj (x y : UInt8) (h : x.toNat = y.toNat) : x = y := UInt8.toNat_inj.mp h
theorem window_all (n : Nat) : window n none none = ((0 : Int), (n : Int)) := by
  show ((if (0 : Int) < 0 then _ else (0 : Int)), min (n : Int) (if (n : Int) < 0 then _ else (n : Int))) = _
  rw [if_neg (Int.lt_irrefl 0), if_neg (Int.not_lt.mpr (Int.natCast_nonneg n)), Int.min_self]

theorem extract_list (b : Array UInt8) (i j : Nat) : (b.extract i j).toList = (b.toList.drop i).take (j - i) := Array.toList_extract ..
theorem fits_start (b c : Array UInt8) : (if (window b.size none none).2 - (window b.size none none).1 < (c.size : Int) then false else b.extract (window b.size none none).1.toNat ((window b.size none none).1.toNat + c.size) == c) = c.toList.isPrefixOf b.toList := by
  rw [window_all, Bool.eq_iff_iff, List.isPrefixOf_iff_prefix, List.prefix_iff_eq_take]
  show (if (b.size : Int) - 0 < c.size then false else b.extract 0 (0 + c.size) == c) = true ↔ _
  rw [Int.sub_zero, Nat.zero_add, arr_beq, extract_list, List.drop_zero, Nat.sub_zero]
  split
  · rename_i h
    refine ⟨fun e => (nomatch e), fun e => absurd (congrArg List.length e) fun hl => ?_⟩
    rw [List.length_take] at hl
    exact absurd (Int.ofNat_lt.mp h) (Nat.not_lt.mpr (Nat.le_trans (Nat.le_of_eq hl) (Nat.min_le_right _ _)))
  · exact beq_iff_eq.trans eq_comm
theorem fits_end (b c : Array UInt8) : (if (window b.size none none).2 - (window b.size none none).1 < (c.size : Int) then false else b.extract ((window b.size none none).2.toNat - c.size) (window b.size none none).2.toNat == c) = c.toList.isSuffixOf b.toList := by
  rw [window_all, Bool.eq_iff_iff, List.isSuffixOf_iff_suffix, List.suffix_iff_eq_drop]
  show (if (b.size : Int) - 0 < c.size then false else b.extract (b.size - c.size) b.size == c) = true ↔ _
  rw [Int.sub_zero, arr_beq, extract_list, List.take_of_length_le (by rw [List.length_drop]; exact Nat.le_refl _)]
  split
  · rename_i h
    refine ⟨fun e => (nomatch e), fun e => absurd (congrArg List.length e) fun hl => ?_⟩
    rw [List.length_drop] at hl
    exact absurd (Int.ofNat_lt.mp h) (Nat.not_lt.mpr (Nat.le_trans (Nat.le_of_eq hl) (Nat.sub_le _ _)))
  · exact beq_iff_eq.trans eq_comm
theorem gives_b_startswith (b c : Array UInt8) (t u : Tok) : Gives («bytes.startswith» ⟨[.bytes b t, .bytes c u], []⟩) (.val (.bool (c.toList.isPrefixOf b.toList))) := by
  refine .of_wp fun M A E s Q hq => ?_
  show wpAny M A (isInstance (.bytes c u) (.type "tuple") >>= fun r => _) _ E s
  refine wpAny_bind (wpAny_isInstance_val (T := "bytes") rfl by_tuple ?_)
  show wpAny M A (buffer? _ (.bytes c u) >>= fun r => _) _ E s
  exact wpAny_bind (buffer_bytes (wpAny_pure ⟨_, rfl, cast (congrArg (fun x => Q (Value.bool x) s) (fits_start b c).symm) hq⟩))
theorem gives_b_endswith (b c : Array UInt8) (t u : Tok) : Gives («bytes.endswith» ⟨[.bytes b t, .bytes c u], []⟩) (.val (.bool (c.toList.isSuffixOf b.toList))) := by
  refine .of_wp fun M A E s Q hq => ?_
  show wpAny M A (isInstance (.bytes c u) (.type "tuple") >>= fun r => _) _ E s
  refine wpAny_bind (wpAny_isInstance_val (T := "bytes") rfl by_tuple ?_)
  show wpAny M A (buffer? _ (.bytes c u) >>= fun r => _) _ E s
  exact wpAny_bind (buffer_bytes (wpAny_pure ⟨_, rfl, cast (congrArg (fun x => Q (Value.bool x) s) (fits_end b c).symm) hq⟩))
theorem prefix_nums (a b : List UInt8) : (b.map UInt8.toNat).isPrefixOf (a.map UInt8.toNat) = b.isPrefixOf a := by
  rw [Bool.eq_iff_iff, List.isPrefixOf_iff_prefix, List.isPrefixOf_iff_prefix, List.prefix_iff_eq_take, List.prefix_iff_eq_take, List.length_map, ← List.map_take]
  exact List.map_inj_right byte_inj
theorem suffix_nums (a b : List UInt8) : (b.map UInt8.toNat).isSuffixOf (a.map UInt8.toNat) = b.isSuffixOf a := by
  rw [Bool.eq_iff_iff, List.isSuffixOf_iff_suffix, List.isSuffixOf_iff_suffix, List.suffix_iff_eq_drop, List.suffix_iff_eq_drop, List.length_map, List.length_map, ← List.map_drop]
  exact List.map_inj_right byte_inj

section
variable {W : Wld} {A : Around} {s : Shared} {Ok : Addr → Prop} {v u : Value} {k : Bool} {a b : List Nat}
def methId (k : Bool) (n : String) : String := match k with | true => "bytes." ++ n | false => "str." ++ n
theorem startswith_txt (hv : TxtIs v k a) (hu : TxtIs u k b) : Gets W A Ok s (call (.builtin (methId k "startswith")) [v, u]) (.bool (b.isPrefixOf a)) := by
  intro E Q q
  have q' := q _ _ (.refl _) (.bool (b.isPrefixOf a))
  cases hv with
  | str _ t => cases hu with
    | str _ t' => exact SC.startswith (x := strL a) (y := strL b) (by rw [txt_startswith]; exact q')
  | bytes bs t => cases hu with
    | bytes bs' t' =>
      rw [prefix_nums] at q'
      exact call_meets FB.slot_bytes_startswith (typeIs_bytes s _ _) FB.entry_bytes_startswith (FB.args_bytes_startswith_2 _ _) (gives_b_startswith _ _ _ _).meets q'
theorem endswith_txt (hv : TxtIs v k a) (hu : TxtIs u k b) : Gets W A Ok s (call (.builtin (methId k "endswith")) [v, u]) (.bool (b.isSuffixOf a)) := by
  intro E Q q
  have q' := q _ _ (.refl _) (.bool (b.isSuffixOf a))
  cases hv with
  | str _ t => cases hu with
    | str _ t' => exact SC.endswith (x := strL a) (y := strL b) (by rw [txt_endswith]; exact q')
  | bytes bs t => cases hu with
    | bytes bs' t' =>
      rw [suffix_nums] at q'
      exact call_meets FB.slot_bytes_endswith (typeIs_bytes s _ _) FB.entry_bytes_endswith (FB.args_bytes_endswith_2 _ _) (gives_b_endswith _ _ _ _).meets q'
end
end Mine
end
noncomputable section
namespace Mine
open Builtin Builtin.Bytes

theorem slot_b_split : Slot "bytes" "split" "bytes.split" :=
  .of (owner := "bytes") (n := "split") (by rw [typeLookup_type, builtinLookup_eq_fast]; kernel_rfl) (by decide +kernel) (by decide +kernel) (by decide +kernel)
    (by first | exact .inl (by decide +kernel) | exact .inr (by decide +kernel)) (by rw [isSubtype_type]; kernel_rfl)
theorem entry_b_split : entryFor table "bytes.split" = some Builtin.«bytes.split» := entryFor_of_tree (by kernel_rfl)
theorem args_b_split (a b : Value) : argsOk "bytes.split" ⟨[a, b], []⟩ := by
  unfold argsOk; rw [signature?_of (id := "bytes.split") (n := ['t', 'i', 'l', 'p', 's']) (o := ['s', 'e', 't', 'y', 'b']) (by kernel_rfl) FB.owner_bytes]; kernel_rfl
theorem b_split_bind (v : Value) : bindOptional "bytes.split" "split" ["sep", "maxsplit"] [v] [] = pure [some v, none] := by kernel_rfl

theorem at_byte (b : Array UInt8) (c : UInt8) (i : Nat) : (b.extract i (i + 1) == #[c]) = true ↔ (nums b)[i]? = some c.toNat := by
  rw [arr_beq, beq_iff_eq, extract_list, Nat.add_sub_cancel_left]
  unfold nums
  rw [List.getElem?_map]
  show (b.toList.drop i).take 1 = [c] ↔ _
  rcases Nat.lt_or_ge i b.toList.length with h | h
  · rw [List.drop_eq_getElem_cons h, List.getElem?_eq_getElem h]
    exact ⟨fun e => congrArg (fun x : UInt8 => some x.toNat) (List.cons.inj e).1, fun e => congrArg (fun x : UInt8 => [x]) (byte_inj _ _ (Option.some.inj e))⟩
  · rw [List.drop_eq_nil_of_le h, List.getElem?_eq_none h]
    exact ⟨fun e => (nomatch e), fun e => (nomatch e)⟩

/-! split at one byte -/
def placesOf (b : Array UInt8) (c : UInt8) : Nat → Nat → List Nat
  | _, 0 => []
  | o, n + 1 => if (nums b)[o]? = some c.toNat then o :: placesOf b c (o + 1) n else placesOf b c (o + 1) n
theorem occ_fold (b : Array UInt8) (c : UInt8) (n : Nat) : ∀ (o : Nat) (acc : List Nat) (last : Nat), last ≤ o →
    ((List.range' o n).foldl (fun (acc : List Nat × Nat) i => if (decide (i ≥ acc.2) && b.extract i (i + (#[c] : Array UInt8).size) == #[c]) = true then (i :: acc.1, i + (#[c] : Array UInt8).size) else acc) (acc, last)).1.reverse
      = acc.reverse ++ placesOf b c o n := by
  induction n with
  | zero => exact fun o acc last _ => (List.append_nil _).symm
  | succ n ih =>
    intro o acc last h
    rw [List.range'_succ, List.foldl_cons]
    dsimp only
    unfold placesOf
    by_cases hc : (nums b)[o]? = some c.toNat
    · rw [if_pos hc, if_pos (show (decide (o ≥ last) && b.extract o (o + (#[c] : Array UInt8).size) == #[c]) = true from Bool.and_eq_true_iff.mpr ⟨decide_eq_true h, (at_byte b c o).mpr hc⟩), ih (o + 1) (o :: acc) (o + (#[c] : Array UInt8).size) (Nat.le_refl _), List.reverse_cons, List.append_assoc]
      rfl
    · rw [if_neg hc, if_neg (show ¬ (decide (o ≥ last) && b.extract o (o + (#[c] : Array UInt8).size) == #[c]) = true from fun q => hc ((at_byte b c o).mp (Bool.and_eq_true_iff.mp q).2))]
      exact ih (o + 1) acc last (Nat.le_succ_of_le h)
theorem occ_places (b : Array UInt8) (c : UInt8) : occurrences b #[c] 0 b.size = placesOf b c 0 b.size := by
  unfold occurrences
  dsimp only
  rw [show b.size + 1 - (0 + (#[c] : Array UInt8).size) = b.size from Nat.add_sub_cancel .., show (fun x : Nat => x + 0) = _root_.id from rfl, List.map_id, List.range_eq_range']
  exact occ_fold b c b.size 0 [] 0 (Nat.le_refl _)
theorem places_length (b : Array UInt8) (c : UInt8) (n : Nat) : ∀ o, (placesOf b c o n).length ≤ n := by
  induction n with
  | zero => exact fun _ => Nat.le_refl _
  | succ n ih =>
    intro o
    unfold placesOf
    split
    · exact Nat.succ_le_succ (ih _)
    · exact Nat.le_succ_of_le (ih _)
theorem between_fold (b : Array UInt8) (c : UInt8) (n : Nat) : ∀ (last d : Nat) (parts : Array (Array UInt8)), last + d + n = b.size → c.toNat ∉ ((nums b).drop last).take d →
    (let r := (placesOf b c (last + d) n).foldl (fun (x : Array (Array UInt8) × Nat) p => (x.1.push (b.extract x.2 p), p + 1)) (parts, last); (r.1.push (b.extract r.2 b.size)).toList).map nums
      = parts.toList.map nums ++ splitC c.toNat ((nums b).drop last) := by
  induction n with
  | zero =>
    intro last d parts hn hf
    have e : (nums b).drop last = nums (b.extract last b.size) := by
      unfold nums
      rw [extract_list, ← List.map_drop, List.take_of_length_le (by rw [List.length_drop]; exact Nat.le_refl _)]
    rw [List.take_of_length_le (by rw [List.length_drop, nums_length, ← hn, Nat.add_zero, Nat.add_sub_cancel_left]; exact Nat.le_refl _)] at hf
    rw [splitC_self _ _ hf, e]
    show ((parts.push (b.extract last b.size)).toList).map nums = _
    rw [Array.toList_push, List.map_append]; rfl
  | succ n ih =>
    intro last d parts hn hf
    have hol : last + d < (nums b).length := by rw [nums_length, ← hn]; exact Nat.lt_add_of_pos_right (Nat.succ_pos n)
    have hd : ((nums b).drop last).drop d = (nums b)[last + d] :: (nums b).drop (last + d + 1) := by rw [List.drop_drop, List.drop_eq_getElem_cons hol]
    unfold placesOf
    by_cases hc : (nums b)[last + d]? = some c.toNat
    · rw [if_pos hc]
      have key := ih (last + d + 1) 0 (parts.push (b.extract last (last + d))) (by rw [← hn, Nat.add_zero, Nat.add_assoc, Nat.add_comm 1 n]) (fun h => nomatch h)
      dsimp only at key ⊢
      rw [List.getElem?_eq_getElem hol] at hc
      rw [Option.some.inj hc] at hd
      have e : (nums b).drop last = ((nums b).drop last).take d ++ c.toNat :: (nums b).drop (last + d + 1) := by rw [← hd, List.take_append_drop]
      rw [List.foldl_cons]
      refine key.trans ?_
      rw [Array.toList_push, List.map_append, List.append_assoc]
      refine congrArg (parts.toList.map nums ++ ·) ?_
      rw [e, splitC_app _ _ _ hf]
      have e2 : nums (b.extract last (last + d)) = ((nums b).drop last).take d := by
        unfold nums
        rw [extract_list, ← List.map_drop, ← List.map_take, Nat.add_sub_cancel_left]
      show [nums (b.extract last (last + d))] ++ _ = _
      rw [e2]; rfl
    · rw [if_neg hc]
      refine ih last (d + 1) parts (by rw [← hn, Nat.add_assoc last, Nat.add_assoc last, Nat.add_assoc d, Nat.add_comm 1 n]) ?_
      rw [List.take_add_one, List.getElem?_drop]
      intro hm
      rcases List.mem_append.mp hm with hm | hm
      · exact hf hm
      · exact hc (Option.mem_toList.mp hm)
theorem between_split (b : Array UInt8) (c : UInt8) : (between b (#[c] : Array UInt8).size (placesOf b c 0 b.size)).map nums = splitC c.toNat (nums b) :=
  between_fold b c b.size 0 0 #[] (by rw [Nat.add_zero, Nat.zero_add]) (fun h => nomatch h)
theorem places_nil (b : Array UInt8) (c : UInt8) (h : placesOf b c 0 b.size = []) : splitC c.toNat (nums b) = [nums b] := by
  rw [← between_split b c, h]
  show [nums (b.extract 0 b.size)] = _
  rw [Array.extract_size]

/-- values that are these bytes -/
inductive BytesAre : List Value → List (Array UInt8) → Prop
  | nil : BytesAre [] []
  | cons {b : Array UInt8} {t : Tok} {vs : List Value} {bs : List (Array UInt8)} : BytesAre vs bs → BytesAre (.bytes b t :: vs) (b :: bs)
theorem rep_nums {h : Heap} {Ok : Addr → Prop} (b : Array UInt8) (t : Tok) : Rep h Ok (.bytes b t) (.txt true (nums b)) := .bytes b.toList t rfl
theorem BytesAre.rep {h : Heap} {Ok : Addr → Prop} {vs : List Value} {bs : List (Array UInt8)} (r : BytesAre vs bs) : RepAll h Ok vs ((bs.map nums).map (PV.txt true)) := by
  induction r with
  | nil => exact .nil
  | cons _ ih => exact .cons (rep_nums _ _) ih
theorem BytesAre.length {vs : List Value} {bs : List (Array UInt8)} (r : BytesAre vs bs) : vs.length = bs.length := by
  induction r with
  | nil => rfl
  | cons _ ih => exact congrArg (· + 1) ih
theorem mapM_mkBytes {M : Model} {A : Around} {E : Value → Shared → Prop} (bs : List (Array UInt8)) : ∀ (s : Shared) (Q : List Value → Shared → Prop), (∀ b ∈ bs, b.size ≤ sizeLine) →
    (∀ vs k, BytesAre vs bs → Q vs { s with toks := k }) → wpAny M A (bs.mapM mkBytes) Q E s := by
  induction bs with
  | nil => intro s Q _ h; rw [List.mapM_nil]; exact wpAny_pure (h [] s.toks .nil)
  | cons b bs ih =>
    intro s Q hz h
    rw [List.mapM_cons]
    exact wpAny_bind (wpAny_mkBytes (wpAny_bind (ih _ _ (fun x hx => hz x (.tail _ hx)) fun vs k hv => wpAny_pure (h _ _ (.cons hv)))) (hz b (.head _)))
theorem meets_b_split (b : Array UInt8) (c : UInt8) (t u : Tok) (hz : b.size ≤ LIM) : Meets («bytes.split» ⟨[.bytes b t, .bytes #[c] u], []⟩)
    (fun _ R s => ∀ vs bs k, BytesAre vs bs → bs.map nums = splitC c.toNat (nums b) → R (.ok (.ret (.ref s.heap.objs.size))) { s with heap := s.heap.push { cls := .type "list", data := .seq vs.toArray }, toks := k }) := by
  refine .of_wp fun prog w A R s h => ?_
  show wpAny _ _ (bindOptional "bytes.split" "split" ["sep", "maxsplit"] [.bytes #[c] u] [] >>= fun r => _) _ _ s
  rw [b_split_bind]
  refine wpAny_bind (wpAny_pure ?_)
  show wpAny _ _ (bytesLike _ (.bytes #[c] u) >>= fun r => _) _ _ s
  refine wpAny_bind (bytesLike_bytes ?_)
  have e : (occurrences b #[c] 0 b.size).take (b.size + 1) = placesOf b c 0 b.size := by
    rw [occ_places, List.take_of_length_le (Nat.le_succ_of_le (places_length b c _ _))]
  show wpAny _ _ (if ((occurrences b #[c] 0 b.size).take (b.size + 1)).isEmpty = true then _ else _) _ _ s
  rw [e]
  split
  · rename_i hn
    refine wpAny_bind (wpAny_rule ?_)
    show wpAny _ _ (newList [Value.bytes b t] >>= fun r => _) _ _ s
    exact wpAny_bind (wpAny_newList (wpAny_pure ⟨_, rfl, h _ [b] s.toks (.cons .nil) (places_nil b c (List.isEmpty_iff.mp hn)).symm⟩) (by show 1 ≤ sizeLine; decide))
  · show wpAny _ _ (List.mapM mkBytes (between b (#[c] : Array UInt8).size ((occurrences b #[c] 0 b.size).take (b.size + 1))) >>= fun r => _) _ _ s
    rw [e]
    have hb := between_split b c
    refine wpAny_bind (mapM_mkBytes _ _ _ (fun x hx => ?_) fun vs k hv => ?_)
    · rw [← nums_length]
      refine Nat.le_trans (split_le c.toNat (nums b) (by rw [← hb]; exact List.mem_map_of_mem hx)) ?_
      rw [nums_length]; exact lim_size hz
    · refine wpAny_bind (wpAny_newList (wpAny_pure ⟨_, rfl, h _ _ k hv hb⟩) ?_)
      rw [hv.length, ← List.length_map (f := nums), hb]
      refine Nat.le_trans (splitC_length _ _) ?_
      rw [nums_length]
      exact Nat.le_trans (Nat.succ_le_succ hz) (by decide)

section
variable {W : Wld} {A : Around} {s : Shared} {Ok : Addr → Prop} {v u : Value} {k : Bool} {a : List Nat} {c : Nat}
theorem strs_rep {h : Heap} {l : List (Str × Tok)} : ∀ {ps : List (List Nat)}, l.map (·.1) = ps.map strL → RepAll h Ok (strValues l) (ps.map (PV.txt false)) := by
  induction l with
  | nil => intro ps e; cases ps with
    | nil => exact .nil
    | cons _ _ => exact nomatch e
  | cons x l ih => intro ps e; cases ps with
    | nil => exact nomatch e
    | cons p ps =>
      obtain ⟨x, t⟩ := x
      have e1 : x = strL p := (List.cons.inj e).1
      exact .cons (by rw [e1]; exact .str p t) (ih (List.cons.inj e).2)
theorem one_byte {bs : List UInt8} (e : [c] = bs.map UInt8.toNat) : ∃ d, bs = [d] ∧ c = d.toNat := by
  cases bs with
  | nil => exact nomatch e
  | cons d r => cases r with
    | nil => exact ⟨d, rfl, (List.cons.inj e).1⟩
    | cons _ _ => exact nomatch (List.cons.inj e).2
/-- a text of one sign -/
theorem TxtIs.one (h : TxtIs u k [c]) : (∃ t, k = false ∧ u = .str (strL [c]) t) ∨ ∃ d t, k = true ∧ u = .bytes #[d] t ∧ c = d.toNat := by
  generalize e : [c] = cs at h
  cases h with
  | str _ t => subst e; exact .inl ⟨t, rfl, rfl⟩
  | bytes bs t => obtain ⟨d, rfl, rfl⟩ := one_byte e; exact .inr ⟨d, t, rfl, rfl, rfl⟩
theorem split_txt (hz : a.length ≤ LIM) (hv : TxtIs v k a) (hu : TxtIs u k [c]) : GetsL W A Ok s (call (.builtin (methId k "split")) [v, u]) ((splitC c a).map (PV.txt k)) := by
  intro E Q q
  rcases hu.one with ⟨t', rfl, rfl⟩ | ⟨d, t', rfl, rfl, rfl⟩
  · cases hv with
    | str _ t =>
      have hs := txt_split a c
      have hlen : (Txt.split (strL a) (strL [c])).length ≤ a.length + 1 := by rw [hs, List.length_map]; exact splitC_length c a
      have hz1 : a.length + 1 ≤ sizeLine := Nat.le_trans (Nat.succ_le_succ hz) (by decide)
      unfold Txt.split at hs hlen
      cases h1 : (decide ((strL a).length < (strL [c]).length) || decide (Str.strKind (strL a) < Str.strKind (strL [c])))
      · rw [h1, if_neg Bool.false_ne_true] at hs hlen
        cases hf : (Str.occurrences (strL a) (strL [c]) 0 (strL a).length ((strL a).length + 1)).isEmpty
        · rw [hf, if_neg Bool.false_ne_true] at hs hlen
          refine call_meets F.slot_str_split (typeIs_str _ _ _) F.entry_str_split (F.args_str_split_2 _ _) (meets_str_split_sep (strL a) (strL [c]) t t' h1 rfl hf (lim_size hz) (Nat.le_trans hlen hz1)) ?_
          show wants Q E _ { s with toks := _, heap := s.heap.push { cls := .type "list", data := .seq (strsFrom s.toks _).toArray } }
          rw [strsFrom_eq]
          exact newlist_at 0 _ (strs_rep (by rw [numbered_texts]; exact hs)) E Q q
        · rw [hf, if_pos rfl] at hs
          exact call_meets F.slot_str_split (typeIs_str _ _ _) F.entry_str_split (F.args_str_split_2 _ _) (meets_str_split_not_found (strL a) (strL [c]) t t' h1 rfl hf) (newlist_at (vs := strValues [(strL a, t)]) 0 s.toks (strs_rep hs) E Q q)
      · rw [h1, if_pos rfl] at hs
        exact call_meets F.slot_str_split (typeIs_str _ _ _) F.entry_str_split (F.args_str_split_2 _ _) (meets_str_split_cannot_occur (strL a) (strL [c]) t t' h1) (newlist_at (vs := strValues [(strL a, t)]) 0 s.toks (strs_rep hs) E Q q)
  · cases hv with
    | bytes bs t =>
      rw [List.length_map] at hz
      refine call_meets slot_b_split (typeIs_bytes s _ _) entry_b_split (args_b_split _ _) (meets_b_split bs.toArray d t t' hz) fun vs cs k hb hn => newlist_at 0 k ?_ E Q q
      have := hb.rep (h := s.heap) (Ok := Ok)
      rw [hn] at this
      exact this
end
end Mine
end
noncomputable section
namespace Mine
open Builtin Builtin.Bytes

theorem slot_b_join : Slot "bytes" "join" "bytes.join" :=
  .of (owner := "bytes") (n := "join") (by rw [typeLookup_type, builtinLookup_eq_fast]; kernel_rfl) (by decide +kernel) (by decide +kernel) (by decide +kernel)
    (by first | exact .inl (by decide +kernel) | exact .inr (by decide +kernel)) (by rw [isSubtype_type]; kernel_rfl)
theorem entry_b_join : entryFor table "bytes.join" = some Builtin.«bytes.join» := entryFor_of_tree (by kernel_rfl)
theorem args_b_join (a b : Value) : argsOk "bytes.join" ⟨[a, b], []⟩ := by
  unfold argsOk; rw [signature?_of (id := "bytes.join") (n := ['n', 'i', 'o', 'j']) (o := ['s', 'e', 't', 'y', 'b']) (by kernel_rfl) FB.owner_bytes]; kernel_rfl

theorem bytesAre_of {h : Heap} {Ok : Addr → Prop} (ps : List (List Nat)) : ∀ {vs : List Value}, RepAll h Ok vs (ps.map (PV.txt true)) → ∃ bs, BytesAre vs bs ∧ bs.map nums = ps := by
  induction ps with
  | nil => intro vs r; rw [r.inv_nil]; exact ⟨[], .nil, rfl⟩
  | cons p ps ih =>
    intro vs r
    obtain ⟨v, ws, rfl, a, r⟩ := r.inv_cons
    obtain ⟨bs, h1, h2⟩ := ih r
    cases (show TxtIs v true p from a.inv) with
    | bytes b t => exact ⟨b.toArray :: bs, .cons h1, by rw [List.map_cons, h2]; rfl⟩
theorem BytesAre.get {vs : List Value} {bs : List (Array UInt8)} (r : BytesAre vs bs) : ∀ (i : Nat) (b : Array UInt8), bs[i]? = some b → ∃ t, vs[i]? = some (Value.bytes b t) := by
  induction r with
  | nil => exact fun i b h => nomatch h
  | cons r ih =>
    rename_i c t _ _
    intro i b h
    cases i with
    | zero => exact ⟨t, Option.some.inj h ▸ rfl⟩
    | succ i => exact ih i b h
theorem joined_fold (sep : Array UInt8) (ps : List (Array UInt8)) : ∀ (i : Nat) (out : Array UInt8),
    nums ((ps.zipIdx (i + 1)).foldl (fun out (x : Array UInt8 × Nat) => (if x.2 > 0 then out ++ sep else out) ++ x.1) out) = nums out ++ ((ps.map nums).map fun p => nums sep ++ p).flatten := by
  induction ps with
  | nil => exact fun i out => (List.append_nil _).symm
  | cons p ps ih =>
    intro i out
    rw [List.zipIdx_cons, List.foldl_cons, if_pos (Nat.succ_pos i), ih]
    unfold nums
    rw [Array.toList_append, Array.toList_append, List.map_append, List.map_append, List.map_cons, List.map_cons, List.flatten_cons, List.append_assoc, List.append_assoc, List.append_assoc]
theorem joined_nums (sep : Array UInt8) (ps : List (Array UInt8)) : nums (joined sep ps) = joinC (nums sep) (ps.map nums) := by
  cases ps with
  | nil => rfl
  | cons p ps =>
    refine (joined_fold sep ps 0 (#[] ++ p)).trans ?_
    rw [Array.empty_append]; rfl
theorem joinLetGo_bytes {M : Model} {A : Around} {E : Value → Shared → Prop} {s : Shared} {Q : Unit → Shared → Prop} (taken : List (Value × Option Value)) (keep : List Value) (hn : ∀ x ∈ taken, x.2 = none) (h : Q () s) :
    wpAny M A (joinLetGo taken keep) Q E s := by
  induction taken with
  | nil => exact wpAny_pure h
  | cons x rest ih =>
    obtain ⟨x, w⟩ := x
    have hw : w = none := hn _ (.head _)
    subst hw
    exact wpAny_bind (wpAny_letGo (ih fun y hy => hn y (.tail _ hy)))
theorem join_loop {M : Model} {A : Around} {E : Value → Shared → Prop} {s : Shared} (bs : List (Array UInt8)) (vs : List Value) (hv : BytesAre vs bs)
    (f : Nat → (Array (Array UInt8) × List (Value × Option Value)) → Sem (ForInStep (Array (Array UInt8) × List (Value × Option Value))))
    (hturn : ∀ i b t parts taken, vs[i]? = some (.bytes b t) → (∀ x ∈ taken, x.2 = none ∧ x.1.onHeap = false) → ∀ (Q : ForInStep (Array (Array UInt8) × List (Value × Option Value)) → Shared → Prop),
      Q (.yield (parts.push b, taken ++ [(.bytes b t, none)])) s → wpAny M A (f i (parts, taken)) Q E s)
    (Q : (Array (Array UInt8) × List (Value × Option Value)) → Shared → Prop) (q : ∀ parts taken, parts.toList = bs → (∀ x ∈ taken, x.2 = none ∧ x.1.onHeap = false) → Q (parts, taken) s) :
      wpAny M A (forIn [0:vs.toArray.size] (#[], []) f) Q E s := by
  rw [Std.Legacy.Range.forIn_eq_forIn_range']
  have e : ([0:vs.toArray.size] : Std.Legacy.Range).size = bs.length := by
    show (vs.toArray.size - 0 + 1 - 1) / 1 = _
    rw [List.size_toArray, hv.length, Nat.div_one]; rfl
  rw [e]
  refine wpAny_forIn_list f (fun rest x s' => s' = s ∧ ∃ k, rest = List.range' k rest.length ∧ k + rest.length = bs.length ∧ x.1.toList = bs.take k ∧ ∀ y ∈ x.2, y.2 = none ∧ y.1.onHeap = false) Q ?_ ?_ _ _ ?_
  · rintro i rest ⟨parts, taken⟩ s' ⟨rfl, k, hr, hk, hp, ht⟩
    rw [List.length_cons, List.range'_succ] at hr
    obtain ⟨h1, h2⟩ := List.cons.inj hr
    subst h1
    have hk' : i < bs.length := by rw [← hk, List.length_cons]; exact Nat.lt_add_of_pos_right (Nat.succ_pos _)
    obtain ⟨t, hg⟩ := hv.get i _ (List.getElem?_eq_getElem hk')
    refine hturn i _ t parts taken hg ht _ ⟨rfl, i + 1, h2, by rw [← hk, List.length_cons, Nat.add_assoc, Nat.add_comm 1], ?_, fun y hy => ?_⟩
    · rw [Array.toList_push, hp, List.take_add_one, List.getElem?_eq_getElem hk']; rfl
    · exact (List.mem_append.mp hy).elim (ht y) fun hy => by rw [List.mem_singleton.mp hy]; exact ⟨rfl, rfl⟩
  · rintro ⟨parts, taken⟩ s' ⟨rfl, k, hr, hk, hp, ht⟩
    exact q parts taken (by rw [hp, show k = bs.length from hk, List.take_length]) ht
  · exact ⟨rfl, 0, by rw [List.length_range'], by rw [List.length_range', Nat.zero_add], rfl, fun y hy => nomatch hy⟩
theorem getD_of {vs : List Value} {i : Nat} {x : Value} (h : vs[i]? = some x) : vs.toArray.getD i Value.none = x := by
  rw [Array.getD_eq_getD_getElem?, List.getElem?_toArray, h]; rfl
theorem parts_fold (ps : List (Array UInt8)) : ∀ n : Nat, ps.foldl (fun (a : Nat) (p : Array UInt8) => a + p.size) n = n + ((ps.map nums).map List.length).sum := by
  induction ps with
  | nil => exact fun n => rfl
  | cons p ps ih => intro n; rw [List.foldl_cons, ih, List.map_cons, List.map_cons, List.sum_cons, nums_length, Nat.add_assoc]
theorem parts_size {sep : Array UInt8} {parts : Array (Array UInt8)} {bs : List (Array UInt8)} (hp : parts.toList = bs) (hz : ((bs.map nums).map List.length).sum + bs.length * (nums sep).length ≤ LIM) :
    tooLong (parts.foldl (fun x1 x2 => x1 + x2.size) (sep.size * (parts.size - 1))) = false := by
  rw [← Array.foldl_toList, hp, parts_fold, ← Array.length_toList (xs := parts), hp, Nat.add_comm]
  refine decide_eq_false (Nat.not_lt.mpr (lim_size (Nat.le_trans (Nat.add_le_add_left ?_ _) hz)))
  rw [nums_length, Nat.mul_comm]
  exact Nat.mul_le_mul_right _ (Nat.sub_le _ _)
theorem taken_off {taken : List (Value × Option Value)} (ht : ∀ x ∈ taken, x.2 = none ∧ x.1.onHeap = false) : (Kind.bytes == Kind.bytearray || taken.any fun x => x.1.onHeap) = false :=
  (Bool.or_eq_false_iff).mpr ⟨by decide, List.any_eq_false.mpr fun x hx => by rw [(ht x hx).2]; exact Bool.false_ne_true⟩
theorem takeBuffer_at {M : Model} {A : Around} {E : Value → Shared → Prop} {s : Shared} {c : Array UInt8} {u : Tok} {x : Value} {id : String} {Q : Option (Array UInt8 × Option Value) → Shared → Prop} (hx : x = .bytes c u) (h : Q (some (c, none)) s) : wpAny M A (takeBufferQuiet? id x 0) Q E s := hx ▸ takeBuffer_bytes h
theorem payload_at {M : Model} {A : Around} {E : Value → Shared → Prop} {s : Shared} {c : Array UInt8} {u : Tok} {Q : Array UInt8 → Shared → Prop} (h : Q c s) : wpAny M A (payload (.bytes c u)) Q E s := wpAny_pure h
theorem meets_b_join (sep : Array UInt8) (t : Tok) (a : Addr) (vs : List Value) (bs : List (Array UInt8)) (hv : BytesAre vs bs) (hz : ((bs.map nums).map List.length).sum + bs.length * (nums sep).length ≤ LIM) :
    Meets («bytes.join» ⟨[.bytes sep t, .ref a], []⟩)
    (fun _ R s => s.heap.PlainList a vs.toArray ∧ ∀ r t' k, nums r = joinC (nums sep) (bs.map nums) → R (.ok (.ret (.bytes r t'))) { s with toks := k }) := by
  refine .of_wp fun prog w A R s h => ?_
  obtain ⟨⟨n, ho⟩, h⟩ := h
  have hs : ∀ {A : Around} {E : Value → Shared → Prop} {Q : Option (Array Value) → Shared → Prop}, Q (some vs.toArray) s → wpAny (model prog w) A (seqItems? (.ref a)) Q E s := fun q => wpAny_seqItems ho rfl q
  unfold «bytes.join» joinM
  refine wpAny_bind (wpAny_pure (a := (Value.bytes sep t, Value.ref a)) ?_)
  refine wpAny_bind ?_
  refine wpAny_bind (wpAny_typeOf (T := "list") ⟨_, ho, rfl⟩ ?_)
  refine wp_pos (by decide) ?_
  refine wpAny_pure ?_
  refine wpAny_bind (hs ?_)
  refine wp_pos (by decide) ?_
  have hv0 := hv
  rcases hv with _ | ⟨_ | _⟩
  rotate_left
  · show wpAny (model prog w) A.in1 (typeOf _ >>= fun r => _) _ _ s
    exact wpAny_bind (wpAny_typeOf (T := "bytes") rfl (wp_pos (by decide) (wpAny_bind (wpAny_rule (wpAny_pure ⟨_, rfl, h _ _ s.toks (List.append_nil _).symm⟩)))))
  all_goals
    show wpAny (model prog w) A.in1 (forIn [0:_] (#[], []) _ >>= fun r => _) _ _ s
    refine wpAny_bind (join_loop _ _ hv0 _ (fun i b t parts taken hg ht Q q => ?_) _ fun parts taken hp ht => ?_)
    · exact wpAny_bind (hs (wp_neg (by rw [taken_off ht]; exact Bool.false_ne_true) (wpAny_bind (wpAny_holding (takeBuffer_at (getD_of hg) (wpAny_bind (hs (wp_neg (by rw [bne_self_eq_false]; exact Bool.false_ne_true) (wpAny_pure (by rw [getD_of hg]; exact q))))))))))
    · refine wpAny_bind (payload_at (wp_neg (by rw [parts_size hp hz]; exact Bool.false_ne_true) (wpAny_bind (m := mkBytes (joined sep parts.toList)) (wpAny_mkBytes (wpAny_bind (wpAny_holding (wpAny_point (wpAny_bind (joinLetGo_bytes taken _ (fun x hx => (ht x hx).1) (wpAny_pure ⟨_, rfl, h _ _ _ (by rw [hp, joined_nums])⟩)))))) ?_))))
      rw [← nums_length, hp, joined_nums]
      refine lim_size (Nat.le_trans (joinC_length _ _) ?_)
      rw [List.length_map]; exact hz

section
variable {W : Wld} {A : Around} {s : Shared} {Ok Ok' : Addr → Prop} {v : Value} {k : Bool} {sep : List Nat}
theorem rep_strs {h : Heap} (ps : List (List Nat)) : ∀ {vs : List Value}, RepAll h Ok vs (ps.map (PV.txt false)) → ∃ l : List (Str × Tok), vs = strValues l ∧ l.map (·.1) = ps.map strL := by
  induction ps with
  | nil => intro vs r; exact ⟨[], r.inv_nil, rfl⟩
  | cons p ps ih =>
    intro vs r
    obtain ⟨v, ws, rfl, a, r⟩ := r.inv_cons
    obtain ⟨l, h1, h2⟩ := ih r
    cases (show TxtIs v false p from a.inv) with
    | str _ t => exact ⟨(strL p, t) :: l, by rw [h1]; rfl, by rw [List.map_cons, h2]; rfl⟩
theorem join_txt {ps : List (List Nat)} {a : Addr} {vs : List Value} (hz : (ps.map List.length).sum + ps.length * sep.length ≤ LIM) (hv : TxtIs v k sep)
    (hl : s.heap.PlainList a vs.toArray) (r : RepAll s.heap Ok' vs (ps.map (PV.txt k))) : Gets W A Ok s (call (.builtin (methId k "join")) [v, .ref a]) (.txt k (joinC sep ps)) := by
  intro E Q q
  cases hv with
  | str _ t =>
    obtain ⟨l, rfl, hl2⟩ := rep_strs ps r
    refine SC.join (x := strL sep) hl.isList hl2 ?_ fun t' k => ?_
    · unfold JoinOk Str.tooLong
      rw [show (ps.map strL).toArray.foldl (fun x1 x2 => x1 + x2.length + (strL sep).length) 0 = _ from StrLaws.joinTotal (strL sep) (ps.map strL), List.length_map, List.map_map]
      exact congrArg not (decide_eq_false (Nat.not_lt.mpr (lim_size hz)))
    · rw [show Txt.join (strL sep) (ps.map strL) = strL (joinC sep ps) from (StrLaws.glued_eq_join ..).trans (strL_join sep ps)]
      exact q _ _ (.toks _ _) (.str _ _)
  | bytes bs t =>
    obtain ⟨cs, hb, hn⟩ := bytesAre_of ps r
    refine call_meets slot_b_join (typeIs_bytes s _ _) entry_b_join (args_b_join _ _) (meets_b_join bs.toArray t a vs cs hb ?_) ⟨hl, fun r t' k hr => q _ _ (.toks _ _) ?_⟩
    · rw [hn, ← List.length_map (f := nums) (as := cs), hn]; exact hz
    · rw [hn] at hr
      exact hr ▸ rep_nums _ _
end
end Mine
end
noncomputable section
namespace Mine

/-! ## the small language, told by what must hold for an end to come -/
inductive BOp where
  | add | sub | mul | mulT | fdiv | fmod | pow
inductive COp where
  | eq | ne | lt | le | gt | ge | isin | notin | is_
inductive Meth where
  | split | join | startswith | endswith | lstrip | rstrip | rfind | count | index
inductive BI1 where
  | len | abs | chr | ord | sum | min | max | bytes | typ
inductive BI2 where
  | min | max | isinst | issub | sorted

inductive ME where
  | bad
  | var (i : Nat)
  | lit (x : PV)
  | and_ (a b : ME) | or_ (a b : ME) | not_ (a : ME) | neg (a : ME)
  | bin (o : BOp) (a b : ME) | cmp (o : COp) (a b : ME)
  | ite (c a b : ME)
  | idx (a i : ME) | cut (a lo hi : ME) | rev (a : ME)
  | list (es : ME) | tup (es : ME)
  | nil | cons (a r : ME) | star (a r : ME)
  | fn (f : Nat) (args : ME)
  | bi1 (b : BI1) (a : ME) | bi2 (b : BI2) (a c : ME)
  | meth (m : Meth) (r a : ME)
  | comp (elt src cond : ME)
  | range (lo hi : ME) | enum (a : ME)
  | mapfn (f : Nat) (a : ME)
  | sortset (a : ME)

abbrev Slt := Option (PV × Nat)
def getS : List Slt → Nat → Slt
  | [], _ => none
  | x :: _, 0 => x
  | _ :: r, n + 1 => getS r n
def setS : List Slt → Nat → Slt → List Slt
  | [], _, _ => []
  | _ :: r, 0, y => y :: r
  | x :: r, n + 1, y => x :: setS r n y
def thaw : Slt → Slt
  | none => none
  | some (.dict _, _) => none
  | some (x, _) => some (x, 0)
def freeze1 (ρ : List Slt) (i : Nat) : List Slt := setS ρ i (thaw (getS ρ i))
def freeze : List Nat → List Slt → List Slt
  | [], ρ => ρ
  | i :: r, ρ => freeze r (freeze1 ρ i)

/-! readers: what a value must be -/
def intP : PV → (Int → Prop) → Prop
  | .int i, Q => Q i
  | _, _ => False
def txtP : PV → (Bool → List Nat → Prop) → Prop
  | .txt k cs, Q => Q k cs
  | _, _ => False
def listP : PV → (List PV → Prop) → Prop
  | .list xs, Q => Q xs
  | _, _ => False
def truP : PV → (Bool → Prop) → Prop
  | .none, Q => Q false
  | .bool b, Q => Q b
  | .int i, Q => Q (i != 0)
  | .txt _ cs, Q => Q (!cs.isEmpty)
  | .list xs, Q => Q (!xs.isEmpty)
  | .tup xs, Q => Q (!xs.isEmpty)
  | _, _ => False
/-- level nought; a level below two -/
def l0 : Nat → Prop → Prop
  | 0, P => P
  | _, _ => False
def l1 : Nat → Prop → Prop
  | 0, P => P
  | 1, P => P
  | _, _ => False
def boolP : Bool → Prop → Prop → Prop
  | true, P, _ => P
  | false, _, P => P
def shortN {α : Type} : Nat → List α → Bool
  | _, [] => true
  | 0, _ :: _ => false
  | n + 1, _ :: r => shortN n r

/-! operations -/
def binP : BOp → PV → PV → (PV → Prop) → Prop
  | .add, .int a, y, Q => intP y fun b => Q (.int (a + b))
  | .add, .txt k a, y, Q => txtP y fun k' b => k' = k ∧ a.length + b.length ≤ LIM ∧ Q (.txt k (a ++ b))
  | .add, .list a, y, Q => listP y fun b => a.length + b.length ≤ LST ∧ Q (.list (a ++ b))
  | .sub, x, y, Q => intP x fun a => intP y fun b => Q (.int (a - b))
  | .mul, x, y, Q => listP x fun a => intP y fun n => (a.length * n.toNat ≤ LST ∧ -(2 ^ 40 : Int) ≤ n ∧ n < 2 ^ 40) ∧ Q (.list (List.replicate n.toNat a).flatten)
  | .mulT, .list a, y, Q => intP y fun n => (a.length * n.toNat ≤ LST ∧ -(2 ^ 40 : Int) ≤ n ∧ n < 2 ^ 40) ∧ Q (.list (List.replicate n.toNat a).flatten)
  | .mulT, .txt k a, y, Q => intP y fun n => (a.length ≤ 16 ∧ a ≠ [] ∧ 0 ≤ n ∧ n ≤ LIM ∧ a.length * n.toNat ≤ LIM) ∧ Q (.txt k (List.replicate n.toNat a).flatten)
  | .fdiv, x, y, Q => intP x fun a => intP y fun b => (b ≠ 0 ∧ b.natAbs < 2 ^ 64) ∧ Q (.int (a.fdiv b))
  | .fmod, x, y, Q => intP x fun a => intP y fun b => b ≠ 0 ∧ Q (.int (a.fmod b))
  | .pow, x, y, Q => intP x fun a => intP y fun b => (0 ≤ b ∧ b ≤ 1000 ∧ a.natAbs < 1000) ∧ Q (.int (a ^ b.toNat))
  | _, _, _, _ => False

def eqP (x y : PV) (Q : Bool → Prop) : Prop := match x with
  | .none => (match y with | .none => Q true | _ => False)
  | .bool a => (match y with | .bool b => Q (a == b) | _ => False)
  | .int a => intP y fun b => Q (a == b)
  | .txt k a => txtP y fun k' b => k' = k ∧ Q (a == b)
  | .list a => listP y fun b => ∃ t, pvEq 4 (.list a) (.list b) = some t ∧ Q t
  | _ => False
def nd : PV → Prop → Prop
  | .dict _, _ => False
  | _, P => P
def seqP : PV → (List PV → Prop) → Prop
  | .list xs, Q => Q xs
  | .tup xs, Q => Q xs
  | _, _ => False
/-- whether a value is None -/
def noneP : PV → (Bool → Prop) → Prop
  | .none, Q => Q true
  | .txt _ _, Q => Q false
  | _, _ => False
def cmpP : COp → PV → PV → (Bool → Prop) → Prop
  | .is_, x, y, Q => y = .none ∧ noneP x Q
  | .eq, x, y, Q => eqP x y Q
  | .ne, x, y, Q => eqP x y fun t => Q (!t)
  | .lt, x, y, Q => intP x fun a => intP y fun b => Q (decide (a < b))
  | .le, x, y, Q => intP x fun a => intP y fun b => Q (decide (a ≤ b))
  | .gt, x, y, Q => intP x fun a => intP y fun b => Q (decide (b < a))
  | .ge, x, y, Q => intP x fun a => intP y fun b => Q (decide (b ≤ a))
  | .isin, x, y, Q => nd x (seqP y fun xs => allEq x xs ∧ Q (xs.any (likeB x)))
  | .notin, x, y, Q => nd x (seqP y fun xs => allEq x xs ∧ Q (!(xs.any (likeB x))))

def lookD (es : List (Int × PV)) (j : Int) : Option PV := (es.find? fun e => e.1 == j).map (·.2)
def idxP : PV → Nat → PV → (PV → Nat → Prop) → Prop
  | .list xs, l, y, Q => intP y fun i => ∃ x, idxAt xs i = some x ∧ Q x (l - 1)
  | .tup xs, _, y, Q => intP y fun i => ∃ n : Nat, i = n ∧ ∃ x, xs[n]? = some x ∧ Q x 0
  | .dict es, _, y, Q => intP y fun i => ∃ x, lookD es i = some x ∧ Q x 0
  | .txt k cs, _, y, Q => intP y fun i => k = false ∧ ∃ c, idxAt cs i = some c ∧ Q (.txt false [c]) 0
  | _, _, _, _ => False
def partP : PV → (Option Int → Prop) → Prop
  | .none, Q => Q none
  | .int i, Q => Q (some i)
  | _, _ => False
def cutP : PV → PV → PV → (PV → Prop) → Prop
  | .list xs, a, b, Q => partP a fun lo => partP b fun hi => Q (.list (cut xs lo hi))
  | .txt k cs, a, b, Q => partP a fun lo => partP b fun hi => Q (.txt k (cut cs lo hi))
  | _, _, _, _ => False

def rfindC (c : Nat) : List Nat → Int
  | [] => -1
  | x :: r => if 0 ≤ rfindC c r then rfindC c r + 1 else if x = c then 0 else -1
def rstripC (c : Nat) (cs : List Nat) : List Nat := (cs.reverse.dropWhile (· == c)).reverse
def methP : Meth → PV → Nat → PV → (PV → Prop) → Prop
  | .split, x, _, y, Q => txtP x fun k cs => y = .txt k [47] ∧ Q (.list ((splitC 47 cs).map (PV.txt k)))
  | .join, x, _, y, Q => txtP x fun k sep => listP y fun xs => ∃ ps, xs = ps.map (PV.txt k) ∧ (ps.map List.length).sum + ps.length * sep.length ≤ LIM ∧ Q (.txt k (joinC sep ps))
  | .startswith, x, _, y, Q => txtP x fun k a => txtP y fun k' b => k' = k ∧ Q (.bool (b.isPrefixOf a))
  | .endswith, x, _, y, Q => txtP x fun k a => txtP y fun k' b => k' = k ∧ Q (.bool (b.isSuffixOf a))
  | .lstrip, x, _, y, Q => txtP x fun k a => y = .txt k [47] ∧ Q (.txt k (a.dropWhile (· == 47)))
  | .rstrip, x, _, y, Q => txtP x fun k a => y = .txt k [47] ∧ Q (.txt k (rstripC 47 a))
  | .rfind, x, _, y, Q => txtP x fun k a => y = .txt k [47] ∧ Q (.int (rfindC 47 a))
  | .count, x, _, y, Q => nd y (listP x fun xs => allEq y xs ∧ Q (.int (List.countP (likeB y) xs)))
  | .index, x, _, y, Q => nd y (listP x fun xs => allEq y xs ∧ ∃ i : Nat, xs.findIdx? (likeB y) = some i ∧ Q (.int i))

/-- the receiver of a method -/
def txtR : PV → Prop → Prop
  | .txt _ _, P => P
  | _, _ => False
def listR : PV → Prop → Prop
  | .list _, P => P
  | _, _ => False
def recvP (m : Meth) (x : PV) (P : Prop) : Prop := match m with
  | .count => listR x P
  | .index => listR x P
  | _ => txtR x P
/-- the order of texts and of lists of texts; the first best of a row -/
def tlt : List Nat → List Nat → Bool
  | _, [] => false
  | [], _ :: _ => true
  | a :: x, b :: y => if a < b then true else if b < a then false else tlt x y
def rlt : List (List Nat) → List (List Nat) → Bool
  | _, [] => false
  | [], _ :: _ => true
  | a :: x, b :: y => if a = b then rlt x y else tlt a b
def bestOf {α : Type} (f : α → α → Bool) (b : α) : List α → α
  | [] => b
  | x :: xs => bestOf f (if f x b then x else b) xs
def turnB {α : Type} : Bool → (α → α → Bool) → α → α → Bool
  | false, f, x, y => f x y
  | true, f, x, y => f y x
def rowV (k : Bool) (r : List (List Nat)) : PV := .list (r.map (PV.txt k))
def bestP (g : Bool) (xs : List PV) (Q : PV → Prop) : Prop :=
  (∃ (i : Int) (is : List Int), xs = (i :: is).map .int ∧ Q (.int (bestOf (turnB g fun a b => decide (a < b)) i is))) ∨
  (∃ (k : Bool) (r : List (List Nat)) (rs : List (List (List Nat))), xs = (r :: rs).map (rowV k) ∧ Q (rowV k (bestOf (turnB g rlt) r rs)))
def bi1P : BI1 → PV → Nat → (PV → Prop) → Prop
  | .min, x, l, Q => listP x fun xs => l1 l (bestP false xs Q)
  | .max, x, l, Q => listP x fun xs => l1 l (bestP true xs Q)
  | .len, .txt _ cs, _, Q => Q (.int cs.length)
  | .len, .list xs, _, Q => Q (.int xs.length)
  | .len, .tup xs, l, Q => l0 l (Q (.int xs.length))
  | .abs, x, _, Q => intP x fun i => Q (.int (if i < 0 then -i else i))
  | .chr, x, _, Q => intP x fun i => (0 ≤ i ∧ i ≤ 1114111) ∧ Q (.txt false [i.toNat])
  | .ord, x, _, Q => txtP x fun k cs => ∃ c, k = false ∧ cs = [c] ∧ Q (.int c)
  | .sum, x, l, Q => listP x fun xs => l1 l (∃ is : List Int, xs = is.map .int ∧ Q (.int is.sum))
  | .bytes, x, l, Q => listP x fun xs => l1 l (∃ cs : List Nat, xs = (cs.map fun (c : Nat) => PV.int (c : Int)) ∧ cs.length ≤ LIM ∧ (∀ c ∈ cs, c < 256) ∧ Q (.txt true cs))
  | .typ, .txt false _, _, Q => Q (.cls "str")
  | .typ, .txt true _, _, Q => Q (.cls "bytes")
  | _, _, _, _ => False
def bi2P : BI2 → PV → PV → (PV → Prop) → Prop
  | .min, x, y, Q => intP x fun a => intP y fun b => Q (.int (if b < a then b else a))
  | .max, x, y, Q => intP x fun a => intP y fun b => Q (.int (if b > a then b else a))
  | .isinst, .txt k _, y, Q => y = .cls "bytes" ∧ Q (.bool k)
  | .isinst, .bool _, y, Q => y = .cls "bool" ∧ Q (.bool true)
  | .isinst, .list _, y, Q => y = .tup [.cls "list", .cls "tuple"] ∧ Q (.bool true)
  | .issub, x, y, Q => (x = .cls "str" ∨ x = .cls "bytes") ∧ y = .tup [.cls "str", .cls "bytes"] ∧ Q (.bool true)
  | _, _, _, _ => False

def itsP : PV → Nat → (List PV → Nat → Prop) → Prop
  | .list xs, l, Q => l1 l (Q xs l)
  | .tup xs, l, Q => l0 l (Q xs 0)
  | .txt k cs, _, Q => k = false ∧ Q (cs.map fun c => .txt false [c]) 0
  | _, _, _ => False

abbrev Fn := List PV → (PV → Prop) → Prop
abbrev FEnv := List Fn
def getF : FEnv → Nat → Fn
  | [], _ => fun _ _ => False
  | F :: _, 0 => F
  | _ :: r, n + 1 => getF r n

structure Ans where
  val : (PV → Nat → Prop) → Prop
  tru : (Bool → Prop) → Prop
  its : (List PV → Nat → Prop) → Prop
  lst : (List PV → Prop) → Prop
def Ans.of (v : (PV → Nat → Prop) → Prop) : Ans := ⟨v, fun Q => v fun x _ => truP x Q, fun Q => v fun x l => itsP x l Q, fun _ => False⟩
def Ans.none : Ans := ⟨fun _ => False, fun _ => False, fun _ => False, fun _ => False⟩

def compP (f : PV → (Bool → Prop) → Prop) (g : PV → (PV → Nat → Prop) → Prop) : List PV → (List PV → Prop) → Prop
  | [], Q => Q []
  | x :: xs, Q => f x fun t => boolP t (g x fun y l => l0 l (compP f g xs fun ys => Q (y :: ys))) (compP f g xs Q)
def enumF : Nat → List PV → List PV
  | _, [] => []
  | n, x :: xs => .tup [.int n, x] :: enumF (n + 1) xs
/-- all items give the same bool, and there is one -/
def onesP (g : PV → (PV → Nat → Prop) → Prop) (b : Bool) : Bool → List PV → Prop → Prop
  | seen, [], P => seen = true ∧ P
  | _, x :: xs, P => g x fun y l => l0 l (y = .bool b ∧ onesP g b true xs P)
def rangeF (a b : Int) : List PV := (List.range (b - a).toNat).map fun (k : Nat) => .int (a + (k : Int))

def evA (Γ : FEnv) : ME → List Slt → Ans
  | .var i, ρ => .of fun Q => (match getS ρ i with | some (x, l) => Q x l | none => False)
  | .lit x, _ => .of fun Q => Q x 0
  | .and_ a b, ρ => { (Ans.of fun Q => (evA Γ a ρ).val fun x l => l0 l (truP x fun t => boolP t ((evA Γ b ρ).val Q) (Q x 0))) with tru := fun Q => (evA Γ a ρ).tru fun t => boolP t ((evA Γ b ρ).tru Q) (Q false) }
  | .or_ a b, ρ => { (Ans.of fun Q => (evA Γ a ρ).val fun x l => l0 l (truP x fun t => boolP t (Q x 0) ((evA Γ b ρ).val Q))) with tru := fun Q => (evA Γ a ρ).tru fun t => boolP t (Q true) ((evA Γ b ρ).tru Q) }
  | .not_ a, ρ => { (Ans.of fun Q => (evA Γ a ρ).val fun x _ => truP x fun t => Q (.bool (!t)) 0) with tru := fun Q => (evA Γ a ρ).tru fun t => Q (!t) }
  | .neg a, ρ => .of fun Q => (evA Γ a ρ).val fun x _ => intP x fun i => Q (.int (-i)) 0
  | .bin o a b, ρ => .of fun Q => (evA Γ a ρ).val fun x l => (evA Γ b ρ).val fun y l' => l1 l (l1 l' (binP o x y fun z => Q z 0))
  | .cmp o a b, ρ => .of fun Q => (evA Γ a ρ).val fun x _ => (evA Γ b ρ).val fun y _ => cmpP o x y fun t => Q (.bool t) 0
  | .ite c a b, ρ => { (Ans.of fun Q => (evA Γ c ρ).tru fun t => boolP t ((evA Γ a ρ).val Q) ((evA Γ b ρ).val Q)) with tru := fun Q => (evA Γ c ρ).tru fun t => boolP t ((evA Γ a ρ).tru Q) ((evA Γ b ρ).tru Q) }
  | .idx a i, ρ => .of fun Q => (evA Γ a ρ).val fun x l => (evA Γ i ρ).val fun y _ => idxP x l y Q
  | .cut a lo hi, ρ => .of fun Q => (evA Γ a ρ).val fun x l => (evA Γ lo ρ).val fun y ly => (evA Γ hi ρ).val fun z lz => l1 l (l0 ly (l0 lz (cutP x y z fun r => Q r 0)))
  | .rev a, ρ => .of fun Q => (evA Γ a ρ).val fun x l => l1 l (listP x fun xs => Q (.list xs.reverse) 0)
  | .list es, ρ => .of fun Q => (evA Γ es ρ).lst fun xs => shortN 64 xs = true ∧ Q (.list xs) 0
  | .tup es, ρ => .of fun Q => (evA Γ es ρ).lst fun xs => shortN 64 xs = true ∧ Q (.tup xs) 0
  | .nil, _ => { Ans.none with lst := fun Q => Q [] }
  | .cons a r, ρ => { Ans.none with lst := fun Q => (evA Γ a ρ).val fun x l => l0 l ((evA Γ r ρ).lst fun xs => Q (x :: xs)) }
  | .star a r, ρ => { Ans.none with lst := fun Q => (evA Γ a ρ).val fun x l => l1 l (listP x fun ys => (evA Γ r ρ).lst fun xs => Q (ys ++ xs)) }
  | .fn f args, ρ => .of fun Q => (evA Γ args ρ).lst fun xs => getF Γ f xs fun z => Q z 0
  | .bi1 b a, ρ => .of fun Q => (evA Γ a ρ).val fun x l => bi1P b x l fun z => Q z 0
  | .bi2 b a c, ρ => .of fun Q => (evA Γ a ρ).val fun x l => (evA Γ c ρ).val fun y l' => l0 l (l0 l' (bi2P b x y fun z => Q z 0))
  | .meth m r a, ρ => .of fun Q => (evA Γ r ρ).val fun x l => recvP m x ((evA Γ a ρ).val fun y l' => l1 l' (methP m x l y fun z => Q z 0))
  | .comp elt src cond, ρ => .of fun Q => (evA Γ src ρ).its fun xs _ => compP (fun x => (evA Γ cond (ρ ++ [some (x, 0)])).tru) (fun x => (evA Γ elt (ρ ++ [some (x, 0)])).val) xs fun ys => Q (.list ys) 0
  | .range lo hi, ρ => { Ans.none with its := fun Q => (evA Γ lo ρ).val fun x _ => (evA Γ hi ρ).val fun y _ => intP x fun a => intP y fun b => (-(2 ^ 40 : Int) ≤ a ∧ a ≤ 2 ^ 40 ∧ -(2 ^ 40 : Int) ≤ b ∧ b ≤ LIM ∧ (b - a).toNat ≤ LIM) ∧ Q (rangeF a b) 0 }
  | .enum a, ρ => { Ans.none with its := fun Q => (evA Γ a ρ).val fun x l => l1 l (listP x fun xs => Q (enumF 0 xs) l) }
  | .mapfn f a, ρ => .of fun Q => (evA Γ a ρ).val fun x l => l1 l (listP x fun xs => ∃ ks : List (Bool × List Nat), xs = (ks.map fun p => PV.txt p.1 p.2) ∧ (∀ p ∈ ks, ∀ Z : PV → Prop, Z (.txt p.1 p.2) → getF Γ f [.txt p.1 p.2] Z) ∧ Q (.tup xs) 0)
  | .sortset a, ρ => .of fun Q => (evA Γ a ρ).val fun x l => l1 l (listP x fun xs => ∃ ts : List (List Nat), xs = ts.map (PV.txt false) ∧ ts.length < 64 ∧ ∀ us : List (List Nat), us.Nodup → (∀ t, t ∈ us ↔ t ∈ ts) → us.length ≤ ts.length → Q (.list (us.map (PV.txt false))) 0)
  | .bad, _ => Ans.none

/-- the names whose values must not be turned any more, where a value of the expression goes on (v), or is looked at alone -/
def esc : Bool → ME → List Nat
  | v, .var i => (match v with | true => [i] | false => [])
  | v, .and_ a b => esc v a ++ esc v b
  | v, .or_ a b => esc v a ++ esc v b
  | _, .not_ a => esc false a
  | _, .neg a => esc false a
  | _, .bin _ a b => esc false a ++ esc false b
  | _, .cmp _ a b => esc false a ++ esc false b
  | _, .idx a b => esc false a ++ esc false b
  | v, .ite c a b => esc false c ++ (esc v a ++ esc v b)
  | _, .cut a b c => esc false a ++ (esc false b ++ esc false c)
  | _, .rev a => esc false a
  | _, .list es => esc true es
  | _, .tup es => esc true es
  | _, .cons a r => esc true a ++ esc true r
  | _, .star a r => esc false a ++ esc true r
  | _, .fn _ args => esc true args
  | _, .bi1 _ a => esc false a
  | _, .bi2 _ a c => esc false a ++ esc false c
  | _, .meth _ r a => esc false r ++ esc false a
  | _, .comp elt src cond => esc true elt ++ (esc false src ++ esc false cond)
  | _, .range lo hi => esc false lo ++ esc false hi
  | _, .enum a => esc true a
  | _, .mapfn _ a => esc false a
  | _, .sortset a => esc false a
  | _, .bad => []
  | _, .lit _ => []
  | _, .nil => []

inductive MS where
  | bad | skip | seq (a b : MS)
  | brk | cont | ret (e : ME)
  | asg (x : Nat) (own : Bool) (e : ME)
  | newDict (x : Nat)
  | unpack (xs : List Nat) (e : ME)
  | multi (xs : List Nat) (owns : List Nat) (es : ME)
  | aug (x : Nat) (o : BOp) (e : ME)
  | append (x : Nat) (e : ME) | pop (x : Nat) | extend (x : Nat) (e : ME)
  | setIdx (x : Nat) (i e : ME) | augIdx (x : Nat) (i : ME) (o : BOp) (e : ME)
  | ite (c : ME) (a b : MS) | while_ (c : ME) (b : MS) | for_ (xs : List Nat) (src : ME) (b : MS)
  | try_ (b : MS)
  | oneOf (x : Nat) (elt src : ME)
  | push2 (x : Nat) (e : ME) | append2 (x : Nat) (i e : ME)
  | rows (x : Nat) (src : ME)
inductive Fl where
  | next | brk | cont | ret (v : PV)

def ownOf : Bool → PV → Nat
  | true, .list _ => 1
  | _, _ => 0
/-- the level of a list that is made anew -/
def ownL : Nat → PV → Nat
  | 1, .list _ => 1
  | 2, .list _ => 2
  | _, _ => 0
def setAll : List Nat → List PV → List Slt → List Slt
  | x :: xs, v :: vs, ρ => setAll xs vs (setS ρ x (some (v, 0)))
  | _, _, ρ => ρ
def setOwns : List Nat → List Nat → List PV → List Slt → List Slt
  | x :: xs, o :: os, v :: vs, ρ => setOwns xs os vs (setS ρ x (some (v, ownL o v)))
  | _, _, _, ρ => ρ
def sameLen : List Nat → List PV → Prop → Prop
  | [], [], P => P
  | _ :: xs, _ :: vs, P => sameLen xs vs P
  | _, _, _ => False
def bindP (xs : List Nat) (v : PV) (ρ : List Slt) (Q : List Slt → Prop) : Prop := match xs with
  | [x] => Q (setS ρ x (some (v, 0)))
  | xs => (match v with | .tup vs => sameLen xs vs (Q (setAll xs vs ρ)) | _ => False)
abbrev Post := Fl → List Slt → Prop
def seqK (f : List Slt → Prop) (Q : Post) : Post
  | .next, ρ => f ρ
  | .brk, ρ => Q .brk ρ
  | .cont, ρ => Q .cont ρ
  | .ret v, ρ => Q (.ret v) ρ
def loopK (f : List Slt → Prop) (Q : Post) : Post
  | .next, ρ => f ρ
  | .cont, ρ => f ρ
  | .brk, ρ => Q .next ρ
  | .ret v, ρ => Q (.ret v) ρ
def forP (f : List Slt → Post → Prop) (xs : List Nat) : List PV → List Slt → Post → Prop
  | [], ρ, Q => Q .next ρ
  | v :: vs, ρ, Q => bindP xs v ρ fun ρ1 => f ρ1 (loopK (fun ρ' => forP f xs vs ρ' Q) Q)
def whileP (c : List Slt → (Bool → List Slt → Prop) → Prop) (f : List Slt → Post → Prop) : Nat → List Slt → Post → Prop
  | 0, _, _ => False
  | n + 1, ρ, Q => c ρ fun t ρ1 => boolP t (f ρ1 (loopK (fun ρ' => whileP c f n ρ' Q) Q)) (Q .next ρ1)
def setDict (es : List (Int × PV)) (i : Int) (v : PV) : List (Int × PV) :=
  if es.any (fun e => e.1 = i) then es.map (fun e => if e.1 = i then (e.1, v) else e) else es ++ [(i, v)]
/-- what is turned in place: texts and numbers -/
def augP : BOp → PV → PV → (PV → Prop) → Prop
  | .add, .int a, y, Q => intP y fun b => Q (.int (a + b))
  | .add, .txt k a, y, Q => txtP y fun k' b => k' = k ∧ a.length + b.length ≤ LIM ∧ Q (.txt k (a ++ b))
  | .sub, x, y, Q => intP x fun a => intP y fun b => Q (.int (a - b))
  | .fdiv, x, y, Q => intP x fun a => intP y fun b => (b ≠ 0 ∧ b.natAbs < 2 ^ 64) ∧ Q (.int (a.fdiv b))
  | _, _, _, _ => False
/-- a slot that holds a list of its own -/
def ownP : Slt → (List PV → Prop) → Prop
  | some (.list xs, 1), Q => Q xs
  | _, _ => False
def dictP : Slt → (List (Int × PV) → Prop) → Prop
  | some (.dict es, 1), Q => Q es
  | _, _ => False
/-- a slot that holds a list of its own, of lists of its own -/
def rowsP : Slt → (List PV → Prop) → Prop
  | some (.list xs, 2), Q => Q xs
  | _, _ => False
def slot0 : Slt → (PV → Prop) → Prop
  | some (x, 0), Q => Q x
  | _, _ => False
def placeOfI (xs : List PV) (k : Int) : Nat := if 0 ≤ k then k.toNat else (k + xs.length).toNat

def wp (Γ : FEnv) : MS → List Slt → Post → Prop
  | .skip, ρ, Q => Q .next ρ
  | .seq a b, ρ, Q => wp Γ a ρ (seqK (fun ρ' => wp Γ b ρ' Q) Q)
  | .brk, ρ, Q => Q .brk ρ
  | .cont, ρ, Q => Q .cont ρ
  | .ret e, ρ, Q => (evA Γ e (freeze (esc true e) ρ)).val fun v l => l0 l (Q (.ret v) (freeze (esc true e) ρ))
  | .asg x own e, ρ, Q => (evA Γ e (freeze (esc true e) ρ)).val fun v l => l0 l (Q .next (setS (freeze (esc true e) ρ) x (some (v, ownOf own v))))
  | .newDict x, ρ, Q => Q .next (setS ρ x (some (.dict [], 1)))
  | .unpack xs e, ρ, Q => (evA Γ e (freeze (esc true e) ρ)).val fun v l => l0 l (match v with | .tup vs => sameLen xs vs (Q .next (setAll xs vs (freeze (esc true e) ρ))) | _ => False)
  | .multi xs owns es, ρ, Q => (evA Γ es (freeze (esc true es) ρ)).lst fun vs => shortN 64 vs = true ∧ sameLen xs vs (Q .next (setOwns xs owns vs (freeze (esc true es) ρ)))
  | .aug x o e, ρ, Q => slot0 (getS (freeze (esc false e) ρ) x) fun v => (evA Γ e (freeze (esc false e) ρ)).val fun w l => l0 l (augP o v w fun z => Q .next (setS (freeze (esc false e) ρ) x (some (z, 0))))
  | .append x e, ρ, Q => ownP (getS (freeze (esc true e) ρ) x) fun xs => (evA Γ e (freeze (esc true e) ρ)).val fun v l => l0 l (xs.length < LST ∧ Q .next (setS (freeze (esc true e) ρ) x (some (.list (xs ++ [v]), 1))))
  | .pop x, ρ, Q => ownP (getS ρ x) fun xs => ∃ ys k cs, xs = ys ++ [.txt k cs] ∧ Q .next (setS ρ x (some (.list ys, 1)))
  | .extend x e, ρ, Q => ownP (getS (freeze (esc false e) ρ) x) fun xs => (evA Γ e (freeze (esc false e) ρ)).val fun v l => l0 l (listP v fun ys => xs.length + ys.length ≤ LST ∧ Q .next (setS (freeze (esc false e) ρ) x (some (.list (xs ++ ys), 1))))
  | .setIdx x i e, ρ, Q => dictP (getS (freeze (esc true e) ρ) x) fun es => (evA Γ e (freeze (esc true e) ρ)).val fun v l => l0 l ((evA Γ i (freeze (esc true e) ρ)).val fun iv _ => intP iv fun j => es.length < 1000 ∧ Q .next (setS (freeze (esc true e) ρ) x (some (.dict (setDict es j v), 1))))
  | .augIdx x i o e, ρ, Q => ownP (getS ρ x) fun xs => (evA Γ i ρ).val fun iv _ => intP iv fun j => ∃ v, idxAt xs j = some v ∧ (evA Γ e ρ).val fun w l => l0 l (augP o v w fun z => Q .next (setS ρ x (some (.list (xs.set (placeOfI xs j) z), 1))))
  | .ite c a b, ρ, Q => (evA Γ c (freeze (esc false c) ρ)).tru fun t => boolP t (wp Γ a (freeze (esc false c) ρ) Q) (wp Γ b (freeze (esc false c) ρ) Q)
  | .while_ c b, ρ, Q => ∃ n, whileP (fun ρ K => (evA Γ c (freeze (esc false c) ρ)).tru fun t => K t (freeze (esc false c) ρ)) (wp Γ b) n ρ Q
  | .for_ xs src b, ρ, Q => (evA Γ src (freeze (esc true src) ρ)).its fun vs l => l0 l (forP (wp Γ b) xs vs (freeze (esc true src) ρ) Q)
  | .try_ b, ρ, Q => wp Γ b ρ Q
  | .oneOf x elt src, ρ, Q => (evA Γ src (freeze (esc true elt ++ esc false src) ρ)).its fun xs _ => ∃ b, onesP (fun y => (evA Γ elt (freeze (esc true elt ++ esc false src) ρ ++ [some (y, 0)])).val) b false xs (Q .next (setS (freeze (esc true elt ++ esc false src) ρ) x (some (.bool b, 0))))
  | .push2 x e, ρ, Q => rowsP (getS (freeze (esc true e) ρ) x) fun xs => (evA Γ e (freeze (esc true e) ρ)).val fun v l => l0 l (listP v fun ys => xs.length < LST ∧ Q .next (setS (freeze (esc true e) ρ) x (some (.list (xs ++ [.list ys]), 2))))
  | .append2 x i e, ρ, Q => rowsP (getS (freeze (esc true e) ρ) x) fun xs => (evA Γ i (freeze (esc true e) ρ)).val fun iv _ => intP iv fun j => ∃ ys, idxAt xs j = some (.list ys) ∧ (evA Γ e (freeze (esc true e) ρ)).val fun v l => l0 l (ys.length < LST ∧ Q .next (setS (freeze (esc true e) ρ) x (some (.list (xs.set (placeOfI xs j) (.list (ys ++ [v]))), 2))))
  | .rows x src, ρ, Q => (evA Γ src (freeze (esc false src) ρ)).its fun xs _ => Q .next (setS (freeze (esc false src) ρ) x (some (.list (List.replicate xs.length (.list [])), 2)))
  | .bad, _, _ => False

/-- the slots of a call -/
def slotsOf : List PV → Nat → List Slt
  | [], n => List.replicate n none
  | v :: vs, 0 => []
  | v :: vs, n + 1 => some (v, 0) :: slotsOf vs n
def retK (Q : PV → Prop) : Post
  | .ret v, _ => Q v
  | .next, _ => Q .none
  | _, _ => False
/-- what a def hands back -/
def callP (Γ : FEnv) (n : Nat) (body : MS) (args : List PV) (Q : PV → Prop) : Prop := wp Γ body (slotsOf args n) (retK Q)
end Mine
end
noncomputable section
namespace Mine
open SeqAt

/-! values that stand in a name: level 0 is never turned; at level 1 the list (or dict) itself may be, at level 2 its lists too -/
inductive RowsRep (h : Heap) (Ok : Addr → Prop) : List Addr → List PV → Prop
  | nil : RowsRep h Ok [] []
  | cons {b : Addr} {bs : List Addr} {vs : List Value} {ys xs : List PV} : h.PlainList b vs.toArray → RepAll h Ok vs ys → RowsRep h Ok bs xs → RowsRep h Ok (b :: bs) (.list ys :: xs)
/-- a dict by ints -/
def IsDictI (W : Wld) (h : Heap) (Ok : Addr → Prop) (a : Addr) (es : List (Int × PV)) : Prop :=
  ∃ kvs : List (Int × Value), h.DictOf (intKind W.prog W.w) a kvs ∧ kvs.map (·.1) = es.map (·.1) ∧ RepAll h Ok (kvs.map (·.2)) (es.map (·.2))
inductive BRep (W : Wld) (h : Heap) (Ok : Addr → Prop) : Nat → Value → PV → Prop
  | zero {v : Value} {x : PV} : Rep h Ok v x → BRep W h Ok 0 v x
  | one {a : Addr} {vs : List Value} {xs : List PV} : h.PlainList a vs.toArray → RepAll h Ok vs xs → BRep W h Ok 1 (.ref a) (.list xs)
  | two {a : Addr} {bs : List Addr} {xs : List PV} : h.PlainList a (bs.map Value.ref).toArray → RowsRep h Ok bs xs → BRep W h Ok 2 (.ref a) (.list xs)
  | dict {a : Addr} {es : List (Int × PV)} : IsDictI W h Ok a es → BRep W h Ok 1 (.ref a) (.dict es)
/-- a value at a level, of a size -/
structure Val (W : Wld) (h : Heap) (Ok : Addr → Prop) (l : Nat) (v : Value) (x : PV) : Prop where
  r : BRep W h Ok l v x
  z : Sz x

section
variable {W : Wld} {A : Around} {s s' : Shared} {h h' : Heap} {Ok Ok' : Addr → Prop} {v u : Value} {x y : PV} {l l' : Nat}
theorem RowsRep.any {bs : List Addr} {xs : List PV} (r : RowsRep h Ok bs xs) : RepAll h (fun _ => True) (bs.map Value.ref) xs := by
  induction r with
  | nil => exact .nil
  | cons q r _ ih => exact .cons (.list trivial q (r.weaken fun _ _ => trivial)) ih
theorem RowsRep.mono (hk : Moves h h' Ok Ok') {bs : List Addr} {xs : List PV} (r : RowsRep h Ok bs xs) (hb : ∀ b ∈ bs, ∀ o, h.get? b = some o → h'.get? b = some o) : RowsRep h' Ok' bs xs := by
  induction r with
  | nil => exact .nil
  | cons q r _ ih => exact .cons (q.at (hb _ (.head _))) (r.mono hk) (ih fun b hm => hb b (.tail _ hm))
theorem IsDictI.mono (hk : Moves h h' Ok Ok') {a : Addr} {es : List (Int × PV)} (ha : ∀ o, h.get? a = some o → h'.get? a = some o) (q : IsDictI W h Ok a es) : IsDictI W h' Ok' a es := by
  obtain ⟨kvs, h1, h3, h4⟩ := q
  exact ⟨kvs, h1.at fun o => ha o, h3, h4.mono hk⟩
theorem BRep.ext (r : BRep W s.heap Ok l v x) (e : Ext s s') : BRep W s'.heap Ok l v x := by
  cases r with
  | zero r => exact .zero (r.ext e)
  | one q r => exact .one (q.at fun o => e.keep _ o) (r.ext e)
  | two q r => exact .two (q.at fun o => e.keep _ o) (r.mono e.moves fun b _ o => e.keep b o)
  | dict q => exact .dict (q.mono e.moves fun o => e.keep _ o)
theorem Val.ext (r : Val W s.heap Ok l v x) (e : Ext s s') : Val W s'.heap Ok l v x := ⟨r.r.ext e, r.z⟩
/-- what a value at a level is -/
def BInv (W : Wld) (h : Heap) (Ok : Addr → Prop) (l : Nat) (v : Value) : PV → Prop
  | .list xs => ∃ a vs, v = .ref a ∧ h.PlainList a vs.toArray ∧ RepAll h (fun _ => True) vs xs ∧ (l ≤ 1 → RepAll h Ok vs xs) ∧ (l = 0 → Ok a)
  | .dict es => ∃ a, v = .ref a ∧ IsDictI W h Ok a es
  | x => Rep h Ok v x
theorem BRep.inv (r : BRep W h Ok l v x) : BInv W h Ok l v x := by
  cases r with
  | zero r =>
    cases x with
    | list xs => obtain ⟨a, vs, e, o, q, r⟩ := r.inv; exact ⟨a, vs, e, q, r.weaken fun _ _ => trivial, fun _ => r, fun _ => o⟩
    | dict es => exact r.inv.elim
    | _ => exact r
  | one q r => exact ⟨_, _, rfl, q, r.weaken fun _ _ => trivial, fun _ => r, fun e => nomatch e⟩
  | two q r => exact ⟨_, _, rfl, q, r.any, fun e => absurd e (by decide), fun e => nomatch e⟩
  | dict q => exact ⟨_, rfl, q⟩
theorem BRep.rep0 (r : BRep W h Ok 0 v x) : Rep h Ok v x := by cases r; assumption
/-- to be looked at, a value at any level is one that stands -/
theorem BRep.any (r : BRep W h Ok l v x) (hx : ∀ es, x ≠ .dict es) : Rep h (fun _ => True) v x := by
  cases r with
  | zero r => exact r.weaken fun _ _ => trivial
  | one q r => exact .list trivial q (r.weaken fun _ _ => trivial)
  | two q r => exact .list trivial q r.any
  | dict q => exact absurd rfl (hx _)

/-! what the readers tell -/
theorem int_inv {Q : Int → Prop} (h : intP x Q) : ∃ i, x = .int i ∧ Q i := by
  cases x with
  | int i => exact ⟨i, rfl, h⟩
  | _ => exact h.elim
theorem txt_inv {Q : Bool → List Nat → Prop} (h : txtP x Q) : ∃ k cs, x = .txt k cs ∧ Q k cs := by
  cases x with
  | txt k cs => exact ⟨k, cs, rfl, h⟩
  | _ => exact h.elim
theorem list_inv {Q : List PV → Prop} (h : listP x Q) : ∃ xs, x = .list xs ∧ Q xs := by
  cases x with
  | list xs => exact ⟨xs, rfl, h⟩
  | _ => exact h.elim
theorem l0_inv {P : Prop} (h : l0 l P) : l = 0 ∧ P := by
  cases l with
  | zero => exact ⟨rfl, h⟩
  | succ l => exact h.elim
theorem l1_inv {P : Prop} (h : l1 l P) : l ≤ 1 ∧ P := by
  match l, h with
  | 0, h => exact ⟨Nat.zero_le _, h⟩
  | 1, h => exact ⟨Nat.le_refl _, h⟩
theorem part_inv {Q : Option Int → Prop} (hx : partP x Q) (r : Rep h Ok v x) : ∃ o, PartIs v o ∧ Q o := by
  cases x with
  | none => rw [show v = _ from r.inv]; exact ⟨_, .none, hx⟩
  | int i => obtain ⟨t, rfl⟩ := r.inv; exact ⟨_, .int i t, hx⟩
  | _ => exact hx.elim

/-! truth -/
theorem truth_sound {Z : Bool → Prop} (hv : Val W s.heap Ok l v x) (h : truP x Z) : Tells W A s (truthy v) Z := by
  cases x with
  | none => rw [show v = _ from hv.r.inv.inv]; exact fun E Q q => truthy_none (q _ _ (.refl _) h)
  | bool c => rw [show v = _ from hv.r.inv.inv]; exact fun E Q q => wpAny_truthy_bool (q _ _ (.refl _) h)
  | int i => obtain ⟨t, rfl⟩ := hv.r.inv.inv; exact fun E Q q => truthy_int (q _ _ (.refl _) h)
  | txt k cs => exact truthy_txt hv.r.inv.inv hv.z.txt_len h
  | list xs => obtain ⟨a, vs, rfl, q, r, _⟩ := hv.r.inv; exact truthy_list q r.length hv.z.list_len h
  | tup xs =>
    obtain ⟨a, vs, rfl, _, ql, r⟩ := hv.r.inv.inv
    have hl := r.length
    refine fun E Q q => truthy_tuple ql.isTup (by rw [List.size_toArray, hl]; exact lst_63 hv.z.tup_len) ?_
    have e : vs.toArray.isEmpty = xs.isEmpty := by rw [← len_isEmpty, ← hl, len_isEmpty]; exact List.isEmpty_toArray ..
    rw [e]
    exact q _ _ (.toks _ _) h
  | _ => exact h.elim

/-! operations -/
structure At (A : Around) (Ok : Addr → Prop) (s : Shared) : Prop where
  hd : A.handled = none
  un : A.units + 10 < cLine
  fr : Fresh Ok s
theorem At.ext (H : At A Ok s) (e : Ext s s') : At A Ok s' := ⟨H.hd, H.un, H.fr.ext e⟩
def BOp.op : BOp → Operator
  | .add => .Add | .sub => .Sub | .mul => .Mult | .mulT => .Mult | .fdiv => .FloorDiv | .fmod => .Mod | .pow => .Pow
def BinOk (W : Wld) (o : BOp) : Prop := ∀ A s Ok l l' v u x y Z, At A Ok s → Val W s.heap Ok l v x → Val W s.heap Ok l' u y → l ≤ 1 → l' ≤ 1 → binP o x y Z → Yld W A Ok s (binaryOp o.op v u) Z
theorem sz_append {xs ys : List PV} (h : xs.length + ys.length ≤ LST) (a : Sz (.list xs)) (b : Sz (.list ys)) : Sz (.list (xs ++ ys)) :=
  .list (by rw [List.length_append]; exact h) fun z hz => (List.mem_append.mp hz).elim (a.list_all z) (b.list_all z)
theorem sz_sub {xs ys : List PV} (h : ys.Sublist xs) (a : Sz (.list xs)) : Sz (.list ys) := .list (Nat.le_trans h.length_le a.list_len) fun z hz => a.list_all z (h.subset hz)
theorem sz_sub_txt {k : Bool} {a b : List Nat} (h : b.Sublist a) (z : Sz (.txt k a)) : Sz (.txt k b) := .txt k (Nat.le_trans h.length_le z.txt_len)
theorem sz_cat {k : Bool} {a b : List Nat} (h : a.length + b.length ≤ LIM) : Sz (.txt k (a ++ b)) := .txt k (by rw [List.length_append]; exact h)

theorem add_txt {k : Bool} {a b : List Nat} (hz : a.length + b.length ≤ LIM) (hv : TxtIs v k a) (hu : TxtIs u k b) : Gets W A Ok s (binaryOp .Add v u) (.txt k (a ++ b)) := by
  intro E Q q
  cases hv with
  | str _ t => cases hu with
    | str _ t' => exact PyProof.Rows.add_str (fun t' tk => by rw [str_append]; exact q _ _ (.toks _ _) (.str _ _)) (lim_size hz)
  | bytes bs t => cases hu with
    | bytes bs' t' =>
      rw [List.length_map, List.length_map] at hz
      exact KBy.add_bytes (Nat.le_trans hz (by decide)) fun t' k => by rw [List.append_toArray]; exact q _ _ (.toks _ _) (.bytes _ _ List.map_append.symm)
theorem bin_add : BinOk W .add := by
  intro A s Ok l l' v u x y Z H hv hu hl hl' h
  cases x with
  | int a => obtain ⟨b, rfl, z⟩ := int_inv h; exact (add_ints hv.r.inv hu.r.inv).yld (.int _) z
  | txt k a => obtain ⟨_, b, rfl, rfl, hz, z⟩ := txt_inv h; exact (add_txt hz hv.r.inv.inv hu.r.inv.inv).yld (sz_cat hz) z
  | list a =>
    obtain ⟨b, rfl, hz, z⟩ := list_inv h
    obtain ⟨a1, vs, rfl, q1, _, r1, _⟩ := hv.r.inv
    obtain ⟨a2, ws, rfl, q2, _, r2, _⟩ := hu.r.inv
    exact ((add_lists hz q1 q2 (r1 hl) (r2 hl')).gets H.fr).yld (sz_append hz hv.z hu.z) z
  | _ => exact h.elim
theorem bin_sub : BinOk W .sub := by
  intro A s Ok l l' v u x y Z H hv hu hl hl' h
  obtain ⟨a, rfl, h⟩ := int_inv h
  obtain ⟨b, rfl, z⟩ := int_inv h
  exact (sub_ints hv.r.inv hu.r.inv).yld (.int _) z
theorem mem_rep {α : Type} {xs : List α} {n : Nat} {z : α} (h : z ∈ (List.replicate n xs).flatten) : z ∈ xs := by
  obtain ⟨l, hl, hz⟩ := List.mem_flatten.mp h
  exact List.eq_of_mem_replicate hl ▸ hz
theorem len_rep {α : Type} (xs : List α) (n : Nat) : ((List.replicate n xs).flatten).length = xs.length * n := by
  rw [List.length_flatten, List.map_replicate, List.sum_replicate_nat, Nat.mul_comm]
theorem bin_mul : BinOk W .mul := by
  intro A s Ok l l' v u x y Z H hv hu hl hl' h
  obtain ⟨a, rfl, h⟩ := list_inv h
  obtain ⟨n, rfl, ⟨hz, h1⟩, z⟩ := int_inv h
  obtain ⟨a1, vs, rfl, q1, _, r1, _⟩ := hv.r.inv
  exact ((mul_list q1 (r1 hl) hz h1 hu.r.inv).gets H.fr).yld (.list (by rw [len_rep]; exact hz) fun z hz => hv.z.list_all z (mem_rep hz)) z
theorem bin_fdiv : BinOk W .fdiv := by
  intro A s Ok l l' v u x y Z H hv hu hl hl' h
  obtain ⟨a, rfl, h⟩ := int_inv h
  obtain ⟨b, rfl, hb, z⟩ := int_inv h
  exact (fdiv_ints hb.2 hb.1 hv.r.inv hu.r.inv).yld (.int _) z
theorem bin_fmod : BinOk W .fmod := by
  intro A s Ok l l' v u x y Z H hv hu hl hl' h
  obtain ⟨a, rfl, h⟩ := int_inv h
  obtain ⟨b, rfl, hb, z⟩ := int_inv h
  exact (fmod_ints hb hv.r.inv hu.r.inv).yld (.int _) z
/-! comparisons -/
def COp.op : COp → CmpOp
  | .eq => .Eq | .ne => .NotEq | .lt => .Lt | .le => .LtE | .gt => .Gt | .ge => .GtE | .isin => .In | .notin => .NotIn | .is_ => .Is
def CmpOk (W : Wld) (o : COp) : Prop := ∀ A s Ok l l' v u x y (Z : Bool → Prop), At A Ok s → Val W s.heap Ok l v x → Val W s.heap Ok l' u y → cmpP o x y Z → ∃ b, Gets W A Ok s (compareOp o.op v u) (.bool b) ∧ Z b
theorem eq_inv {Z : Bool → Prop} (h : eqP x y Z) : ∃ b, EqIs (eqL 4) x y b ∧ Z b := by
  cases x with
  | none => cases y with
    | none => exact ⟨_, .none, h⟩
    | _ => exact h.elim
  | bool a => cases y with
    | bool b => exact ⟨_, .bool a b, h⟩
    | _ => exact h.elim
  | int a => obtain ⟨b, rfl, z⟩ := int_inv h; exact ⟨_, .int a b, z⟩
  | txt k a => obtain ⟨_, b, rfl, rfl, z⟩ := txt_inv h; exact ⟨_, .txt _ a b, z⟩
  | list a => obtain ⟨b, rfl, t, ht, z⟩ := list_inv h; exact ⟨t, eqV_is ht, z⟩
  | _ => exact h.elim
theorem EqIs.nd {f : List PV → List PV → Option Bool} {t : Bool} (h : EqIs f x y t) : (∀ es, x ≠ .dict es) ∧ ∀ es, y ≠ .dict es := by
  cases h <;> exact ⟨(fun _ e => nomatch e), (fun _ e => nomatch e)⟩
theorem nd_inv {P : Prop} (h : nd x P) : (∀ es, x ≠ .dict es) ∧ P := by
  cases x with
  | dict es => exact h.elim
  | _ => exact ⟨(fun _ e => nomatch e), h⟩
theorem At.un4 (H : At A Ok s) : A.units + 4 < cLine := Nat.lt_of_le_of_lt (Nat.add_le_add_left (by decide : 4 ≤ 10) _) H.un
theorem cmp_eq : CmpOk W .eq := by
  intro A s Ok l l' v u x y Z H hv hu h
  obtain ⟨b, e, z⟩ := eq_inv h
  exact ⟨b, fun E Q q => (eq_is 4 H.un4 e (hv.r.any e.nd.1) (hu.r.any e.nd.2)).1 W.prog W.w E Q (q _ _ (.refl _) (.bool _)), z⟩
theorem cmp_ne : CmpOk W .ne := by
  intro A s Ok l l' v u x y Z H hv hu h
  obtain ⟨b, e, z⟩ := eq_inv (Z := fun t => Z (!t)) h
  exact ⟨!b, fun E Q q => ne_is 4 H.un4 e (hv.r.any e.nd.1) (hu.r.any e.nd.2) W.prog W.w E Q (q _ _ (.refl _) (.bool _)), z⟩
theorem cmp_lt : CmpOk W .lt := by
  intro A s Ok l l' v u x y Z H hv hu h
  obtain ⟨a, rfl, h⟩ := int_inv h
  obtain ⟨b, rfl, z⟩ := int_inv h
  exact ⟨_, lt_ints hv.r.inv hu.r.inv, z⟩
theorem cmp_gt : CmpOk W .gt := by
  intro A s Ok l l' v u x y Z H hv hu h
  obtain ⟨a, rfl, h⟩ := int_inv h
  obtain ⟨b, rfl, z⟩ := int_inv h
  exact ⟨_, gt_ints hv.r.inv hu.r.inv, z⟩
theorem seq_look {Q : List PV → Prop} (hu : Val W s.heap Ok l u y) (h : seqP y Q) : ∃ xs a vs, u = .ref a ∧ Q xs ∧ (s.heap.PlainList a vs.toArray ∨ PlainTup s.heap a vs.toArray) ∧ RepAll s.heap (fun _ => True) vs xs := by
  cases y with
  | list xs => obtain ⟨a, vs, rfl, q, r, _⟩ := hu.r.inv; exact ⟨xs, a, vs, rfl, h, .inl q, r⟩
  | tup xs => obtain ⟨a, vs, rfl, _, q, r⟩ := hu.r.inv.inv; exact ⟨xs, a, vs, rfl, h, .inr q, r.weaken fun _ _ => trivial⟩
  | _ => exact h.elim
theorem cmp_is : CmpOk W .is_ := by
  intro A s Ok l l' v u x y Z H hv hu h
  obtain ⟨rfl, h⟩ := h
  rw [show u = Value.none from hu.r.inv.inv]
  cases x with
  | none => rw [show v = Value.none from hv.r.inv.inv]; exact ⟨true, fun E Q q => wpAny_bind (wpAny_pure (wpAny_pure (q _ _ (.refl _) (.bool true)))), h⟩
  | txt k cs =>
    refine ⟨false, fun E Q q => ?_, h⟩
    cases (hv.r.inv.inv : TxtIs v k cs) with
    | str _ t => exact wpAny_bind (wpAny_pure (wpAny_pure (q _ _ (.refl _) (.bool false))))
    | bytes _ t => exact wpAny_bind (wpAny_pure (wpAny_pure (q _ _ (.refl _) (.bool false))))
  | _ => exact h.elim
theorem cmp_in : CmpOk W .isin := by
  intro A s Ok l l' v u x y Z H hv hu h
  obtain ⟨n, h⟩ := nd_inv h
  obtain ⟨xs, a, vs, rfl, ⟨hd, z⟩, q, r⟩ := seq_look hu h
  exact ⟨_, (in_seq H.un q r (hv.r.any n) hd).1, z⟩
theorem cmp_notin : CmpOk W .notin := by
  intro A s Ok l l' v u x y Z H hv hu h
  obtain ⟨n, h⟩ := nd_inv h
  obtain ⟨xs, a, vs, rfl, ⟨hd, z⟩, q, r⟩ := seq_look hu h
  exact ⟨_, (in_seq H.un q r (hv.r.any n) hd).2, z⟩

/-! in place: texts and numbers -/
def AugOk (W : Wld) (o : BOp) : Prop := ∀ A s Ok v u x y Z, Rep s.heap Ok v x → Rep s.heap Ok u y → augP o x y Z → Yld W A Ok s (inplaceOp o.op v u) Z
theorem noI_bytes_add : typeLookup (.type "bytes") (dunderI "add") = pure none := by rw [typeLookup_type, builtinLookup_eq_fast]; kernel_rfl
theorem iadd_txt {k : Bool} {a b : List Nat} (hz : a.length + b.length ≤ LIM) (hv : TxtIs v k a) (hu : TxtIs u k b) : Gets W A Ok s (inplaceOp .Add v u) (.txt k (a ++ b)) := by
  intro E Q q
  cases hv with
  | str _ t => cases hu with
    | str _ t' => exact PyProof.Rows.iadd_str (fun t' tk => by rw [str_append]; exact q _ _ (.toks _ _) (.str _ _)) (lim_size hz)
  | bytes bs t => cases hu with
    | bytes bs' t' =>
      rw [List.length_map, List.length_map] at hz
      have hz2 : bs.length + bs'.length ≤ sizeLine := lim_size hz
      have q' : ∀ t' k, Q (.bytes (bs ++ bs').toArray t') { s with toks := k } := fun t' k => q _ _ (.toks _ _) (.bytes _ _ List.map_append.symm)
      refine iconcat_gives (typeIs_bytes s _ _) (typeIs_bytes s _ _) noI_bytes_add KBy.noFill_bytes_add KBy.seq_bytes_add FB.slot_bytes_add FB.entry_bytes_add (FB.args_bytes_add_2 _ _)
        (KBy.gives_bytes_add (KBy.tooLong_not hz2)) ?_
      cases bs with
      | nil => exact q' t' s.toks
      | cons b bs =>
        rw [if_neg (show ¬ (b :: bs).toArray.isEmpty = true from fun h => nomatch h)]
        cases bs' with
        | nil => have := q' t s.toks; rw [List.append_nil] at this; exact this
        | cons c bs' =>
          rw [if_neg (show ¬ (c :: bs').toArray.isEmpty = true from fun h => nomatch h), List.append_toArray]
          exact ⟨by rw [List.size_toArray, List.length_append]; exact hz2, q' _ _⟩
theorem aug_add : AugOk W .add := by
  intro A s Ok v u x y Z hv hu h
  cases x with
  | int a =>
    obtain ⟨b, rfl, z⟩ := int_inv h
    obtain ⟨_, rfl⟩ := rep_int hv; obtain ⟨_, rfl⟩ := rep_int hu
    exact Gets.yld (fun E Q q => PySem.P.iadd_int (q _ _ (.toks _ _) (.int _ _))) (.int _) z
  | txt k a => obtain ⟨_, b, rfl, rfl, hz, z⟩ := txt_inv h; exact (iadd_txt hz hv.inv hu.inv).yld (sz_cat hz) z
  | _ => exact h.elim
theorem aug_sub : AugOk W .sub := by
  intro A s Ok v u x y Z hv hu h
  obtain ⟨a, rfl, h⟩ := int_inv h
  obtain ⟨b, rfl, z⟩ := int_inv h
  obtain ⟨_, rfl⟩ := rep_int hv; obtain ⟨_, rfl⟩ := rep_int hu
  exact Gets.yld (fun E Q q => PySem.P.isub_int (q _ _ (.toks _ _) (.int _ _))) (.int _) z
end
end Mine
end
noncomputable section
namespace Mine
open Builtin
section
variable {W : Wld} {A : Around} {s s' : Shared} {h h' : Heap} {Ok Ok' : Addr → Prop} {v u : Value} {x y : PV} {l l' : Nat}
/-- a tree that hands back a value, of which and of its level Q holds -/
def Ev (W : Wld) (A : Around) (Ok : Addr → Prop) (s : Shared) (t : Sem Value) (Q : PV → Nat → Prop) : Prop :=
  ∀ (E R : Value → Shared → Prop), (∀ v s' x l, Ext s s' → Val W s'.heap Ok l v x → Q x l → R v s') → wpAny W.M A t R E s
theorem Yld.ev {t : Sem Value} {Q : PV → Nat → Prop} (g : Yld W A Ok s t fun z => Q z 0) : Ev W A Ok s t Q := fun E R q => g E R fun v s' x e r z h => q v s' x 0 e ⟨.zero r, z⟩ h

/-! items -/
theorem RowsRep.get {bs : List Addr} {xs : List PV} (r : RowsRep h Ok bs xs) : ∀ (i : Nat) (x : PV), xs[i]? = some x → ∃ b vs ys, bs[i]? = some b ∧ x = .list ys ∧ h.PlainList b vs.toArray ∧ RepAll h Ok vs ys := by
  induction r with
  | nil => exact fun i x e => nomatch e
  | cons q r _ ih =>
    intro i x e
    cases i with
    | zero => exact ⟨_, _, _, rfl, (Option.some.inj e).symm, q, r⟩
    | succ i => exact ih i x e
theorem item_at {a : Addr} {vs : List Value} {xs : List PV} {i : Int} {t : Tok} (ha : s.heap.PlainList a vs.toArray) (hl : vs.length = xs.length) (hz : xs.length ≤ LST) (hx : idxAt xs i = some x) {E R : Value → Shared → Prop}
    (q : ∀ n : Nat, xs[n]? = some x → ∃ v, vs[n]? = some v ∧ R v s) : wpAny W.M A (getItem (.ref a) (.int i t)) R E s := by
  obtain ⟨n, hn, hi⟩ := idxAt_at hx
  obtain ⟨v, hv, q⟩ := q n hn
  exact getItem_raw ha (hl ▸ hz) hv (hl ▸ hi) q
theorem dict_find {kvs : List (Int × Value)} : ∀ {es : List (Int × PV)}, kvs.map (·.1) = es.map (·.1) → RepAll h Ok (kvs.map (·.2)) (es.map (·.2)) → ∀ {i : Int} {z : PV}, lookD es i = some z →
    ∃ v, (kvs.find? fun p => p.1 == i) = some (i, v) ∧ Rep h Ok v z ∧ ∃ k, (k, z) ∈ es := by
  induction kvs with
  | nil => intro es hk hr i z he; cases es with
    | nil => exact nomatch he
    | cons _ _ => exact nomatch hk
  | cons p kvs ih => intro es hk hr i z he; cases es with
    | nil => exact nomatch hk
    | cons p' es =>
      obtain ⟨v, ws, e1, r, rs⟩ := hr.inv_cons
      obtain ⟨k, u⟩ := p
      obtain ⟨k', x⟩ := p'
      obtain ⟨rfl, rfl⟩ := List.cons.inj e1
      obtain ⟨rfl, hk2⟩ := List.cons.inj (show k :: kvs.map (·.1) = k' :: es.map (·.1) from hk)
      unfold lookD at he
      rw [List.find?_cons] at he ⊢
      cases hki : k == i with
      | true =>
        dsimp only at he
        rw [hki] at he
        have hx : x = z := Option.some.inj he
        exact ⟨u, congrArg (fun j => some (j, u)) (beq_iff_eq.mp hki), hx ▸ r, k, hx ▸ .head _⟩
      | false =>
        dsimp only at he
        rw [hki] at he
        obtain ⟨w, h1, h2, k2, h3⟩ := ih hk2 rs he
        exact ⟨w, h1, h2, k2, .tail _ h3⟩
theorem idx_sound {Q : PV → Nat → Prop} (hv : Val W s.heap Ok l v x) (hu : Val W s.heap Ok l' u y) (h : idxP x l y Q) : Ev W A Ok s (getItem v u) Q := by
  intro E R q
  cases x with
  | list xs =>
    obtain ⟨i, rfl, z, hz, hq⟩ := int_inv h
    obtain ⟨t, rfl⟩ := hu.r.inv.inv
    have hs : ∀ n : Nat, xs[n]? = some z → Sz z := fun n hn => hv.z.list_all _ (List.mem_of_getElem? hn)
    cases hv.r with
    | zero r =>
      obtain ⟨a, vs, rfl, o, ql, r⟩ := r.inv
      refine item_at ql r.length hv.z.list_len hz fun n hn => ?_
      obtain ⟨w, hw, rw_⟩ := r.get n _ hn
      exact ⟨w, hw, q w s z 0 (.refl _) ⟨.zero rw_, hs n hn⟩ hq⟩
    | one ql r =>
      refine item_at ql r.length hv.z.list_len hz fun n hn => ?_
      obtain ⟨w, hw, rw_⟩ := r.get n _ hn
      exact ⟨w, hw, q w s z 0 (.refl _) ⟨.zero rw_, hs n hn⟩ hq⟩
    | two ql r =>
      refine item_at ql r.any.length hv.z.list_len hz fun n hn => ?_
      obtain ⟨b, vs, ys, h1, rfl, q2, r2⟩ := r.get n _ hn
      exact ⟨.ref b, by rw [List.getElem?_map, h1]; rfl, q _ s _ 1 (.refl _) ⟨.one q2 r2, hs n hn⟩ hq⟩
  | tup xs =>
    obtain ⟨i, rfl, n, rfl, z, hz, hq⟩ := int_inv h
    obtain ⟨a, vs, rfl, o, ql, r⟩ := hv.r.inv.inv
    exact getItem_tup ql r hv.z.tup_len hu.r.inv hz E R fun w s' e rw_ => q w s' z 0 e ⟨.zero rw_, hv.z.tup_all _ (List.mem_of_getElem? hz)⟩ hq
  | dict es =>
    obtain ⟨i, rfl, z, hz, hq⟩ := int_inv h
    obtain ⟨t, rfl⟩ := hu.r.inv.inv
    obtain ⟨a, rfl, kvs, h1, h3, h4⟩ := hv.r.inv
    obtain ⟨w, h5, h6, k, hk⟩ := dict_find h3 h4 hz
    have sz : Sz z := by cases hv.z with | dict hd => exact hd _ hk
    refine wpAny_getItem_of (intKind_is W.prog W.w _ _) h1.mapOf ?_ (q w _ z 0 (.toks _ _) ⟨.zero (h6.ext (.toks _ _)), sz⟩ hq)
    exact congrArg (Option.map Prod.snd) ((congrArg (fun f => List.find? f kvs) (funext fun p => rfl)).trans h5)
  | txt k cs =>
    obtain ⟨i, rfl, rfl, c, hc, hq⟩ := int_inv h
    obtain ⟨t, rfl⟩ := hu.r.inv.inv
    have hz := hv.z.txt_len
    cases (hv.r.inv.inv : TxtIs v false cs) with
    | str _ t' =>
      obtain ⟨n, hn, hi⟩ := idxAt_at hc
      have hl : (strL cs).length = cs.length := List.size_toArray ..
      have hlt := (List.getElem?_eq_some_iff.mp hn).1
      have hz2 : cs.length ≤ 1048576 := hz
      have hsi : seqIndex? i (strL cs).length = some n := by
        rw [hl]
        unfold seqIndex?
        rcases hi with ⟨h1, h2, h3⟩ | ⟨h1, h2, h3⟩
        · rw [if_neg (Int.not_lt.mpr h1)]
          dsimp only
          rw [decide_eq_true h1, decide_eq_true h3, h2]; rfl
        · rw [if_pos h1]
          dsimp only
          rw [decide_eq_true (by omega : (0 : Int) ≤ i + cs.length), decide_eq_true (by omega : i + (cs.length : Int) < cs.length), h3]; rfl
      refine P.getItem_str (x := strL cs) (c := c) (by rw [decide_eq_false (by omega), decide_eq_false (by omega)]; rfl) ?_ (q _ _ _ _ (.toks _ _) ⟨.zero (.str [c] _), .txt false (by show 1 ≤ LIM; decide)⟩ hq)
      rw [hsi]
      show cs.toArray[n]? = some c
      rw [List.getElem?_toArray]; exact hn
  | _ => exact h.elim

/-! cuts -/
theorem strSlice_eq (lo hi : Option Int) (n : Nat) : Str.strSliceIndices lo hi 1 n = sliceRange ((lo.elim 0 (clipAt n) : Nat) : Int) ((hi.elim n (clipAt n) : Nat) : Int) 1 := by
  unfold Str.strSliceIndices
  cases lo <;> cases hi <;> simp only [clipAt_cast, Option.elim] <;> rfl
theorem clip_le (n : Nat) (i : Int) : clipAt n i ≤ n := by have := clipAt_cast n i; omega
theorem cut_txt {k : Bool} {cs : List Nat} {c : Addr} {a b : Value} {lo hi : Option Int} (hz : cs.length ≤ LIM) (hv : TxtIs v k cs) (pa : PartIs a lo) (pb : PartIs b hi) (hs : s.heap.IsSliceOf c a b .none) :
    Gets W A Ok s (getItem v (.ref c)) (.txt k (cut cs lo hi)) := by
  intro E Q q
  have hle := Nat.le_trans (cut_sub cs lo hi).length_le hz
  cases hv with
  | str _ t =>
    have pv : ∀ {v : Value} {lo : Option Int}, PartIs v lo → ∃ p : Option (Int × Tok), v = partValue p ∧ p.map (·.1) = lo := fun h => by
      cases h with
      | none => exact ⟨none, rfl, rfl⟩
      | int i t => exact ⟨some (i, t), rfl, rfl⟩
    obtain ⟨p, rfl, rfl⟩ := pv pa
    obtain ⟨p', rfl, rfl⟩ := pv pb
    refine wpAny_getItem_str_slice (x := strL cs) (l := p) (u := p') (st := none) hs rfl ?_
    have e : (Str.strSliceIndices (p.map (·.1)) (p'.map (·.1)) 1 cs.length).filterMap (cs.toArray[·]?) = cut cs (p.map (·.1)) (p'.map (·.1)) := by
      rw [strSlice_eq, sliceRange_one, pick_run]; rfl
    unfold sliceMade slicePicked
    split
    · rename_i h
      have h2 : cut cs (p.map (·.1)) (p'.map (·.1)) = cs := by
        refine (cut_sub _ _ _).eq_of_length_le ?_
        have h3 : (Str.strSliceIndices (p.map (·.1)) (p'.map (·.1)) 1 cs.length).length = cs.length := beq_iff_eq.mp (Bool.and_eq_true_iff.mp h).2
        rw [strSlice_eq, sliceRange_one, List.length_map, List.length_range] at h3
        unfold cut
        rw [List.length_take, List.length_drop]
        refine Nat.le_min.mpr ⟨Nat.le_of_eq h3.symm, ?_⟩
        refine Nat.le_trans (Nat.le_of_eq h3.symm) (Nat.sub_le_sub_right ?_ _)
        cases p' with
        | none => exact Nat.le_refl _
        | some j => exact clip_le _ _
      rw [h2] at q
      exact q _ _ (.refl _) (.str _ _)
    · rw [show (Str.strSliceIndices (p.map (·.1)) (p'.map (·.1)) ((none : Option (Int × Tok)).map (·.1) |>.getD 1) (strL cs).length).filterMap ((strL cs).cps[·]?) = cut cs (p.map (·.1)) (p'.map (·.1)) from e]
      exact ⟨lim_size hle, q _ _ (.toks _ _) (.str _ _)⟩
  | bytes bs t =>
    rw [List.length_map] at hz
    refine getItem_meets (typeIs_bytes s _ _) (by decide) FB.slot_bytes_getitem FB.entry_bytes_getitem (FB.args_bytes_getitem_2 _ _) (KBc.meets_slice2 bs.toArray t c pa.isPart pb.isPart) ⟨hs, ?_, fun t' k => ?_⟩
    · exact Nat.le_trans (KBc.size_picked_le _ _ _) (lim_size hz)
    · rw [KBc.picked_eq]
      refine q _ _ (.toks _ _) (.bytes _ _ ?_)
      unfold cut
      rw [List.size_toArray, List.toList_toArray, List.map_take, List.map_drop, List.length_map]
theorem cut_sound {c : Addr} {a b : Value} {p p' : PV} {Z : PV → Prop} (H : At A Ok s) (hv : Val W s.heap Ok l v x) (hl : l ≤ 1) (ha : Rep s.heap Ok a p) (hb : Rep s.heap Ok b p') (hs : s.heap.IsSliceOf c a b .none) (h : cutP x p p' Z) :
    Yld W A Ok s (getItem v (.ref c)) Z := by
  cases x with
  | list xs =>
    obtain ⟨lo, p1, h⟩ := part_inv h ha
    obtain ⟨hi, p2, z⟩ := part_inv h hb
    obtain ⟨a', vs, rfl, q, _, r, _⟩ := hv.r.inv
    exact ((cut_list q (r hl) hv.z.list_len hs p1 p2).gets H.fr).yld (sz_sub (cut_sub _ _ _) hv.z) z
  | txt k cs =>
    obtain ⟨lo, p1, h⟩ := part_inv h ha
    obtain ⟨hi, p2, z⟩ := part_inv h hb
    exact (cut_txt hv.z.txt_len hv.r.inv.inv p1 p2 hs).yld (sz_sub_txt (cut_sub _ _ _) hv.z) z
  | _ => exact h.elim
/-- what kinds of objects an item may be taken of -/
def itemable : PV → Prop → Prop
  | .list _, P => P
  | .tup _, P => P
  | .dict _, P => P
  | .txt _ _, P => P
  | _, _ => False
theorem getitem_builtin {P : Prop} (r : BRep W s.heap Ok l v x) (h : itemable x P) : (∃ T id, s.TypeIs v T ∧ typeLookup (.type T) "__getitem__" = pure (some (.builtin id))) ∧ P := by
  cases x with
  | list xs => obtain ⟨a, vs, rfl, q, _⟩ := r.inv; exact ⟨⟨_, _, q.isList.typeIs, slot_list_getitem.lookup⟩, h⟩
  | tup xs => obtain ⟨a, vs, rfl, _, q, _⟩ := r.inv.inv; exact ⟨⟨_, _, q.typeIs, slot_tuple_getitem.lookup⟩, h⟩
  | dict es => obtain ⟨a, rfl, kvs, h1, _⟩ := r.inv; exact ⟨⟨_, _, h1.mapOf.typeIs, slot_dict_getitem.lookup⟩, h⟩
  | txt k cs =>
    cases (show TxtIs v k cs from r.inv.inv) with
    | str _ t => exact ⟨⟨_, _, typeIs_str s _ _, F.slot_str_getitem.lookup⟩, h⟩
    | bytes bs t => exact ⟨⟨_, _, typeIs_bytes s _ _, FB.slot_bytes_getitem.lookup⟩, h⟩
  | _ => exact h.elim
end
end Mine
end
noncomputable section
namespace Mine
open Builtin
def Meth.nameS : Meth → Str
  | .split => "split" | .join => "join" | .startswith => "startswith" | .endswith => "endswith" | .lstrip => "lstrip" | .rstrip => "rstrip" | .rfind => "rfind" | .count => "count" | .index => "index"
def Meth.id : Meth → PV → String
  | .split, .txt k _ => methId k "split"
  | .join, .txt k _ => methId k "join"
  | .startswith, .txt k _ => methId k "startswith"
  | .endswith, .txt k _ => methId k "endswith"
  | .lstrip, .txt k _ => methId k "lstrip"
  | .rstrip, .txt k _ => methId k "rstrip"
  | .rfind, .txt k _ => methId k "rfind"
  | .count, _ => "list.count"
  | .index, _ => "list.index"
  | _, _ => ""
def BI1.nameS : BI1 → Str
  | .len => "len" | .abs => "abs" | .chr => "chr" | .ord => "ord" | .sum => "sum" | .min => "min" | .max => "max" | .bytes => "bytes" | .typ => "type"
def BI1.valV : BI1 → Value
  | .len => .builtin "len" | .abs => .builtin "abs" | .chr => .builtin "chr" | .ord => .builtin "ord" | .sum => .builtin "sum" | .min => .builtin "min" | .max => .builtin "max" | .bytes => .type "bytes" | .typ => .type "type"
def BI2.nameS : BI2 → Str
  | .min => "min" | .max => "max" | .isinst => "isinstance" | .issub => "issubclass" | .sorted => "sorted"
def BI2.valV : BI2 → Value
  | .min => .builtin "min" | .max => .builtin "max" | .isinst => .builtin "isinstance" | .issub => .builtin "issubclass" | .sorted => .builtin "sorted"

/-- a method that is walked -/
structure MethOk (W : Wld) (m : Meth) : Prop where
  get : ∀ A s Ok l v x (P : Prop) pl (E : Value → Shared → Prop) (Q : Value × List Value → Shared → Prop), Val W s.heap Ok l v x → recvP m x P → (P → Q (.builtin (m.id x), [v]) s) → wpAny W.M A (getMethod v m.nameS pl) Q E s
  run : ∀ A s Ok l l' v u x y Z, At A Ok s → Val W s.heap Ok l v x → Val W s.heap Ok l' u y → l' ≤ 1 → methP m x l y Z → Yld W A Ok s (call (.builtin (m.id x)) [v, u]) Z
def Bi1Ok (W : Wld) (b : BI1) : Prop := ∀ A s Ok l v x Z, At A Ok s → Val W s.heap Ok l v x → bi1P b x l Z → Yld W A Ok s (call b.valV [v]) Z
def Bi2Ok (W : Wld) (b : BI2) : Prop := ∀ A s Ok v u x y Z, At A Ok s → Val W s.heap Ok 0 v x → Val W s.heap Ok 0 u y → bi2P b x y Z → Yld W A Ok s (call b.valV [v, u]) Z

section
variable {W : Wld} {A : Around} {s s' : Shared} {h h' : Heap} {Ok Ok' : Addr → Prop} {v u : Value} {x y : PV} {l l' : Nat} {P : Prop}
theorem get_txt {n : Str} {ids idb : String} {k : Bool} {cs : List Nat} {pl : Sem Bool} {E : Value → Shared → Prop} {Q : Value × List Value → Shared → Prop} (s1 : Slot "str" n ids) (t1 : typeOf (.builtin ids) = pure (.type "method_descriptor"))
    (s2 : Slot "bytes" n idb) (t2 : typeOf (.builtin idb) = pure (.type "method_descriptor")) (hv : TxtIs v k cs) (q : Q (.builtin (match k with | true => idb | false => ids), [v]) s) : wpAny W.M A (getMethod v n pl) Q E s := by
  cases hv with
  | str _ t =>
    with_reducible refine getMethod_builtin (typeIs_str _ _ _) F.plainAttrs_str s1 t1 (fun a e => nomatch e) ?_
    exact q
  | bytes bs t =>
    with_reducible refine getMethod_builtin (typeIs_bytes _ _ _) FB.plainAttrs_bytes s2 t2 (fun a e => nomatch e) ?_
    exact q
theorem txtR_inv (h : txtR x P) : (∃ k cs, x = .txt k cs) ∧ P := by
  cases x with
  | txt k cs => exact ⟨⟨k, cs, rfl⟩, h⟩
  | _ => exact h.elim
theorem type_b_split : typeOf (.builtin "bytes.split") = pure (.type "method_descriptor") := by show builtinType _ = _; rw [builtinType_eq_fast]; kernel_rfl
theorem type_b_join : typeOf (.builtin "bytes.join") = pure (.type "method_descriptor") := by show builtinType _ = _; rw [builtinType_eq_fast]; kernel_rfl
theorem txt_eq {k : Bool} {cs : List Nat} (hu : Val W s.heap Ok l u y) (e : y = .txt k cs) : TxtIs u k cs := by subst e; exact hu.r.inv.inv
theorem ok_split : MethOk W .split where
  get A s Ok l v x P pl E Q hv h q := by
    obtain ⟨⟨k, cs, rfl⟩, p⟩ := txtR_inv h
    exact get_txt F.slot_str_split F.type_str_split slot_b_split type_b_split hv.r.inv.inv (by cases k <;> exact q p)
  run A s Ok l l' v u x y Z H hv hu hl h := by
    obtain ⟨k, cs, rfl, e, z⟩ := txt_inv h
    refine ((split_txt hv.z.txt_len hv.r.inv.inv (txt_eq hu e)).gets H.fr).yld (.list ?_ fun w hw => ?_) z
    · rw [List.length_map]; exact Nat.le_trans (splitC_length _ _) (Nat.le_trans (Nat.succ_le_succ hv.z.txt_len) (by decide))
    · obtain ⟨p, hp, rfl⟩ := List.mem_map.mp hw
      exact .txt k (Nat.le_trans (split_le 47 cs hp) hv.z.txt_len)
theorem ok_join : MethOk W .join where
  get A s Ok l v x P pl E Q hv h q := by
    obtain ⟨⟨k, cs, rfl⟩, p⟩ := txtR_inv h
    exact get_txt F.slot_str_join F.type_str_join slot_b_join type_b_join hv.r.inv.inv (by cases k <;> exact q p)
  run A s Ok l l' v u x y Z H hv hu hl h := by
    obtain ⟨k, sep, rfl, h⟩ := txt_inv h
    obtain ⟨xs, rfl, ps, rfl, hz, z⟩ := list_inv h
    obtain ⟨a, vs, rfl, q, _, r, _⟩ := hu.r.inv
    exact (join_txt hz hv.r.inv.inv q (r hl)).yld (.txt k (Nat.le_trans (joinC_length _ _) hz)) z
theorem ok_startswith : MethOk W .startswith where
  get A s Ok l v x P pl E Q hv h q := by
    obtain ⟨⟨k, cs, rfl⟩, p⟩ := txtR_inv h
    exact get_txt F.slot_str_startswith F.type_str_startswith FB.slot_bytes_startswith FB.type_bytes_startswith hv.r.inv.inv (by cases k <;> exact q p)
  run A s Ok l l' v u x y Z H hv hu hl h := by
    obtain ⟨k, cs, rfl, h⟩ := txt_inv h
    obtain ⟨_, b, rfl, rfl, z⟩ := txt_inv h
    exact (startswith_txt hv.r.inv.inv hu.r.inv.inv).yld (.bool _) z
theorem ok_endswith : MethOk W .endswith where
  get A s Ok l v x P pl E Q hv h q := by
    obtain ⟨⟨k, cs, rfl⟩, p⟩ := txtR_inv h
    exact get_txt F.slot_str_endswith F.type_str_endswith FB.slot_bytes_endswith FB.type_bytes_endswith hv.r.inv.inv (by cases k <;> exact q p)
  run A s Ok l l' v u x y Z H hv hu hl h := by
    obtain ⟨k, cs, rfl, h⟩ := txt_inv h
    obtain ⟨_, b, rfl, rfl, z⟩ := txt_inv h
    exact (endswith_txt hv.r.inv.inv hu.r.inv.inv).yld (.bool _) z

/-! built-in functions -/
theorem b1_len : Bi1Ok W .len := by
  intro A s Ok l v x Z H hv h
  cases x with
  | txt k cs => exact (len_txt hv.r.inv.inv hv.z.txt_len).yld (.int _) h
  | list xs => obtain ⟨a, vs, rfl, q, r, _⟩ := hv.r.inv; exact (len_list q r.length hv.z.list_len).yld (.int _) h
  | tup xs => obtain ⟨a, vs, rfl, _, q, r⟩ := hv.r.inv.inv; exact (len_tup q r hv.z.tup_len).yld (.int _) (l0_inv h).2
  | _ => exact h.elim
theorem b1_abs : Bi1Ok W .abs := by
  intro A s Ok l v x Z H hv h
  obtain ⟨i, rfl, z⟩ := int_inv h
  obtain ⟨t, rfl⟩ := hv.r.inv.inv
  exact Gets.yld (fun E Q q => call_abs_int fun u tk => q _ _ (.toks _ _) (.int _ _)) (.int _) z
theorem b1_chr : Bi1Ok W .chr := by
  intro A s Ok l v x Z H hv h
  obtain ⟨i, rfl, hi, z⟩ := int_inv h
  obtain ⟨t, rfl⟩ := hv.r.inv.inv
  exact Gets.yld (fun E Q q => chr_of_range hi.1 hi.2 (q _ _ (.toks _ _) (.str [i.toNat] _))) (.txt _ (by show 1 ≤ LIM; decide)) z
theorem b1_ord : Bi1Ok W .ord := by
  intro A s Ok l v x Z H hv h
  obtain ⟨k, cs, rfl, c, rfl, rfl, z⟩ := txt_inv h
  rcases (show TxtIs v false [c] from hv.r.inv.inv).one with ⟨t, _, rfl⟩ | ⟨_, _, e, _⟩
  · exact Gets.yld (fun E Q q => PySem.P.ord_of_char (q _ _ (.toks _ _) (.int _ _))) (.int _) z
  · exact nomatch e
theorem ints_of {h : Heap} (is : List Int) : ∀ {vs : List Value}, RepAll h Ok vs (is.map .int) → IntsAre vs is := by
  induction is with
  | nil => intro vs r; rw [r.inv_nil]; exact .nil
  | cons i is ih =>
    intro vs r
    obtain ⟨v, ws, rfl, a, r'⟩ := r.inv_cons
    obtain ⟨t, rfl⟩ := a.inv
    exact .cons _ _ (ih r')
theorem b1_bytes : Bi1Ok W .bytes := by
  intro A s Ok l v x Z H hv h
  obtain ⟨xs, rfl, h⟩ := list_inv h
  obtain ⟨hl, cs, rfl, hz, hc, z⟩ := l1_inv h
  obtain ⟨a, vs, rfl, q, _, r, _⟩ := hv.r.inv
  have r' := r hl
  rw [show (cs.map fun (c : Nat) => PV.int (c : Int)) = (cs.map fun (c : Nat) => (c : Int)).map PV.int from (List.map_map ..).symm] at r'
  refine Gets.yld (fun E Q qq => ?_) (.txt _ hz) z
  obtain ⟨n, ho⟩ := q
  have hlen : vs.length = cs.length := by rw [r'.length, List.length_map, List.length_map]
  refine call_bytes_ints ⟨_, ho, rfl, n, rfl⟩ (ints_of _ r') (fun i hi => ?_) (by rw [hlen]; exact lim_size hz) H.hd fun h' t k hk => ?_
  · obtain ⟨c, hm, rfl⟩ := List.mem_map.mp hi
    exact ⟨Int.natCast_nonneg c, Int.ofNat_lt.mpr (hc c hm)⟩
  · refine qq _ _ ⟨⟨rfl, rfl⟩, hk⟩ (.bytes _ _ ?_)
    rw [List.map_map, List.map_map]
    refine (List.map_id cs).symm.trans (List.map_congr_left fun c hm => ?_)
    show c = UInt8.toNat (UInt8.ofNat (Int.toNat (c : Int)))
    rw [Int.toNat_natCast, UInt8.toNat_ofNat', Nat.mod_eq_of_lt (hc c hm)]
theorem b1_typ : Bi1Ok W .typ := by
  intro A s Ok l v x Z H hv h
  cases x with
  | txt k cs =>
    cases (show TxtIs v k cs from hv.r.inv.inv) with
    | str _ t => exact Gets.yld (fun E Q q => call_type_of (Tx := "str") rfl (by decide) (q _ _ (.refl _) (.cls _))) (.cls _) h
    | bytes bs t => exact Gets.yld (fun E Q q => call_type_of (Tx := "bytes") rfl (by decide) (q _ _ (.refl _) (.cls _))) (.cls _) h
  | _ => exact h.elim
theorem frag_nil {h : Heap} : Frag.In ([] : Frag) h := fun a o e => nomatch e
theorem b2_isinst : Bi2Ok W .isinst := by
  intro A s Ok v u x y Z H hv hu h
  cases x with
  | txt k cs =>
    obtain ⟨rfl, z⟩ := h
    rw [show u = _ from hu.r.inv.inv]
    cases (show TxtIs v k cs from hv.r.inv.inv) with
    | str _ t => exact Gets.yld (fun E Q q => kia_one kitx_str frag_nil trivial (b := false) (by kernel_rfl) (fun e => nomatch e) fun tk => q _ _ (.toks _ _) (.bool _)) (.bool _) z
    | bytes bs t => exact Gets.yld (fun E Q q => kia_one kitx_bytes frag_nil trivial (b := true) (by kernel_rfl) (fun e => nomatch e) fun tk => q _ _ (.toks _ _) (.bool _)) (.bool _) z
  | bool b =>
    obtain ⟨rfl, z⟩ := h
    rw [show u = _ from hu.r.inv.inv, show v = _ from hv.r.inv.inv]
    exact Gets.yld (fun E Q q => kia_one kitx_bool frag_nil trivial (b := true) (by kernel_rfl) (fun e => nomatch e) fun tk => q _ _ (.toks _ _) (.bool _)) (.bool _) z
  | list xs =>
    obtain ⟨rfl, z⟩ := h
    obtain ⟨a, vs, rfl, _, ⟨n, ht⟩, r⟩ := hu.r.inv.inv
    obtain ⟨v1, v2, rfl, r1, r2⟩ := r.inv_two
    rw [show v1 = _ from r1.inv, show v2 = _ from r2.inv] at ht
    obtain ⟨b, ws, rfl, ⟨m, hl⟩, _⟩ := hv.r.inv
    exact Gets.yld (fun E Q q => kia_tup kitx_list frag_nil ⟨_, hl, rfl⟩ ht (b := true) (by kernel_rfl) (fun e => nomatch e) fun tk => q _ _ (.toks _ _) (.bool _)) (.bool _) z
  | _ => exact h.elim

theorem entry_isn : entryFor table "issubclass.nested" = some Builtin.«issubclass.nested» := entryFor_of_tree (by kernel_rfl)
theorem kind_isn : builtinKind "issubclass.nested" = none := by decide +kernel
theorem plain_isn : plainId "issubclass.nested" = true := by decide +kernel
theorem args_isn (a b c : Value) : argsOk "issubclass.nested" ⟨[a, b, c], []⟩ := by unfold argsOk; kernel_rfl
theorem issub_type {prog : Program} {w : World} {Q : Fin → Shared → Prop} {E : Value → Shared → Prop} {t : Tok} {i : Int} {c d : String} {b : Bool} (e : kitCls ([] : Frag) (.type c) (.type d) = some b) (q : Q (.done (.ret (.bool b))) s) :
   wpAny (model prog w) A (Builtin.«issubclass.nested» ⟨[.type c, .type d, .int i t], []⟩) Q E s := by
  obtain ⟨h1, h2, h3⟩ := kit_cls (M := model prog w) (h := s.heap) frag_nil e
  unfold Builtin.«issubclass.nested»
  refine wpAny_bind (h1.at (wp_pos (by decide) ?_))
  repeat (any_goals (first | assumption | (refine h2.at ?_) | (refine h3.at ?_) | wp_step))
/-- the model's own turn over a class of the tuple -/
theorem issub_call {E : Value → Shared → Prop} {Q : Value → Shared → Prop} {i : Int} {t : Tok} {c d : String} {b : Bool} (e : kitCls ([] : Frag) (.type c) (.type d) = some b) (q : Q (.bool b) s) :
    wpAny W.M A (call (.builtin "issubclass.nested") [.type c, .type d, .int i t]) Q E s :=
  Calls.call_function_entry kind_isn plain_isn entry_isn (args_isn _ _ _) (issub_type e ⟨_, rfl, q⟩)
end
end Mine
end
noncomputable section
namespace Mine
open Builtin

/-- iterators that keep a tuple of their own -/
def ownsTup (n : String) : Bool := ["enumerate", "zip", "dict_itemiterator", "dict_reverseitemiterator", "odict_iterator", "itertools.zip_longest", "itertools.pairwise"].contains n
/-- an iterator stands before the items: its place, what it looks at, what it turns -/
structure Itr (W : Wld) (Ok : Addr → Prop) (z : Prop) (s s' : Shared) (xs : List PV) (I : Addr) (fp wr : List Addr) (P : Nat → Value → Prop) (St : Nat → Heap → Prop) : Prop where
  walks : ∀ A' : Around, A'.handled = none → Walks W.prog W.w A' I fp wr xs.length P St
  st : St 0 s'.heap
  old : ∀ b ∈ fp, b < s'.heap.objs.size
  new : ∀ b ∈ wr, s.heap.get? b = none
  kept : z → ∀ b ∈ fp, b ∈ wr ∨ (Ok b ∧ SeqAt s'.heap b)
  item : ∀ i v x, xs[i]? = some x → P i v → Rep s'.heap (fun b => Ok b ∧ b ∉ wr) v x
  there : ∀ i h, St i h → ∀ b ∈ wr, h.get? b ≠ none
  kind : ∀ i h, St i h → ∃ o n, h.get? I = some o ∧ o.cls = .type n ∧ ownsTup n = false
def IterAt (W : Wld) (Ok : Addr → Prop) (z : Prop) (s s' : Shared) (it : Value) (xs : List PV) : Prop := ∃ I fp wr P St, it = .ref I ∧ Itr W Ok z s s' xs I fp wr P St

section
variable {W : Wld} {A : Around} {Ok : Addr → Prop} {s : Shared} {z : Prop} {xs : List PV} {E : Value → Shared → Prop} {Q : Value → Shared → Prop} {v u : Value}
theorem IterAt.back {s0 s' : Shared} {it : Value} (e : Ext s0 s) (h : IterAt W Ok z s s' it xs) : IterAt W Ok z s0 s' it xs := by
  obtain ⟨I, fp, wr, P, St, h1, h⟩ := h
  exact ⟨I, fp, wr, P, St, h1, { h with new := fun b hb => e.fresh (h.new b hb) }⟩
theorem size_ne' {h : Heap} {a : Addr} {o : Obj} (e : h.get? a = some o) : a ≠ h.objs.size := fun q => Nat.lt_irrefl a (Nat.lt_of_lt_of_eq (Heap.lt_size e) q.symm)
theorem some_ne {α : Type} {o : Option α} {x : α} (h : o = some x) : o ≠ none := fun e => nomatch h.symm.trans e
theorem one_of {α : Type} {a b : α} {P : α → Prop} (h : b ∈ [a]) (p : P a) : P b := List.mem_singleton.mp h ▸ p
theorem two_of {α : Type} {a c b : α} {P : α → Prop} (h : b ∈ [a, c]) (p : P a) (q : P c) : P b := (List.mem_cons.mp h).elim (fun e => e ▸ p) fun h => one_of h q
/-- an iterator over a sequence that stands -/
theorem seq_itr {a : Addr} {vs : List Value} {o so : Obj} {T : String} {St : Nat → Heap → Prop} (ho : s.heap.get? a = some so) (hso : SeqAt s.heap a) (hc : o.cls = .type T) (hT : ownsTup T = false) (r : RepAll s.heap Ok vs xs) (hz : z → Ok a)
    (hw : ∀ A' : Around, A'.handled = none → Walks W.prog W.w A' s.heap.objs.size [s.heap.objs.size, a] [s.heap.objs.size] vs.toArray.size (fun i v => vs.toArray[i]? = some v) St) (h0 : St 0 (s.heap.push o)) (hst : ∀ i h, St i h → ∃ o, h.get? s.heap.objs.size = some o ∧ o.cls = .type T) :
    IterAt W Ok z s { s with heap := s.heap.push o } (.ref s.heap.objs.size) xs := by
  have ep := Ext.push s o
  refine ⟨_, _, _, _, St, rfl, fun A' hA => by rw [← r.length]; exact hw A' hA, h0, fun b hb => two_of (P := fun b => b < (s.heap.push o).objs.size) hb ?_ ?_, fun b hb => one_of (P := fun b => s.heap.get? b = none) hb (get_size _), fun hz' b hb => two_of (P := fun b => b ∈ [s.heap.objs.size] ∨ (Ok b ∧ SeqAt (s.heap.push o) b)) hb (.inl (.head _)) (.inr ⟨hz hz', ?_⟩), fun i v x hx hv => ?_, fun i h hs b hb => one_of (P := fun b => h.get? b ≠ none) hb ?_, fun i h hs => ?_⟩
  · rw [Heap.size_push]; exact Nat.lt_succ_self _
  · rw [Heap.size_push]; exact Nat.lt_succ_of_lt (Heap.lt_size ho)
  · obtain ⟨o, xs, n, e, d⟩ := hso; exact ⟨o, xs, n, ep.keep _ _ e, d⟩
  · exact (r.at (by rw [← List.getElem?_toArray]; exact hv) hx).mono fun b hb hs => ⟨⟨hb, fun h => Nat.lt_irrefl _ (List.mem_singleton.mp h ▸ hs.lt)⟩, fun o => ep.keep b o⟩
  · obtain ⟨o, ho, _⟩ := hst i h hs; exact some_ne ho
  · obtain ⟨o, ho, hc⟩ := hst i h hs; exact ⟨o, T, ho, hc, hT⟩
theorem iter_list {a : Addr} {vs : List Value} (hl : s.heap.PlainList a vs.toArray) (r : RepAll s.heap Ok vs xs) (hz : z → Ok a)
    (q : ∀ it s', Ext s s' → IterAt W Ok z s s' it xs → Q it s') : wpAny W.M A (pyIter (.ref a)) Q E s := by
  obtain ⟨n, ho⟩ := hl
  exact wpAny_pyIter_list ⟨_, ho, rfl, n, rfl⟩ (q _ _ (.push _ _) (seq_itr ho ⟨_, _, _, ho, rfl⟩ (T := "list_iterator") (St := fun i h => h.IsListIter s.heap.objs.size a i ∧ h.IsList a vs.toArray) rfl (by decide) r hz (fun A' hA => Walks.list hA _ a (size_ne' ho) _)
    ⟨⟨_, Heap.get?_push_size _ rfl, rfl, rfl⟩, ⟨_, (Ext.push s _).keep _ _ ho, rfl, n, rfl⟩⟩ fun i h hs => let ⟨⟨o, ho, hc, _⟩, _⟩ := hs; ⟨o, ho, hc⟩))
theorem iter_tup {a : Addr} {vs : List Value} (hl : PlainTup s.heap a vs.toArray) (r : RepAll s.heap Ok vs xs) (hz : z → Ok a)
    (q : ∀ it s', Ext s s' → IterAt W Ok z s s' it xs → Q it s') : wpAny W.M A (pyIter (.ref a)) Q E s := by
  obtain ⟨n, ho⟩ := hl
  exact wpAny_pyIter_tuple ⟨_, ho, rfl, n, rfl⟩ (q _ _ (.push _ _) (seq_itr ho ⟨_, _, _, ho, rfl⟩ (T := "tuple_iterator") (St := fun i h => h.IsTupleIter s.heap.objs.size a i ∧ h.IsTuple a vs.toArray) rfl (by decide) r hz (fun A' hA => Walks.tuple hA _ a (size_ne' ho) _)
    ⟨⟨_, Heap.get?_push_size _ rfl, rfl, rfl⟩, ⟨_, (Ext.push s _).keep _ _ ho, rfl, n, rfl⟩⟩ fun i h hs => let ⟨⟨o, ho, hc, _⟩, _⟩ := hs; ⟨o, ho, hc⟩))
/-- an iterator of its own -/
theorem own_itr {o : Obj} {T : String} {n : Nat} {P : Nat → Value → Prop} {St : Nat → Heap → Prop} (hT : ownsTup T = false) (hn : n = xs.length)
    (hw : ∀ A' : Around, A'.handled = none → Walks W.prog W.w A' s.heap.objs.size [s.heap.objs.size] [s.heap.objs.size] n P St) (h0 : St 0 (s.heap.push o)) (hst : ∀ i h, St i h → ∃ o, h.get? s.heap.objs.size = some o ∧ o.cls = .type T)
    (hi : ∀ i v x, xs[i]? = some x → P i v → ∀ (h : Heap) (Ok : Addr → Prop), Rep h Ok v x) : IterAt W Ok z s { s with heap := s.heap.push o } (.ref s.heap.objs.size) xs := by
  refine ⟨_, _, _, P, St, rfl, fun A' hA => hn ▸ hw A' hA, h0, fun b hb => one_of (P := fun b => b < (s.heap.push o).objs.size) hb ?_, fun b hb => one_of (P := fun b => s.heap.get? b = none) hb (get_size _), fun _ b hb => .inl hb, fun i v x hx hv => hi i v x hx hv _ _, fun i h hs b hb => one_of (P := fun b => h.get? b ≠ none) hb ?_, fun i h hs => ?_⟩
  · rw [Heap.size_push]; exact Nat.lt_succ_self _
  · obtain ⟨o, ho, _⟩ := hst i h hs; exact some_ne ho
  · obtain ⟨o, ho, hc⟩ := hst i h hs; exact ⟨o, T, ho, hc, hT⟩
theorem iter_str {cs : List Nat} {t : Tok} (q : ∀ it s', Ext s s' → IterAt W Ok z s s' it (cs.map fun c => .txt false [c]) → Q it s') : wpAny W.M A (pyIter (.str ⟨cs.toArray⟩ t)) Q E s := by
  have hi : ∀ i v x, (cs.map fun c => PV.txt false [c])[i]? = some x → SignAt ⟨cs.toArray⟩ i v → ∀ (h : Heap) (Ok : Addr → Prop), Rep h Ok v x := by
    rintro i v x hx ⟨c, u, h1, rfl⟩ h Ok
    rw [List.getElem?_map, ← List.getElem?_toArray, show cs.toArray[i]? = some c from h1] at hx
    exact Option.some.inj hx ▸ Rep.str [c] u
  cases ha : (⟨cs.toArray⟩ : Str).cps.all (· < 128)
  · exact wpAny_pyIter_wide ha (q _ _ (.push _ _) (own_itr (by decide) (List.length_map _).symm (fun A' hA => Walks.strWide hA _ ⟨cs.toArray⟩ t) ⟨_, Heap.get?_push_size _ rfl, rfl, rfl⟩ (fun i h ⟨o, ho, hc, _⟩ => ⟨o, ho, hc⟩) hi))
  · exact wpAny_pyIter_ascii ha (q _ _ (.push _ _) (own_itr (by decide) (List.length_map _).symm (fun A' hA => Walks.strAscii hA _ ⟨cs.toArray⟩ t) ⟨_, Heap.get?_push_size _ rfl, rfl, rfl⟩ (fun i h ⟨o, ho, hc, _⟩ => ⟨o, ho, hc⟩) hi))
def RangeOk (a b : Int) : Prop := -(2 ^ 40 : Int) ≤ a ∧ a ≤ 2 ^ 40 ∧ -(2 ^ 40 : Int) ≤ b ∧ b ≤ LIM ∧ (b - a).toNat ≤ LIM
theorem iter_rangeobj {r : Addr} {a b : Int} {t u v : Tok} (hr : IsRange s.heap r a b 1 t u v) (hb : RangeOk a b)
    (q : ∀ it s', Ext s s' → IterAt W Ok z s s' it (rangeF a b) → Q it s') : wpAny W.M A (pyIter (.ref r)) Q E s := by
  obtain ⟨h1, h2, h3, h4, _⟩ := hb
  have hsz : Builtin.Range.rangeSize a b 1 = ((b - a).toNat : Int) := by
    unfold Builtin.Range.rangeSize
    rw [if_pos (by decide), Int.ediv_one]
    split <;> omega
  have hl : (b : Int) < 2 ^ 62 := Int.lt_of_le_of_lt h4 (by decide)
  refine wpAny_pyIter_range hr (small_one (by omega) (by omega) (by omega) hl) ?_
  rw [hsz]
  refine q _ _ (.push _ _) (own_itr (P := fun i v => i < (b - a).toNat ∧ ∃ t, v = .int (a + i * 1) t) (St := fun i h => IsRangeIter h s.heap.objs.size (a + (i : Nat) * 1) (((b - a).toNat : Int) - (i : Nat)) 1) (T := "range_iterator") (by decide) ?_ (fun A' hA => (Walks.range hA s.heap.objs.size a 1 (b - a).toNat).bound) ?_ (fun i h hs => ⟨_, hs, rfl⟩) ?_)
  · unfold rangeF; rw [List.length_map, List.length_range]
  · show IsRangeIter _ _ _ _ _
    rw [Int.mul_one, Int.natCast_zero, Int.add_zero, Int.sub_zero]
    exact Heap.get?_push_size _ rfl
  · rintro i v x hx ⟨hi, t, rfl⟩ h Ok
    unfold rangeF at hx
    rw [List.getElem?_map, List.getElem?_range hi] at hx
    rw [Int.mul_one]
    exact Option.some.inj hx ▸ Rep.int _ _
theorem iter_range {a b : Int} (hb : RangeOk a b) (ha : Rep s.heap Ok v (.int a)) (hb' : Rep s.heap Ok u (.int b))
    (q : ∀ it s', Ext s s' → IterAt W Ok z s s' it (rangeF a b) → Q it s') :
    wpAny W.M A (call (.type "range") [v, u]) (fun x s₁ => wpAny W.M A (pyIter x) Q E s₁) E s := by
  obtain ⟨_, rfl⟩ := rep_int ha; obtain ⟨_, rfl⟩ := rep_int hb'
  exact call_range_2 (iter_rangeobj (Heap.get?_push_size _ rfl) hb fun it s' e hi => q _ _ (Ext.trans (Ext.push_toks s _ _) e) (hi.back (Ext.push_toks s _ _)))
theorem iter_range1 {b : Int} (hb : RangeOk 0 b) (hb' : Rep s.heap Ok u (.int b))
    (q : ∀ it s', Ext s s' → IterAt W Ok z s s' it (rangeF 0 b) → Q it s') :
    wpAny W.M A (call (.type "range") [u]) (fun x s₁ => wpAny W.M A (pyIter x) Q E s₁) E s := by
  obtain ⟨_, rfl⟩ := rep_int hb'
  exact call_range_1 (iter_rangeobj (Heap.get?_push_size _ rfl) hb fun it s' e hi => q _ _ (Ext.trans (Ext.push_toks s _ _) e) (hi.back (Ext.push_toks s _ _)))
/-- an iterator over a value -/
theorem its_inv {Z : List PV → Nat → Prop} {x : PV} {l : Nat} (hv : Val W s.heap Ok l v x) (h : itsP x l Z) (q : ∀ it s' xs l', Ext s s' → IterAt W Ok (l' = 0) s s' it xs → Sz (.list xs) → Z xs l' → Q it s') : wpAny W.M A (pyIter v) Q E s := by
  cases x with
  | list xs =>
    obtain ⟨hl, z⟩ := l1_inv h
    obtain ⟨a, vs, rfl, ql, _, r, o⟩ := hv.r.inv
    exact iter_list ql (r hl) o fun it s' e i => q it s' xs l e i hv.z z
  | tup xs =>
    obtain ⟨_, z⟩ := l0_inv h
    obtain ⟨a, vs, rfl, o, ql, r⟩ := hv.r.inv.inv
    exact iter_tup ql r (fun _ => o) fun it s' e i => q it s' xs 0 e i (.list hv.z.tup_len hv.z.tup_all) z
  | txt k cs =>
    obtain ⟨rfl, z⟩ := h
    cases (show TxtIs v false cs from hv.r.inv.inv) with
    | str _ t =>
      refine iter_str fun it s' e i => q it s' _ 0 e i (.list ?_ fun w hw => ?_) z
      · rw [List.length_map]; exact lim_lst hv.z.txt_len
      · obtain ⟨c, _, rfl⟩ := List.mem_map.mp hw; exact .txt _ (by show 1 ≤ LIM; decide)
  | _ => exact h.elim

/-! sum -/
/-! issubclass of a text's class -/
theorem b2_issub : Bi2Ok W .issub := by
  intro A s Ok v u x y Z H hv hu h
  obtain ⟨hx, rfl, z⟩ := h
  obtain ⟨tp, vs, rfl, _, ht, r⟩ := hu.r.inv.inv
  obtain ⟨v1, v2, rfl, r1, r2⟩ := r.inv_two
  obtain ⟨cs, hcs⟩ : ∃ cs, cs = [v1, v2] := ⟨_, rfl⟩
  rw [← hcs] at ht
  rw [show v1 = _ from r1.inv, show v2 = _ from r2.inv] at hcs
  refine Gets.yld (fun E Q q => ?_) (.bool _) z
  have hv' : ∃ c, v = .type c ∧ (c = "str" ∨ c = "bytes") := hx.elim (fun e => by subst e; exact ⟨_, hv.r.inv.inv, .inl rfl⟩) fun e => by subst e; exact ⟨_, hv.r.inv.inv, .inr rfl⟩
  obtain ⟨c, rfl, hc⟩ := hv'
  refine call_issubclass (S := fun _ R s' => s' = s ∧ ∀ tk, R (.ok (.ret (.bool true))) { s with toks := tk }) (fun prog w A R s' hs => ?_) ⟨rfl, fun tk => q _ _ (.toks _ _) (.bool true)⟩
  obtain ⟨rfl, hq⟩ := hs
  refine issubclass_outer ?_
  obtain ⟨h, g, d, tt, os⟩ := s'
  have hT2 : (⟨h, g, d, tt, os⟩ : Shared).TypeIs (.ref tp) "tuple" := ht.typeIs
  obtain ⟨n, htp⟩ := ht
  have f1 := F.isi_sub_tuple
  unfold Builtin.«issubclass.nested»
  repeat (any_goals (first | assumption | wp_step))
  refine wpAny_arrayLoop ?_
  rw [Option.getD_some, List.toList_toArray, hcs, List.forIn_cons]
  rcases hc with rfl | rfl
  · exact wpAny_bind (wpAny_bind (issub_call (W := ⟨prog, w, W.mg, W.mb, W.K⟩) (b := true) (by kernel_rfl) (wpAny_bind (wpAny_truthy_bool (wpAny_bind (wpAny_pure (wpAny_pure (wpAny_pure (wpAny_pure (hq _))))))))))
  · refine wpAny_bind (wpAny_bind (issub_call (W := ⟨prog, w, W.mg, W.mb, W.K⟩) (b := false) (by kernel_rfl) (wpAny_bind (wpAny_truthy_bool (wpAny_pure ?_)))))
    show wpAny (model prog w) _ (forIn [Value.type "bytes"] _ _) _ _ _
    rw [List.forIn_cons]
    exact wpAny_bind (wpAny_bind (issub_call (W := ⟨prog, w, W.mg, W.mb, W.K⟩) (b := true) (by kernel_rfl) (wpAny_bind (wpAny_truthy_bool (wpAny_bind (wpAny_pure (wpAny_pure (wpAny_pure (wpAny_pure (hq _))))))))))
end
end Mine
end
noncomputable section
namespace Mine
open Builtin

/-! ## expressions, node by node -/
structure CC where
  σ : Str → Option Nat
  gl : Str → Bool
  cl : Str → Bool
  n : Nat
structure Cx where
  W : Wld
  Γ : FEnv
  k : Nat
  cc : CC
structure Here (C : Cx) (A : Around) (env : Env) (Ok : Addr → Prop) (ρ : List Slt) (s : Shared) : Prop where
  room : Room A C.k
  on : C.W.On s.heap
  fresh : Fresh Ok s
  kind : env.scope.kind = .function
  globals : env.globals = mainGlobals
  builtins : env.builtins = builtinsNs
  len : ρ.length = C.cc.n
  get : ∀ x i pv l, C.cc.σ x = some i → getS ρ i = some (pv, l) → ∃ v, Holds s.heap env x v ∧ Val C.W s.heap Ok l v pv
  gl : ∀ x, C.cc.gl x = true → env.kindOf x = some .globalImplicit
  cl : ∀ x, C.cc.cl x = true → (env.kindOf x = some .cell ∨ env.kindOf x = some .free) ∧ ∃ c, env.cells.lookup x = some c
def Vals (h : Heap) (Ok : Addr → Prop) (vs : List Value) (xs : List PV) : Prop := RepAll h Ok vs xs ∧ ∀ x ∈ xs, Sz x

section
variable (C : Cx)
/-- the evaluator tells what the expression gives -/
def SE (me : ME) (e : Expr) : Prop := ∀ A env Ok ρ s Q, Here C A env Ok ρ s → (evA C.Γ me ρ).val Q → Ev C.W A Ok s (eval e env) Q
/-- and whether it is true -/
def ST (me : ME) (e : Expr) : Prop := ∀ A env Ok ρ s Z, Here C A env Ok ρ s → (evA C.Γ me ρ).tru Z → Tells C.W A s (isTrue e env (eval e env)) Z
/-- arguments, display elements -/
def SL (me : ME) (es : List Expr) : Prop := ∀ A env Ok ρ s pos Z, Here C A env Ok ρ s → (evA C.Γ me ρ).lst Z →
  ∀ (E : Value → Shared → Prop) (R : List Value → Shared → Prop), (∀ vs s' xs, Ext s s' → Vals s'.heap Ok vs xs → Z xs → R vs s') → wpAny C.W.M A (spliced (backTo pos (starEach es env))) R E s
/-- sources of loops -/
def SI (me : ME) (e : Expr) : Prop := ∀ A env Ok ρ s Z, Here C A env Ok ρ s → (evA C.Γ me ρ).its Z →
  ∀ (E R : Value → Shared → Prop), (∀ it s' xs l, Ext s s' → IterAt C.W Ok (l = 0) s s' it xs → Sz (.list xs) → Z xs l → R it s') → wpAny C.W.M A (eval e env) (fun v s' => wpAny C.W.M A (pyIter v) R E s') E s
/-- a part of a cut -/
def SPt (me : ME) (e : Option Expr) : Prop := ∀ A env Ok ρ s Q, Here C A env Ok ρ s → (evA C.Γ me ρ).val Q → Ev C.W A Ok s (evalPart e env) Q
structure Both (me : ME) (e : Expr) : Prop where
  se : SE C me e
  st : ST C me e
end

section
variable {C : Cx} {A : Around} {env : Env} {Ok : Addr → Prop} {ρ : List Slt} {s s' : Shared}
theorem Here.ext (H : Here C A env Ok ρ s) (e : Ext s s') : Here C A env Ok ρ s' :=
  { H with on := H.on.ext e, fresh := H.fresh.ext e, get := fun x i pv l h1 h2 => let ⟨v, a, b⟩ := H.get x i pv l h1 h2; ⟨v, a.keeps e.keep, b.ext e⟩ }
theorem Here.at (H : Here C A env Ok ρ s) : At A Ok s := ⟨H.room.hd, by have := H.room.un; omega, H.fresh⟩
theorem both_bad {e : Expr} : Both C .bad e := ⟨fun _ _ _ _ _ _ _ h => h.elim, fun _ _ _ _ _ _ _ h => h.elim⟩
theorem name_global {x : Str} {pos : Pos} {v : Value} {E Q : Value → Shared → Prop} (H : Here C A env Ok ρ s) (hx : C.cc.gl x = true) (hg : C.W.glob x = some v) (hd : (x == ("__debug__" : Str)) = false) (q : Q v s) :
    wpAny C.W.M A (eval (.Name x pos) env) Q E s :=
  Calls.Name_function_global H.kind (H.gl x hx) (Wld.loadGlobal H.on H.globals H.builtins hg q) hd
/-- where truth is the value's truth -/
theorem both_plain {me : ME} {e : Expr} (h : SE C me e) (hm : ∀ ρ Z, (evA C.Γ me ρ).tru Z = (evA C.Γ me ρ).val fun x _ => truP x Z)
    (he : ∀ env, isTrue e env (eval e env) = (do let v ← eval e env; standAt e.pos; holding [v] (truthy v))) : Both C me e :=
  ⟨h, fun A env Ok ρ s Z H hz E R q => isTrue_plain (h A env Ok ρ s _ H (hm ρ Z ▸ hz) E _ fun v s1 x l e1 r1 z => truth_sound r1 z E R fun b s2 e2 => q b s2 (e1.trans e2)) (he env)⟩

theorem se_name {x : Str} {i : Nat} {pos : Pos} (hx : C.cc.σ x = some i) (hd : (x == ("__debug__" : Str)) = false) (hcd : (x == ("__classdict__" : Str)) = false) : SE C (.var i) (.Name x pos) := by
  intro A env Ok ρ s Q H h E R q
  have h : (match getS ρ i with | some (x, l) => Q x l | none => False) := h
  cases hs : getS ρ i with
  | none => rw [hs] at h; exact h.elim
  | some p =>
    rw [hs] at h
    obtain ⟨v, h1, h2⟩ := H.get x i p.1 p.2 hx hs
    exact Holds.load (h := s.heap) h1 H.kind hd hcd (q _ _ _ _ (.refl _) h2 h)
theorem se_cls {x : Str} {c : String} {pos : Pos} (hx : C.cc.gl x = true) (hg : C.W.glob x = some (.type c)) (hd : (x == ("__debug__" : Str)) = false) : SE C (.lit (.cls c)) (.Name x pos) :=
  fun A env Ok ρ s Q H h E R q => name_global H hx hg hd (q _ _ _ _ (.refl _) ⟨.zero (.cls _), .cls _⟩ h)
def cConst : Const → ME
  | .none => .lit .none
  | .bool b => .lit (.bool b)
  | .int i => .lit (.int i)
  | .str s => if s.cps.toList.length ≤ LIM then .lit (.txt false s.cps.toList) else .bad
  | .bytes b => if b.length ≤ LIM then .lit (.txt true (b.map UInt8.toNat)) else .bad
  | _ => .bad
theorem se_const (c : Const) {n : Nat} {pos : Pos} : SE C (cConst c) (.Constant c n pos) := by
  intro A env Ok ρ s Q H h E R q
  rw [eval_Constant]
  cases c with
  | none => exact wpAny_pure (q _ _ _ _ (.refl _) ⟨.zero .none, .none⟩ h)
  | bool b => exact wpAny_pure (q _ _ _ _ (.refl _) ⟨.zero (.bool _), .bool _⟩ h)
  | int i => exact wpAny_mkInt (q _ _ _ _ (.toks _ _) ⟨.zero (.int _ _), .int _⟩ h)
  | str x =>
    by_cases hz : x.cps.toList.length ≤ LIM
    · rw [show cConst (.str x) = .lit (.txt false x.cps.toList) from if_pos hz] at h
      exact wpAny_mkText (q _ _ _ _ (.toks _ _) ⟨.zero (.str x.cps.toList s.toks), .txt _ hz⟩ h)
    · rw [show cConst (.str x) = .bad from if_neg hz] at h; exact h.elim
  | bytes b =>
    by_cases hz : b.length ≤ LIM
    · rw [show cConst (.bytes b) = .lit (.txt true (b.map UInt8.toNat)) from if_pos hz] at h
      exact wpAny_mkTextBytes (q _ _ _ _ (.toks _ _) ⟨.zero (.bytes _ _ rfl), .txt _ (by rw [List.length_map]; exact hz)⟩ h)
    · rw [show cConst (.bytes b) = .bad from if_neg hz] at h; exact h.elim
  | _ => exact h.elim

theorem se_bin {o : BOp} {a b : ME} {l r : Expr} {pos : Pos} (ok : BinOk C.W o) (ha : SE C a l) (hb : SE C b r) : SE C (.bin o a b) (.BinOp l o.op r pos) :=
  fun A env Ok ρ s Q H h E R q => wpAny_BinOp (ha A env Ok ρ s _ H h E _ fun v s1 x lx e1 r1 h1 => hb A env Ok ρ s1 _ (H.ext e1) h1 E _ fun u s2 y ly e2 r2 h2 =>
    have h3 := l1_inv h2
    have h4 := l1_inv h3.2
    (ok A s2 Ok lx ly v u x y _ ((H.ext e1).ext e2).at (r1.ext e2) r2 h3.1 h4.1 h4.2).ev E _ fun w s3 z lz e3 => q w s3 z lz ((e1.trans e2).trans e3))
theorem cmp_run {o : COp} {a b : ME} {l r : Expr} {Z : Bool → Prop} (ok : CmpOk C.W o) (ha : SE C a l) (hb : SE C b r) (H : Here C A env Ok ρ s)
    (h : (evA C.Γ a ρ).val fun x _ => (evA C.Γ b ρ).val fun y _ => cmpP o x y Z) {E R : Value → Shared → Prop} (q : ∀ t s', Ext s s' → Z t → R (.bool t) s') :
    wpAny C.W.M A (eval l env) (fun v s₁ => wpAny C.W.M A (eval r env) (fun u s₂ => wpAny C.W.M A (compareOp o.op v u) R E s₂) E s₁) E s :=
  ha A env Ok ρ s _ H h E _ fun v s1 x lx e1 r1 h1 => hb A env Ok ρ s1 _ (H.ext e1) h1 E _ fun u s2 y ly e2 r2 h2 =>
    let ⟨t, g, z⟩ := ok A s2 Ok lx ly v u x y _ ((H.ext e1).ext e2).at (r1.ext e2) r2 h2
    g E R fun w s3 e3 rw_ => (show w = .bool t from rw_.inv) ▸ q t s3 ((e1.trans e2).trans e3) z
theorem both_cmp {o : COp} {a b : ME} {l r : Expr} {pos : Pos} (ok : CmpOk C.W o) (ha : SE C a l) (hb : SE C b r) (hm : behindInMarks o.op r = false) : Both C (.cmp o a b) (.Compare l [o.op] [r] pos) :=
  ⟨fun A env Ok ρ s Q H h E R q => wpAny_Compare1 (cmp_run ok ha hb H h fun t s' e z => q _ s' _ 0 e ⟨.zero (.bool t), .bool t⟩ z) hm,
   fun A env Ok ρ s Z H h E R q => wpAny_isTrue_Compare1 (cmp_run ok ha hb H h fun t s' e z => wpAny_truthy_bool (q t s' e z)) hm⟩
theorem both_not {a : ME} {x : Expr} {pos : Pos} (ha : Both C a x) : Both C (.not_ a) (.UnaryOp .Not x pos) := ⟨
  fun A env Ok ρ s Q H h E R q => UnaryOp_ (ha.se A env Ok ρ s _ H h E _ fun v s1 x l e1 r1 h1 => not_of (truth_sound r1 h1 E _ fun b s2 e2 z => q _ s2 _ 0 (e1.trans e2) ⟨.zero (.bool _), .bool _⟩ z)),
  fun A env Ok ρ s Z H h E R q => isTrue_not (ha.st A env Ok ρ s _ H h E _ fun b s1 e1 z => q _ s1 e1 z)⟩
theorem se_neg {a : ME} {x : Expr} {pos : Pos} (ha : SE C a x) : SE C (.neg a) (.UnaryOp .USub x pos) :=
  fun A env Ok ρ s Q H h E R q => UnaryOp_ (ha A env Ok ρ s _ H h E _ fun v s1 x l e1 r1 h1 => by
    obtain ⟨i, rfl, z⟩ := int_inv h1
    exact neg_ints r1.r.inv E _ fun w s2 e2 r2 => q w s2 _ 0 (e1.trans e2) ⟨.zero r2, .int _⟩ z)

/-! and, or, if -/
theorem ite_bool {b : Bool} {P1 P2 X Y : Prop} (z : boolP b P1 P2) (h1 : P1 → X) (h2 : P2 → Y) : if b = true then X else Y := by
  cases b with
  | true => rw [if_pos rfl]; exact h1 z
  | false => rw [if_neg Bool.false_ne_true]; exact h2 z
theorem both_and {a b : ME} {e1 e2 : Expr} {rest : List Expr} {pos : Pos} (ha : Both C a e1) (hb : Both C b (.BoolOp .And (e2 :: rest) pos)) : Both C (.and_ a b) (.BoolOp .And (e1 :: e2 :: rest) pos) := ⟨
  fun A env Ok ρ s Q H h E R q => BoolOp_and (ha.se A env Ok ρ s _ H h E _ fun v s1 x l e1 r1 h1 => by
    obtain ⟨rfl, h1⟩ := l0_inv h1
    exact truth_sound r1 h1 E _ fun b s2 e2 z => ite_bool z (fun z => hb.se A env Ok ρ s2 _ ((H.ext e1).ext e2) z E _ fun w s3 y l e3 => q w s3 y l ((e1.trans e2).trans e3)) fun z => q v s2 x 0 (e1.trans e2) (r1.ext e2) z),
  fun A env Ok ρ s Z H h E R q => isTrue_and (ha.st A env Ok ρ s _ H h E _ fun b s1 e1 z => ite_bool z (fun z => hb.st A env Ok ρ s1 _ (H.ext e1) z E _ fun b s2 e2 => q b s2 (e1.trans e2)) fun z => q _ s1 e1 z)⟩
theorem both_or {a b : ME} {e1 e2 : Expr} {rest : List Expr} {pos : Pos} (ha : Both C a e1) (hb : Both C b (.BoolOp .Or (e2 :: rest) pos)) : Both C (.or_ a b) (.BoolOp .Or (e1 :: e2 :: rest) pos) := ⟨
  fun A env Ok ρ s Q H h E R q => BoolOp_or (ha.se A env Ok ρ s _ H h E _ fun v s1 x l e1 r1 h1 => by
    obtain ⟨rfl, h1⟩ := l0_inv h1
    exact truth_sound r1 h1 E _ fun b s2 e2 z => ite_bool z (fun z => q v s2 x 0 (e1.trans e2) (r1.ext e2) z) fun z => hb.se A env Ok ρ s2 _ ((H.ext e1).ext e2) z E _ fun w s3 y l e3 => q w s3 y l ((e1.trans e2).trans e3)),
  fun A env Ok ρ s Z H h E R q => isTrue_or (ha.st A env Ok ρ s _ H h E _ fun b s1 e1 z => ite_bool z (fun z => q _ s1 e1 z) fun z => hb.st A env Ok ρ s1 _ (H.ext e1) z E _ fun b s2 e2 => q b s2 (e1.trans e2))⟩
theorem both_one {op : BoolOp} {a : ME} {e1 : Expr} {pos : Pos} (ha : Both C a e1) : Both C a (.BoolOp op [e1] pos) := by
  refine ⟨fun A env Ok ρ s Q H h E R q => BoolOp_one (ha.se A env Ok ρ s Q H h E R q), fun A env Ok ρ s Z H h E R q => ?_⟩
  cases op with
  | And => exact isTrue_and (ha.st A env Ok ρ s _ H h E _ fun b s1 e1 z => by
      cases b with
      | true => rw [if_pos rfl]; exact isTrue_and_nil (q _ s1 e1 z)
      | false => rw [if_neg Bool.false_ne_true]; exact q _ s1 e1 z)
  | Or => exact isTrue_or (ha.st A env Ok ρ s _ H h E _ fun b s1 e1 z => by
      cases b with
      | true => rw [if_pos rfl]; exact q _ s1 e1 z
      | false => rw [if_neg Bool.false_ne_true]; exact isTrue_or_nil (q _ s1 e1 z))
theorem both_ite {c a b : ME} {t e1 e2 : Expr} {pos : Pos} (hc : Both C c t) (ha : Both C a e1) (hb : Both C b e2) : Both C (.ite c a b) (.IfExp t e1 e2 pos) := ⟨
  fun A env Ok ρ s Q H h E R q => IfExp_ (hc.st A env Ok ρ s _ H h E _ fun b s1 x1 z => ite_bool z (fun z => ha.se A env Ok ρ s1 _ (H.ext x1) z E _ fun w s2 y l x2 => q w s2 y l (x1.trans x2)) fun z => hb.se A env Ok ρ s1 _ (H.ext x1) z E _ fun w s2 y l x2 => q w s2 y l (x1.trans x2)),
  fun A env Ok ρ s Z H h E R q => isTrue_IfExp (hc.st A env Ok ρ s _ H h E _ fun b s1 x1 z => ite_bool z (fun z => ha.st A env Ok ρ s1 _ (H.ext x1) z E _ fun t s2 x2 => q t s2 (x1.trans x2)) fun z => hb.st A env Ok ρ s1 _ (H.ext x1) z E _ fun t s2 x2 => q t s2 (x1.trans x2))⟩

/-! arguments, displays -/
theorem sl_nil : SL C .nil [] := fun A env Ok ρ s pos Z H h E R q => Calls.spliced_nil (q _ _ _ (.refl _) ⟨.nil, fun _ h => nomatch h⟩ h)
def notStar : Expr → Bool
  | .Starred _ _ => false
  | _ => true
theorem starEach_plain {e : Expr} (h : notStar e = true) (rest : List Expr) (env : Env) : starEach (e :: rest) env = (false, eval e env) :: starEach rest env := by
  cases e with
  | Starred _ _ => exact nomatch h
  | _ => rfl
theorem mem_cons_all {P : PV → Prop} {x : PV} {xs : List PV} (h : P x) (hs : ∀ y ∈ xs, P y) : ∀ y ∈ x :: xs, P y := fun y hy => (List.mem_cons.mp hy).elim (fun e => e ▸ h) (hs y)
theorem sl_cons {a r : ME} {e : Expr} {rest : List Expr} (hn : notStar e = true) (ha : SE C a e) (hr : SL C r rest) : SL C (.cons a r) (e :: rest) := by
  intro A env Ok ρ s pos Z H h E R q
  rw [starEach_plain hn]
  exact Calls.spliced_cons (ha A env Ok ρ s _ H h E _ fun v s1 x l e1 r1 h1 => by
    obtain ⟨rfl, h1⟩ := l0_inv h1
    exact hr A env Ok ρ s1 pos _ (H.ext e1) h1 E _ fun vs s2 xs e2 r2 h2 => q _ s2 _ (e1.trans e2) ⟨.cons (r1.ext e2).r.rep0 r2.1, mem_cons_all r1.z r2.2⟩ h2)
theorem starOf_list {W : Wld} {a : Addr} {vs : List Value} {E : Value → Shared → Prop} {Q : List Value → Shared → Prop} (ha : s.heap.PlainList a vs.toArray) (hz : vs.length ≤ LST) (q : ∀ s', Ext s s' → Q vs s') : StarOf W.M A E (.ref a) Q s := by
  obtain ⟨n, ho⟩ := ha
  exact wpAny_bind (wpAny_specialOf ⟨_, ho, rfl⟩ F.slot_list_iter.lookup (wpAny_pure ⟨rfl, wpAny_collect_seq a (T := "list") (.inl rfl) ho rfl rfl (fun h' hk => q _ ⟨⟨rfl, rfl⟩, hk⟩) (lst_size hz)⟩))
theorem star_run {a : ME} {e : Expr} {Z : List PV → Prop} (ha : SE C a e) (H : Here C A env Ok ρ s) (h : (evA C.Γ a ρ).val fun x l => l1 l (listP x Z)) {E : Value → Shared → Prop} {Q : List Value → Shared → Prop}
    (q : ∀ vs s' xs, Ext s s' → Vals s'.heap Ok vs xs → Z xs → Q vs s') : wpAny C.W.M A (eval e env) (fun v s' => StarOf C.W.M A E v Q s') E s :=
  ha A env Ok ρ s _ H h E _ fun v s1 x l e1 r1 h1 => by
    obtain ⟨hl, h1⟩ := l1_inv h1
    obtain ⟨xs, rfl, h1⟩ := list_inv h1
    obtain ⟨a', vs, rfl, q1, _, q2, _⟩ := r1.r.inv
    exact starOf_list q1 ((q2 hl).length ▸ r1.z.list_len) fun s2 e2 => q vs s2 xs (e1.trans e2) ⟨(q2 hl).ext e2, r1.z.list_all⟩ h1
theorem sl_star {a r : ME} {e : Expr} {p : Pos} {rest : List Expr} (ha : SE C a e) (hr : SL C r rest) : SL C (.star a r) (.Starred e p :: rest) :=
  fun A env Ok ρ s pos Z H h E R q => ks_spliced (star_run ha H h fun vs s1 xs e1 r1 h1 =>
    hr A env Ok ρ s1 pos _ (H.ext e1) h1 E _ fun ws s2 ys e2 r2 h2 => q _ s2 _ (e1.trans e2) ⟨.append (r1.1.ext e2) r2.1, fun y hy => (List.mem_append.mp hy).elim (r1.2 y) (r2.2 y)⟩ h2)
end
end Mine
end
noncomputable section
namespace Mine
open Builtin

/-- what a def of the program does, told by a plain function -/
def FunOk (W : Wld) (k : Nat) (fa : Addr) (F : Fn) : Prop :=
  ∀ A s Ok vs xs Z, RoomF A k → W.On s.heap → Fresh Ok s → Vals s.heap Ok vs xs → F xs Z →
    ∀ R : Result → Shared → Prop, (∀ v s' z, Ext s s' → Rep s'.heap Ok v z → Sz z → Z z → R (.ok (.ret v)) s') → codeAny W.M A (.call (.ref fa) ⟨vs, []⟩) R s
theorem RoomF.mono {A : Around} {k k' : Nat} (r : RoomF A k') (h : k ≤ k') : RoomF A k := ⟨r.hd, by have := r.dep; omega, by have := r.un; omega⟩
theorem FunOk.mono {W : Wld} {k k' : Nat} {fa : Addr} {F : Fn} (f : FunOk W k fa F) (h : k ≤ k') : FunOk W k' fa F :=
  fun A s Ok vs xs z hr => f A s Ok vs xs z (hr.mono h)
/-- the names of the defs that the evaluator may call, and what stands behind them -/
def GOk (W : Wld) (k : Nat) (Γ : FEnv) (fns : List Str) : Prop :=
  ∀ (f : Nat) (name : Str), fns[f]? = some name → ∃ fa o fd, W.glob name = some (.ref fa) ∧ W.K.lookup fa = some o ∧ o.data = .func fd ∧ FunOk W k fa (getF Γ f)

section
variable {C : Cx} {A : Around} {env : Env} {Ok : Addr → Prop} {ρ : List Slt} {s s' : Shared}
theorem evalArgs_of {M : Model} {E : Value → Shared → Prop} {f : Value} {args : List (Bool × Sem Value)} {Q : Args → Shared → Prop} (hne : ∀ x, args ≠ [(true, x)])
    (h : wpAny M A (spliced args) (fun vs s' => Q ⟨vs, []⟩ s') E s) : wpAny M A (evalArgs f true args []) Q E s := by
  have go : ∀ (a : Bool × Sem Value) (r : List (Bool × Sem Value)), a.1 = false ∨ r ≠ [] → wpAny M A (spliced (a :: r)) (fun vs s' => Q ⟨vs, []⟩ s') E s → wpAny M A (evalArgs f true (a :: r) []) Q E s := by
    rintro ⟨b, x⟩ r hb h
    cases b with
    | false => exact Calls.evalArgs_plain h
    | true =>
      cases r with
      | nil => exact hb.elim (fun e => nomatch e) fun e => absurd rfl e
      | cons y rest =>
        unfold evalArgs
        show wpAny M A (spliced ((true, x) :: y :: rest) >>= _) Q E s
        exact wpAny_bind (wpAny_mono h (fun vs s' h' => wpAny_holding (wpAny_bind (wpAny_pure (wpAny_bind (wpAny_pure (wpAny_pure h')))))) fun _ _ x => x)
  cases args with
  | nil =>
    unfold evalArgs
    show wpAny M A (spliced [] >>= _) Q E s
    exact wpAny_bind (wpAny_mono h (fun vs s' h' => wpAny_holding (wpAny_bind (wpAny_pure (wpAny_bind (wpAny_pure (wpAny_pure h')))))) fun _ _ x => x)
  | cons a r =>
    refine go a r ?_ h
    obtain ⟨b, x⟩ := a
    cases b with
    | false => exact .inl rfl
    | true => exact .inr fun e => hne x (by rw [e])
/-- arguments, as a call takes them -/
def SA (C : Cx) (me : ME) (es : List Expr) : Prop := ∀ A env Ok ρ s pos f Z, Here C A env Ok ρ s → (evA C.Γ me ρ).lst Z →
  ∀ (E : Value → Shared → Prop) (R : Args → Shared → Prop), (∀ vs s' xs, Ext s s' → Vals s'.heap Ok vs xs → Z xs → R ⟨vs, []⟩ s') → wpAny C.W.M A (evalArgs f true (backTo pos (starEach es env)) []) R E s
theorem sa_lone {a : ME} {e : Expr} {p : Pos} (ha : SE C a e) : SA C (.star a .nil) [.Starred e p] :=
  fun A env Ok ρ s pos f Z H h E R q => ks_lone (star_run ha H h fun vs s1 xs e1 r1 h1 => q vs s1 xs e1 r1 (List.append_nil xs ▸ show Z (xs ++ []) from h1))
theorem starEach_len (es : List Expr) : (starEach es env).length = es.length := by
  induction es with
  | nil => rfl
  | cons e es ih => cases hs : notStar e with
    | true => rw [starEach_plain hs]; exact congrArg (· + 1) ih
    | false => cases e with
      | Starred _ _ => exact congrArg (· + 1) ih
      | _ => exact nomatch hs
theorem sa_of {me : ME} {es : List Expr} (h : SL C me es) (hl : es.length ≠ 1 ∨ ∃ e, es = [e] ∧ notStar e = true) : SA C me es :=
  fun A env Ok ρ s pos f Z H hz E R q => evalArgs_of (fun x hx => by
    have h1 := congrArg List.length hx
    unfold backTo at h1
    rw [List.length_map, starEach_len] at h1
    rcases hl with hl | ⟨e, rfl, hn⟩
    · exact hl h1
    · rw [starEach_plain hn] at hx; exact nomatch (Prod.mk.inj (List.cons.inj hx).1).1) (h A env Ok ρ s pos Z H hz E _ q)
/-- a def of the program, called by its name -/
theorem se_fn {fns : List Str} {f : Nat} {me : ME} {name : Str} {p pos : Pos} {es : List Expr} (G : GOk C.W C.k C.Γ fns) (hf : fns[f]? = some name) (hgl : C.cc.gl name = true) (hd : (name == ("__debug__" : Str)) = false)
    (h : SA C me es) : SE C (.fn f me) (.Call (.Name name p) es [] pos) := by
  intro A env Ok ρ s Q H hz E R q
  obtain ⟨fa, o, fd, hg, ho, hfd, hok⟩ := G f name hf
  refine wpAny_Call_ofName (name_global H hgl hg hd (Calls.callWith_function (o := o) (fd := fd) (h A env Ok ρ s pos _ _ H hz E _ fun vs s1 xs e1 r1 h1 => ?_)))
  have on' := H.on.ext e1
  exact ⟨⟨on'.frag _ _ ho, hfd⟩, wpAny_call (hok A s1 Ok vs xs _ H.room.toF on' (H.fresh.ext e1) r1 h1 _ fun v s2 z e2 r2 hz h2 => q v s2 z 0 (e1.trans e2) ⟨.zero r2, hz⟩ h2)⟩

/-! displays -/
theorem short_len {α : Type} (n : Nat) : ∀ xs : List α, shortN n xs = true → xs.length ≤ n := by
  induction n with
  | zero => intro xs h; cases xs with
    | nil => exact Nat.le_refl _
    | cons _ _ => exact nomatch h
  | succ n ih => intro xs h; cases xs with
    | nil => exact Nat.zero_le _
    | cons x r => exact Nat.succ_le_succ (ih r h)
theorem short_lst {xs : List PV} (h : shortN 64 xs = true) : xs.length ≤ LST := Nat.le_trans (short_len 64 xs h) (by decide)
/-- a list made anew -/
def SN (C : Cx) (me : ME) (e : Expr) : Prop := ∀ A env Ok ρ s Q, Here C A env Ok ρ s → (evA C.Γ me ρ).val Q →
  ∀ E R : Value → Shared → Prop, (∀ a vs s' xs, Ext s s' → s.heap.get? a = none → s'.heap.PlainList a vs.toArray → RepAll s'.heap (fun b => Ok b ∧ b ≠ a) vs xs → Sz (.list xs) → Q (.list xs) 0 → R (.ref a) s') → wpAny C.W.M A (eval e env) R E s
theorem sn_list {me : ME} {es : List Expr} {pos : Pos} (h : SL C me es) : SN C (.list me) (.List es pos) :=
  fun A env Ok ρ s Q H hz E R q => List_ (h A env Ok ρ s pos _ H hz E _ fun vs s1 xs e1 r1 h1 =>
    have hl := short_lst h1.1
    wpAny_newList (newlist_at 0 s1.toks r1.1 E _ fun a vs s2 e2 ha hp r => q a vs s2 xs (e1.trans e2) (e1.fresh ha) hp r (.list hl r1.2) h1.2) (by rw [r1.1.length]; exact lst_size hl))
theorem se_list {me : ME} {es : List Expr} {pos : Pos} (h : SL C me es) : SE C (.list me) (.List es pos) :=
  fun A env Ok ρ s Q H hz E R q => sn_list h A env Ok ρ s Q H hz E R fun a vs s1 xs e1 ha hp r hs h1 => q _ s1 _ 0 e1 ⟨.zero (.list (H.fresh a ha) hp (r.weaken fun _ x => x.1)), hs⟩ h1
theorem se_tup {me : ME} {es : List Expr} {n : Nat} {pos : Pos} (h : SL C me es) : SE C (.tup me) (.Tuple es n pos) :=
  fun A env Ok ρ s Q H hz E R q => Tuple_ (h A env Ok ρ s pos _ H hz E _ fun vs s1 xs e1 r1 h1 =>
    have hl := short_lst h1.1
    wpAny_newTuple (q _ _ _ 0 (e1.trans (.push _ _)) ⟨.zero (.tup (H.fresh.ext e1 _ (get_size _)) ⟨0, Heap.get?_push_size _ rfl⟩ (r1.1.ext (.push _ _))), .tup hl r1.2⟩ h1.2) (by rw [r1.1.length]; exact lst_size hl))

/-! items and cuts -/
theorem letGo_is (P : Sem Unit → Prop) (base : Expr) (o r : Value) (h1 : P (pure ())) (h2 : P (do let _ ← holding [r] (runValue (.builtin "proto.let_go" {})); pure ())) : P (letTemporaryGo base o r) := by
  cases base with
  | Name _ _ => exact h1
  | _ =>
    cases o with
    | ref a => exact h2
    | _ => exact h1
theorem letGo_ok {E : Value → Shared → Prop} {base : Expr} {o r : Value} {Q : Unit → Shared → Prop} (q : Q () s) : wpAny C.W.M A (letTemporaryGo base o r) Q E s := by
  refine letGo_is (fun t => wpAny C.W.M A t Q E s) base o r (wpAny_pure q) (wpAny_bind (wpAny_holding (wpAny_runValue (codeAny_builtin entry_let_go ?_))))
  rw [Around.under_plainId plain_let_go]
  exact wpAny_pure (wpAny_pure q)
theorem sub_is (slice : Expr) (o i : Value) : ∃ l, subscripted slice false o i = operate l (getItem o i) := by
  cases slice with
  | Slice l u st p => cases st <;> exact ⟨_, rfl⟩
  | _ => exact ⟨_, rfl⟩
theorem subscript_of {value slice : Expr} {pos : Pos} {E Q : Value → Shared → Prop}
    (h : wpAny C.W.M A (eval value env) (fun o s₁ => wpAny C.W.M A (eval slice env) (fun i s₂ => (∃ T id, s₂.TypeIs o T ∧ typeLookup (.type T) "__getitem__" = pure (some (.builtin id))) ∧ wpAny C.W.M A (getItem o i) Q E s₂) E s₁) E s) :
    wpAny C.W.M A (eval (.Subscript value slice pos) env) Q E s := by
  rw [eval_Subscript]
  refine wpAny_bind (wpAny_mono h (fun o s₁ h₁ => wpAny_bind (wpAny_holding (wpAny_mono h₁ (fun i s₂ h₂ => wpAny_bind (wpAny_standAt ?_)) fun _ _ x => x))) fun _ _ x => x)
  obtain ⟨⟨T, id, hT, hl⟩, hg⟩ := h₂
  obtain ⟨l, el⟩ := sub_is slice o i
  refine wpAny_bind ?_
  rw [getitemInPython_of_ne hT.not_modules]
  refine wpAny_bind (wpAny_specialOf hT hl (wpAny_pure (wpAny_bind ?_)))
  show wpAny C.W.M A (subscripted slice false o i) _ E s₂
  rw [el]
  exact wpAny_operating (wpAny_mono hg (fun r s₃ h₃ => wpAny_bind (letGo_ok (wpAny_pure h₃))) fun _ _ x => x)
theorem idx_itemable {x y : PV} {l : Nat} {Q : PV → Nat → Prop} (h : idxP x l y Q) : itemable x True := by
  cases x <;> first | exact trivial | exact h.elim
theorem cut_itemable {x y z : PV} {Q : PV → Prop} (h : cutP x y z Q) : itemable x True := by
  cases x <;> first | exact trivial | exact h.elim
theorem se_idx {a i : ME} {value slice : Expr} {pos : Pos} (ha : SE C a value) (hi : SE C i slice) : SE C (.idx a i) (.Subscript value slice pos) :=
  fun A env Ok ρ s Q H h E R q => subscript_of (C := C) (ha A env Ok ρ s _ H h E _ fun v s1 x lx e1 r1 h1 => hi A env Ok ρ s1 _ (H.ext e1) h1 E _ fun u s2 y ly e2 r2 h2 =>
    ⟨(getitem_builtin (r1.ext e2).r (idx_itemable h2)).1, idx_sound (r1.ext e2) r2 h2 E R fun w s3 z lz e3 => q w s3 z lz ((e1.trans e2).trans e3)⟩)
theorem spt_none : SPt C (.lit .none) none := fun A env Ok ρ s Q H h E R q => wpAny_pure (q _ _ _ _ (.refl _) ⟨.zero .none, .none⟩ h)
theorem spt_some {me : ME} {e : Expr} (h : SE C me e) : SPt C me (some e) := h
theorem se_cut {a lo hi : ME} {value : Expr} {l u : Option Expr} {p pos : Pos} (ha : SE C a value) (hl : SPt C lo l) (hu : SPt C hi u) : SE C (.cut a lo hi) (.Subscript value (.Slice l u none p) pos) :=
  fun A env Ok ρ s Q H h E R q => subscript_of (C := C) (ha A env Ok ρ s _ H h E _ fun v s1 x lx e1 r1 h1 => wpAny_Slice (hl A env Ok ρ s1 _ (H.ext e1) h1 E _ fun v2 s2 y ly e2 r2 h2 => hu A env Ok ρ s2 _ ((H.ext e1).ext e2) h2 E _ fun v3 s3 z lz e3 r3 h3 => by
    show wpAny C.W.M A (pure Value.none) _ E s3
    refine wpAny_pure ?_
    obtain ⟨hlx, h4⟩ := l1_inv h3
    obtain ⟨rfl, h5⟩ := l0_inv h4
    obtain ⟨rfl, h6⟩ := l0_inv h5
    have ep := Ext.push s3 { cls := .type "slice", data := .fields #[v2, v3, .none] }
    have r1' := ((r1.ext e2).ext e3).ext ep
    refine ⟨(getitem_builtin r1'.r (cut_itemable h6)).1, (cut_sound ((((H.ext e1).ext e2).ext e3).at.ext ep) r1' hlx ((r2.ext e3).ext ep).r.rep0 (r3.ext ep).r.rep0 ⟨_, Heap.get?_push_size _ rfl, rfl, rfl⟩ h6).ev E R fun w s5 z lz e5 => q w s5 z lz ((((e1.trans e2).trans e3).trans ep).trans e5)⟩))
end
end Mine
end
noncomputable section
namespace Mine
open Builtin
section
variable {C : Cx} {A : Around} {env : Env} {Ok : Addr → Prop} {ρ : List Slt} {s s' : Shared}

/-! a call of a builtin function or class by its name, with plain arguments -/
theorem call_named {name : Str} {f : Value} {p pos : Pos} {es : List Expr} {E Q : Value → Shared → Prop} (H : Here C A env Ok ρ s) (hgl : C.cc.gl name = true) (hg : C.W.glob name = some f) (hd : (name == ("__debug__" : Str)) = false)
    (hf : (∃ id, f = .builtin id) ∨ ∃ T, f = .type T) (hpl : (backTo pos (starEach es env)).any (·.1) = false)
    (h : wpAny C.W.M A (spliced (backTo pos (starEach es env))) (fun vs s' => wpAny C.W.M A (call f vs) Q E s') E s) :
    wpAny C.W.M A (eval (.Call (.Name name p) es [] pos) env) Q E s := by
  refine wpAny_Call_ofName (name_global H hgl hg hd ?_)
  have ha : wpAny C.W.M A (evalArgs f true (backTo pos (starEach es env)) []) (fun a s₁ => wpAny C.W.M A (call f ([] ++ a.pos) a.kw) Q E s₁) E s :=
    evalArgs_of (fun x hx => nomatch (hx ▸ hpl : ([(true, x)] : List (Bool × Sem Value)).any (·.1) = false)) h
  rcases hf with ⟨id, rfl⟩ | ⟨T, rfl⟩
  · exact Calls.callWith_builtin hpl ha
  · exact PySem.callWith_type hpl ha
theorem plain_one {e : Expr} {pos : Pos} (h : notStar e = true) : (backTo pos (starEach [e] env)).any (·.1) = false := by
  rw [starEach_plain h]; rfl
theorem plain_two {e e' : Expr} {pos : Pos} (h : notStar e = true) (h' : notStar e' = true) : (backTo pos (starEach [e, e'] env)).any (·.1) = false := by
  rw [starEach_plain h, starEach_plain h']; rfl
theorem spliced_one {M : Model} {e : Expr} {pos : Pos} {E : Value → Shared → Prop} {Q : List Value → Shared → Prop} (h : notStar e = true) (q : wpAny M A (eval e env) (fun v s' => Q [v] s') E s) :
    wpAny M A (spliced (backTo pos (starEach [e] env))) Q E s := by
  rw [starEach_plain h]
  exact Calls.spliced_cons (wpAny_mono q (fun v s' hq => Calls.spliced_nil hq) fun _ _ x => x)
theorem spliced_two {M : Model} {e e' : Expr} {pos : Pos} {E : Value → Shared → Prop} {Q : List Value → Shared → Prop} (h : notStar e = true) (h' : notStar e' = true) (q : wpAny M A (eval e env) (fun v s' => wpAny M A (eval e' env) (fun u s'' => Q [v, u] s'') E s') E s) :
    wpAny M A (spliced (backTo pos (starEach [e, e'] env))) Q E s := by
  rw [starEach_plain h, starEach_plain h']
  exact Calls.spliced_cons (wpAny_mono q (fun v s' hq => Calls.spliced_cons (wpAny_mono hq (fun u s'' hq => Calls.spliced_nil hq) fun _ _ x => x)) fun _ _ x => x)
theorem se_bi1 {b : BI1} {a : ME} {e : Expr} {p pos : Pos} (ok : Bi1Ok C.W b) (hgl : C.cc.gl b.nameS = true) (hg : C.W.glob b.nameS = some b.valV) (hn : notStar e = true) (ha : SE C a e) :
    SE C (.bi1 b a) (.Call (.Name b.nameS p) [e] [] pos) :=
  fun A env Ok ρ s Q H h E R q => call_named H hgl hg (by cases b <;> decide) (by cases b <;> first | exact .inl ⟨_, rfl⟩ | exact .inr ⟨_, rfl⟩) (plain_one hn) (spliced_one hn (ha A env Ok ρ s _ H h E _ fun v s1 x l e1 r1 h1 =>
    (ok A s1 Ok l v x _ (H.ext e1).at r1 h1).ev E R fun w s2 z lz e2 => q w s2 z lz (e1.trans e2)))
theorem se_bi2 {b : BI2} {a c : ME} {e f : Expr} {p pos : Pos} (ok : Bi2Ok C.W b) (hgl : C.cc.gl b.nameS = true) (hg : C.W.glob b.nameS = some b.valV) (hn : notStar e = true) (hn' : notStar f = true) (ha : SE C a e) (hc : SE C c f) :
    SE C (.bi2 b a c) (.Call (.Name b.nameS p) [e, f] [] pos) :=
  fun A env Ok ρ s Q H h E R q => call_named H hgl hg (by cases b <;> decide) (by cases b <;> exact .inl ⟨_, rfl⟩) (plain_two hn hn') (spliced_two hn hn' (ha A env Ok ρ s _ H h E _ fun v s1 x l e1 r1 h1 => hc A env Ok ρ s1 _ (H.ext e1) h1 E _ fun u s2 y l' e2 r2 h2 => by
    obtain ⟨rfl, h3⟩ := l0_inv h2
    obtain ⟨rfl, h4⟩ := l0_inv h3
    exact (ok A s2 Ok v u x y _ ((H.ext e1).ext e2).at (r1.ext e2) r2 h4).ev E R fun w s3 z lz e3 => q w s3 z lz ((e1.trans e2).trans e3)))
/-- the receiver is not the call of a name without arguments -/
def notSuper : Expr → Bool
  | .Call _ (_ :: _) _ _ => true
  | .Call _ [] _ _ => false
  | _ => true
theorem base_plain {o : Expr} {name : Str} {whole : Sem Value} (h : notSuper o = true) : attributeBase o name env whole = whole := by
  cases o with
  | Call f as _ _ => cases as with
    | nil => exact nomatch h
    | cons _ _ => cases f <;> rfl
  | _ => rfl
theorem se_meth {m : Meth} {r a : ME} {o e : Expr} {apos pos : Pos} (ok : MethOk C.W m) (ho : notSuper o = true) (hline : (apos.endLine == pos.line) = true) (hn : notStar e = true) (hr : SE C r o) (ha : SE C a e) :
    SE C (.meth m r a) (.Call (.Attribute o m.nameS apos) [e] [] pos) := by
  intro A env Ok ρ s Q H h E R q
  rw [arm_eval_Call, base_plain ho]
  refine wpAny_bind (hr A env Ok ρ s _ H h E _ fun ov s1 x lx e1 r1 h1 => wpAny_bind (wpAny_standAt ?_))
  have hform : methodCallForm (([e] : List Expr).length + ([] : List Keyword).length) (backTo pos (starEach [e] env)) (backToKw pos (keywordEach [] env)) = true := by
    rw [starEach_plain hn]; rfl
  have hpos : methodCallPos true o env apos pos = pure pos := if_pos (by rw [hline]; rfl)
  unfold methodCall
  rw [hform]
  refine wpAny_bind (wpAny_holding (ok.get A s1 Ok lx ov x _ _ E _ r1 h1 fun h1 => wpAny_bind (wpAny_of_eq hpos ?_)))
  refine Calls.callWith_builtin (plain_one hn) (evalArgs_of (fun y hy => ?_) (spliced_one hn (ha A env Ok ρ s1 _ (H.ext e1) h1 E _ fun u s2 y ly e2 r2 h2 => ?_)))
  · rw [starEach_plain hn] at hy; exact nomatch (Prod.mk.inj (List.cons.inj hy).1).1
  · obtain ⟨hl, h3⟩ := l1_inv h2
    exact (ok.run A s2 Ok lx ly ov u x y _ ((H.ext e1).ext e2).at (r1.ext e2) r2 hl h3).ev E R fun w s3 z lz e3 => q w s3 z lz ((e1.trans e2).trans e3)

/-! sources of loops -/
theorem si_val {me : ME} {e : Expr} (h : SE C me e) (hm : ∀ ρ Z, (evA C.Γ me ρ).its Z = (evA C.Γ me ρ).val fun x l => itsP x l Z) : SI C me e :=
  fun A env Ok ρ s Z H hz E R q => h A env Ok ρ s _ H (hm ρ Z ▸ hz) E _ fun v s1 x l e1 r1 h1 => its_inv r1 h1 fun it s2 xs l' e2 hi sz z => q it s2 xs l' (e1.trans e2) (hi.back e1) sz z
theorem range_sz {a b : Int} (h : RangeOk a b) : Sz (.list (rangeF a b)) :=
  .list (by unfold rangeF; rw [List.length_map, List.length_range]; exact lim_lst h.2.2.2.2) fun x hx => by
    obtain ⟨k, _, rfl⟩ := List.mem_map.mp hx
    exact .int _
theorem si_range {lo hi : ME} {e f : Expr} {p pos : Pos} (hgl : C.cc.gl "range" = true) (hg : C.W.glob "range" = some (.type "range")) (hn : notStar e = true) (hn' : notStar f = true) (ha : SE C lo e) (hc : SE C hi f) :
    SI C (.range lo hi) (.Call (.Name "range" p) [e, f] [] pos) :=
  fun A env Ok ρ s Z H h E R q => call_named H hgl hg (by decide) (.inr ⟨_, rfl⟩) (plain_two hn hn') (spliced_two hn hn' (ha A env Ok ρ s _ H h E _ fun v s1 x l e1 r1 h1 => hc A env Ok ρ s1 _ (H.ext e1) h1 E _ fun u s2 y l' e2 r2 h2 => by
    obtain ⟨a, rfl, h3⟩ := int_inv h2
    obtain ⟨b, rfl, hb, z⟩ := int_inv h3
    exact iter_range hb (r1.ext e2).r.inv r2.r.inv fun it s3 e3 hi => q it s3 _ 0 ((e1.trans e2).trans e3) (hi.back (e1.trans e2)) (range_sz hb) z))
theorem si_range1 {hi : ME} {f : Expr} {p pos : Pos} (hgl : C.cc.gl "range" = true) (hg : C.W.glob "range" = some (.type "range")) (hn' : notStar f = true) (hc : SE C hi f) :
    SI C (.range (.lit (.int 0)) hi) (.Call (.Name "range" p) [f] [] pos) :=
  fun A env Ok ρ s Z H h E R q => call_named H hgl hg (by decide) (.inr ⟨_, rfl⟩) (plain_one hn') (spliced_one hn' (hc A env Ok ρ s _ H h E _ fun u s2 y l' e2 r2 h2 => by
    obtain ⟨b, rfl, hb, z⟩ := int_inv (x := y) h2
    exact iter_range1 hb r2.r.inv fun it s3 e3 hi => q it s3 _ 0 (e2.trans e3) (hi.back e2) (range_sz hb) z))
end

/-! ## keeping all but some places -/
structure KeepBut (X : Addr → Prop) (s s' : Shared) : Prop where
  same : Same s s'
  keep : ∀ b o, ¬ X b → s.heap.get? b = some o → s'.heap.get? b = some o
section
variable {X Y Ok Ok' : Addr → Prop} {s s' s1 a b c : Shared} {v : Value} {x : PV} {vs : List Value} {xs : List PV}
theorem KeepBut.refl (X : Addr → Prop) (s : Shared) : KeepBut X s s := ⟨⟨rfl, rfl⟩, fun _ _ _ e => e⟩
theorem KeepBut.trans (x : KeepBut X a b) (y : KeepBut X b c) : KeepBut X a c :=
  ⟨x.same.trans y.same, fun b o hb e => y.keep b o hb (x.keep b o hb e)⟩
theorem Ext.but (e : Ext s s') : KeepBut X s s' := ⟨e.same, fun b o _ => e.keep b o⟩
theorem KeepBut.mono (e : KeepBut X s s') (h : ∀ b, X b → Y b) : KeepBut Y s s' := ⟨e.same, fun b o hb => e.keep b o fun hx => hb (h b hx)⟩
theorem KeepBut.of_same {a : Addr} {h' : Heap} (h : Heap.SameBut a s.heap h') (hx : X a) (t : Nat) : KeepBut X s { s with heap := h', toks := t } :=
  ⟨⟨rfl, rfl⟩, fun b o hb e => h.extBut b o (fun q => hb (q ▸ hx)) e⟩
/-- what is new to a state may be changed -/
theorem KeepBut.after (e1 : Ext s s1) (e : KeepBut X s1 s') (h : ∀ b, X b → s.heap.get? b = none) : Ext s s' :=
  ⟨(e1.but.trans e).same, fun b o ho => e.keep b o (fun hx => nomatch (h b hx).symm.trans ho) (e1.keep b o ho)⟩
theorem KeepBut.moves (e : KeepBut X s s') (h : ∀ b, Ok b → SeqAt s.heap b → Ok' b ∧ ¬ X b) : Moves s.heap s'.heap Ok Ok' := fun a ha hs => ⟨(h a ha hs).1, fun o => e.keep a o (h a ha hs).2⟩
end
end Mine
end
noncomputable section
namespace Mine
open Builtin

/-! ## comprehensions -/
def CC.comp (cc : CC) (scope : Scope) (x : Str) : CC where
  σ := fun y => if y = x then some cc.n else if scope.names.lookup y = some .free then cc.σ y else none
  gl := fun y => decide (scope.names.lookup y = some .globalImplicit)
  cl := fun y => decide (scope.names.lookup y = some .free)
  n := cc.n + 1
def Cx.comp (C : Cx) (scope : Scope) (x : Str) : Cx := { C with cc := C.cc.comp scope x }
structure CompOk (cc : CC) (scope : Scope) (x : Str) : Prop where
  kind : scope.kind = .function
  free : ∀ y ∈ scope.names, y.2 = .free → cc.cl y.1 = true
  nocell : ∀ y ∈ scope.names, y.2 ≠ .cell
  names : ∀ y ∈ scope.names, y.2 = .local → scope.names.lookup y.1 = some .local
  loc : scope.names.lookup x = some .local
  lt : ∀ y i, cc.σ y = some i → i < cc.n

section
variable {α β : Type} [BEq α] [LawfulBEq α] {a : α} {b : β} {l : List (α × β)}
theorem lookup_mem (h : l.lookup a = some b) : (a, b) ∈ l := by
  induction l with
  | nil => exact nomatch h
  | cons p r ih =>
    rw [List.lookup_cons] at h
    cases q : a == p.1 with
    | true => rw [q] at h; rw [eq_of_beq q, ← Option.some.inj h]; exact .head _
    | false => rw [q] at h; exact .tail _ (ih h)
theorem lookup_map {f : α × β → α × β} (hf : ∀ p, (f p).1 = p.1) (h : l.lookup a = some b) : (l.map f).lookup a = some (f (a, b)).2 := by
  induction l with
  | nil => exact nomatch h
  | cons p r ih =>
    obtain ⟨x, y⟩ := p
    rw [List.lookup_cons] at h
    rw [List.map_cons, show f (x, y) = (x, (f (x, y)).2) from Prod.ext (hf _) rfl, List.lookup_cons]
    cases q : a == x with
    | true => rw [q] at h; rw [← Option.some.inj h, eq_of_beq q]
    | false => rw [q] at h; exact ih h
end
theorem ite_fst {c : Prop} [Decidable c] {n : Str} {k k' : NameKind} : (if c then (n, k) else (n, k')).1 = n := by split <;> rfl
theorem comp_kind {scope : Scope} {env : Env} {cl : List (Str × Addr)} {B : Addr} {x : Str} {k : NameKind} (h : scope.names.lookup x = some k) :
    (compEnvC scope cl B env).kindOf x = some k ∨ (k = .free ∧ (compEnvC scope cl B env).kindOf x = some .cell) := by
  have e := lookup_map (f := fun (n, k) => if (k == NameKind.free && env.scope.kind == .function && env.kindOf n == some .cell) = true then (n, NameKind.cell) else (n, k)) (fun p => ite_fst) h
  by_cases hc : (k == NameKind.free && env.scope.kind == .function && env.kindOf x == some .cell) = true
  · refine .inr ⟨?_, e.trans (congrArg (fun p : Str × NameKind => some p.2) (if_pos hc))⟩
    cases k <;> first | rfl | exact nomatch hc
  · exact .inl (e.trans (congrArg (fun p : Str × NameKind => some p.2) (if_neg hc)))

theorem closure_go {env : Env} {names : List (Str × NameKind)} : ∀ (cs : List (Str × Addr)), (∀ y ∈ names, y.2 = .free → ∃ c, env.cells.lookup y.1 = some c) →
    (∀ y c, cs.lookup y = some c → env.cells.lookup y = some c) →
    ∃ cl : List (Str × Addr), (forIn names cs fun (p : Str × NameKind) (r : List (Str × Addr)) =>
      (if (p.2 == NameKind.free) = true then do
        let c ← cellOf env p.1
        pure (ForInStep.yield ((p.1, c) :: r))
      else pure (ForInStep.yield r) : Sem (ForInStep (List (Str × Addr))))) = pure cl ∧ (∀ y c, cl.lookup y = some c → env.cells.lookup y = some c) ∧
      ∀ y, ((y, NameKind.free) ∈ names ∨ (cs.lookup y).isSome = true) → (cl.lookup y).isSome = true := by
  induction names with
  | nil => exact fun cs _ h => ⟨cs, rfl, h, fun y hy => hy.elim (fun h => nomatch h) id⟩
  | cons p r ih =>
    intro cs hn h
    obtain ⟨n, k⟩ := p
    rw [List.forIn_cons]
    by_cases hk : (k == NameKind.free) = true
    · have hk' : k = .free := by cases k <;> first | rfl | exact nomatch hk
      subst hk'
      obtain ⟨c, hc⟩ := hn (n, .free) (.head _) rfl
      have e1 : cellOf env n = pure c := by unfold cellOf; rw [hc]
      obtain ⟨cl, h1, h2, h3⟩ := ih ((n, c) :: cs) (fun y hy => hn y (.tail _ hy)) (fun y c' hy => by
        rw [List.lookup_cons] at hy
        cases q : y == n with
        | true => rw [q] at hy; rw [eq_of_beq q, ← Option.some.inj hy]; exact hc
        | false => rw [q] at hy; exact h y c' hy)
      refine ⟨cl, ?_, h2, fun y hy => h3 y ?_⟩
      · rw [if_pos hk, e1]; exact h1
      · rw [List.lookup_cons]
        cases q : y == n with
        | true => exact .inr rfl
        | false => exact hy.imp_left fun hy => (List.mem_cons.mp hy).elim (fun e => nomatch q.symm.trans (beq_iff_eq.mpr (Prod.mk.inj e).1)) id
    · obtain ⟨cl, h1, h2, h3⟩ := ih cs (fun y hy => hn y (.tail _ hy)) h
      refine ⟨cl, ?_, h2, fun y hy => h3 y (hy.imp_left fun hy => (List.mem_cons.mp hy).elim (fun e => absurd (beq_iff_eq.mpr (Prod.mk.inj e).2.symm) hk) id)⟩
      rw [if_neg hk]; exact h1
theorem closure_of {env : Env} {scope : Scope} (h : ∀ y ∈ scope.names, y.2 = .free → ∃ c, env.cells.lookup y.1 = some c) :
    ∃ cl, closureFor scope env = pure cl ∧ ∀ y, scope.names.lookup y = some .free → cl.lookup y = env.cells.lookup y := by
  obtain ⟨cl, h1, h2, h3⟩ := closure_go (env := env) [] h (fun y c hy => nomatch hy)
  refine ⟨cl, ?_, fun y hy => ?_⟩
  · unfold closureFor
    show (forIn scope.names [] _ >>= fun cs => pure cs) = _
    rw [show (forIn scope.names ([] : List (Str × Addr)) _ : Sem (List (Str × Addr))) = pure cl from h1]
    rfl
  · have h4 := h3 y (.inl (lookup_mem hy))
    cases q : cl.lookup y with
    | none => rw [q] at h4; exact nomatch h4
    | some c => exact (h2 y c q).symm

section
variable {xs : List Slt} {y : Slt}
theorem get_old {i : Nat} (h : i < xs.length) : getS (xs ++ [y]) i = getS xs i := by
  induction xs generalizing i with
  | nil => exact nomatch h
  | cons a r ih => cases i with
    | zero => rfl
    | succ i => exact ih (Nat.lt_of_succ_lt_succ h)
theorem get_last : getS (xs ++ [y]) xs.length = y := by
  induction xs with
  | nil => rfl
  | cons a r ih => exact ih
end
section
variable {C : Cx} {A : Around} {env : Env} {Ok Ok' : Addr → Prop} {ρ : List Slt} {s s' : Shared}
theorem Val.ext' {W : Wld} {l : Nat} {v : Value} {x : PV} (r : Val W s.heap Ok l v x) (e : Ext s s') (h : ∀ b, Ok b → SeqAt s.heap b → Ok' b) : Val W s'.heap Ok' l v x := by
  have hk : Moves s.heap s'.heap Ok Ok' := fun a ha hs => ⟨h a ha hs, fun o => e.keep a o⟩
  refine ⟨?_, r.z⟩
  obtain ⟨r, _⟩ := r
  cases r with
  | zero r => exact .zero (r.mono hk)
  | one q r => exact .one (q.at fun o => e.keep _ o) (r.mono hk)
  | two q r => exact .two (q.at fun o => e.keep _ o) (r.mono hk fun b _ o => e.keep b o)
  | dict q => exact .dict (q.mono hk fun o => e.keep _ o)
theorem here_comp {scope : Scope} {x : Str} {cl : List (Str × Addr)} {B : Addr} {m : Str → Option Value} {v : Value} {px : PV} (H : Here C A env Ok ρ s) (hc : CompOk C.cc scope x)
    (hcl : ∀ y, scope.names.lookup y = some .free → cl.lookup y = env.cells.lookup y) (e : Ext s s') (hn : s'.heap.Ns B m) (hv : m x = some v) (hr : Rep s'.heap Ok' v px) (hz : Sz px) (fr : Fresh Ok' s') (hok : ∀ b, Ok b → SeqAt s.heap b → Ok' b) :
    Here (C.comp scope x) A (compEnvC scope cl B env) Ok' (ρ ++ [some (px, 0)]) s' where
  room := H.room
  on := H.on.ext e
  fresh := fr
  kind := hc.kind
  globals := H.globals
  builtins := H.builtins
  len := by rw [List.length_append, H.len]; rfl
  get := by
    intro y i pv l hy hρ
    have hy : (if y = x then some C.cc.n else if scope.names.lookup y = some .free then C.cc.σ y else none) = some i := hy
    by_cases q : y = x
    · rw [if_pos q] at hy
      rw [← Option.some.inj hy, ← H.len, get_last] at hρ
      cases hρ
      exact ⟨v, .inl ⟨q ▸ lookup_relabel_local hc.loc, m, hn, q ▸ hv⟩, .zero hr, hz⟩
    · rw [if_neg q] at hy
      by_cases q2 : scope.names.lookup y = some .free
      · rw [if_pos q2] at hy
        rw [get_old (by rw [H.len]; exact hc.lt y i hy)] at hρ
        obtain ⟨u, h1, h2⟩ := H.get y i pv l hy hρ
        obtain ⟨hk, c, hc'⟩ := H.cl y (hc.free _ (lookup_mem q2) rfl)
        refine ⟨u, ?_, h2.ext' e hok⟩
        rcases h1 with ⟨h1, _⟩ | ⟨_, c', h3, h4⟩
        · exact hk.elim (fun hk => nomatch h1.symm.trans hk) fun hk => nomatch h1.symm.trans hk
        · exact .inr ⟨(comp_kind q2).elim .inr fun h => .inl h.2, c', (hcl y q2).trans h3, h4.keeps e.keep⟩
      · rw [if_neg q2] at hy; exact nomatch hy
  gl := fun y hy => (comp_kind (of_decide_eq_true hy)).elim id fun h => nomatch h.1
  cl := fun y hy =>
    have q := of_decide_eq_true hy
    let ⟨_, c, hc'⟩ := H.cl y (hc.free _ (lookup_mem q) rfl)
    ⟨(comp_kind q).elim .inr fun h => .inl h.2, c, (hcl y q).trans hc'⟩

/-- the test of a comprehension -/
inductive IfsIs (C : Cx) : ME → List Expr → Prop
  | none : IfsIs C (.lit (.bool true)) []
  | some {c : ME} {e : Expr} : ST C c e → IfsIs C c [e]
theorem ifs_sound {cond : ME} {ifs : List Expr} {Z : Bool → Prop} {E : Value → Shared → Prop} {Q : Bool → Shared → Prop} (hi : IfsIs C cond ifs) (H : Here C A env Ok ρ s) (hb : (evA C.Γ cond ρ).tru Z) (q : ∀ b s', Ext s s' → Z b → Q b s') :
    wpAny C.W.M A (forIn ifs true fun c r => if r = true then do let ok ← isTrue c env (eval c env); pure (ForInStep.yield ok) else pure (ForInStep.yield r)) Q E s := by
  cases hi with
  | none => exact wpAny_tests_nil (q _ _ (.refl _) hb)
  | some hc => exact wpAny_tests_one (hc A env Ok ρ s _ H hb E _ fun b s' e z => q b s' e z)

/-- the places that a comprehension turns -/
def Chg (D B : Addr) (wr : List Addr) (b : Addr) : Prop := b = D ∨ b = B ∨ b ∈ wr
structure CInv (C : Cx) (Ok : Addr → Prop) (D B : Addr) (wr : List Addr) (St : Nat → Heap → Prop) (s0 s1 : Shared) (f : PV → (Bool → Prop) → Prop) (g : PV → (PV → Nat → Prop) → Prop) (xs : List PV) (Z : List PV → Prop) (i : Nat) (vs : List Value) (ys : List PV) (m : Str → Option Value) (s' : Shared) : Prop where
  le : i ≤ xs.length
  len : ys.length ≤ i
  kb : KeepBut (Chg D B wr) s1 s'
  st : St i s'.heap
  pl : s'.heap.PlainList D vs.toArray
  ra : RepAll s'.heap (fun b => Ok b ∧ ¬ Chg D B wr b) vs ys
  sz : ∀ y ∈ ys, Sz y
  ns : s'.heap.Ns B m
  run : compP f g (xs.drop i) fun zs => Z (ys ++ zs)
theorem comp_loop {elt iter : Expr} {x : Str} {px : Pos} {ifs : List Expr} {scope : Scope} {pos : Pos} {cl : List (Str × Addr)} {me cond : ME} {s0 s1 s2 : Shared} {I : Addr} {fp wr : List Addr} {P : Nat → Value → Prop} {St : Nat → Heap → Prop} {xs : List PV} {D B : Addr} {R : Result → Shared → Prop} {m : Str → Option Value} {z : Prop} {Z : List PV → Prop}
    (H : Here C A env Ok ρ s0) (hc : CompOk C.cc scope x) (hcl : ∀ y, scope.names.lookup y = some .free → cl.lookup y = env.cells.lookup y)
    (he : SE (C.comp scope x) me elt) (hi : IfsIs (C.comp scope x) cond ifs)
    (e1 : Ext s0 s1) (hit : Itr C.W Ok z s0 s1 xs I fp wr P St) (hxz : Sz (.list xs)) (e2 : Ext s1 s2) (hD : s1.heap.get? D = none) (hB : s1.heap.get? B = none) (hDB : D ≠ B) (hD2 : s2.heap.PlainList D #[]) (hB2 : s2.heap.Ns B m) (hDf : D ∉ fp) (hBf : B ∉ fp)
    (hev : compP (fun x => (evA C.Γ cond (ρ ++ [some (x, 0)])).tru) (fun x => (evA C.Γ me (ρ ++ [some (x, 0)])).val) xs Z)
    (hR : ∀ s' vs ys m', Ext s0 s' → s'.heap.PlainList D vs.toArray → RepAll s'.heap (fun b => Ok b ∧ b ≠ D) vs ys → Sz (.list ys) → Z ys → s'.heap.Ns B m' → R (.ok .next) s') :
    codeAny C.W.M A (.compLoop (.ListComp elt [⟨.Name x px, iter, ifs, 0⟩] scope pos) 0 (.ref I) (.ref D) (compEnvC scope cl B env)) R s2 := by
  have hw := hit.walks A H.room.hd
  have hDw : D ∉ wr := fun h => hDf (hw.sub _ h)
  have hBw : B ∉ wr := fun h => hBf (hw.sub _ h)
  have nw1 : ∀ b, Chg D B wr b → b ∉ wr → s1.heap.get? b = none := fun b h hb => h.elim (fun e => e ▸ hD) fun h => h.elim (fun e => e ▸ hB) fun h => absurd h hb
  have nw : ∀ b, Chg D B wr b → s0.heap.get? b = none := fun b h => h.elim (fun e => e ▸ e1.fresh hD) fun h => h.elim (fun e => e ▸ e1.fresh hB) (hit.new b)
  have hok : ∀ b, Ok b → SeqAt s0.heap b → Ok b ∧ ¬ Chg D B wr b := fun b hb ⟨_, _, _, ho, _⟩ => ⟨hb, fun h => nomatch (nw b h).symm.trans ho⟩
  have mv : ∀ {sa sb : Shared}, KeepBut (Chg D B wr) sa sb → Moves sa.heap sb.heap (fun b => Ok b ∧ ¬ Chg D B wr b) (fun b => Ok b ∧ ¬ Chg D B wr b) := fun kb => kb.moves fun b hb _ => ⟨hb, hb.2⟩
  refine codeAny_compLoop_tests (I := fun n s' => ∃ i vs ys m', n = xs.length - i ∧ CInv C Ok D B wr St s0 s1 (fun x => (evA C.Γ cond (ρ ++ [some (x, 0)])).tru) (fun x => (evA C.Γ me (ρ ++ [some (x, 0)])).val) xs Z i vs ys m' s') ?_ xs.length
    ⟨0, [], [], m, rfl, Nat.zero_le _, Nat.zero_le _, e2.but, hw.frame _ _ _ hit.st fun b _ o => e2.keep b o, hD2, .nil, (fun _ h => nomatch h), hB2, hev⟩
  rintro n s' ⟨i, vs, ys, m', rfl, V⟩
  by_cases hlt : i < xs.length
  · have hx0 : xs[i]? = some xs[i] := List.getElem?_eq_getElem hlt
    have hcf := V.run
    rw [List.drop_eq_getElem_cons hlt] at hcf
    revert hcf hx0
    generalize xs[i] = x0
    intro hx0 hcf
    refine hw.item i s' _ _ hlt V.st fun v h' tk hp st' hk => ?_
    have kba : KeepBut (Chg D B wr) s' { s' with heap := h', toks := tk } := ⟨⟨rfl, rfl⟩, fun b o hb ho => hk b o (fun h => hb (.inr (.inr h))) ho⟩
    have nsa : h'.Ns B m' := V.ns.at' fun o => hk B o hBw
    refine wpAny_assign_Name (wpAny_storeName_local (m := m') (lookup_relabel_local hc.loc) nsa (fun hb nsb sbb => ?_) (by unfold compEnvC relabel; rw [hc.kind]; rfl))
    have kb1 : KeepBut (Chg D B wr) s1 { s' with heap := hb, toks := tk + 1 } := V.kb.trans (kba.trans (KeepBut.of_same (s := { s' with heap := h', toks := tk }) sbb (.inr (.inl rfl)) (tk + 1)))
    have kb2 : KeepBut (Chg D B wr) s' { s' with heap := hb, toks := tk + 1 } := kba.trans (KeepBut.of_same (s := { s' with heap := h', toks := tk }) sbb (.inr (.inl rfl)) (tk + 1))
    have stb : St (i + 1) hb := hw.frame _ _ _ st' fun b hb o ho => sbb.extBut b o (fun h => hBf ((show b = B from h) ▸ hb)) ho
    have plb : hb.PlainList D vs.toArray := V.pl.at fun o ho => sbb.extBut D o hDB (hk D o hDw ho)
    revert nsb kb1 kb2 stb plb
    generalize hsb : ({ s' with heap := hb, toks := tk + 1 } : Shared) = sb
    intro nsb kb1 kb2 stb plb
    have nsb : sb.heap.Ns B (fun y => if y = x then some v else m' y) := by rw [← hsb]; exact nsb
    have stb : St (i + 1) sb.heap := by rw [← hsb]; exact stb
    have plb : sb.heap.PlainList D vs.toArray := by rw [← hsb]; exact plb
    have exb : Ext s0 sb := KeepBut.after e1 kb1 nw
    have Hb := here_comp (Ok' := fun b => Ok b ∧ ¬ Chg D B wr b) H hc hcl exb nsb (if_pos rfl) ((hit.item i v x0 hx0 hp).mono (kb1.moves fun b hb ⟨_, _, _, ho, _⟩ =>
        have : ¬ Chg D B wr b := fun h => nomatch (nw1 b h hb.2).symm.trans ho
        ⟨⟨hb.1, this⟩, this⟩)) (hxz.list_all _ (List.mem_of_getElem? hx0)) (fun a ha => ⟨H.fresh a (exb.fresh ha), fun h => h.elim (fun e => let ⟨_, ho⟩ := plb; nomatch (e ▸ ha).symm.trans ho) fun h => h.elim (fun e => let ⟨_, _, _, ho, _⟩ := nsb; nomatch (e ▸ ha).symm.trans ho) fun h => hit.there _ _ stb a h ha⟩) hok
    refine ifs_sound (C := C.comp scope x) hi Hb hcf fun b sc ec z => ?_
    cases b with
    | true =>
      rw [if_pos rfl]
      refine he A _ _ _ sc _ (Hb.ext ec) z _ _ fun w sd y l ed rw_ hz => ?_
      obtain ⟨rfl, hz⟩ := l0_inv hz
      have ex := ec.trans ed
      have hyl : (ys ++ [y]).length ≤ i + 1 := by rw [List.length_append]; exact Nat.succ_le_succ V.len
      refine wpAny_list_append_plain (plb.at fun o => ex.keep D o) (fun h5 pl5 sb5 => ?_) (by rw [List.size_toArray, V.ra.length]; exact lst_size (Nat.le_trans V.len (Nat.le_trans V.le hxz.list_len)))
      have kb5 : KeepBut (Chg D B wr) sd { sd with heap := h5 } := KeepBut.of_same sb5 (.inl rfl) sd.toks
      exact ⟨xs.length - (i + 1), Nat.sub_succ_lt_self _ _ hlt, i + 1, vs ++ [w], ys ++ [y], _, rfl, hlt, hyl, kb1.trans (ex.but.trans kb5), hw.frame _ _ _ stb fun b hb o ho => sb5.extBut b o (fun h => hDf (h ▸ hb)) (ex.keep b o ho), by rw [← List.push_toArray]; exact pl5,
        (((V.ra.mono (mv kb2)).ext ex).append (.cons rw_.r.rep0 .nil)).mono (mv kb5), fun u hu => (List.mem_append.mp hu).elim (V.sz u) fun h => List.mem_singleton.mp h ▸ rw_.z,
        (nsb.keeps ex.keep).at' fun o => sb5.extBut B o (Ne.symm hDB), by simp only [List.append_assoc]; exact hz⟩
    | false =>
      rw [if_neg (by decide)]
      exact ⟨xs.length - (i + 1), Nat.sub_succ_lt_self _ _ hlt, i + 1, vs, ys, _, rfl, hlt, Nat.le_succ_of_le V.len, kb1.trans ec.but, hw.frame _ _ _ stb fun b _ o => ec.keep b o, plb.at fun o => ec.keep D o, (V.ra.mono (mv kb2)).ext ec, V.sz, nsb.keeps ec.keep, z⟩
  · have hin' : i = xs.length := Nat.le_antisymm V.le (Nat.not_lt.mp hlt)
    subst hin'
    have hcf := V.run
    rw [List.drop_length] at hcf
    refine hw.done s' _ _ V.st fun h' tk hk => ?_
    have kba : KeepBut (Chg D B wr) s' { s' with heap := h', toks := tk } := ⟨⟨rfl, rfl⟩, fun b o hb ho => hk b o (fun h => hb (.inr (.inr h))) ho⟩
    exact hR _ vs ys m' (KeepBut.after e1 (V.kb.trans kba) nw) (V.pl.at fun o => hk D o hDw) (V.ra.mono (kba.moves fun b hb _ => ⟨⟨hb.1, fun h => hb.2 (.inl h)⟩, hb.2⟩)) (.list (Nat.le_trans V.len hxz.list_len) V.sz) (List.append_nil ys ▸ hcf) (V.ns.at' fun o => hk B o hBw)

def notSet : Expr → Bool
  | .Set _ _ _ => false
  | _ => true
theorem folded_plain {e : Expr} (h : notSet e = true) (env : Env) (x : Value) : foldedSetIterable e env x = pure x := by
  cases e with
  | Set _ _ _ => exact nomatch h
  | _ => rfl
theorem comp_sound {elt iter : Expr} {x : Str} {px : Pos} {ifs : List Expr} {scope : Scope} {pos fpos : Pos} {me src cond : ME} {s0 : Shared} {use : Option (Value → Sem Unit)} {E Q : Value → Shared → Prop} {Z : List PV → Prop}
    (H : Here C A env Ok ρ s0) (hc : CompOk C.cc scope x) (hs : SI C src iter) (hns : notSet iter = true)
    (he : SE (C.comp scope x) me elt) (hi : IfsIs (C.comp scope x) cond ifs)
    (hev : (evA C.Γ src ρ).its fun xs _ => compP (fun x => (evA C.Γ cond (ρ ++ [some (x, 0)])).tru) (fun x => (evA C.Γ me (ρ ++ [some (x, 0)])).val) xs Z)
    (hR : ∀ D B s' vs ys m', s0.heap.get? D = none → s0.heap.get? B = none → D ≠ B → Ext s0 s' → s'.heap.PlainList D vs.toArray → RepAll s'.heap (fun b => Ok b ∧ b ≠ D) vs ys → Sz (.list ys) → Z ys → s'.heap.Ns B m' → compPost C.W.M A E use Q (.ref D) B (.ok .next) s') :
    wpAny C.W.M A (comprehension (.ListComp elt [⟨.Name x px, iter, ifs, 0⟩] scope pos) scope env fpos (newList []) false (eval iter env) use) Q E s0 := by
  obtain ⟨cl, hclos, hcl⟩ := closure_of (env := env) (scope := scope) fun y hy hf => (H.cl y.1 (hc.free y hy hf)).2
  refine wpAny_comprehension_free (use := use) rfl (folded_plain hns env) hclos hc.kind hc.names (hs A env Ok ρ s0 _ H hev E _ fun it s1 xs l e1 hit hxz hcp => ?_)
  obtain ⟨I, fp, wr, P, St, rfl, hit⟩ := hit
  refine wpAny_newObj_type (wpAny_newFunctionEnv hc.nocell (fun y hy => nomatch hy) (fun h₁ hns₁ hsb₁ => ?_) hc.kind)
  revert hns₁ hsb₁
  show Heap.Ns h₁ (s1.heap.push { cls := .type "list", dict := none, data := .seq ([] : List Value).toArray }).objs.size _ → Heap.SameBut _ _ _ → _
  generalize hH2 : s1.heap.push { cls := .type "list", dict := none, data := .seq ([] : List Value).toArray } = H2
  intro hns₁ hsb₁
  have hC : H2.objs.size = s1.heap.objs.size + 1 := by rw [← hH2, Heap.size_push]
  have hDC : s1.heap.objs.size ≠ H2.objs.size := by rw [hC]; exact Nat.ne_of_lt (Nat.lt_succ_self _)
  have ge : ∀ b, s1.heap.objs.size ≤ b → s1.heap.get? b = none := fun b hb => by
    cases q : s1.heap.get? b with
    | none => rfl
    | some o => exact absurd (Heap.lt_size q) (Nat.not_lt.mpr hb)
  have hle : s1.heap.objs.size ≤ H2.objs.size := by rw [hC]; exact Nat.le_succ _
  have hC2 := ge _ hle
  have old : ∀ b o, s1.heap.get? b = some o → h₁.get? b = some o := fun b o e => hsb₁.extBut b o (fun q => nomatch (q ▸ hC2).symm.trans e) (Heap.get?_push_of_some _ (hH2 ▸ Heap.get?_push_of_some _ e))
  have hacc : h₁.PlainList s1.heap.objs.size #[] := ⟨_, hsb₁.extBut _ _ hDC (Heap.get?_push_of_some _ (hH2 ▸ Heap.get?_push_size _ rfl))⟩
  have e2 : Ext s1 { s1 with heap := h₁, toks := s1.toks + ([] : List (Str × Value)).length } := ⟨⟨rfl, rfl⟩, old⟩
  have nf : ∀ b, s1.heap.objs.size ≤ b → b ∉ fp := fun b hb h => Nat.lt_irrefl b (Nat.lt_of_lt_of_le (hit.old b h) hb)
  have loop := comp_loop (elt := elt) (iter := iter) (px := px) (pos := pos) (R := compPost C.W.M A E use Q (.ref s1.heap.objs.size) H2.objs.size) H hc hcl he hi e1 hit hxz e2 (get_size _) hC2 hDC hacc hns₁ (nf _ (Nat.le_refl _)) (nf _ hle) hcp
    fun s' vs ys m' ex pl ra sz z ns => hR _ _ s' vs ys m' (e1.fresh (get_size _)) (e1.fresh hC2) hDC ex pl ra sz z ns
  have hw := hit.walks A H.room.hd
  exact codeAny_compStart_list loop (hw.self 0 _ _ _ (hw.frame _ _ _ hit.st fun b _ o => old b o) loop)
theorem sn_comp {elt iter : Expr} {x : Str} {px : Pos} {ifs : List Expr} {scope : Scope} {pos : Pos} {me src cond : ME}
    (hc : CompOk C.cc scope x) (hs : SI C src iter) (hns : notSet iter = true)
    (he : SE (C.comp scope x) me elt) (hi : IfsIs (C.comp scope x) cond ifs) : SN C (.comp me src cond) (.ListComp elt [⟨.Name x px, iter, ifs, 0⟩] scope pos) :=
  fun A env Ok ρ s Q H h E R q => by
    rw [eval_ListComp]
    exact comp_sound (use := none) H hc hs hns he hi h fun D B s' vs ys m' hD hB hDB ex pl ra sz z ns => ⟨m', ns, fun h' sb =>
      have kb : KeepBut (fun b => b = B) s' { s' with heap := h' } := KeepBut.of_same (X := fun b => b = B) sb rfl s'.toks
      q D vs _ ys (KeepBut.after ex kb fun b e => e ▸ hB) hD (pl.at fun o => sb.extBut D o hDB) (ra.mono (kb.moves fun b hb ⟨_, _, _, ho, hd⟩ => ⟨hb, fun e => by
        obtain ⟨o', es, ep, ho', hd', _⟩ := ns
        rw [e, ho'] at ho; cases ho
        rw [hd'] at hd; exact nomatch hd⟩)) sz z⟩
theorem SN.se {me : ME} {e : Expr} (h : SN C me e) : SE C me e :=
  fun A env Ok ρ s Q H hz E R q => h A env Ok ρ s Q H hz E R fun a vs s1 xs e1 ha hp r hs h1 => q _ s1 _ 0 e1 ⟨.zero (.list (H.fresh a ha) hp (r.weaken fun _ x => x.1)), hs⟩ h1
end
end Mine
end
noncomputable section
namespace Mine
open Builtin

/-! ## the state of a def's frame -/
/-- what stands in a name, and whose places it owns -/
inductive BOwn (W : Wld) (h : Heap) (Ok o : Addr → Prop) : Nat → Value → PV → Prop
  | zero {v : Value} {x : PV} : Rep h Ok v x → BOwn W h Ok o 0 v x
  | one {a : Addr} {vs : List Value} {xs : List PV} : o a → h.PlainList a vs.toArray → RepAll h Ok vs xs → BOwn W h Ok o 1 (.ref a) (.list xs)
  | two {a : Addr} {bs : List Addr} {xs : List PV} : o a → (∀ b ∈ bs, o b) → (a :: bs).Nodup → h.PlainList a (bs.map Value.ref).toArray → RowsRep h Ok bs xs → BOwn W h Ok o 2 (.ref a) (.list xs)
  | dict {a : Addr} {es : List (Int × PV)} : o a → IsDictI W h Ok a es → BOwn W h Ok o 1 (.ref a) (.dict es)
/-- what a frame stands in, and what it must keep -/
structure Fr where
  A : Around
  env : Env
  Kp : Addr → Obj → Prop
  g : Shared
  Ok : Addr → Prop
/-- the frame's own places -/
def Plc (env : Env) (b : Addr) : Prop := b = env.locals ∨ ∃ x, env.cells.lookup x = some b
def Okc (Ok : Addr → Prop) (own : Nat → Addr → Prop) (b : Addr) : Prop := Ok b ∧ ∀ i, ¬ own i b
structure StS (C : Cx) (F : Fr) : Prop where
  room : Room F.A C.k
  on : ∀ h : Heap, (∀ b o, F.Kp b o → h.get? b = some o) → C.W.On h
  kind : F.env.scope.kind = .function
  globals : F.env.globals = mainGlobals
  builtins : F.env.builtins = builtinsNs
  gl : ∀ x, C.cc.gl x = true → F.env.kindOf x = some .globalImplicit
  cl : ∀ x, C.cc.cl x = true → (F.env.kindOf x = some .cell ∨ F.env.kindOf x = some .free) ∧ ∃ c, F.env.cells.lookup x = some c
  st : ∀ x i, C.cc.σ x = some i → F.env.kindOf x = some .local ∨ (F.env.kindOf x = some .cell ∧ ∃ c, F.env.cells.lookup x = some c)
  cinj : ∀ x y c, F.env.cells.lookup x = some c → F.env.cells.lookup y = some c → x = y
  plc : ∀ b, Plc F.env b → ∀ o, ¬ F.Kp b o
def SlotIs (W : Wld) (F : Fr) (own : Nat → Addr → Prop) (s : Shared) (x : Str) (i : Nat) (y : Slt) : Prop :=
  ∀ pv l, y = some (pv, l) → ∃ v, Holds s.heap F.env x v ∧ BOwn W s.heap (Okc F.Ok own) (own i) l v pv ∧ Sz pv
structure StR (C : Cx) (F : Fr) (own : Nat → Addr → Prop) (ρ : List Slt) (s : Shared) : Prop where
  st : StS C F
  kept : ∀ b o, F.Kp b o → s.heap.get? b = some o
  same : Same F.g s
  fresh : Fresh F.Ok s
  len : ρ.length = C.cc.n
  get : ∀ x i, C.cc.σ x = some i → SlotIs C.W F own s x i (getS ρ i)
  ns : ∃ m, s.heap.Ns F.env.locals m
  cells : ∀ x c, F.env.cells.lookup x = some c → ∃ v0, s.heap.IsCell c v0
  owned : ∀ i a, own i a → s.heap.get? a ≠ none ∧ ¬ Plc F.env a ∧ F.Ok a ∧ ∀ o, ¬ F.Kp a o
  inj : ∀ i j a, own i a → own j a → i = j
structure CC.Good (cc : CC) : Prop where
  lt : ∀ x i, cc.σ x = some i → i < cc.n
  inj : ∀ x y i, cc.σ x = some i → cc.σ y = some i → x = y

section
variable {W : Wld} {Ok Ok' o o' : Addr → Prop} {l : Nat} {v : Value} {x : PV} {s s' : Shared} {X : Addr → Prop} {h : Heap}
theorem BOwn.b (r : BOwn W h Ok o l v x) : BRep W h Ok l v x := by
  cases r with
  | zero r => exact .zero r
  | one _ q r => exact .one q r
  | two _ _ _ q r => exact .two q r
  | dict _ q => exact .dict q
theorem BOwn.move (r : BOwn W s.heap Ok o l v x) (e : KeepBut X s s') (h1 : ∀ b, Ok b → SeqAt s.heap b → Ok' b ∧ ¬ X b) (h2 : ∀ b, o b → ¬ X b ∧ o' b) : BOwn W s'.heap Ok' o' l v x := by
  cases r with
  | zero r => exact .zero (r.mono (e.moves h1))
  | one ho q r => exact .one (h2 _ ho).2 (q.at fun o => e.keep _ o (h2 _ ho).1) (r.mono (e.moves h1))
  | two ho hb hn q r => exact .two (h2 _ ho).2 (fun b hm => (h2 _ (hb b hm)).2) hn (q.at fun o => e.keep _ o (h2 _ ho).1) (r.mono (e.moves h1) fun b hm o => e.keep b o (h2 _ (hb b hm)).1)
  | dict ho q => exact .dict (h2 _ ho).2 (q.mono (e.moves h1) fun o => e.keep _ o (h2 _ ho).1)
theorem ns_cell {a c : Addr} {m : Str → Option Value} {v : Option Value} (x : h.Ns a m) (y : h.IsCell c v) : a ≠ c := by
  rintro rfl
  obtain ⟨o, es, ep, ho, hd, _⟩ := x
  obtain ⟨o', ho', hd'⟩ := y
  rw [ho] at ho'; cases ho'
  exact nomatch hd.symm.trans hd'
theorem ns_seq {a : Addr} {m : Str → Option Value} (x : h.Ns a m) : ¬ SeqAt h a := by
  rintro ⟨o', _, _, ho', hd'⟩
  obtain ⟨o, es, ep, ho, hd, _⟩ := x
  rw [ho] at ho'; cases ho'
  exact nomatch hd.symm.trans hd'
theorem cell_seq {a : Addr} {v : Option Value} (x : h.IsCell a v) : ¬ SeqAt h a := by
  rintro ⟨o', _, _, ho', hd'⟩
  obtain ⟨o, ho, hd⟩ := x
  rw [ho] at ho'; cases ho'
  exact nomatch hd.symm.trans hd'
theorem ns_inj {a : Addr} {m m' : Str → Option Value} (x : h.Ns a m) (y : h.Ns a m') : m = m' := by
  obtain ⟨o, es, ep, ho, hd, _, hf⟩ := x
  obtain ⟨o', es', ep', ho', hd', _, hf'⟩ := y
  rw [ho] at ho'; cases ho'
  rw [hd] at hd'; cases hd'
  funext n
  rw [← hf n, hf' n]
theorem IsCell.to {h' : Heap} {a : Addr} {v : Option Value} (x : h.IsCell a v) (e : ∀ o, h.get? a = some o → h'.get? a = some o) : h'.IsCell a v := let ⟨o, ho, hd⟩ := x; ⟨o, e o ho, hd⟩
theorem Holds.to {h' : Heap} {env : Env} {x : Str} {v : Value} (H : Holds h env x v) (k : ∀ b, Plc env b → ∀ o, h.get? b = some o → h'.get? b = some o) : Holds h' env x v :=
  H.imp (fun ⟨a, m, hn, e⟩ => ⟨a, m, hn.at' (k _ (.inl rfl)), e⟩) fun ⟨a, c, e, hc⟩ => ⟨a, c, e, IsCell.to hc (k c (.inr ⟨_, e⟩))⟩
theorem none_ne {α : Type} {o : Option α} (h : o = none) (h' : ∃ x, o = some x) : False := h'.elim fun _ e => nomatch h.symm.trans e
theorem ne_some {α : Type} {o : Option α} (h : o ≠ none) : ∃ x, o = some x := by
  cases o with
  | none => exact absurd rfl h
  | some x => exact ⟨x, rfl⟩
end
section
variable {ρ : List Slt} {y z : Slt} {i j : Nat}
theorem get_set {p : PV × Nat} (h : getS (setS ρ i y) j = some p) : (j = i ∧ y = some p) ∨ (j ≠ i ∧ getS ρ j = some p) := by
  induction ρ generalizing i j with
  | nil => exact nomatch h
  | cons a r ih => cases i with
    | zero => cases j with
      | zero => exact .inl ⟨rfl, h⟩
      | succ j => exact .inr ⟨Nat.succ_ne_zero j, h⟩
    | succ i => cases j with
      | zero => exact .inr ⟨(Nat.succ_ne_zero i).symm, h⟩
      | succ j => exact (ih h).imp (fun q => ⟨congrArg (· + 1) q.1, q.2⟩) fun q => ⟨fun e => q.1 (Nat.succ.inj e), q.2⟩
theorem set_len : (setS ρ i y).length = ρ.length := by
  induction ρ generalizing i with
  | nil => rfl
  | cons a r ih => cases i with
    | zero => rfl
    | succ i => exact congrArg (· + 1) ih
end

section
variable {C : Cx} {F : Fr} {own own' : Nat → Addr → Prop} {ρ ρ' : List Slt} {s s' : Shared} {X : Addr → Prop}
theorem StR.here (S : StR C F own ρ s) : Here C F.A F.env (Okc F.Ok own) ρ s where
  room := S.st.room
  on := S.st.on _ S.kept
  fresh := fun a ha => ⟨S.fresh a ha, fun i hi => (S.owned i a hi).1 ha⟩
  kind := S.st.kind
  globals := S.st.globals
  builtins := S.st.builtins
  len := S.len
  get := fun x i pv l h1 h2 => let ⟨v, a, b, z⟩ := S.get x i h1 pv l h2; ⟨v, a, b.b, z⟩
  gl := S.st.gl
  cl := S.st.cl
theorem StR.plc_some (S : StR C F own ρ s) {b : Addr} (h : Plc F.env b) : ∃ o, s.heap.get? b = some o := by
  rcases h with rfl | ⟨x, hx⟩
  · obtain ⟨m, o, _, _, ho, _⟩ := S.ns; exact ⟨o, ho⟩
  · obtain ⟨_, o, ho, _⟩ := S.cells x b hx; exact ⟨o, ho⟩
theorem StR.plc_not (S : StR C F own ρ s) {b : Addr} (hs : SeqAt s.heap b) : ¬ Plc F.env b := by
  rintro (rfl | ⟨x, hx⟩)
  · obtain ⟨m, hm⟩ := S.ns; exact ns_seq hm hs
  · obtain ⟨v0, hv⟩ := S.cells x b hx; exact cell_seq hv hs
/-- a step -/
theorem StR.step (S : StR C F own ρ s) (kb : KeepBut X s s') (hX : ∀ b, X b → (∀ o, ¬ F.Kp b o) ∧ (s'.heap.get? b = none → F.Ok b ∧ ∀ i, ¬ own i b))
    (ns : ∃ m, s'.heap.Ns F.env.locals m) (cells : ∀ x c, F.env.cells.lookup x = some c → ∃ v0, s'.heap.IsCell c v0) (len : ρ'.length = ρ.length)
    (get : ∀ x i, C.cc.σ x = some i → SlotIs C.W F own' s' x i (getS ρ' i))
    (ho : ∀ i a, own' i a → (∃ j, own j a) ∨ (s.heap.get? a = none ∧ s'.heap.get? a ≠ none)) (inj : ∀ i j a, own' i a → own' j a → i = j) : StR C F own' ρ' s' := by
  refine ⟨S.st, fun b o hb => kb.keep b o (fun hx => (hX b hx).1 o hb) (S.kept b o hb), ?_, fun a ha => ?_, len.trans S.len, get, ns, cells, fun i a hi => ?_, inj⟩
  · exact S.same.trans kb.same
  · by_cases hx : X a
    · exact ((hX a hx).2 ha).1
    · refine S.fresh a ?_
      cases q : s.heap.get? a with
      | none => rfl
      | some o => exact nomatch (kb.keep a o hx q).symm.trans ha
  · rcases ho i a hi with ⟨j, h⟩ | ⟨h, h'⟩
    · obtain ⟨h1, h2⟩ := S.owned j a h
      refine ⟨fun hn => ?_, h2⟩
      by_cases hx : X a
      · exact ((hX a hx).2 hn).2 j h
      · obtain ⟨o, ho⟩ := ne_some h1; exact nomatch (kb.keep a o hx ho).symm.trans hn
    · exact ⟨h', fun hp => none_ne h (S.plc_some hp), S.fresh a h, fun o hk => nomatch h.symm.trans (S.kept a o hk)⟩
/-- less is kept, more is ok -/
theorem StR.less {Kp' : Addr → Obj → Prop} {Ok' : Addr → Prop} (S : StR C { F with Kp := Kp', Ok := Ok' } own ρ s) (T : StS C F) (hK : ∀ b o, F.Kp b o → Kp' b o) (hok : ∀ b, Ok' b → F.Ok b) : StR C F own ρ s :=
  ⟨T, fun b o hb => S.kept b o (hK b o hb), S.same, fun a ha => hok a (S.fresh a ha), S.len, fun y j hy pv l hj =>
    let ⟨w, h3, h4, z⟩ := S.get y j hy pv l hj
    ⟨w, h3, h4.move (X := fun _ => False) (KeepBut.refl _ _) (fun b hb hs => ⟨⟨hok b hb.1, hb.2⟩, fun h => h⟩) (fun b hb => ⟨fun h => h, hb⟩), z⟩, S.ns, S.cells, fun i a h => let ⟨h1, h2, h3, h4⟩ := S.owned i a h; ⟨h1, h2, hok a h3, fun o hk => h4 o (hK a o hk)⟩, S.inj⟩
/-- places that nobody sees are turned -/
theorem StR.scr' {Kp' : Addr → Obj → Prop} {Ok' : Addr → Prop} (S : StR C { F with Kp := Kp', Ok := Ok' } own ρ s) (T : StS C F) (hK : ∀ b o, F.Kp b o → Kp' b o) (hok : ∀ b, Ok' b → F.Ok b)
    (kb : KeepBut X s s') (hX : ∀ b, X b → (∀ o, ¬ F.Kp b o) ∧ (s'.heap.get? b = none → F.Ok b)) (hp : ∀ b, X b → ¬ Plc F.env b ∧ (∀ i, ¬ own i b) ∧ (SeqAt s.heap b → ¬ Ok' b)) : StR C F own ρ s' := by
  have kp : ∀ b, Plc F.env b → ∀ o, s.heap.get? b = some o → s'.heap.get? b = some o := fun b hb o => kb.keep b o fun h => (hp b h).1 hb
  refine (S.less T hK hok).step kb (fun b hb => ⟨(hX b hb).1, fun h => ⟨(hX b hb).2 h, (hp b hb).2.1⟩⟩) (let ⟨m, h⟩ := S.ns; ⟨m, h.at' (kp _ (.inl rfl))⟩) (fun y c hy => let ⟨v0, h⟩ := S.cells y c hy; ⟨v0, IsCell.to h (kp c (.inr ⟨y, hy⟩))⟩) rfl (fun y j hy pv l hj => ?_) (fun i a h => .inl ⟨i, h⟩) S.inj
  obtain ⟨w, h3, h4, z⟩ := S.get y j hy pv l hj
  exact ⟨w, h3.to kp, h4.move kb (fun b hb hs => ⟨⟨hok b hb.1, hb.2⟩, fun q => (hp b q).2.2 hs hb.1⟩) (fun b hb => ⟨fun q => (hp b q).2.1 j hb, hb⟩), z⟩
theorem StR.scr (S : StR C F own ρ s) (kb : KeepBut X s s') (hX : ∀ b, X b → (∀ o, ¬ F.Kp b o) ∧ (s'.heap.get? b = none → F.Ok b)) (hp : ∀ b, X b → ¬ Plc F.env b ∧ (∀ i, ¬ own i b) ∧ (SeqAt s.heap b → ¬ F.Ok b)) : StR C F own ρ s' :=
  StR.scr' (Kp' := F.Kp) (Ok' := F.Ok) S S.st (fun _ _ h => h) (fun _ h => h) kb hX hp
theorem StR.ext (S : StR C F own ρ s) (e : Ext s s') : StR C F own ρ s' := S.scr (X := fun _ => False) e.but (fun _ h => h.elim) fun _ h => h.elim

/-! a slot takes places over: its own, or such as no name has seen -/
def takeOwn (own : Nat → Addr → Prop) (i : Nat) (new : Addr → Prop) : Nat → Addr → Prop := fun j a => (j = i ∧ new a) ∨ (j ≠ i ∧ own j a ∧ ¬ new a)
def Mine (n : Nat) (own : Nat → Addr → Prop) (i : Nat) (a : Addr) : Prop := ∃ j, own j a ∧ (j = i ∨ n ≤ j)
theorem takes_ok {Ok : Addr → Prop} {i n : Nat} {new : Addr → Prop} {b : Addr} (hnew : ∀ a, new a → Mine n own i a) (h : Okc Ok own b) : Okc Ok (takeOwn own i new) b :=
  ⟨h.1, fun j hj => hj.elim (fun q => let ⟨k, hk, _⟩ := hnew b q.2; h.2 k hk) fun q => h.2 j q.2.1⟩
theorem StR.put (G : C.cc.Good) {i : Nat} {new : Addr → Prop} {y : Slt} (S : StR C F own ρ s) (hnew : ∀ a, new a → Mine C.cc.n own i a)
    (kb : KeepBut X s s') (hX : ∀ b, X b → s'.heap.get? b ≠ none ∧ (Plc F.env b ∨ Mine C.cc.n own i b))
    (ns : ∃ m, s'.heap.Ns F.env.locals m) (cells : ∀ x c, F.env.cells.lookup x = some c → ∃ v0, s'.heap.IsCell c v0)
    (hv : ∀ x, C.cc.σ x = some i → SlotIs C.W F (takeOwn own i new) s' x i y) (h2 : ∀ z w, C.cc.σ z ≠ some i → Holds s.heap F.env z w → Holds s'.heap F.env z w) :
    StR C F (takeOwn own i new) (setS ρ i y) s' := by
  refine S.step kb (fun b hb => ⟨(hX b hb).2.elim (S.st.plc b) fun ⟨j, hj, _⟩ => (S.owned j b hj).2.2.2, fun hn => absurd hn (hX b hb).1⟩) ns cells set_len (fun z j hz pv l hj => ?_) (fun j a hj => ?_) fun j j' a hj hj' => ?_
  · rcases get_set hj with ⟨rfl, hy⟩ | ⟨hji, hy⟩
    · exact hv z hz pv l hy
    · obtain ⟨w, h3, h4, sz⟩ := S.get z j hz pv l hy
      have far : ∀ {b : Addr}, own j b → ¬ Mine C.cc.n own i b := fun hb ⟨k, hk, h⟩ => by
        have := S.inj _ _ _ hb hk
        subst this
        exact h.elim hji (Nat.not_le.mpr (G.lt z j hz))
      exact ⟨w, h2 z w (fun e => hji (Option.some.inj (hz.symm.trans e))) h3, h4.move kb (fun b hb hs => ⟨takes_ok hnew hb, fun q => (hX b q).2.elim (S.plc_not hs) fun ⟨k, hk, _⟩ => hb.2 k hk⟩)
        (fun b hb => ⟨fun q => (hX b q).2.elim (S.owned j b hb).2.1 (far hb), .inr ⟨hji, hb, fun q => far hb (hnew b q)⟩⟩), sz⟩
  · exact .inl (hj.elim (fun q => let ⟨k, hk, _⟩ := hnew a q.2; ⟨k, hk⟩) fun q => ⟨j, q.2.1⟩)
  · rcases hj with ⟨rfl, h⟩ | ⟨_, h, h'⟩ <;> rcases hj' with ⟨rfl, q⟩ | ⟨_, q, q'⟩
    · rfl
    · exact absurd h q'
    · exact absurd q h'
    · exact S.inj j j' a h q
/-- new places that no name sees yet: they are owned behind the last slot -/
def addOwn (own : Nat → Addr → Prop) (n : Nat) (new : Addr → Prop) : Nat → Addr → Prop := fun j a => own j a ∨ (j = n ∧ new a)
theorem StR.hide {new : Addr → Prop} (S : StR C F own ρ s) (e : Ext s s') (hnew : ∀ a, new a → s.heap.get? a = none ∧ s'.heap.get? a ≠ none) : StR C F (addOwn own C.cc.n new) ρ s' := by
  have S' := S.ext e
  refine S.step (X := fun _ => False) e.but (fun _ h => h.elim) S'.ns S'.cells rfl (fun x i h1 pv l h2 => ?_) (fun j a hj => hj.imp (fun h => ⟨j, h⟩) fun h => hnew a h.2) fun j j' a hj hj' => ?_
  · obtain ⟨v, h3, h4, z⟩ := S.get x i h1 pv l h2
    exact ⟨v, h3.keeps e.keep, h4.move (X := fun _ => False) e.but (fun b hb ⟨_, _, _, ho, _⟩ => ⟨⟨hb.1, fun j hj => hj.elim (hb.2 j) fun h => nomatch (hnew b h.2).1.symm.trans ho⟩, fun h => h⟩) (fun b hb => ⟨fun h => h, .inl hb⟩), z⟩
  · rcases hj with h | ⟨rfl, h⟩ <;> rcases hj' with q | ⟨rfl, q⟩
    · exact S.inj j j' a h q
    · exact absurd (hnew a q).1 (S.owned j a h).1
    · exact absurd (hnew a h).1 (S.owned j' a q).1
    · rfl
theorem hide_ok {Ok : Addr → Prop} {n : Nat} {new : Addr → Prop} {b : Addr} (h : Okc Ok own b) (hn : ¬ new b) : Okc Ok (addOwn own n new) b := ⟨h.1, fun j hj => hj.elim (h.2 j) fun q => hn q.2⟩

/-! freezing -/
theorem rows_all {h : Heap} {Ok Ok' : Addr → Prop} (hk : ∀ b, Ok b → Ok' b) {bs : List Addr} {xs : List PV} (hb : ∀ b ∈ bs, Ok' b) (r : RowsRep h Ok bs xs) : RepAll h Ok' (bs.map Value.ref) xs := by
  induction r with
  | nil => exact .nil
  | cons q r t ih => exact .cons (.list (hb _ (.head _)) q (r.weaken hk)) (ih fun b hm => hb b (.tail _ hm))
theorem thaw_inv {y : Slt} {pv : PV} {l : Nat} (h : thaw y = some (pv, l)) : l = 0 ∧ (∀ es, pv ≠ .dict es) ∧ ∃ l', y = some (pv, l') := by
  cases y with
  | none => exact nomatch h
  | some p =>
    obtain ⟨x, l'⟩ := p
    cases x with
    | dict es => exact nomatch h
    | _ => cases h; exact ⟨rfl, (fun es e => nomatch e), l', rfl⟩
theorem StR.freeze1 (G : C.cc.Good) (S : StR C F own ρ s) (i : Nat) : StR C F (takeOwn own i fun _ => False) (freeze1 ρ i) s := by
  refine S.put G (X := fun _ => False) (fun _ h => h.elim) (KeepBut.refl _ _) (fun _ h => h.elim) S.ns S.cells (fun x hx pv l h => ?_) fun _ _ _ h => h
  obtain ⟨rfl, hnd, l', hy⟩ := thaw_inv h
  obtain ⟨w, h3, h4, z⟩ := S.get x i hx pv l' hy
  have ok' : ∀ b, Okc F.Ok own b → Okc F.Ok (takeOwn own i fun _ => False) b := fun b => takes_ok (n := C.cc.n) fun _ h => h.elim
  have oko : ∀ b, own i b → Okc F.Ok (takeOwn own i fun _ => False) b := fun b hb => ⟨(S.owned i b hb).2.2.1, fun j hj => hj.elim (fun q => q.2) fun q => q.1 (S.inj j i b q.2.1 hb)⟩
  refine ⟨w, h3, ?_, z⟩
  cases h4 with
  | zero r => exact .zero (r.weaken ok')
  | one ho q r => exact .zero (.list (oko _ ho) q (r.weaken ok'))
  | two ho hb hn q r => exact .zero (.list (oko _ ho) q (rows_all ok' (fun b hm => oko b (hb b hm)) r))
  | dict ho q => exact absurd rfl (hnd _)
theorem StR.freeze (G : C.cc.Good) (is : List Nat) (S : StR C F own ρ s) : ∃ own', StR C F own' (freeze is ρ) s := by
  induction is generalizing own ρ with
  | nil => exact ⟨_, S⟩
  | cons i is ih => exact ih (S.freeze1 G i)

/-! a store into a name -/
theorem StR.phys {x : Str} {i : Nat} {v : Value} {E : Value → Shared → Prop} {Q : Unit → Shared → Prop} (S : StR C F own ρ s) (hx : C.cc.σ x = some i)
    (q : ∀ (X : Addr → Prop) s', KeepBut X s s' → (∀ b, X b → s'.heap.get? b ≠ none ∧ Plc F.env b) → (∃ m, s'.heap.Ns F.env.locals m) →
      (∀ x c, F.env.cells.lookup x = some c → ∃ v0, s'.heap.IsCell c v0) → Holds s'.heap F.env x v → (∀ y w, y ≠ x → Holds s.heap F.env y w → Holds s'.heap F.env y w) → Q () s') : wpAny C.W.M F.A (storeName F.env x v) Q E s := by
  obtain ⟨m, hm⟩ := S.ns
  rcases S.st.st x i hx with hl | ⟨hl, c, hc⟩
  · refine wpAny_storeName_local hl hm (fun h' hn' sb => ?_) (by rw [S.st.kind]; rfl)
    have cell : ∀ {c : Addr} {v0 : Option Value}, s.heap.IsCell c v0 → h'.IsCell c v0 := fun h => IsCell.to h fun o => sb.extBut _ o fun q => ns_cell hm h q.symm
    exact q _ _ (KeepBut.of_same (X := fun b => b = F.env.locals) sb rfl (s.toks + 1)) (fun b hb => ⟨hb ▸ let ⟨o, _, _, ho, _⟩ := hn'; some_ne ho, .inl hb⟩) ⟨_, hn'⟩ (fun y c hy => let ⟨v0, h⟩ := S.cells y c hy; ⟨v0, cell h⟩) (.inl ⟨hl, _, hn', if_pos rfl⟩)
      fun y w hyx hw => hw.imp (fun ⟨h1, m1, h2, h3⟩ => ⟨h1, _, hn', (if_neg hyx).trans (ns_inj h2 hm ▸ h3)⟩) fun ⟨h1, c, h2, h3⟩ => ⟨h1, c, h2, cell h3⟩
  · obtain ⟨v0, hv0⟩ := S.cells x c hc
    refine wpAny_storeName_cell S.st.kind hl hc hv0 fun h' hn' sb => ?_
    have nl : F.env.locals ≠ c := fun q => ns_cell hm hv0 q
    refine q _ _ (KeepBut.of_same (X := fun b => b = c) sb rfl s.toks) (fun b hb => ⟨hb ▸ let ⟨o, ho, _⟩ := hn'; some_ne ho, .inr ⟨x, hb ▸ hc⟩⟩) ⟨m, hm.at' fun o => sb.extBut _ o nl⟩ (fun y c' hy => ?_) (.inr ⟨.inl hl, c, hc, hn'⟩)
      fun y w hyx hw => hw.imp (fun ⟨h1, m1, h2, h3⟩ => ⟨h1, m1, h2.at' fun o => sb.extBut _ o nl, h3⟩) fun ⟨h1, c', h2, h3⟩ => ⟨h1, c', h2, IsCell.to h3 fun o => sb.extBut c' o fun q => hyx (S.st.cinj y x c' h2 (q ▸ hc))⟩
    by_cases hcc : c' = c
    · exact ⟨_, hcc ▸ hn'⟩
    · obtain ⟨v1, h⟩ := S.cells y c' hy; exact ⟨v1, IsCell.to h fun o => sb.extBut c' o hcc⟩
/-- places that no name has seen, or its own, are stored with a value -/
theorem StR.storeH (G : C.cc.Good) {x : Str} {i : Nat} {new : Addr → Prop} {l : Nat} {v : Value} {pv : PV} {E : Value → Shared → Prop} {Q : Unit → Shared → Prop} (S : StR C F own ρ s) (hx : C.cc.σ x = some i)
    (hnew : ∀ a, new a → Mine C.cc.n own i a) (hv : BOwn C.W s.heap (Okc F.Ok own) new l v pv) (hz : Sz pv)
    (q : ∀ s', KeepBut (Plc F.env) s s' → StR C F (takeOwn own i new) (setS ρ i (some (pv, l))) s' → Q () s') : wpAny C.W.M F.A (storeName F.env x v) Q E s :=
  S.phys hx fun X s' kb hX ns cells h1 h2 => q s' (kb.mono fun b hb => (hX b hb).2) (S.put G hnew kb (fun b hb => ⟨(hX b hb).1, .inl (hX b hb).2⟩) ns cells (fun y hy pv' l' e => by
    cases e
    exact ⟨v, G.inj x y i hx hy ▸ h1, hv.move kb (fun b hb hs => ⟨takes_ok hnew hb, fun q => S.plc_not hs (hX b q).2⟩) (fun b hb => ⟨fun q => let ⟨j, hj, _⟩ := hnew b hb; (S.owned j b hj).2.1 (hX b q).2, .inl ⟨rfl, hb⟩⟩), hz⟩)
    fun z w hz => h2 z w fun e => hz (e ▸ hx))
theorem StR.store0 (G : C.cc.Good) {x : Str} {i : Nat} {v : Value} {pv : PV} {E : Value → Shared → Prop} {Q : Unit → Shared → Prop} (S : StR C F own ρ s) (hx : C.cc.σ x = some i) (hv : Rep s.heap (Okc F.Ok own) v pv) (hz : Sz pv)
    (q : ∀ s', KeepBut (Plc F.env) s s' → StR C F (takeOwn own i fun _ => False) (setS ρ i (some (pv, 0))) s' → Q () s') : wpAny C.W.M F.A (storeName F.env x v) Q E s :=
  S.storeH G hx (fun _ h => h.elim) (.zero hv) hz q
/-- a list made anew is stored with its place -/
theorem StR.store1 (G : C.cc.Good) {x : Str} {i : Nat} {l : Nat} {a : Addr} {pv : PV} {s1 : Shared} {E : Value → Shared → Prop} {Q : Unit → Shared → Prop} (S : StR C F own ρ s) (e : Ext s s1) (hx : C.cc.σ x = some i) (ha : s.heap.get? a = none) (ha' : s1.heap.get? a ≠ none)
    (hv : BOwn C.W s1.heap (fun b => Okc F.Ok own b ∧ b ≠ a) (fun b => b = a) l (.ref a) pv) (hz : Sz pv)
    (q : ∀ s' own', KeepBut (Plc F.env) s1 s' → (∀ j b, own' j b → own j b ∨ b = a) → StR C F own' (setS ρ i (some (pv, l))) s' → Q () s') : wpAny C.W.M F.A (storeName F.env x (.ref a)) Q E s1 :=
  (S.hide (new := fun b => b = a) e fun b hb => hb ▸ ⟨ha, ha'⟩).storeH G hx (new := fun b => b = a) (fun b hb => ⟨_, .inr ⟨rfl, hb⟩, .inr (Nat.le_refl _)⟩) (hv.move (X := fun _ => False) (KeepBut.refl _ _) (fun b hb _ => ⟨hide_ok hb.1 hb.2, fun h => h⟩) fun b hb => ⟨fun h => h, hb⟩) hz
    fun s' kb S' => q s' _ kb (fun j b h => h.elim (fun q => .inr q.2) fun q => q.2.1.imp_right fun r => r.2) S'
/-- an owned place is turned -/
theorem StR.turn (G : C.cc.Good) {x : Str} {i : Nat} {l : Nat} {v : Value} {pv : PV} {a : Addr} {s1 : Shared} {h' : Heap} {tk : Nat} (S : StR C F own ρ s) (e : Ext s s1) (hx : C.cc.σ x = some i) (ho : own i a) (sb : Heap.SameBut a s1.heap h') (hex : h'.get? a ≠ none) (h1 : Holds s.heap F.env x v)
    (hv : BOwn C.W h' (Okc F.Ok own) (own i) l v pv) (hz : Sz pv) : StR C F (takeOwn own i (own i)) (setS ρ i (some (pv, l))) { s1 with heap := h', toks := tk } := by
  have S1 := S.ext e
  have np : ∀ b, Plc F.env b → b ≠ a := fun b hb q => (S.owned i a ho).2.1 (q ▸ hb)
  have kp : ∀ b, Plc F.env b → ∀ o, s1.heap.get? b = some o → h'.get? b = some o := fun b hb o => sb.extBut b o (np b hb)
  refine S1.put G (fun b hb => ⟨i, hb, .inl rfl⟩) (KeepBut.of_same (X := fun b => b = a) sb rfl tk) (fun b hb => hb ▸ ⟨hex, .inr ⟨i, ho, .inl rfl⟩⟩) (let ⟨m, h⟩ := S1.ns; ⟨m, h.at' (kp _ (.inl rfl))⟩) (fun y c hy => let ⟨v0, h⟩ := S1.cells y c hy; ⟨v0, IsCell.to h (kp c (.inr ⟨y, hy⟩))⟩)
    (fun y hy pv' l' e' => ?_) fun z w _ hw => hw.to kp
  cases e'
  exact ⟨v, G.inj x y i hx hy ▸ (h1.keeps e.keep).to kp, hv.move (s := { s1 with heap := h', toks := tk }) (X := fun _ => False) (KeepBut.refl _ _) (fun b hb _ => ⟨takes_ok (n := C.cc.n) (fun b hb => ⟨i, hb, .inl rfl⟩) hb, fun h => h⟩) (fun b hb => ⟨fun h => h, .inl ⟨rfl, hb⟩⟩), hz⟩
/-- what stands for a value, where one's own place was turned -/
theorem turn_moves {a : Addr} {i : Nat} {s1 : Shared} {h' : Heap} (ho : own i a) (sb : Heap.SameBut a s1.heap h') : Moves s1.heap h' (Okc F.Ok own) (Okc F.Ok own) :=
  fun b hb _ => ⟨hb, fun o => sb.extBut b o fun q => hb.2 i (q ▸ ho)⟩
end
end Mine
end
noncomputable section
namespace Mine
open Builtin

/-! ## statements -/
/-- how a block ends -/
def FlowIs (Ok : Addr → Prop) (s : Shared) : Fl → Flow → Prop
  | .next, f => f = .next
  | .brk, f => f = .brk
  | .cont, f => f = .cont
  | .ret z, f => ∃ v, f = .ret v ∧ Rep s.heap Ok v z ∧ Sz z
/-- what a piece of code does to the frame -/
def Steps (C : Cx) (run : List Slt → Post → Prop) (t : Env → Sem Flow) : Prop :=
  ∀ F own ρ s (P : Post), StR C F own ρ s → run ρ P →
    ∀ (E : Value → Shared → Prop) (Q : Flow → Shared → Prop), (∀ own' s' ρ' fl f, StR C F own' ρ' s' → FlowIs F.Ok s' fl f → P fl ρ' → Q f s') → wpAny C.W.M F.A (t F.env) Q E s
def SS (C : Cx) (m : MS) (st : Stmt) : Prop := Steps C (wp C.Γ m) (PySem.exec st)
def SB (C : Cx) (m : MS) (b : List Stmt) : Prop := Steps C (wp C.Γ m) (PySem.execs b)

section
variable {C : Cx}
theorem sb_skip : SB C .skip [] := fun F own ρ s P S h E Q q => wpAny_execs_nil (q own s ρ .next _ S rfl h)
theorem sb_seq {a b : MS} {st : Stmt} {rest : List Stmt} (ha : SS C a st) (hb : SB C b rest) : SB C (.seq a b) (st :: rest) :=
  fun F own ρ s P S h E Q q => wpAny_execs_cons (ha F own ρ s _ S h E _ fun own' s' ρ' fl f S' hf hp => by
    cases fl with
    | next => cases hf; exact hb F own' ρ' s' P S' hp E Q q
    | brk => cases hf; exact q own' s' ρ' .brk _ S' rfl hp
    | cont => cases hf; exact q own' s' ρ' .cont _ S' rfl hp
    | ret z => obtain ⟨v, rfl, hv⟩ := hf; exact q own' s' ρ' (.ret z) _ S' ⟨v, rfl, hv⟩ hp)
theorem sb_one {a : MS} {st : Stmt} (ha : SS C a st) : SB C a [st] :=
  fun F own ρ s P S h E Q q => wpAny_execs_cons (ha F own ρ s _ S h E _ fun own' s' ρ' fl f S' hf hp => by
    cases fl with
    | next => cases hf; exact wpAny_execs_nil (q own' s' ρ' .next _ S' rfl hp)
    | brk => cases hf; exact q own' s' ρ' .brk _ S' rfl hp
    | cont => cases hf; exact q own' s' ρ' .cont _ S' rfl hp
    | ret z => obtain ⟨v, rfl, hv⟩ := hf; exact q own' s' ρ' (.ret z) _ S' ⟨v, rfl, hv⟩ hp)
theorem ss_pass {p : Pos} : SS C .skip (.Pass p) := fun F own ρ s P S h E Q q => wpAny_Pass (q own s ρ .next _ S rfl h)
theorem ss_brk {p : Pos} : SS C .brk (.Break p) := fun F own ρ s P S h E Q q => wpAny_Break (q own s ρ .brk _ S rfl h)
theorem ss_cont {p : Pos} : SS C .cont (.Continue p) := fun F own ρ s P S h E Q q => wpAny_Continue (q own s ρ .cont _ S rfl h)
theorem ss_ret (G : C.cc.Good) {me : ME} {e : Expr} {p : Pos} (h : SE C me e) : SS C (.ret me) (.Return (some e) p) :=
  fun F own ρ s P S hp E Q q =>
    let ⟨own', S'⟩ := S.freeze G (esc true me)
    wpAny_Return_some (h F.A F.env _ _ s _ S'.here hp E _ fun w s' x l ex r hx => by
      obtain ⟨rfl, hx⟩ := l0_inv hx
      exact q own' s' _ (.ret x) _ (S'.ext ex) ⟨w, rfl, r.r.rep0.weaken fun b hb => hb.1, r.z⟩ hx)
theorem ss_ret_none {p : Pos} : SS C (.ret (.lit .none)) (.Return none p) :=
  fun F own ρ s P S hp E Q q => wpAny_Return_none (q own s ρ (.ret .none) _ S ⟨.none, rfl, .none, .none⟩ hp)
theorem ss_ite (G : C.cc.Good) {c : ME} {a b : MS} {e : Expr} {body orelse : List Stmt} {p : Pos} (hc : ST C c e) (ha : SB C a body) (hb : SB C b orelse) : SS C (.ite c a b) (.If e body orelse p) :=
  fun F own ρ s P S hp E Q q =>
    let ⟨own', S'⟩ := S.freeze G (esc false c)
    wpAny_If (hc F.A F.env _ _ s _ S'.here hp E _ fun t s' ex z => ite_bool z (fun z => ha F own' _ s' P (S'.ext ex) z E Q q) fun z => hb F own' _ s' P (S'.ext ex) z E Q q)

def notComp : Expr → Bool
  | .ListComp _ _ _ _ => false
  | .SetComp _ _ _ _ => false
  | .DictComp _ _ _ _ _ => false
  | _ => true
theorem swaps_plain {e : Expr} (h : notComp e = true) (t : Option Expr) (n : Nat) (env : Env) : swapsWith e t n env = pure false := by
  cases e with
  | ListComp _ _ _ _ => exact nomatch h
  | SetComp _ _ _ _ => exact nomatch h
  | DictComp _ _ _ _ _ => exact nomatch h
  | _ => rfl
theorem ss_asg (G : C.cc.Good) {x : Str} {i : Nat} {me : ME} {e : Expr} {p p' : Pos} (hx : C.cc.σ x = some i) (hn : notComp e = true) (h : SE C me e) : SS C (.asg i false me) (.Assign [.Name x p'] e p) :=
  fun F own ρ s P S hp E Q q =>
    let ⟨own', S'⟩ := S.freeze G (esc true me)
    wpAny_Assign_Name (h F.A F.env _ _ s _ S'.here hp E _ fun w s' x l ex r hz => by
      obtain ⟨rfl, hz⟩ := l0_inv hz
      exact (S'.ext ex).store0 G hx r.r.rep0 r.z fun s'' _ S'' => q _ s'' _ .next _ S'' rfl hz) (swaps_plain hn _ _ _)
theorem plain_some {h : Heap} {a : Addr} {items : Array Value} (x : h.PlainList a items) : h.get? a ≠ none := let ⟨_, e⟩ := x; some_ne e
theorem ss_own (G : C.cc.Good) {x : Str} {i : Nat} {me : ME} {e : Expr} {p p' : Pos} (hx : C.cc.σ x = some i) (hn : notComp e = true) (h : SN C me e) : SS C (.asg i true me) (.Assign [.Name x p'] e p) :=
  fun F own ρ s P S hp E Q q =>
    let ⟨own', S'⟩ := S.freeze G (esc true me)
    wpAny_Assign_Name (h F.A F.env _ _ s _ S'.here hp E _ fun a vs s' xs ex ha pl ra sz hz =>
      S'.store1 G ex hx ha (plain_some pl) (.one rfl pl ra) sz fun s'' own'' _ _ S'' => q _ s'' _ .next _ S'' rfl hz) (swaps_plain hn _ _ _)
theorem ss_newDict (G : C.cc.Good) {x : Str} {i : Nat} {p p' pos : Pos} (hx : C.cc.σ x = some i) : SS C (.newDict i) (.Assign [.Name x p] (.Dict [] [] p') pos) :=
  fun F own ρ s P S hp E Q q => wpAny_Assign_Name (wpAny_Dict_empty (
    have e1 := Ext.push s { cls := .type "dict", data := .dict #[] }
    have ho : (s.heap.push { cls := .type "dict", data := .dict #[] }).get? s.heap.objs.size = some { cls := .type "dict", data := .dict #[] } := Heap.get?_push_size _ rfl
    S.store1 G e1 hx (get_size _) (some_ne ho) (.dict rfl ⟨[], ⟨_, #[], 0, ho, ⟨rfl, rfl, rfl⟩, rfl, fun e he => absurd he (Array.not_mem_empty e), .nil, List.nodup_nil⟩, rfl, .nil⟩) (.dict fun e h => absurd h List.not_mem_nil) fun s'' own'' _ _ S'' => q _ s'' _ .next _ S'' rfl hp)) (swaps_plain rfl _ _ _)

/-- a list comprehension that is stored -/
theorem comp_place {F : Fr} {own own2 : Nat → Addr → Prop} {ρ ρ2 : List Slt} {s s2 : Shared} {B D : Addr} {h' : Heap} {m : Str → Option Value} (S : StR C F own ρ s) (S2 : StR C F own2 ρ2 s2) (hB : s.heap.get? B = none) (hDB : D ≠ B) (how : ∀ j b, own2 j b → own j b ∨ b = D) (ns : s2.heap.Ns B m) (sb : Heap.SameBut B s2.heap h') :
    StR C F own2 ρ2 { s2 with heap := h' } :=
  have hn : ∀ i, ¬ own2 i B := fun j h => (how j B h).elim (fun h => (S.owned j B h).1 hB) (Ne.symm hDB)
  S2.scr (X := fun b => b = B) (KeepBut.of_same (X := fun b => b = B) sb rfl s2.toks) (fun b hb => by rw [show b = B from hb]; exact ⟨(fun o hk => nomatch hB.symm.trans (S.kept B o hk)), fun _ => S.fresh B hB⟩) fun b hb => by rw [show b = B from hb]; exact ⟨fun h => none_ne hB (S.plc_some h), hn, fun hs => absurd hs (ns_seq ns)⟩
theorem ss_comp (G : C.cc.Good) {y : Str} {i : Nat} {own : Bool} {elt iter : Expr} {x : Str} {px : Pos} {ifs : List Expr} {scope : Scope} {pos p p' : Pos} {me src cond : ME} (hy : C.cc.σ y = some i)
    (hc : CompOk C.cc scope x) (hs : SI C src iter) (hns : notSet iter = true)
    (he : SE (C.comp scope x) me elt) (hi : IfsIs (C.comp scope x) cond ifs) : SS C (.asg i own (.comp me src cond)) (.Assign [.Name y p'] (.ListComp elt [⟨.Name x px, iter, ifs, 0⟩] scope pos) p) := by
  intro F own0 ρ s P S hp E Q q
  obtain ⟨own1, S1⟩ := S.freeze G (esc true (.comp me src cond))
  have hp : (evA C.Γ src (freeze (esc true (.comp me src cond)) ρ)).its fun xs _ => compP (fun x => (evA C.Γ cond (freeze (esc true (.comp me src cond)) ρ ++ [some (x, 0)])).tru) (fun x => (evA C.Γ me (freeze (esc true (.comp me src cond)) ρ ++ [some (x, 0)])).val) xs
      fun ys => P .next (setS (freeze (esc true (.comp me src cond)) ρ) i (some (.list ys, ownOf own (.list ys)))) := hp
  revert S1 hp
  generalize freeze (esc true (.comp me src cond)) ρ = ρ1
  intro S1 hp
  have store : ∀ (D : Addr) (s' : Shared) (vs : List Value) (ys : List PV) (Q' : Unit → Shared → Prop), s.heap.get? D = none → Ext s s' → s'.heap.PlainList D vs.toArray → RepAll s'.heap (fun b => Okc F.Ok own1 b ∧ b ≠ D) vs ys → Sz (.list ys) →
      (∀ s'' own2, (∀ j a, own2 j a → own1 j a ∨ a = D) → KeepBut (Plc F.env) s' s'' → StR C F own2 (setS ρ1 i (some (.list ys, ownOf own (.list ys)))) s'' → Q' () s'') → wpAny C.W.M F.A (storeName F.env y (.ref D)) Q' E s' := by
    intro D s' vs ys Q' hD ex pl ra sz q'
    cases own with
    | true => exact S1.store1 G ex hy hD (plain_some pl) (.one rfl pl ra) sz fun s'' own2 kb how S2 => q' s'' own2 how kb S2
    | false => exact (S1.ext ex).store0 G hy (.list ⟨S1.fresh D hD, fun i h => (S1.owned i D h).1 hD⟩ pl (ra.weaken fun b hb => hb.1)) sz fun s'' kb S2 => q' s'' _ (fun j a h => .inl (h.elim (fun q => q.2.elim) fun q => q.2.1)) kb S2
  by_cases hsw : (F.env.blockKind == .function && F.env.kindOf y == some .local && p'.line == pos.line && !(scope.names.any fun (n, k) => n == y && (k == .local || k == .cell))) = true
  · have hw : swapsWith (.ListComp elt [⟨.Name x px, iter, ifs, 0⟩] scope pos) (some (.Name y p')) p.line F.env = pure true := by rw [← hsw]; rfl
    rw [exec_Assign_Name_used _ _ _ _ hw]
    refine wpAny_bind (wpAny_standAt (wpAny_bind ?_))
    show wpAny _ F.A (do let _ ← comprehension (.ListComp elt [⟨.Name x px, iter, ifs, 0⟩] scope pos) scope F.env _ (newList []) false (eval iter F.env) (some (assign (.Name y p') F.env))) _ _ s
    refine wpAny_bind (comp_sound (use := some (assign (.Name y p') F.env)) (Q := fun _ s' => wpAny C.W.M F.A _ _ E s') S1.here hc hs hns he hi hp fun D B s' vs ys m' hD hB hDB ex pl ra sz z ns => ?_)
    show wpAny C.W.M F.A (assign (.Name y p') F.env (.ref D)) _ E s'
    refine wpAny_assign_Name (store D s' vs ys _ hD ex pl ra sz fun s'' own2 how kb S2 => ?_)
    have ns2 : s''.heap.Ns B m' := ns.at' fun o => kb.keep B o fun h => none_ne hB (S1.plc_some h)
    exact ⟨m', ns2, fun h' sb => wpAny_pure (wpAny_pure (q own2 _ _ .next _ (comp_place S1 S2 hB hDB how ns2 sb) rfl z))⟩
  · have hw : swapsWith (.ListComp elt [⟨.Name x px, iter, ifs, 0⟩] scope pos) (some (.Name y p')) p.line F.env = pure false := by rw [← Bool.eq_false_iff.mpr hsw]; rfl
    exact wpAny_Assign_Name (sn_comp hc hs hns he hi F.A F.env _ ρ1 s (fun z l => P .next (setS ρ1 i (some (z, ownOf own z)))) S1.here hp E _ fun D vs s' ys ex hD pl ra sz z => store D s' vs ys _ hD ex pl ra sz fun s'' own2 _ _ S2 => q own2 s'' _ .next _ S2 rfl z) hw

/-! names that are stored in order -/
inductive Names (cc : CC) : List Expr → List Nat → Prop
  | nil : Names cc [] []
  | cons {x : Str} {p : Pos} {i : Nat} {es : List Expr} {is : List Nat} : cc.σ x = some i → Names cc es is → Names cc (.Name x p :: es) (i :: is)
theorem Names.length {cc : CC} {env : Env} {es : List Expr} {is : List Nat} (h : Names cc es is) : (assignEach es env).length = is.length := by
  induction h with
  | nil => rfl
  | cons _ _ ih => exact congrArg (· + 1) ih
theorem Names.nostar {cc : CC} {env : Env} {es : List Expr} {is : List Nat} (h : Names cc es is) : (assignEach es env).findIdx? (·.1) = none := by
  induction h with
  | nil => rfl
  | cons _ _ ih =>
    show ((false, _) :: assignEach _ env).findIdx? (·.1) = none
    rw [List.findIdx?_cons, ih]; rfl
theorem same_inv {is : List Nat} {xs : List PV} {P : Prop} (h : sameLen is xs P) : is.length = xs.length ∧ P := by
  induction is generalizing xs with
  | nil => cases xs with
    | nil => exact ⟨rfl, h⟩
    | cons _ _ => exact h.elim
  | cons i is ih => cases xs with
    | nil => exact h.elim
    | cons x xs => exact (ih h).imp_left (congrArg (· + 1))
section
variable {F : Fr} {own own' : Nat → Addr → Prop} {ρ ρ' : List Slt} {s s' : Shared} {E : Value → Shared → Prop} {Q : Unit → Shared → Prop}
theorem storeAll (G : C.cc.Good) {es : List Expr} {is : List Nat} (h : Names C.cc es is) : ∀ {own : Nat → Addr → Prop} {ρ : List Slt} {s : Shared} {vs : List Value} {xs : List PV},
    StR C F own ρ s → RepAll s.heap (Okc F.Ok own) vs xs → (∀ x ∈ xs, Sz x) → is.length = xs.length → (∀ own' s', StR C F own' (setAll is xs ρ) s' → Q () s') →
    wpAny C.W.M F.A (assignInOrder ((assignEach es F.env).map (·.2)) vs) Q E s := by
  induction h with
  | nil =>
    intro own ρ s vs xs S r sz hl q
    cases List.eq_nil_of_length_eq_zero hl.symm
    rw [r.inv_nil]
    exact wpAny_assignInOrder_none (q own s S)
  | cons hx hr ih =>
    intro own ρ s vs xs S r sz hl q
    cases xs with
    | nil => exact nomatch hl
    | cons x xs =>
      obtain ⟨v, ws, rfl, r, rs⟩ := r.inv_cons
      exact wpAny_assignInOrder_more (wpAny_assign_Name (S.store0 G hx r (sz x (.head _)) fun s' kb S' =>
        ih S' (rs.mono (kb.moves fun b hb hs => ⟨takes_ok (n := C.cc.n) (fun _ h => h.elim) hb, S.plc_not hs⟩)) (fun y hy => sz y (.tail _ hy)) (Nat.succ.inj hl) q))
/-- what a loop's target does -/
inductive Target (cc : CC) : Expr → List Nat → Prop
  | name {x : Str} {p : Pos} {i : Nat} : cc.σ x = some i → Target cc (.Name x p) [i]
  | tup {es : List Expr} {is : List Nat} {n : Nat} {p : Pos} : Names cc es is → (∀ v ρ (Q : List Slt → Prop), bindP is v ρ Q → ∃ xs, v = .tup xs ∧ sameLen is xs (Q (setAll is xs ρ))) → Target cc (.Tuple es n p) is
theorem target_two (i j : Nat) (is : List Nat) (v : PV) (ρ : List Slt) (Q : List Slt → Prop) (h : bindP (i :: j :: is) v ρ Q) : ∃ xs, v = .tup xs ∧ sameLen (i :: j :: is) xs (Q (setAll (i :: j :: is) xs ρ)) := by
  cases v with
  | tup xs => exact ⟨xs, rfl, h⟩
  | _ => exact h.elim
theorem tuple_stored (G : C.cc.Good) {es : List Expr} {is : List Nat} {n : Nat} {p : Pos} {a : Addr} {vs : List Value} {xs : List PV} (h : Names C.cc es is) (S : StR C F own ρ s)
    (ht : PlainTup s.heap a vs.toArray) (r : RepAll s.heap (Okc F.Ok own) vs xs) (sz : ∀ x ∈ xs, Sz x) (hl : is.length = xs.length) (q : ∀ own' s', StR C F own' (setAll is xs ρ) s' → Q () s') :
    wpAny C.W.M F.A (assign (.Tuple es n p) F.env (.ref a)) Q E s := by
  obtain ⟨m, ho⟩ := ht
  refine wpAny_assign_Tuple S.st.room.hd ⟨_, ho, rfl, m, rfl⟩ (by rw [h.length, hl, List.size_toArray, r.length]) h.nostar fun h' hx => ?_
  have e : Ext s { s with heap := h' } := ⟨⟨rfl, rfl⟩, fun b o hb => hx b o (fun q => nomatch (q ▸ get_size s.heap).symm.trans hb) hb⟩
  exact storeAll G h (S.ext e) (r.ext e) sz hl q
theorem target_stored (G : C.cc.Good) {t : Expr} {is : List Nat} {v : Value} {x : PV} {Z : List Slt → Prop} (h : Target C.cc t is) (S : StR C F own ρ s)
    (r : Rep s.heap (Okc F.Ok own) v x) (sz : Sz x) (hb : bindP is x ρ Z) (q : ∀ own' s' ρ', StR C F own' ρ' s' → Z ρ' → Q () s') : wpAny C.W.M F.A (assign t F.env v) Q E s := by
  cases h with
  | name hx => exact wpAny_assign_Name (S.store0 G hx r sz fun s' _ S' => q _ s' _ S' hb)
  | tup hn h1 =>
    obtain ⟨xs, rfl, h2⟩ := h1 _ _ _ hb
    obtain ⟨hl, h3⟩ := same_inv h2
    obtain ⟨a, vs, rfl, _, ht, ra⟩ := r.inv
    exact tuple_stored G hn S ht ra sz.tup_all hl fun own' s' S' => q own' s' _ S' h3
end
def notTuple : Expr → Bool
  | .Tuple _ _ _ => false
  | _ => true
theorem swapped_plain {es : List Expr} {n : Nat} {p : Pos} {env : Env} {e : Expr} (h : notTuple e = true) : swappedStores [.Tuple es n p] e env = pure none := by
  cases e with
  | Tuple _ _ _ => exact nomatch h
  | _ => rfl
/-- a tuple of names takes a tuple's items -/
theorem ss_unpack (G : C.cc.Good) {es : List Expr} {is : List Nat} {me : ME} {e : Expr} {n : Nat} {p pos : Pos} (hn : Names C.cc es is) (hnc : notComp e = true) (hnt : notTuple e = true) (h : SE C me e) :
    SS C (.unpack is me) (.Assign [.Tuple es n p] e pos) :=
  fun F own0 ρ0 s P S0 hp E Q q =>
    let ⟨own, S⟩ := S0.freeze G (esc true me)
    Assign_Tuple (h F.A F.env _ _ s _ S.here hp E _ fun v s' x l ex r hx => by
      obtain ⟨rfl, hx⟩ := l0_inv hx
      cases x with
      | tup xs =>
        obtain ⟨hl, h3⟩ := same_inv hx
        obtain ⟨a, vs, rfl, _, ht, ra⟩ := r.r.rep0.inv
        exact tuple_stored G hn (S.ext ex) ht ra r.z.tup_all hl fun own' s'' S'' => q own' s'' _ .next _ S'' rfl h3
      | _ => exact hx.elim) (show swapsWithSole [.Tuple es n p] e pos.line F.env = pure false from swaps_plain hnc (some (.Tuple es n p)) pos.line F.env) (swapped_plain hnt)

/-! try -/
theorem ss_try {m : MS} {body : List Stmt} {h₀ : ExceptHandler} {hs : List ExceptHandler} {pos : Pos} (h : SB C m body) : SS C (.try_ m) (.Try body (h₀ :: hs) [] [] pos) :=
  fun F own ρ s P S hp E Q q => wpAny_Try_except (h F own ρ s P S hp _ _ fun own' s' ρ' fl f S' hf z => by
    cases fl with
    | next => cases hf; exact wpAny_execs_nil (q own' s' ρ' .next _ S' rfl z)
    | brk => cases hf; exact q own' s' ρ' .brk _ S' rfl z
    | cont => cases hf; exact q own' s' ρ' .cont _ S' rfl z
    | ret r => obtain ⟨v, rfl, hv⟩ := hf; exact q own' s' ρ' (.ret r) _ S' ⟨v, rfl, hv⟩ z)
end
end Mine
end
noncomputable section
namespace Mine
open Builtin
section
variable {C : Cx} {F : Fr} {own own' : Nat → Addr → Prop} {ρ ρ' : List Slt} {s s' : Shared} {X : Addr → Prop}

theorem ss_while (G : C.cc.Good) {c : ME} {m : MS} {e : Expr} {body : List Stmt} {p : Pos} (hc : ST C c e) (hm : SB C m body) : SS C (.while_ c m) (.While e body [] p) := by
  intro F own ρ s P S ⟨n, hp⟩ E Q q
  refine wpAny_While (codeAny_whileLoop (I := fun n s' => ∃ own1 ρ1, StR C F own1 ρ1 s' ∧ whileP (fun ρ K => (evA C.Γ c (freeze (esc false c) ρ)).tru fun t => K t (freeze (esc false c) ρ)) (wp C.Γ m) n ρ1 P) ?_ n ⟨own, ρ, S, hp⟩)
  rintro n s' ⟨own1, ρ1, S1, h1⟩
  cases n with
  | zero => exact h1.elim
  | succ n =>
    obtain ⟨own2, S2⟩ := S1.freeze G (esc false c)
    refine hc F.A F.env _ _ s' _ S2.here h1 _ _ fun t s'' ex z => ?_
    cases t with
    | false =>
      rw [if_neg Bool.false_ne_true]
      exact wpAny_execs_nil (q own2 s'' _ .next _ (S2.ext ex) rfl z)
    | true =>
      rw [if_pos rfl]
      refine hm F own2 _ s'' _ (S2.ext ex) z _ _ fun own3 s3 ρ3 fl f S4 hf z => ?_
      cases fl with
      | next => cases hf; exact ⟨n, Nat.lt_succ_self n, own3, ρ3, S4, z⟩
      | cont => cases hf; exact ⟨n, Nat.lt_succ_self n, own3, ρ3, S4, z⟩
      | brk => cases hf; exact q own3 s3 _ .next _ S4 rfl z
      | ret r => obtain ⟨v, rfl, hv⟩ := hf; exact q own3 s3 _ (.ret r) _ S4 ⟨v, rfl, hv⟩ z

/-- more is kept, less is ok -/
theorem StR.more {Kp' : Addr → Obj → Prop} {Ok' : Addr → Prop} (S : StR C F own ρ s) (e : Ext s s') (hK : ∀ b o, F.Kp b o → Kp' b o) (hk : ∀ b o, Kp' b o → s'.heap.get? b = some o) (hp : ∀ b, Plc F.env b → ∀ o, ¬ Kp' b o) (ho : ∀ i b, own i b → Ok' b ∧ ∀ o, ¬ Kp' b o) (hfr : Fresh Ok' s')
    (hok : ∀ b, F.Ok b → SeqAt s.heap b → Ok' b) : StR C { F with Kp := Kp', Ok := Ok' } own ρ s' :=
  have S' := S.ext e
  ⟨{ S.st with on := fun h hh => S.st.on h fun b o hb => hh b o (hK b o hb), plc := hp }, hk, S'.same, hfr, S.len, fun y j hy pv l hj =>
    let ⟨w, h3, h4, z⟩ := S.get y j hy pv l hj
    ⟨w, h3.keeps e.keep, h4.move (X := fun _ => False) e.but (fun b hb hs => ⟨⟨hok b hb.1 hs, hb.2⟩, fun h => h⟩) (fun b hb => ⟨fun h => h, hb⟩), z⟩, S'.ns, S'.cells, fun i a h => let ⟨h1, h2, _⟩ := S'.owned i a h; ⟨h1, h2, (ho i a h).1, (ho i a h).2⟩, S.inj⟩
theorem letGo_target {t : Expr} {is : List Nat} {W : Wld} {A : Around} {I : Addr} {v : Value} {E : Value → Shared → Prop} {Q : Unit → Shared → Prop} {cc : CC} (ht : Target cc t is) (hk : ∃ o n, s.heap.get? I = some o ∧ o.cls = .type n ∧ ownsTup n = false) (q : Q () s) : wpAny W.M A (letOwnedTupleGo t (.ref I) v) Q E s := by
  cases ht with
  | name _ => exact wpAny_pure q
  | tup _ _ =>
    unfold letOwnedTupleGo
    cases v with
    | ref a =>
      obtain ⟨o, nm, ho, hc, hown⟩ := hk
      refine wpAny_bind (wpAny_load ho ?_)
      rw [hc]
      cases hd : o.data with
      | fields fs =>
        show wpAny W.M A (if (ownsTup nm && fs[0]? == some (rawInt a)) = true then _ else _) Q E s
        rw [hown]
        exact wpAny_pure q
      | _ => exact wpAny_pure q
    | _ => exact wpAny_pure q
/-- what a loop keeps, and what its items may stand in -/
def LKp (F : Fr) (own : Nat → Addr → Prop) (wr : List Addr) (s2 : Shared) (b : Addr) (o : Obj) : Prop := F.Kp b o ∨ (s2.heap.get? b = some o ∧ ¬ Plc F.env b ∧ (∀ i, ¬ own i b) ∧ b ∉ wr)
def LOk (F : Fr) (wr : List Addr) (b : Addr) : Prop := F.Ok b ∧ b ∉ wr
def LF (F : Fr) (own : Nat → Addr → Prop) (wr : List Addr) (s2 : Shared) : Fr := { F with Kp := LKp F own wr s2, Ok := LOk F wr }
/-- in a turn, the items' place is kept too -/
def LF2 (F : Fr) (own : Nat → Addr → Prop) (wr : List Addr) (s2 sa : Shared) : Fr := { LF F own wr s2 with Kp := fun b o => LKp F own wr s2 b o ∨ (b ∈ wr ∧ sa.heap.get? b = some o) }
theorem ss_for (G : C.cc.Good) {is : List Nat} {src : ME} {m : MS} {t e : Expr} {body : List Stmt} {p : Pos} (ht : Target C.cc t is) (hs : SI C src e) (hns : notSet e = true) (hm : SB C m body) :
    SS C (.for_ is src m) (.For t e body [] p) := by
  intro F own0 ρ0 s P S0 hp E Q q
  obtain ⟨own, S1⟩ := S0.freeze G (esc true src)
  have hp : (evA C.Γ src (freeze (esc true src) ρ0)).its fun vs l => l0 l (forP (wp C.Γ m) is vs (freeze (esc true src) ρ0) P) := hp
  revert S1 hp
  generalize freeze (esc true src) ρ0 = ρ
  intro S1 hp
  refine wpAny_For (hs F.A F.env _ _ s _ S1.here hp E _ fun it s2 vs l e2 hit sz h0 => ?_) (folded_plain hns F.env)
  obtain ⟨rfl, h1⟩ := l0_inv h0
  obtain ⟨I, fp, wr, St0, St, rfl, hit⟩ := hit
  have hw := hit.walks F.A S1.st.room.hd
  have S2 := S1.ext e2
  have wrK : ∀ b ∈ wr, ∀ o, ¬ F.Kp b o := fun b hb o hk => nomatch (hit.new b hb).symm.trans (S1.kept b o hk)
  have wrO : ∀ b ∈ wr, ∀ i, ¬ own i b := fun b hb i hi => (S1.owned i b hi).1 (hit.new b hb)
  have wrP : ∀ b ∈ wr, ¬ Plc F.env b := fun b hb h => none_ne (hit.new b hb) (S1.plc_some h)
  have wrL : ∀ b ∈ wr, ∀ o, ¬ LKp F own wr s2 b o := fun b hb o h => h.elim (wrK b hb o) fun h => h.2.2.2 hb
  have S3 : StR C (LF F own wr s2) own ρ s2 := S1.more e2 (fun b o h => .inl h) (fun b o h => h.elim (S2.kept b o) fun h => h.1) (fun b hb o h => h.elim (S1.st.plc b hb o) fun h => h.2.1 hb)
    (fun i b h => ⟨⟨(S1.owned i b h).2.2.1, fun hb => wrO b hb i h⟩, fun o hk => hk.elim ((S1.owned i b h).2.2.2 o) fun hk => hk.2.2.1 i h⟩) (fun a ha => ⟨S2.fresh a ha, fun hb => hit.there 0 _ hit.st a hb ha⟩) fun b hb ⟨_, _, _, ho, _⟩ => ⟨hb, fun hw => nomatch (hit.new b hw).symm.trans ho⟩
  have seen : ∀ b, Okc F.Ok own b → SeqAt s2.heap b → b ∉ wr → ∀ o, s2.heap.get? b = some o → LKp F own wr s2 b o := fun b hb hs hw o ho => .inr ⟨ho, S2.plc_not hs, hb.2, hw⟩
  have hfpK : ∀ b ∈ fp, b ∉ wr → ∃ o, LKp F own wr s2 b o := fun b hb hbw => (hit.kept rfl b hb).elim (fun h => absurd h hbw) fun h => let ⟨o, _, _, ho, _⟩ := h.2; ⟨o, seen b h.1 h.2 hbw o ho⟩
  have back : ∀ {own1 : Nat → Addr → Prop} {ρ1 : List Slt} {s1 : Shared}, StR C (LF F own wr s2) own1 ρ1 s1 → StR C F own1 ρ1 s1 := fun S => StR.less S S1.st (fun b o h => .inl h) fun b hb => hb.1
  refine codeAny_forLoop_any (I := fun n s' => ∃ i own1 ρ1, n = vs.length - i ∧ i ≤ vs.length ∧ StR C (LF F own wr s2) own1 ρ1 s' ∧ St i s'.heap ∧ forP (wp C.Γ m) is (vs.drop i) ρ1 P) ?_ vs.length ⟨0, own, ρ, rfl, Nat.zero_le _, S3, hit.st, h1⟩
  rintro n s' ⟨i, own1, ρ1, rfl, hi, S4, st4, hfor⟩
  have wr1 : ∀ b ∈ wr, ¬ Plc F.env b ∧ (∀ i, ¬ own1 i b) ∧ (SeqAt s'.heap b → ¬ LOk F wr b) := fun b hb => ⟨wrP b hb, fun j hj => (S4.owned j b hj).2.2.1.2 hb, fun _ h => h.2 hb⟩
  by_cases hlt : i < vs.length
  · rw [List.drop_eq_getElem_cons hlt] at hfor
    have hx0 : vs[i]? = some vs[i] := List.getElem?_eq_getElem hlt
    revert hx0 hfor
    generalize vs[i] = x0
    intro hfor hx0
    refine hw.item i s' _ _ hlt st4 fun v h' tk hp' st5 hk => ?_
    have S5 : StR C (LF F own wr s2) own1 ρ1 { s' with heap := h', toks := tk } := S4.scr (X := fun b => b ∈ wr) ⟨⟨rfl, rfl⟩, hk⟩ (fun b hb => ⟨wrL b hb, fun hn => absurd hn (hit.there _ _ st5 b hb)⟩) wr1
    revert st5 S5
    show St (i + 1) ({ s' with heap := h', toks := tk } : Shared).heap → _
    generalize ({ s' with heap := h', toks := tk } : Shared) = sa
    intro st5 S5
    have rv : Rep sa.heap (Okc (LF F own wr s2).Ok own1) v x0 := (hit.item i v x0 hx0 hp').mono fun b hb hs =>
      have hK' := seen b hb.1 hs hb.2
      ⟨⟨⟨hb.1.1, hb.2⟩, fun j hj => let ⟨o, _, _, ho, _⟩ := hs; (S5.owned j b hj).2.2.2 o (hK' o ho)⟩, fun o ho => S5.kept b o (hK' o ho)⟩
    refine letGo_target ht (hit.kind _ _ st5) ?_
    have S6 : StR C (LF2 F own wr s2 sa) own1 ρ1 sa :=
      S5.more (.refl sa) (fun b o h => .inl h) (fun b o h => h.elim (S5.kept b o) fun h => h.2) (fun b hb o h => h.elim (S5.st.plc b hb o) fun h => (wr1 b h.1).1 hb) (fun j b h => ⟨(S5.owned j b h).2.2.1, fun o hk => hk.elim ((S5.owned j b h).2.2.2 o) fun hk => (wr1 b hk.1).2.1 j h⟩) S5.fresh fun _ h _ => h
    refine target_stored (F := LF2 F own wr s2 sa) G ht S6 rv (sz.list_all _ (List.mem_of_getElem? hx0)) hfor fun own2 s6 ρ2 S7 hfor => hm (LF2 F own wr s2 sa) own2 ρ2 s6 _ S7 hfor _ _ fun own3 s7 ρ3 fl f S8 hf z => ?_
    have st7 : St (i + 1) s7.heap := hw.frame _ _ _ st5 fun b hb o ho => by
      by_cases hbw : b ∈ wr
      · exact S8.kept b o (.inr ⟨hbw, ho⟩)
      · obtain ⟨o', hK'⟩ := hfpK b hb hbw
        have := S5.kept b o' hK'
        rw [ho] at this
        exact Option.some.inj this ▸ S8.kept b o' (.inl hK')
    have S9 : StR C (LF F own wr s2) own3 ρ3 s7 := StR.less S8 S5.st (fun b o h => .inl h) fun b h => h
    cases fl with
    | next => cases hf; exact ⟨vs.length - (i + 1), Nat.sub_succ_lt_self _ _ hlt, i + 1, own3, ρ3, rfl, hlt, S9, st7, z⟩
    | cont => cases hf; exact ⟨vs.length - (i + 1), Nat.sub_succ_lt_self _ _ hlt, i + 1, own3, ρ3, rfl, hlt, S9, st7, z⟩
    | brk => cases hf; exact q own3 s7 _ .next _ (back S9) rfl z
    | ret r => obtain ⟨v', rfl, hv, hz⟩ := hf; exact q own3 s7 _ (.ret r) _ (back S9) ⟨v', rfl, hv.weaken fun b hb => hb.1, hz⟩ z
  · have hi' : i = vs.length := Nat.le_antisymm hi (Nat.not_lt.mp hlt)
    subst hi'
    rw [List.drop_length] at hfor
    refine hw.done s' _ _ st4 fun h' tk hk => wpAny_execs_nil (q own1 _ ρ1 .next _ ?_ rfl hfor)
    exact StR.scr' (Kp' := LKp F own wr s2) (Ok' := LOk F wr) S4 S1.st (fun b o h => .inl h) (fun b h => h.1) (X := fun b => b ∈ wr) ⟨⟨rfl, rfl⟩, hk⟩ (fun b hb => ⟨wrK b hb, fun _ => S1.fresh b (hit.new b hb)⟩) wr1
end
end Mine
end
noncomputable section
namespace Mine
open Builtin
theorem own_inv {y : Slt} {Q : List PV → Prop} (h : ownP y Q) : ∃ xs, y = some (.list xs, 1) ∧ Q xs := by
  cases y with
  | none => exact h.elim
  | some p =>
    obtain ⟨x, l⟩ := p
    cases x with
    | list xs => cases l with
      | zero => exact h.elim
      | succ l => cases l with
        | zero => exact ⟨xs, rfl, h⟩
        | succ l => exact h.elim
    | _ => exact h.elim
theorem dict_inv {y : Slt} {Q : List (Int × PV) → Prop} (h : dictP y Q) : ∃ es, y = some (.dict es, 1) ∧ Q es := by
  cases y with
  | none => exact h.elim
  | some p =>
    obtain ⟨x, l⟩ := p
    cases x with
    | dict es => cases l with
      | zero => exact h.elim
      | succ l => cases l with
        | zero => exact ⟨es, rfl, h⟩
        | succ l => exact h.elim
    | _ => exact h.elim
theorem slot0_inv {y : Slt} {Q : PV → Prop} (h : slot0 y Q) : ∃ x, y = some (x, 0) ∧ Q x := by
  cases y with
  | none => exact h.elim
  | some p =>
    obtain ⟨x, l⟩ := p
    cases l with
    | zero => exact ⟨x, rfl, h⟩
    | succ l => exact h.elim
section
variable {W : Wld} {C : Cx} {F : Fr} {own own' : Nat → Addr → Prop} {ρ ρ' : List Slt} {s s' : Shared} {h : Heap} {A : Around}
theorem BOwn.one_inv {Ok o : Addr → Prop} {v : Value} {xs : List PV} (r : BOwn W h Ok o 1 v (.list xs)) : ∃ a vs, v = .ref a ∧ o a ∧ h.PlainList a vs.toArray ∧ RepAll h Ok vs xs := by
  cases r with | one a b c => exact ⟨_, _, rfl, a, b, c⟩
theorem BOwn.dict_inv {Ok o : Addr → Prop} {v : Value} {es : List (Int × PV)} (r : BOwn W h Ok o 1 v (.dict es)) : ∃ a, v = .ref a ∧ o a ∧ IsDictI W h Ok a es := by
  cases r with | dict a b => exact ⟨_, rfl, a, b⟩
theorem BOwn.zero_inv {Ok o : Addr → Prop} {v : Value} {x : PV} (r : BOwn W h Ok o 0 v x) : Rep h Ok v x := by cases r; assumption
theorem plain_update {a : Addr} {items : Array Value} {n : Nat} (f : Array Value → Array Value) (ho : h.get? a = some { cls := .type "list", data := .seq items n }) : (h.update a (Obj.mapSeq f)).PlainList a (f items) :=
  ⟨_, Heap.get?_update_self (Obj.mapSeq f) ho rfl⟩
theorem load_name {env : Env} {x : Str} {v : Value} {M : Model} {E Q : Value → Shared → Prop} (H : Holds s.heap env x v) (hk : env.scope.kind = .function) (hcd : (x == ("__classdict__" : Str)) = false) (q : Q v s) : wpAny M A (loadName env x) Q E s := by
  rcases H with ⟨hl, m, hn, hv⟩ | ⟨hl | hl, c, hc, hv⟩
  · exact wpAny_loadName_local hk hl hn hv q
  · exact wpAny_loadName_cell hk hl hc hv q
  · exact wpAny_loadName_free hk hl hc hv q hcd
theorem not_inter {env : Env} (h : env.scope.kind = .function) : interactive env = false := by
  unfold interactive; rw [h]; rfl
theorem getMethod_lst {a : Addr} {vs : Array Value} {name : Str} {id : String} {pl : Sem Bool} {E : Value → Shared → Prop} {Q : Value × List Value → Shared → Prop} (ha : s.heap.PlainList a vs)
    (slot : Slot "list" name id) (hty : typeOf (.builtin id) = pure (.type "method_descriptor")) (q : Q (.builtin id, [.ref a]) s) : wpAny W.M A (getMethod (.ref a) name pl) Q E s := by
  obtain ⟨n, ho⟩ := ha
  exact getMethod_builtin (T := "list") ⟨_, ho, rfl⟩ F.plainAttrs_list slot hty (fun b e => Value.ref.inj e ▸ ⟨_, ho, rfl⟩) q
/-- a method of a list that a name holds -/
theorem call_own {x : Str} {p apos pos : Pos} {name : Str} {id : String} {es : List Expr} {a : Addr} {vs : Array Value} {E : Value → Shared → Prop} {Q : Value → Shared → Prop} (S : StR C F own ρ s)
    (H : Holds s.heap F.env x (.ref a)) (hd : (x == ("__debug__" : Str)) = false) (hcd : (x == ("__classdict__" : Str)) = false) (hl : s.heap.PlainList a vs) (hline : (apos.endLine == pos.line) = true)
    (slot : Slot "list" name id) (hty : typeOf (.builtin id) = pure (.type "method_descriptor")) (hfew : methodCallForm (es.length + ([] : List Keyword).length) (backTo pos (starEach es F.env)) (backToKw pos (keywordEach [] F.env)) = true)
    (hpl : (backTo pos (starEach es F.env)).any (·.1) = false)
    (h : wpAny C.W.M F.A (spliced (backTo pos (starEach es F.env))) (fun ws s' => wpAny C.W.M F.A (call (.builtin id) (.ref a :: ws)) Q E s') E s) :
    wpAny C.W.M F.A (eval (.Call (.Attribute (.Name x p) name apos) es [] pos) F.env) Q E s := by
  rw [arm_eval_Call, base_plain (o := .Name x p) rfl]
  refine wpAny_bind (H.load (h := s.heap) S.st.kind hd hcd (wpAny_bind (wpAny_standAt ?_)))
  have hpos : methodCallPos true (.Name x p) F.env apos pos = pure pos := if_pos (by rw [hline]; rfl)
  unfold methodCall
  rw [hfew]
  exact wpAny_bind (wpAny_holding (getMethod_lst hl slot hty (wpAny_bind (wpAny_of_eq hpos (Calls.callWith_builtin hpl (evalArgs_of (fun x hx => nomatch (hx ▸ hpl : ([(true, x)] : List (Bool × Sem Value)).any (·.1) = false)) h))))))
/-- a list that a name owns has been turned -/
theorem StR.turned (G : C.cc.Good) {x : Str} {i : Nat} {v : Value} {a : Addr} {vs' : List Value} {ys : List PV} {s1 : Shared} {h' : Heap} (S : StR C F own ρ s) (e : Ext s s1) (hx : C.cc.σ x = some i) (ho : own i a) (h1 : Holds s.heap F.env x (.ref a)) (sb : Heap.SameBut a s1.heap h') (pl : h'.PlainList a vs'.toArray)
    (r : RepAll s1.heap (Okc F.Ok own) vs' ys) (hz : Sz (.list ys)) : StR C F (takeOwn own i (own i)) (setS ρ i (some (.list ys, 1))) { s1 with heap := h' } :=
  S.turn G (tk := s1.toks) e hx ho sb (plain_some pl) h1 (.one ho pl (r.mono (turn_moves ho sb))) hz
theorem sz_snoc {xs : List PV} {x : PV} (h : Sz (.list xs)) (hl : xs.length < LST) (hx : Sz x) : Sz (.list (xs ++ [x])) :=
  .list (by rw [List.length_append]; exact hl) fun y hy => (List.mem_append.mp hy).elim (h.list_all y) fun h => List.mem_singleton.mp h ▸ hx

theorem ss_append (G : C.cc.Good) {x : Str} {i : Nat} {me : ME} {e : Expr} {p apos pos pos' : Pos} (hx : C.cc.σ x = some i) (hd : (x == ("__debug__" : Str)) = false) (hcd : (x == ("__classdict__" : Str)) = false)
    (hline : (apos.endLine == pos.line) = true) (hn : notStar e = true) (h : SE C me e) : SS C (.append i me) (.Expr (.Call (.Attribute (.Name x p) "append" apos) [e] [] pos) pos') := by
  intro F own0 ρ0 s P S0 hp E Q q
  obtain ⟨own, S⟩ := S0.freeze G (esc true me)
  obtain ⟨xs, h1, h2⟩ := own_inv hp
  obtain ⟨w, hw, hb, hz⟩ := S.get x i hx _ _ h1
  obtain ⟨a, vs, rfl, ho, hpl, hra⟩ := hb.one_inv
  refine wpAny_Expr (call_own S hw hd hcd hpl hline PySem.F.slot_list_append PySem.F.type_list_append (by rw [starEach_plain hn]; rfl) (plain_one hn) (spliced_one hn (h F.A F.env _ _ s _ S.here h2 E _ fun u s1 y l e1 r1 hy => ?_))) (not_inter S.st.kind) rfl
  obtain ⟨rfl, hlt, hq⟩ := l0_inv hy
  refine wpAny_list_append_plain (hpl.at fun o => e1.keep a o) (fun h' pl' sb => ?_) (by rw [List.size_toArray, hra.length]; exact lst_size hz.list_len)
  exact q _ _ _ .next _ (S.turned G (v := .none) e1 hx ho hw sb (List.push_toArray vs u ▸ pl') ((hra.ext e1).append (.cons r1.r.rep0 .nil)) (sz_snoc hz hlt r1.z)) rfl hq

theorem RepAll.snoc_inv {Ok : Addr → Prop} {x : PV} {xs : List PV} : ∀ {vs : List Value}, RepAll h Ok vs (xs ++ [x]) → ∃ ws u, vs = ws ++ [u] ∧ RepAll h Ok ws xs ∧ Rep h Ok u x := by
  induction xs with
  | nil => exact fun r => let ⟨u, ws, e, r1, r2⟩ := r.inv_cons; ⟨[], u, by rw [e, r2.inv_nil]; rfl, .nil, r1⟩
  | cons y xs ih => exact fun r => let ⟨u, ws, e, r1, r2⟩ := r.inv_cons; let ⟨ws', t, e', r3, r4⟩ := ih r2; ⟨u :: ws', t, by rw [e, e']; rfl, .cons r1 r3, r4⟩
theorem txt_noref {Ok : Addr → Prop} {v : Value} {k : Bool} {cs : List Nat} {P : Value → Prop} (r : Rep h Ok v (.txt k cs)) (h1 : ∀ x t, P (.str x t)) (h2 : ∀ x t, P (.bytes x t)) : P v :=
  TxtIs.rec (motive := fun v _ _ _ => P v) (fun _ _ => h1 _ _) (fun _ _ => h2 _ _) (show TxtIs v k cs from r.inv)
theorem ss_pop (G : C.cc.Good) {x : Str} {i : Nat} {p apos pos pos' : Pos} (hx : C.cc.σ x = some i) (hd : (x == ("__debug__" : Str)) = false) (hcd : (x == ("__classdict__" : Str)) = false)
    (hline : (apos.endLine == pos.line) = true) : SS C (.pop i) (.Expr (.Call (.Attribute (.Name x p) "pop" apos) [] [] pos) pos') := by
  intro F own ρ s P S hp E Q q
  obtain ⟨xs, h1, ys, tk, cs, rfl, hq⟩ := own_inv hp
  obtain ⟨w, hw, hb, hz⟩ := S.get x i hx _ _ h1
  obtain ⟨a, vs, rfl, ho, hpl, hra⟩ := hb.one_inv
  obtain ⟨ws, u, rfl, r1, r2⟩ := hra.snoc_inv
  obtain ⟨n, ho1⟩ := hpl
  have hsz : (ws ++ [u]).toArray.size - 1 = ws.length := by rw [List.size_toArray, List.length_append]; rfl
  have pl' := plain_update (fun xs => xs.eraseIdxIfInBounds ((ws ++ [u]).toArray.size - 1)) ho1
  have e3 : (ws ++ [u]).toArray.eraseIdxIfInBounds ((ws ++ [u]).toArray.size - 1) = ws.toArray := by rw [hsz]; exact (kl_erase ws [] u).trans (by rw [List.append_nil])
  have fin := q _ _ _ .next _ (S.turned G (v := .none) (.refl s) hx ho hw (Heap.SameBut.update ..) (e3 ▸ pl') r1 (.list (Nat.le_trans (by rw [List.length_append]; exact Nat.le_add_right _ _) hz.list_len) fun y hy => hz.list_all y (List.mem_append_left _ hy))) rfl hq
  exact wpAny_Expr (call_own S hw hd hcd ⟨n, ho1⟩ hline PySem.F.slot_list_pop PySem.F.type_list_pop rfl rfl (Calls.spliced_nil (call_meets PySem.F.slot_list_pop ⟨_, ho1, rfl⟩ PySem.F.entry_list_pop (PySem.F.args_list_pop_1 _)
    (PySem.MeetsSeq.list_pop_last a (ws ++ [u]).toArray n u (by rw [hsz, List.getElem?_toArray]; exact List.getElem?_concat_length) (by rw [List.size_toArray, hra.length]; exact lst_size hz.list_len))
      ⟨ho1, txt_noref (P := fun u' => match u' with | .ref _ => False | _ => Q .next { s with heap := s.heap.update a (Obj.mapSeq fun xs => xs.eraseIdxIfInBounds ((ws ++ [u]).toArray.size - 1)) }) r2 (fun _ _ => fin) fun _ _ => fin⟩))) (not_inter S.st.kind) rfl

/-! in place -/
theorem ss_aug (G : C.cc.Good) {x : Str} {i : Nat} {o : BOp} {me : ME} {e : Expr} {p pos : Pos} (ok : AugOk C.W o) (hx : C.cc.σ x = some i) (hcd : (x == ("__classdict__" : Str)) = false) (h : SE C me e) :
    SS C (.aug i o me) (.AugAssign (.Name x p) o.op e pos) := by
  intro F own0 ρ0 s P S0 hp E Q q
  obtain ⟨own, S⟩ := S0.freeze G (esc false me)
  obtain ⟨v, h1, h2⟩ := slot0_inv hp
  obtain ⟨w, hw, hb, hz⟩ := S.get x i hx _ _ h1
  refine wpAny_AugAssign_Name (load_name hw S.st.kind hcd (h F.A F.env _ _ s _ S.here h2 E _ fun t s1 y l e1 r1 hy => ?_))
  obtain ⟨rfl, hy⟩ := l0_inv hy
  exact ok F.A s1 _ _ _ _ _ _ (hb.zero_inv.ext e1) r1.r.rep0 hy _ _ fun t' s2 z e2 r2 sz hq => (S.ext (e1.trans e2)).store0 G hx r2 sz fun s'' _ S'' => q _ s'' _ .next _ S'' rfl hq

theorem set_sz {xs : List PV} {n : Nat} {z : PV} (h : Sz (.list xs)) (hz : Sz z) : Sz (.list (xs.set n z)) :=
  .list (by rw [List.length_set]; exact h.list_len) fun y hy => (List.mem_or_eq_of_mem_set hy).elim (h.list_all y) fun e => e ▸ hz
theorem ss_augIdx (G : C.cc.Good) {x : Str} {i : Nat} {o : BOp} {mi me : ME} {e ei : Expr} {p p' pos : Pos} (ok : AugOk C.W o) (hx : C.cc.σ x = some i) (hd : (x == ("__debug__" : Str)) = false) (hcd : (x == ("__classdict__" : Str)) = false) (hi : SE C mi ei) (h : SE C me e)
    (hst : ∀ ov iv new, augStore ei ov iv new = (do holding [new, ov, iv] (setItem ov iv new); release [new, ov, iv] []; pure .next)) :
    SS C (.augIdx i mi o me) (.AugAssign (.Subscript (.Name x p) ei p') o.op e pos) := by
  intro F own ρ s P S hp E Q q
  obtain ⟨xs, h1, h2⟩ := own_inv hp
  obtain ⟨w, hw, hb, hz⟩ := S.get x i hx _ _ h1
  obtain ⟨a, vs, rfl, ho, hpl, hra⟩ := hb.one_inv
  have hl : vs.length ≤ LST := hra.length ▸ hz.list_len
  -- the index is read first; what is told of the value comes behind it
  refine wpAny_AugAssign_SubscriptAny (hw.load (h := s.heap) S.st.kind hd hcd (hi F.A F.env _ ρ s _ S.here h2 E _ fun iv s1 y li e1 r1 h3 => ?_)) hst
  obtain ⟨kk, rfl, v, hv, h4⟩ := int_inv h3
  obtain ⟨n, hxn, hcase⟩ := idxAt_at hv
  have hn : placeOfI xs kk = n := by
    unfold placeOfI
    rcases hcase with ⟨h0, rfl, _⟩ | ⟨h0, _, rfl⟩
    · exact if_pos h0
    · exact if_neg (Int.not_le.mpr h0)
  rw [hn] at h4
  obtain ⟨ti, rfl⟩ := r1.r.inv.inv
  obtain ⟨v0, hv0, rv0⟩ := hra.get n v hxn
  rw [← hra.length] at hcase
  refine getItem_raw (hpl.at fun o => e1.keep a o) hl hv0 hcase (h F.A F.env _ ρ s1 _ (S.ext e1).here h4 E _ fun t s2 y2 l2 e2 r2 h5 => ?_)
  obtain ⟨rfl, h5⟩ := l0_inv h5
  refine ok F.A s2 _ _ _ _ _ _ ((rv0.ext e1).ext e2) r2.r.rep0 h5 _ _ fun t' s3 z e3 r3 sz hq => ?_
  have e13 := (e1.trans e2).trans e3
  obtain ⟨nn, ho3⟩ := hpl.at fun o => e13.keep a o
  have pl' := plain_update (·.setIfInBounds n t') ho3
  rw [List.setIfInBounds_toArray] at pl'
  have fin := q _ _ _ .next _ (S.turned G (v := .none) e13 hx ho hw (Heap.SameBut.update ..) pl' ((hra.ext e13).set r3 n) (set_sz hz sz)) rfl hq
  have h63 : -(2 ^ 63 : Int) ≤ -(vs.length : Int) := Int.neg_le_neg (Int.le_of_lt (lst_63 hl))
  rcases hcase with ⟨h0, rfl, h6⟩ | ⟨h0, h6, rfl⟩
  · exact ki_setAt (n := nn) ho3 h0 (Int.lt_trans h6 (lst_63 hl)) (by rw [List.size_toArray]; exact h6) fin
  · exact ki_setBack (n := nn) ho3 h0 (by rw [List.size_toArray]; exact h6) (Int.le_trans h63 h6) (by rw [List.size_toArray]; exact fin)
end
end Mine
end
noncomputable section
namespace Mine
open Builtin

/-! dicts by ints -/
section
variable {h : Heap} {Ok : Addr → Prop} {i : Int} {v : Value} {x : PV}
theorem stored_map (hv : Rep h Ok v x) {kvs : List (Int × Value)} : ∀ {es : List (Int × PV)}, kvs.map (·.1) = es.map (·.1) → RepAll h Ok (kvs.map (·.2)) (es.map (·.2)) →
    (kvs.map fun kv => if kv.1 = i then (kv.1, v) else kv).map (·.1) = (es.map fun e => if e.1 = i then (e.1, x) else e).map (·.1) ∧ RepAll h Ok ((kvs.map fun kv => if kv.1 = i then (kv.1, v) else kv).map (·.2)) ((es.map fun e => if e.1 = i then (e.1, x) else e).map (·.2)) ∧
    (kvs.any fun kv => decide (kv.1 = i)) = (es.any fun e => decide (e.1 = i)) := by
  induction kvs with
  | nil => intro es e _; cases es with
    | nil => exact ⟨rfl, .nil, rfl⟩
    | cons _ _ => exact nomatch e
  | cons a r ih => intro es e q; cases es with
    | nil => exact nomatch e
    | cons b t =>
      obtain ⟨a, w⟩ := a
      obtain ⟨b, y⟩ := b
      obtain ⟨e1, e2⟩ := List.cons.inj e
      obtain ⟨w', ws, e3, h1, h2⟩ := q.inv_cons
      obtain ⟨rfl, rfl⟩ := List.cons.inj e3
      obtain ⟨i1, i2, i3⟩ := ih e2 h2
      have e1 : a = b := e1
      subst e1
      have h3 : (decide (a = i) || r.any fun kv => decide (kv.1 = i)) = (decide (a = i) || t.any fun e => decide (e.1 = i)) := congrArg _ i3
      by_cases q : a = i
      · refine ⟨?_, ?_, h3⟩
        · show (if a = i then (a, v) else (a, w)).1 :: _ = (if a = i then (a, x) else (a, y)).1 :: _
          rw [if_pos q, if_pos q, i1]
        · show RepAll h Ok ((if a = i then (a, v) else (a, w)).2 :: _) ((if a = i then (a, x) else (a, y)).2 :: _)
          rw [if_pos q, if_pos q]; exact .cons hv i2
      · refine ⟨?_, ?_, h3⟩
        · show (if a = i then (a, v) else (a, w)).1 :: _ = (if a = i then (a, x) else (a, y)).1 :: _
          rw [if_neg q, if_neg q, i1]
        · show RepAll h Ok ((if a = i then (a, v) else (a, w)).2 :: _) ((if a = i then (a, x) else (a, y)).2 :: _)
          rw [if_neg q, if_neg q]; exact .cons h1 i2
theorem setDict_stored {kvs : List (Int × Value)} {es : List (Int × PV)} (h1 : kvs.map (·.1) = es.map (·.1)) (h2 : RepAll h Ok (kvs.map (·.2)) (es.map (·.2))) (hv : Rep h Ok v x) :
    (stored kvs i v).map (·.1) = (setDict es i x).map (·.1) ∧ RepAll h Ok ((stored kvs i v).map (·.2)) ((setDict es i x).map (·.2)) := by
  obtain ⟨i1, i2, i3⟩ := stored_map (i := i) hv h1 h2
  unfold stored setDict
  rw [i3]
  split
  · exact ⟨i1, i2⟩
  · rw [List.map_append, List.map_append, List.map_append, List.map_append, h1]
    exact ⟨rfl, h2.append (.cons hv .nil)⟩
theorem setDict_sz {es : List (Int × PV)} (h : Sz (.dict es)) (hx : Sz x) : Sz (.dict (setDict es i x)) := by
  have h : ∀ e ∈ es, Sz e.2 := by cases h; assumption
  refine .dict fun e he => ?_
  unfold setDict at he
  split at he
  · obtain ⟨e', he', rfl⟩ := List.mem_map.mp he
    split
    · exact hx
    · exact h e' he'
  · exact (List.mem_append.mp he).elim (h e) fun he => List.mem_singleton.mp he ▸ hx
end
section
variable {C : Cx}
theorem ss_setIdx (G : C.cc.Good) {x : Str} {i : Nat} {mi me : ME} {e ei : Expr} {p p' pos : Pos} (hx : C.cc.σ x = some i) (hd : (x == ("__debug__" : Str)) = false) (hcd : (x == ("__classdict__" : Str)) = false) (hnc : notComp e = true) (hi : SE C mi ei) (h : SE C me e) :
    SS C (.setIdx i mi me) (.Assign [.Subscript (.Name x p) ei p'] e pos) := by
  intro F own0 ρ0 s P S0 hp E Q q
  obtain ⟨own, S⟩ := S0.freeze G (esc true me)
  obtain ⟨es, h1, h2⟩ := dict_inv hp
  obtain ⟨u, hu, hb, hz⟩ := S.get x i hx _ _ h1
  obtain ⟨a, rfl, ho, kvs, k1, k2, k3⟩ := hb.dict_inv
  refine wpAny_Assign_Subscript (h F.A F.env _ _ s _ S.here h2 E _ fun w s1 y l e1 r1 h3 => ?_) (swaps_plain hnc _ _ _)
  obtain ⟨rfl, h3⟩ := l0_inv h3
  refine (hu.keeps e1.keep).load (h := s1.heap) S.st.kind hd hcd (hi F.A F.env _ _ s1 _ (S.ext e1).here h3 E _ fun iv s2 y2 l2 e2 r2 h4 => ?_)
  obtain ⟨kk, rfl, hlt, hq⟩ := int_inv h4
  obtain ⟨ti, rfl⟩ := r2.r.inv.inv
  have e12 := e1.trans e2
  refine wpAny_setItem_pairs (intKind_is C.W.prog C.W.w kk ti) (k1.keep e12.keep) (fun h' hd' sb => ?_) (by
    have : kvs.length = es.length := by have := congrArg List.length k2; rw [List.length_map, List.length_map] at this; exact this
    rw [this]; exact lim_size (Nat.le_trans (Nat.le_of_lt hlt) (by decide)))
  have mv : Moves s2.heap h' (Okc F.Ok own) (Okc F.Ok own) := turn_moves ho sb
  have k4 := setDict_stored (i := kk) k2 ((k3.ext e12).mono mv) ((r1.r.rep0.ext e2).mono mv)
  exact q _ _ _ .next _ (S.turn G (tk := s2.toks + 1) e12 hx ho sb (let ⟨_, _, _, ho, _⟩ := hd'; some_ne ho) hu (.dict ho ⟨stored kvs kk w, hd', k4.1, k4.2⟩) (setDict_sz hz r1.z)) rfl hq
end

/-! ## a def of the program, from its body -/
section
variable {kd : Str → Option NameKind} {x : Str} {w : Value}
theorem bindL_other {bs : List (Str × Value)} : ∀ {m : Str → Option Value}, (∀ b ∈ bs, b.1 ≠ x) → bindL kd bs m x = m x := by
  induction bs with
  | nil => exact fun _ => rfl
  | cons b r ih =>
    intro m h
    unfold bindL
    rw [ih fun b hb => h b (.tail _ hb)]
    split
    · exact if_neg (Ne.symm (h _ (.head _)))
    · rfl
theorem bindC_other {bs : List (Str × Value)} : ∀ {m : Str → Option Value}, (∀ b ∈ bs, b.1 ≠ x) → bindC kd bs m x = m x := by
  induction bs with
  | nil => exact fun _ => rfl
  | cons b r ih =>
    intro m h
    unfold bindC
    rw [ih fun b hb => h b (.tail _ hb)]
    split
    · rfl
    · exact if_neg (Ne.symm (h _ (.head _)))
theorem not_zip {p : Str} {ps : List Str} {ws : List Value} (h : p ∉ ps) : ∀ b ∈ ps.zip ws, b.1 ≠ p := fun b hb e => h (e ▸ (List.of_mem_zip hb).1)
theorem bind_at {ps : List Str} : ∀ {ws : List Value} {i : Nat} {m : Str → Option Value}, ps.Nodup → ps[i]? = some x → ws[i]? = some w →
    (kd x = some .local → bindL kd (ps.zip ws) m x = some w) ∧ (kd x ≠ some .local → bindC kd (ps.zip ws) m x = some w) := by
  induction ps with
  | nil => exact fun _ h => nomatch h
  | cons p ps ih =>
    intro ws i m hn h1 h2
    obtain ⟨h3, h4⟩ := List.nodup_cons.mp hn
    cases ws with
    | nil => exact nomatch h2
    | cons u ws => cases i with
      | zero =>
        cases h1; cases h2
        rw [List.zip_cons_cons]
        unfold bindL bindC
        exact ⟨fun hk => by rw [bindL_other (not_zip h3), if_pos hk, if_pos rfl], fun hk => by rw [bindC_other (not_zip h3), if_neg hk, if_pos rfl]⟩
      | succ i =>
        rw [List.zip_cons_cons]
        unfold bindL bindC
        have e1 : ps[i]? = some x := h1
        have e2 : ws[i]? = some w := h2
        exact ⟨(ih h4 e1 e2).1, (ih h4 e1 e2).2⟩
theorem cells_acc {names : List (Str × NameKind)} : ∀ {n : Nat} {acc : List (Str × Addr)}, ((acc.lookup x).isSome = true ∨ (x, NameKind.cell) ∈ names) → ((cellsFrom n names acc).lookup x).isSome = true := by
  induction names with
  | nil => exact fun h => h.elim id fun h => nomatch h
  | cons p r ih =>
    intro n acc h
    obtain ⟨nm, kd⟩ := p
    unfold cellsFrom
    by_cases hk : (kd == NameKind.cell) = true
    · rw [if_pos hk]
      refine ih ?_
      rw [List.lookup_cons]
      cases q : x == nm with
      | true => exact .inl rfl
      | false => exact h.imp id fun h => (List.mem_cons.mp h).elim (fun e => nomatch q.symm.trans (beq_iff_eq.mpr (Prod.mk.inj e).1)) id
    · rw [if_neg hk]
      exact ih (h.imp id fun h => (List.mem_cons.mp h).elim (fun e => absurd (beq_iff_eq.mpr (Prod.mk.inj e).2.symm) hk) id)
end
theorem get_args {xs : List PV} {n i : Nat} {pv : PV} {l : Nat} (h : getS (slotsOf xs n) i = some (pv, l)) : xs[i]? = some pv ∧ l = 0 := by
  induction n generalizing xs i with
  | zero => cases xs <;> exact nomatch h
  | succ n ih => cases xs with
    | nil =>
      have : ∀ n i, getS (List.replicate n none) i = none := fun n => Nat.rec (fun _ => rfl) (fun n ih i => Nat.casesOn i rfl ih) n
      exact nomatch (this (n + 1) i).symm.trans h
    | cons x xs => cases i with
      | zero => cases h; exact ⟨rfl, rfl⟩
      | succ i => exact ih (i := i) (xs := xs) h
theorem slots_len {xs : List PV} {n : Nat} (h : xs.length ≤ n) : (slotsOf xs n).length = n := by
  induction n generalizing xs with
  | zero => cases xs with
    | nil => rfl
    | cons _ _ => exact nomatch h
  | succ n ih => cases xs with
    | nil => exact List.length_replicate
    | cons x xs => exact congrArg (· + 1) (ih (Nat.le_of_succ_le_succ h))

/-- the names of a def's scope -/
structure ScopeOk (cc : CC) (scope : Scope) (ps : List Str) : Prop where
  good : cc.Good
  gl : ∀ x, cc.gl x = true → scope.names.lookup x = some .globalImplicit
  cl : ∀ x, cc.cl x = true → scope.names.lookup x = some .cell
  st : ∀ x i, cc.σ x = some i → scope.names.lookup x = some .local ∨ scope.names.lookup x = some .cell
  par : ∀ i x, ps[i]? = some x → cc.σ x = some i
  nodup : ps.Nodup
  kind : scope.kind = .function
  few : ps.length ≤ cc.n
/-- how a call's arguments meet the parameters -/
def Packs (W : Wld) (fd : FuncData) (ps : List Str) (pack : List PV → (List PV → Prop) → Prop) : Prop :=
  ∀ (A : Around) (s : Shared) (Ok : Addr → Prop) (vs : List Value) (xs : List PV) (Z : List PV → Prop) (E : Value → Shared → Prop) (Q : List (Str × Value) → Shared → Prop), W.On s.heap → Fresh Ok s → Vals s.heap Ok vs xs → pack xs Z →
    (∀ ws ys s', Ext s s' → Vals s'.heap Ok ws ys → ws.length = ps.length → Z ys → Q (ps.zip ws) s') → wpAny W.M A (bindArgs fd ⟨vs, []⟩) Q E s
/-- what is known of a def -/
structure DefIs (W : Wld) (fa : Addr) (fd : FuncData) (body : List Stmt) : Prop where
  body : fd.body = .stmts body
  obj : ∃ o, W.K.lookup fa = some o ∧ o.data = .func fd
  code : ∀ h : Heap, W.On h → h.CodeRec fd.code fd.qualname
  globals : fd.globals = mainGlobals
  builtins : fd.builtins = builtinsNs
  closure : fd.closure = []
  co : fd.scope.isCoroutine = false
  gen : fd.scope.isGenerator = false
theorem fun_enter {C : Cx} {fa : Addr} {fd : FuncData} {body : List Stmt} {ps : List Str} {pack : List PV → (List PV → Prop) → Prop}
    (D : DefIs C.W fa fd body) (hpack : Packs C.W fd ps pack) (hsc : ScopeOk C.cc fd.scope ps) {A : Around} {s : Shared} {Ok : Addr → Prop} {vs : List Value} {xs : List PV} {Z : List PV → Prop}
    (hr : RoomF A (C.k + 1)) (hon : C.W.On s.heap) (hfr : Fresh Ok s) (hra : Vals s.heap Ok vs xs) (hz : pack xs Z) {R : Result → Shared → Prop}
    (q : ∀ env s1 s2 ys, Ext s s1 → Ext s1 s2 → env.frame = some env.locals → s1.heap.get? env.locals = none → (∀ y, env.kindOf y = fd.scope.names.lookup y) → Z ys → StR C ⟨A.deeper env, env, fun b o => s1.heap.get? b = some o, s1, Ok⟩ (fun _ _ => False) (slotsOf ys C.cc.n) s2 → codeAny C.W.M A (.func body env) R s2) :
    codeAny C.W.M A (.call (.ref fa) ⟨vs, []⟩) R s := by
  obtain ⟨o, hK, hd⟩ := D.obj
  have hdep : A.depth < recursionLimit := by have := hr.dep; unfold recursionLimit; omega
  refine codeAny_call_function hdep (hon.frag _ _ hK) hd D.co D.gen D.body (D.code _ hon) (hpack A.in1 s Ok vs xs _ _ _ hon hfr hra hz fun ws ys s1 e1 rw_ hlen hz => ?_)
  rw [D.closure, D.globals, D.builtins]
  have hon1 := hon.ext e1
  have kindAt : ∀ x ∈ ps.zip ws, fd.scope.names.lookup x.1 = some .local ∨ (fd.scope.names.lookup x.1 = some .cell ∧ ((cellsFrom (s1.heap.objs.size + 1) fd.scope.names []).lookup x.1).isSome = true) := fun x hx =>
    let ⟨i, hi⟩ := List.mem_iff_getElem?.mp (List.of_mem_zip hx).1
    (hsc.st _ _ (hsc.par i _ hi)).imp_right fun h => ⟨h, cells_acc (.inr (lookup_mem h))⟩
  refine wpAny_newFunctionEnv_cells hsc.kind kindAt fun env he s2 x => ?_
  obtain ⟨hsame0, hns, hkeep, hfre⟩ := x.toInCall
  have hsame : Same s1 s2 := by obtain ⟨h, tk, e⟩ := hsame0; rw [e]; exact ⟨rfl, rfl⟩
  have e2 : Ext s1 s2 := ⟨hsame, hkeep⟩
  have henvl : env.locals = s1.heap.objs.size := by rw [he]; rfl
  have hkd : ∀ y, env.kindOf y = fd.scope.names.lookup y := fun y => by rw [he]; rfl
  have henvc : env.cells = cellsFrom (s1.heap.objs.size + 1) fd.scope.names [] := by rw [he]; rfl
  have hcell : ∀ {y}, fd.scope.names.lookup y = some .cell → ∃ c, env.cells.lookup y = some c := fun h => by
    rw [henvc]; exact Option.isSome_iff_exists.mp (cells_acc (.inr (lookup_mem h)))
  have hyl : ys.length = ps.length := by rw [← rw_.1.length, hlen]
  have T : StS C ⟨A.deeper env, env, fun b o => s1.heap.get? b = some o, s1, Ok⟩ := by
    refine ⟨⟨hr.hd, ?_, ?_⟩, fun h hh => hon1.keeps hh, by rw [he]; exact hsc.kind, by rw [he]; rfl, by rw [he]; rfl, fun y hy => by rw [hkd]; exact hsc.gl y hy, fun y hy => ⟨.inl (by rw [hkd]; exact hsc.cl y hy), hcell (hsc.cl y hy)⟩, fun y i hy => by rw [hkd]; exact (hsc.st y i hy).imp_right fun h => ⟨h, hcell h⟩,
      fun y y' c h1 h2 => name_of_addr x.apart (mem_of_lookup h1) (mem_of_lookup h2), ?_⟩
    · have := hr.dep; show A.depth + 1 + 2 * C.k < 900; omega
    · have := hr.un; show A.units + 3 + 200 * C.k + 200 < cLine; omega
    · rintro b (rfl | ⟨y, hy⟩) o hb
      · exact Nat.lt_irrefl _ (henvl ▸ Heap.lt_size hb)
      · exact absurd (Heap.lt_size hb) (Nat.not_lt.mpr (Nat.le_of_lt (henvl ▸ x.above y b (mem_of_lookup hy))))
  have S : StR C ⟨A.deeper env, env, fun b o => s1.heap.get? b = some o, s1, Ok⟩ (fun _ _ => False) (slotsOf ys C.cc.n) s2 := by
    refine ⟨T, hkeep, hsame, fun a ha => hfr a ((e1.trans e2).fresh ha), slots_len (hyl ▸ hsc.few), fun y i hy pv l hi => ?_, ⟨_, hns⟩, fun y c hc => ⟨_, x.cell y c hc⟩, fun _ _ h => h.elim, fun _ _ _ h => h.elim⟩
    obtain ⟨hv, rfl⟩ := get_args hi
    obtain ⟨w, hw, rw1⟩ := rw_.1.get i _ hv
    have hpi : ps[i]? = some y := by
      have hl := (List.getElem?_eq_some_iff.mp hv).1
      rw [hyl] at hl
      have h := List.getElem?_eq_getElem hl
      rw [h, hsc.good.inj _ _ _ (hsc.par i _ h) hy]
    have hb := bind_at (kd := env.kindOf) (m := fun _ => none) hsc.nodup hpi hw
    refine ⟨w, ?_, .zero ((rw1.ext e2).weaken fun b hb => ⟨hb, fun _ h => h⟩), rw_.2 _ (List.mem_of_getElem? hv)⟩
    rcases hsc.st y i hy with h | h
    · have h := (hkd y).trans h
      exact .inl ⟨h, _, hns, hb.1 h⟩
    · obtain ⟨c, hc⟩ := hcell h
      have h := (hkd y).trans h
      have hcl := x.cell y c hc
      rw [hb.2 (by rw [h]; decide)] at hcl
      exact .inr ⟨.inl h, c, hc, hcl⟩
  exact ⟨hon1.nolimit.keeps hkeep, q env s1 s2 ys e1 e2 (by rw [he]; rfl) (henvl ▸ get_size _) hkd hz S⟩
theorem fun_ok {C : Cx} {fa : Addr} {fd : FuncData} {body : List Stmt} {ms : MS} {ps : List Str} {pack : List PV → (List PV → Prop) → Prop}
    (D : DefIs C.W fa fd body) (hpack : Packs C.W fd ps pack) (hsc : ScopeOk C.cc fd.scope ps) (hsb : SB C ms body) :
    FunOk C.W (C.k + 1) fa fun xs Z => pack xs fun ys => callP C.Γ C.cc.n ms ys Z := by
  intro A s Ok vs xs Z hr hon hfr hra hz R q
  refine fun_enter D hpack hsc hr hon hfr hra hz fun env s1 s2 ys e1 e2 _ _ _ hz S => codeAny_func (hsb _ _ _ s2 _ S hz _ _ fun own' s' ρ' fl f S' hf hz => ?_)
  have e3 : Ext s1 s' := ⟨S'.same, S'.kept⟩
  cases fl with
  | next => cases hf; exact q .none s' .none (e1.trans e3) .none .none hz
  | ret v => obtain ⟨w, rfl, hw, sz⟩ := hf; exact q w s' v (e1.trans e3) hw sz hz
  | brk => exact hz.elim
  | cont => exact hz.elim

def lenIs : Nat → List PV → Prop → Prop
  | 0, [], P => P
  | n + 1, _ :: r, P => lenIs n r P
  | _, _, _ => False
theorem lenIs_inv {n : Nat} {xs : List PV} {P : Prop} (h : lenIs n xs P) : xs.length = n ∧ P := by
  induction n generalizing xs with
  | zero => cases xs with
    | nil => exact ⟨rfl, h⟩
    | cons _ _ => exact h.elim
  | succ n ih => cases xs with
    | nil => exact h.elim
    | cons _ _ => exact (ih h).imp_left (congrArg (· + 1))
theorem packs_plain {W : Wld} {fd : FuncData} {ps : List Str} {n : Nat} (hn : ps.length = n) (h : ∀ vs : List Value, vs.length = n → bindArgs fd ⟨vs, []⟩ = pure (ps.zip vs)) : Packs W fd ps (fun xs Z => lenIs n xs (Z xs)) :=
  fun A s Ok vs xs Z E Q hon fr r e q => by
    obtain ⟨hl, z⟩ := lenIs_inv e
    have hv : vs.length = n := r.1.length.trans hl
    rw [h vs hv]
    exact wpAny_pure (q vs xs s (.refl s) r (hv.trans hn.symm) z)
def packVar : List PV → (List PV → Prop) → Prop
  | x :: xs, Z => xs.length ≤ LST ∧ Z [x, .tup xs]
  | [], _ => False
theorem packs_var {W : Wld} {fd : FuncData} {pa pp : Str} (h : ∀ (v : Value) (vs : List Value), bindArgs fd ⟨v :: vs, []⟩ = (do let t ← newTuple vs; pure [(pa, v), (pp, t)])) : Packs W fd [pa, pp] packVar :=
  fun A s Ok vs xs Z E Q hon fr r e q => by
    cases xs with
    | nil => exact e.elim
    | cons x xs =>
      obtain ⟨hl, z⟩ := e
      obtain ⟨v, ws, rfl, r1, rs⟩ := r.1.inv_cons
      rw [h]
      have ep := Ext.push s { cls := .type "tuple", data := .seq ws.toArray 0 }
      exact wpAny_bind (wpAny_newTuple (wpAny_pure (q [v, _] [x, .tup xs] _ ep ⟨.cons (r1.ext ep) (.cons (.tup (fr _ (get_size _)) ⟨0, Heap.get?_push_size _ rfl⟩ (rs.ext ep)) .nil),
        mem_cons_all (r.2 x (.head _)) (mem_cons_all (.tup hl fun y hy => r.2 y (.tail _ hy)) fun _ h => absurd h List.not_mem_nil)⟩ rfl z)) (by rw [rs.length]; exact lst_size hl))
end Mine
end
noncomputable section
namespace Mine
open Builtin

/-! ## from the program's text to the small language -/
/-- what a law's text may use -/
structure Cfg where
  bop : List { o : BOp // ∀ W, BinOk W o }
  aop : List { o : BOp // ∀ W, AugOk W o }
  cop : List { o : COp // ∀ W, CmpOk W o }
  meth : List { m : Meth // ∀ W, MethOk W m }
  b1 : List { b : BI1 // ∀ W, Bi1Ok W b }
  b2 : List { b : BI2 // ∀ W, Bi2Ok W b }
  cls : List String
/-- the names of the builtins, and what stands behind them -/
def Cfg.names (cfg : Cfg) : List (Str × Value) := (Str.ofString "range", Value.type "range") :: (((cfg.cls.map fun c => (Str.ofString c, Value.type c)) ++ (cfg.b1.map fun b => (b.1.nameS, b.1.valV))) ++ cfg.b2.map fun b => (b.1.nameS, b.1.valV))
structure Hy (cfg : Cfg) (fns : List Str) (C : Cx) : Prop where
  bg : ∀ p ∈ cfg.names, C.W.glob p.1 = some p.2
  gk : GOk C.W C.k C.Γ fns
  good : C.cc.Good
/-- the text's meaning in the small language -/
abbrev Snd (cfg : Cfg) (fns : List Str) (cc : CC) (P : Cx → Prop) : Prop := ∀ W Γ k, Hy cfg fns ⟨W, Γ, k, cc⟩ → P ⟨W, Γ, k, cc⟩
abbrev CE (cfg : Cfg) (fns : List Str) (cc : CC) (e : Expr) : Type := { me : ME // Snd cfg fns cc fun C => Both C me e }
abbrev CL (cfg : Cfg) (fns : List Str) (cc : CC) (es : List Expr) : Type := { me : ME // Snd cfg fns cc fun C => SL C me es }
abbrev CA (cfg : Cfg) (fns : List Str) (cc : CC) (es : List Expr) : Type := { me : ME // Snd cfg fns cc fun C => SA C me es }
abbrev CI (cfg : Cfg) (fns : List Str) (cc : CC) (e : Expr) : Type := { me : ME // Snd cfg fns cc fun C => SI C me e }
abbrev CP (cfg : Cfg) (fns : List Str) (cc : CC) (e : Option Expr) : Type := { me : ME // Snd cfg fns cc fun C => SPt C me e }

section
variable {cfg : Cfg} {fns : List Str} {C : Cx}
theorem Hy.cls (H : Hy cfg fns C) {c : String} (h : c ∈ cfg.cls) : C.W.glob (Str.ofString c) = some (.type c) := H.bg _ (.tail _ (List.mem_append_left _ (List.mem_append_left _ (List.mem_map_of_mem (f := fun c => (Str.ofString c, Value.type c)) h))))
theorem Hy.b1 (H : Hy cfg fns C) {b : { b : BI1 // ∀ W, Bi1Ok W b }} (h : b ∈ cfg.b1) : C.W.glob b.1.nameS = some b.1.valV := H.bg _ (.tail _ (List.mem_append_left _ (List.mem_append_right _ (List.mem_map_of_mem (f := fun b : { b : BI1 // ∀ W, Bi1Ok W b } => (b.1.nameS, b.1.valV)) h))))
theorem Hy.b2 (H : Hy cfg fns C) {b : { b : BI2 // ∀ W, Bi2Ok W b }} (h : b ∈ cfg.b2) : C.W.glob b.1.nameS = some b.1.valV := H.bg _ (.tail _ (List.mem_append_right _ (List.mem_map_of_mem (f := fun b : { b : BI2 // ∀ W, Bi2Ok W b } => (b.1.nameS, b.1.valV)) h)))
theorem Hy.range (H : Hy cfg fns C) : C.W.glob "range" = some (.type "range") := H.bg _ (.head _)
def pick {α β : Type} [BEq β] [LawfulBEq β] (f : α → β) (b : β) : (l : List α) → Option { a : α // a ∈ l ∧ f a = b }
  | [] => none
  | a :: r => if h : (f a == b) = true then some ⟨a, .head _, eq_of_beq h⟩ else (pick f b r).map fun x => ⟨x.1, .tail _ x.2.1, x.2.2⟩
def pickF (x : Str) : (l : List Str) → Option { i : Nat // l[i]? = some x }
  | [] => none
  | a :: r => if h : (a == x) = true then some ⟨0, congrArg some (eq_of_beq h)⟩ else (pickF x r).map fun i => ⟨i.1 + 1, i.2⟩
def badName (x : Str) : Bool := x == ("__debug__" : Str) || x == ("__classdict__" : Str)
theorem badName_of {x : Str} (h : ¬ badName x = true) : (x == ("__debug__" : Str)) = false ∧ (x == ("__classdict__" : Str)) = false := Bool.or_eq_false_iff.mp (Bool.eq_false_iff.mpr h)

def CE.bad {cc : CC} {e : Expr} : CE cfg fns cc e := ⟨.bad, fun _ _ _ _ => both_bad⟩
variable {cc : CC}
def cName (x : Str) (p : Pos) : CE cfg fns cc (.Name x p) :=
  if hb : badName x = true then .bad else
  match hx : cc.σ x with
  | some i => ⟨.var i, fun W Γ k H => both_plain (se_name hx (badName_of hb).1 (badName_of hb).2) (fun _ _ => rfl) fun _ => rfl⟩
  | none => if hg : cc.gl x = true then (match pick Str.ofString x cfg.cls with
    | some c => ⟨.lit (.cls c.1), fun W Γ k H => both_plain (se_cls hg ((congrArg W.glob c.2.2).symm.trans (H.cls c.2.1)) (badName_of hb).1) (fun _ _ => rfl) fun _ => rfl⟩
    | none => .bad) else .bad
variable (ih : ∀ (cc : CC) (e : Expr), CE cfg fns cc e)
def cList : (es : List Expr) → CL cfg fns cc es
  | [] => ⟨.nil, fun _ _ _ _ => sl_nil⟩
  | e :: r => if h : notStar e = true then ⟨.cons (ih cc e).1 (cList r).1, fun W Γ k H => sl_cons h ((ih cc e).2 W Γ k H).se ((cList r).2 W Γ k H)⟩ else
    match e with
    | .Starred e p => ⟨.star (ih cc e).1 (cList r).1, fun W Γ k H => sl_star ((ih cc e).2 W Γ k H).se ((cList r).2 W Γ k H)⟩
    | _ => ⟨.bad, fun _ _ _ _ _ _ _ _ _ _ _ _ h => h.elim⟩
def okA : List Expr → Bool
  | [e] => notStar e
  | _ => true
theorem okA_of {es : List Expr} (h : okA es = true) : es.length ≠ 1 ∨ ∃ e, es = [e] ∧ notStar e = true := by
  cases es with
  | nil => exact .inl (by decide)
  | cons e r => cases r with
    | nil => exact .inr ⟨e, rfl, h⟩
    | cons _ _ => exact .inl fun h => nomatch h
def cArgs (es : List Expr) : CA cfg fns cc es :=
  if h : okA es = true then ⟨(cList ih es).1, fun W Γ k H => sa_of ((cList ih es).2 W Γ k H) (okA_of h)⟩ else
  match es with
  | [.Starred e p] => ⟨.star (ih cc e).1 .nil, fun W Γ k H => sa_lone ((ih cc e).2 W Γ k H).se⟩
  | _ => ⟨.bad, fun _ _ _ _ _ _ _ _ _ _ _ _ _ h => h.elim⟩
def cBool (op : BoolOp) (pos : Pos) : (es : List Expr) → CE cfg fns cc (.BoolOp op es pos)
  | [] => .bad
  | e :: r => match r, cBool op pos r with
    | [], _ => ⟨(ih cc e).1, fun W Γ k H => both_one ((ih cc e).2 W Γ k H)⟩
    | e2 :: r, h => match op, h with
      | .And, h => ⟨.and_ (ih cc e).1 h.1, fun W Γ k H => both_and ((ih cc e).2 W Γ k H) (h.2 W Γ k H)⟩
      | .Or, h => ⟨.or_ (ih cc e).1 h.1, fun W Γ k H => both_or ((ih cc e).2 W Γ k H) (h.2 W Γ k H)⟩
def cPart : (e : Option Expr) → CP cfg fns cc e
  | none => ⟨.lit .none, fun _ _ _ _ => spt_none⟩
  | some e => ⟨(ih cc e).1, fun W Γ k H => spt_some ((ih cc e).2 W Γ k H).se⟩
def cSub (v i : Expr) (p : Pos) (more : CE cfg fns cc (.Subscript v i p)) : CE cfg fns cc (.Subscript v i p) :=
  match i, more with
  | .Slice l u st q, more => (match st, more with
    | none, _ => ⟨.cut (ih cc v).1 (cPart ih l).1 (cPart ih u).1, fun W Γ k H => both_plain (se_cut ((ih cc v).2 W Γ k H).se ((cPart ih l).2 W Γ k H) ((cPart ih u).2 W Γ k H)) (fun _ _ => rfl) fun _ => rfl⟩
    | some _, more => more)
  | i, _ => ⟨.idx (ih cc v).1 (ih cc i).1, fun W Γ k H => both_plain (se_idx ((ih cc v).2 W Γ k H).se ((ih cc i).2 W Γ k H).se) (fun _ _ => rfl) fun _ => rfl⟩
def cCall (x : Str) (p : Pos) (es : List Expr) (pos : Pos) (more : CE cfg fns cc (.Call (.Name x p) es [] pos)) : CE cfg fns cc (.Call (.Name x p) es [] pos) :=
  if hb : badName x = true then .bad else if hg : cc.gl x = true then
    match pickF x fns with
    | some i => ⟨.fn i.1 (cArgs ih es).1, fun W Γ k H => both_plain (se_fn H.gk i.2 hg (badName_of hb).1 ((cArgs ih es).2 W Γ k H)) (fun _ _ => rfl) fun _ => rfl⟩
    | none => match es, more with
      | [], more => more
      | e :: r, more => match r, more with
        | [], more => if hn : notStar e = true then (match pick (fun b : { b : BI1 // ∀ W, Bi1Ok W b } => b.1.nameS) x cfg.b1 with
          | some b => ⟨.bi1 b.1.1 (ih cc e).1, fun W Γ k H => by
              obtain ⟨b, hm, rfl⟩ := b
              exact both_plain (se_bi1 (b.2 W) hg (H.b1 hm) hn ((ih cc e).2 W Γ k H).se) (fun _ _ => rfl) fun _ => rfl⟩
          | none => more) else more
        | e2 :: r, more => match r, more with
          | [], more => if hn : notStar e = true ∧ notStar e2 = true then (match pick (fun b : { b : BI2 // ∀ W, Bi2Ok W b } => b.1.nameS) x cfg.b2 with
            | some b => ⟨.bi2 b.1.1 (ih cc e).1 (ih cc e2).1, fun W Γ k H => by
                obtain ⟨b, hm, rfl⟩ := b
                exact both_plain (se_bi2 (b.2 W) hg (H.b2 hm) hn.1 hn.2 ((ih cc e).2 W Γ k H).se ((ih cc e2).2 W Γ k H).se) (fun _ _ => rfl) fun _ => rfl⟩
            | none => more) else more
          | _ :: _, more => more
  else .bad
def cMeth (o : Expr) (m : Str) (apos : Pos) (es : List Expr) (pos : Pos) : CE cfg fns cc (.Call (.Attribute o m apos) es [] pos) :=
  match es with
  | [] => .bad
  | e :: r => match r with
    | [] => if h : (notSuper o = true ∧ (apos.endLine == pos.line) = true) ∧ notStar e = true then (match pick (fun m : { m : Meth // ∀ W, MethOk W m } => m.1.nameS) m cfg.meth with
      | some m => ⟨.meth m.1.1 (ih cc o).1 (ih cc e).1, fun W Γ k H => by
          obtain ⟨m, hm, rfl⟩ := m
          exact both_plain (se_meth (m.2 W) h.1.1 h.1.2 h.2 ((ih cc o).2 W Γ k H).se ((ih cc e).2 W Γ k H).se) (fun _ _ => rfl) fun _ => rfl⟩
      | none => .bad) else .bad
    | _ :: _ => .bad

/-! sources of loops -/
def plainSrc : ME → Bool
  | .range _ _ => false
  | .enum _ => false
  | _ => true
theorem its_plain {Γ : FEnv} {me : ME} (h : plainSrc me = true) : ∀ ρ Z, (evA Γ me ρ).its Z = (evA Γ me ρ).val fun x l => itsP x l Z := by
  cases me with
  | range _ _ => exact nomatch h
  | enum _ => exact nomatch h
  | _ => exact fun _ _ => rfl
def cVal (e : Expr) : CI cfg fns cc e :=
  if h : plainSrc (ih cc e).1 = true then ⟨(ih cc e).1, fun W Γ k H => si_val ((ih cc e).2 W Γ k H).se (its_plain h)⟩ else ⟨.bad, fun _ _ _ _ _ _ _ _ _ _ _ h => h.elim⟩
def cRange (x : Str) (p : Pos) (es : List Expr) (pos : Pos) (hx : (x == ("range" : Str)) = true ∧ cc.gl x = true) : CI cfg fns cc (.Call (.Name x p) es [] pos) :=
  match es with
  | [] => cVal ih _
  | e :: r => match r with
    | [] => if hn : notStar e = true then ⟨.range (.lit (.int 0)) (ih cc e).1, fun W Γ k H => by
        have e := eq_of_beq hx.1
        subst e
        exact si_range1 hx.2 H.range hn ((ih cc e).2 W Γ k H).se⟩ else cVal ih _
    | e2 :: r => match r with
      | [] => if hn : notStar e = true ∧ notStar e2 = true then ⟨.range (ih cc e).1 (ih cc e2).1, fun W Γ k H => by
          have e := eq_of_beq hx.1
          subst e
          exact si_range hx.2 H.range hn.1 hn.2 ((ih cc e).2 W Γ k H).se ((ih cc e2).2 W Γ k H).se⟩ else cVal ih _
      | _ :: _ => cVal ih _
def cSrc (e : Expr) : CI cfg fns cc e :=
  match e with
  | .Call f es kw pos => match f with
    | .Name x p => match kw with
      | [] => if h : (x == ("range" : Str)) = true ∧ cc.gl x = true then cRange ih x p es pos h else cVal ih _
      | _ :: _ => cVal ih _
    | _ => cVal ih _
  | _ => cVal ih _
end
end Mine
end
noncomputable section
namespace Mine
open Builtin

def compOkB (cc : CC) (scope : Scope) (x : Str) : Bool :=
  decide (scope.kind = .function) && (scope.names.all (fun y => (!(decide (y.2 = .free)) || cc.cl y.1) && (!(decide (y.2 = .cell)) && (!(decide (y.2 = .local)) || decide (scope.names.lookup y.1 = some .local)))) && decide (scope.names.lookup x = some .local))
theorem imp_of {p : Prop} [Decidable p] {b : Bool} (h : (!(decide p) || b) = true) (hp : p) : b = true := by rw [decide_eq_true hp] at h; exact h
theorem and_of {a b : Bool} (h : (a && b) = true) : a = true ∧ b = true := by
  cases a with
  | true => exact ⟨rfl, h⟩
  | false => exact nomatch h
theorem compOk_of {cc : CC} (G : cc.Good) {scope : Scope} {x : Str} (h : compOkB cc scope x = true) : CompOk cc scope x := by
  obtain ⟨h1, h⟩ := and_of h
  obtain ⟨h2, h3⟩ := and_of h
  have h2 := List.all_eq_true.mp h2
  exact ⟨of_decide_eq_true h1, fun y hy hf => imp_of (and_of (h2 y hy)).1 hf, fun y hy hf => by
    have := (and_of (and_of (h2 y hy)).2).1
    rw [decide_eq_true hf] at this
    exact absurd this Bool.false_ne_true, fun y hy hf => of_decide_eq_true (imp_of (and_of (and_of (h2 y hy)).2).2 hf), of_decide_eq_true h3, G.lt⟩
theorem comp_σ {cc : CC} {scope : Scope} {x y : Str} {i : Nat} (h : (cc.comp scope x).σ y = some i) : (y = x ∧ i = cc.n) ∨ (y ≠ x ∧ cc.σ y = some i) := by
  have h : (if y = x then some cc.n else if scope.names.lookup y = some .free then cc.σ y else none) = some i := h
  split at h
  · exact .inl ⟨‹_›, (Option.some.inj h).symm⟩
  · split at h
    · exact .inr ⟨‹_›, h⟩
    · exact nomatch h
theorem CC.Good.comp {cc : CC} (G : cc.Good) (scope : Scope) (x : Str) : (cc.comp scope x).Good where
  lt := fun y i h => (comp_σ h).elim (fun h => h.2 ▸ Nat.lt_succ_self _) fun h => Nat.lt_succ_of_lt (G.lt y i h.2)
  inj := fun y z i h1 h2 => (comp_σ h1).elim (fun a => (comp_σ h2).elim (fun b => a.1.trans b.1.symm) fun b => absurd (a.2 ▸ G.lt z i b.2) (Nat.lt_irrefl _)) fun a => (comp_σ h2).elim (fun b => absurd (b.2 ▸ G.lt y i a.2) (Nat.lt_irrefl _)) fun b => G.inj y z i a.2 b.2
/-- a list comprehension's parts -/
structure CompC (cfg : Cfg) (fns : List Str) (cc : CC) (elt : Expr) (gens : List Comprehension) (scope : Scope) where
  x : Str
  px : Pos
  iter : Expr
  ifs : List Expr
  eq : gens = [⟨.Name x px, iter, ifs, 0⟩]
  ok : cc.Good → CompOk cc scope x
  hns : notSet iter = true
  me : ME
  src : ME
  cond : ME
  s : Snd cfg fns cc fun C => SI C src iter
  e : Snd cfg fns cc fun C => SE (C.comp scope x) me elt
  i : Snd cfg fns cc fun C => IfsIs (C.comp scope x) cond ifs
abbrev CS (cfg : Cfg) (fns : List Str) (cc : CC) (st : Stmt) : Type := { ms : MS // Snd cfg fns cc fun C => SS C ms st }
abbrev CB (cfg : Cfg) (fns : List Str) (cc : CC) (b : List Stmt) : Type := { ms : MS // Snd cfg fns cc fun C => SB C ms b }
section
variable {cfg : Cfg} {fns : List Str} {cc : CC}
theorem Hy.comp {W : Wld} {Γ : FEnv} {k : Nat} (H : Hy cfg fns ⟨W, Γ, k, cc⟩) (scope : Scope) (x : Str) : Hy cfg fns ⟨W, Γ, k, cc.comp scope x⟩ := ⟨H.bg, H.gk, H.good.comp scope x⟩
def cIfs (ih : ∀ (cc : CC) (e : Expr), CE cfg fns cc e) (scope : Scope) (x : Str) : (ifs : List Expr) → Option { me : ME // Snd cfg fns cc fun C => IfsIs (C.comp scope x) me ifs }
  | [] => some ⟨.lit (.bool true), fun _ _ _ _ => .none⟩
  | e :: r => match r with
    | [] => some ⟨(ih (cc.comp scope x) e).1, fun W Γ k H => .some ((ih (cc.comp scope x) e).2 W Γ k (H.comp scope x)).st⟩
    | _ :: _ => none
def cGens (ih : ∀ (cc : CC) (e : Expr), CE cfg fns cc e) (elt : Expr) (gens : List Comprehension) (scope : Scope) : Option (CompC cfg fns cc elt gens scope) :=
  match gens with
  | [] => none
  | g :: r => match r with
    | [] => match g with
      | ⟨t, iter, ifs, a⟩ => match t with
        | .Name x px => if h : a = 0 ∧ notSet iter = true ∧ compOkB cc scope x = true then (match cIfs (cc := cc) ih scope x ifs with
          | some i => some ⟨x, px, iter, ifs, by rw [h.1], fun G => compOk_of G h.2.2, h.2.1, (ih (cc.comp scope x) elt).1, (cSrc ih iter).1, i.1, (cSrc ih iter).2, fun W Γ k H => ((ih (cc.comp scope x) elt).2 W Γ k (H.comp scope x)).se, i.2⟩
          | none => none) else none
        | _ => none
    | _ :: _ => none
def cComp (ih : ∀ (cc : CC) (e : Expr), CE cfg fns cc e) (elt : Expr) (gens : List Comprehension) (scope : Scope) (pos : Pos) : CE cfg fns cc (.ListComp elt gens scope pos) :=
  match cGens (cc := cc) ih elt gens scope with
  | some c => ⟨.comp c.me c.src c.cond, fun W Γ k H => by
      obtain ⟨x, px, iter, ifs, rfl, ok, hns, me, src, cond, s, e, i⟩ := c
      exact both_plain (sn_comp (ok H.good) (s W Γ k H) hns (e W Γ k H) (i W Γ k H)).se (fun _ _ => rfl) fun _ => rfl⟩
  | none => .bad
theorem const_plain {Γ : FEnv} (c : Const) : ∀ ρ Z, (evA Γ (cConst c) ρ).tru Z = (evA Γ (cConst c) ρ).val fun x _ => truP x Z := by
  have key : ∀ (p : Prop) [Decidable p] (x : PV), ∀ ρ Z, (evA Γ (if p then .lit x else .bad) ρ).tru Z = (evA Γ (if p then .lit x else .bad) ρ).val fun x _ => truP x Z := fun p _ x => by
    by_cases h : p
    · rw [if_pos h]; exact fun _ _ => rfl
    · rw [if_neg h]; exact fun _ _ => rfl
  cases c with
  | str s => exact key _ _
  | bytes b => exact key _ _
  | _ => exact fun _ _ => rfl
/-- one step of the walk; more tells what it doesn't know -/
def cE1 (more : ∀ (ih : ∀ (cc : CC) (e : Expr), CE cfg fns cc e) (cc : CC) (e : Expr), CE cfg fns cc e) (ih : ∀ (cc : CC) (e : Expr), CE cfg fns cc e) (cc : CC) (e : Expr) : CE cfg fns cc e :=
  match e with
  | .Name x p => cName x p
  | .Constant c n p => ⟨cConst c, fun W Γ k H => both_plain (se_const c) (const_plain c) fun _ => rfl⟩
  | .BinOp l op r p => (match pick (fun o : { o : BOp // ∀ W, BinOk W o } => o.1.op) op cfg.bop with
    | some o => ⟨.bin o.1.1 (ih cc l).1 (ih cc r).1, fun W Γ k H => by
        obtain ⟨o, hm, rfl⟩ := o
        exact both_plain (se_bin (o.2 W) ((ih cc l).2 W Γ k H).se ((ih cc r).2 W Γ k H).se) (fun _ _ => rfl) fun _ => rfl⟩
    | none => .bad)
  | .Compare l ops rs p => (match ops, rs with
    | [op], [r] => if hm : behindInMarks op r = false then (match pick (fun o : { o : COp // ∀ W, CmpOk W o } => o.1.op) op cfg.cop with
      | some o => ⟨.cmp o.1.1 (ih cc l).1 (ih cc r).1, fun W Γ k H => by
          obtain ⟨o, hm', rfl⟩ := o
          exact both_cmp (o.2 W) ((ih cc l).2 W Γ k H).se ((ih cc r).2 W Γ k H).se hm⟩
      | none => .bad) else .bad
    | _, _ => .bad)
  | .BoolOp op es p => cBool ih op p es
  | .UnaryOp op x p => (match op with
    | .Not => ⟨.not_ (ih cc x).1, fun W Γ k H => both_not ((ih cc x).2 W Γ k H)⟩
    | .USub => ⟨.neg (ih cc x).1, fun W Γ k H => both_plain (se_neg ((ih cc x).2 W Γ k H).se) (fun _ _ => rfl) fun _ => rfl⟩
    | _ => .bad)
  | .IfExp t a b p => ⟨.ite (ih cc t).1 (ih cc a).1 (ih cc b).1, fun W Γ k H => both_ite ((ih cc t).2 W Γ k H) ((ih cc a).2 W Γ k H) ((ih cc b).2 W Γ k H)⟩
  | .List es p => ⟨.list (cList ih es).1, fun W Γ k H => both_plain (se_list ((cList ih es).2 W Γ k H)) (fun _ _ => rfl) fun _ => rfl⟩
  | .Tuple es n p => ⟨.tup (cList ih es).1, fun W Γ k H => both_plain (se_tup ((cList ih es).2 W Γ k H)) (fun _ _ => rfl) fun _ => rfl⟩
  | .Subscript v i p => cSub ih v i p (more ih cc _)
  | .Call f es kw pos => (match kw with
    | [] => (match f with
      | .Name x p => cCall ih x p es pos (more ih cc _)
      | .Attribute o m apos => cMeth ih o m apos es pos
      | _ => .bad)
    | _ :: _ => .bad)
  | .ListComp elt gens scope p => cComp ih elt gens scope p
  | _ => .bad
def cE (more : ∀ (ih : ∀ (cc : CC) (e : Expr), CE cfg fns cc e) (cc : CC) (e : Expr), CE cfg fns cc e) (n : Nat) : ∀ (cc : CC) (e : Expr), CE cfg fns cc e := Nat.rec (fun _ _ => .bad) (fun _ ih => cE1 more ih) n

/-! statements -/
def CS.bad {st : Stmt} : CS cfg fns cc st := ⟨.bad, fun _ _ _ _ _ _ _ _ _ _ h => h.elim⟩
variable (ih : ∀ (cc : CC) (e : Expr), CE cfg fns cc e) (mo : ∀ st, CS cfg fns cc st) (owns : List Str)
/-- a name that is listed twice owns a list of lists of its own -/
def twice (x : Str) : Bool := decide (2 ≤ owns.countP fun y => y == x)
/-- a loop that more must tell of: over enumerate -/
def isEnum : Expr → Bool
  | .Call (.Name x _) _ _ _ => x == ("enumerate" : Str)
  | _ => false
def cBk (f : ∀ st, CS cfg fns cc st) : (b : List Stmt) → CB cfg fns cc b
  | [] => ⟨.skip, fun _ _ _ _ => sb_skip⟩
  | s :: r => match r, cBk f r with
    | [], _ => ⟨(f s).1, fun W Γ k H => sb_one ((f s).2 W Γ k H)⟩
    | _ :: _, t => ⟨.seq (f s).1 t.1, fun W Γ k H => sb_seq ((f s).2 W Γ k H) (t.2 W Γ k H)⟩
def cNames : (es : List Expr) → Option { is : List Nat // Names cc es is }
  | [] => some ⟨[], .nil⟩
  | e :: r => match e, cNames r with
    | .Name x p, some is => (match h : cc.σ x with
      | some i => some ⟨i :: is.1, .cons h is.2⟩
      | none => none)
    | _, _ => none
def cTarget (t : Expr) : Option { is : List Nat // Target cc t is } :=
  match t with
  | .Name x p => (match h : cc.σ x with
    | some i => some ⟨[i], .name h⟩
    | none => none)
  | .Tuple es n p => (match cNames (cc := cc) es with
    | some ⟨i :: j :: is, h⟩ => some ⟨i :: j :: is, .tup h (target_two i j is)⟩
    | _ => none)
  | _ => none
def cDict (i : Nat) (x : Str) (h : cc.σ x = some i) (p' p q : Pos) (ks : List (Option Expr)) (vs : List Expr) : CS cfg fns cc (.Assign [.Name x p'] (.Dict ks vs q) p) :=
  match ks, vs with
  | [], [] => ⟨.newDict i, fun W Γ k H => ss_newDict H.good h⟩
  | _, _ => .bad
def cAsg (x : Str) (p' p : Pos) (e : Expr) : CS cfg fns cc (.Assign [.Name x p'] e p) :=
  match h : cc.σ x with
  | none => .bad
  | some i => match e with
    | .Dict ks vs q => cDict i x h p' p q ks vs
    | .ListComp elt gens scope q => (match cGens (cc := cc) ih elt gens scope with
      | some c => ⟨.asg i (owns.contains x) (.comp c.me c.src c.cond), fun W Γ k H => by
          obtain ⟨y, px, iter, ifs, rfl, ok, hns, me, src, cond, s, e, i⟩ := c
          exact ss_comp H.good h (ok H.good) (s W Γ k H) hns (e W Γ k H) (i W Γ k H)⟩
      | none => .bad)
    | .List es q => if ho : owns.contains x = true then ⟨.asg i true (.list (cList ih es).1), fun W Γ k H => ss_own H.good h rfl (sn_list ((cList ih es).2 W Γ k H))⟩
      else ⟨.asg i false (.list (cList ih es).1), fun W Γ k H => ss_asg H.good h rfl (se_list ((cList ih es).2 W Γ k H))⟩
    | e => if hn : notComp e = true then ⟨.asg i false (ih cc e).1, fun W Γ k H => ss_asg H.good h hn ((ih cc e).2 W Γ k H).se⟩ else .bad
def cUnpack (es : List Expr) (n : Nat) (p' p : Pos) (e : Expr) : CS cfg fns cc (.Assign [.Tuple es n p'] e p) :=
  if hn : notTuple e = true ∧ notComp e = true then (match cNames (cc := cc) es with
    | some is => ⟨.unpack is.1 (ih cc e).1, fun W Γ k H => ss_unpack H.good is.2 hn.2 hn.1 ((ih cc e).2 W Γ k H).se⟩
    | none => .bad) else mo _
def cSet (x : Str) (p p' pos : Pos) (i e : Expr) : CS cfg fns cc (.Assign [.Subscript (.Name x p) i p'] e pos) :=
  if hb : badName x = true then .bad else match h : cc.σ x with
  | none => .bad
  | some j => if hn : notComp e = true then ⟨.setIdx j (ih cc i).1 (ih cc e).1, fun W Γ k H => ss_setIdx H.good h (badName_of hb).1 (badName_of hb).2 hn ((ih cc i).2 W Γ k H).se ((ih cc e).2 W Γ k H).se⟩ else .bad
def cAssign (ts : List Expr) (e : Expr) (p : Pos) : CS cfg fns cc (.Assign ts e p) :=
  match ts with
  | [] => .bad
  | t :: r => match r with
    | [] => (match t with
      | .Name x p' => if twice owns x = true then mo _ else cAsg ih owns x p' p e
      | .Tuple es n p' => cUnpack ih mo es n p' p e
      | .Subscript o i p' => (match o with
        | .Name x q => cSet ih x q p' p i e
        | _ => mo _)
      | _ => .bad)
    | _ :: _ => mo _
def cAug (x : Str) (p pos : Pos) (op : Operator) (e : Expr) : CS cfg fns cc (.AugAssign (.Name x p) op e pos) :=
  if owns.contains x = true then mo _ else if hb : badName x = true then .bad else match h : cc.σ x with
  | none => .bad
  | some i => match pick (fun o : { o : BOp // ∀ W, AugOk W o } => o.1.op) op cfg.aop with
    | some o => ⟨.aug i o.1.1 (ih cc e).1, fun W Γ k H => by
        obtain ⟨o, hm, rfl⟩ := o
        exact ss_aug H.good (o.2 W) h (badName_of hb).2 ((ih cc e).2 W Γ k H).se⟩
    | none => .bad
def notSlice : Expr → Bool
  | .Slice _ _ _ _ => false
  | _ => true
theorem store_plain {i : Expr} (h : notSlice i = true) (ov iv new : Value) : augStore i ov iv new = (do holding [new, ov, iv] (setItem ov iv new); release [new, ov, iv] []; pure .next) := by
  cases i with
  | Slice _ _ _ _ => exact nomatch h
  | _ => rfl
def cAugI (x : Str) (p p' pos : Pos) (i : Expr) (op : Operator) (e : Expr) : CS cfg fns cc (.AugAssign (.Subscript (.Name x p) i p') op e pos) :=
  if hb : badName x = true then .bad else match h : cc.σ x with
  | none => .bad
  | some j => if hn : notSlice i = true then (match pick (fun o : { o : BOp // ∀ W, AugOk W o } => o.1.op) op cfg.aop with
    | some o => ⟨.augIdx j (ih cc i).1 o.1.1 (ih cc e).1, fun W Γ k H => by
        obtain ⟨o, hm, rfl⟩ := o
        exact ss_augIdx H.good (o.2 W) h (badName_of hb).1 (badName_of hb).2 ((ih cc i).2 W Γ k H).se ((ih cc e).2 W Γ k H).se (store_plain hn)⟩
    | none => .bad) else .bad
def cMStm (x m : Str) (p apos pos pos' : Pos) (es : List Expr) : CS cfg fns cc (.Expr (.Call (.Attribute (.Name x p) m apos) es [] pos) pos') :=
  if twice owns x = true then mo _ else if hb : badName x = true then .bad else match h : cc.σ x with
  | none => .bad
  | some i => if hl : (apos.endLine == pos.line) = true then (match es with
    | [] => if hm : (m == ("pop" : Str)) = true then ⟨.pop i, fun W Γ k H => by
        have e := eq_of_beq hm
        subst e
        exact ss_pop H.good h (badName_of hb).1 (badName_of hb).2 hl⟩ else .bad
    | e :: r => (match r with
      | [] => if hm : (m == ("append" : Str)) = true ∧ notStar e = true then ⟨.append i (ih cc e).1, fun W Γ k H => by
          have e := eq_of_beq hm.1
          subst e
          exact ss_append H.good h (badName_of hb).1 (badName_of hb).2 hl hm.2 ((ih cc _).2 W Γ k H).se⟩ else mo _
      | _ :: _ => .bad)) else .bad
def cCallS (e : Expr) (p : Pos) : CS cfg fns cc (.Expr e p) :=
  match e with
  | .Call f es kw pos => (match kw with
    | [] => (match f with
      | .Attribute o m apos => (match o with
        | .Name x q => cMStm ih mo owns x m q apos pos p es
        | _ => mo _)
      | _ => mo _)
    | _ :: _ => mo _)
  | _ => mo _
def cS1 (rec : ∀ st, CS cfg fns cc st) (st : Stmt) : CS cfg fns cc st :=
  match st with
  | .Pass p => ⟨.skip, fun _ _ _ _ => ss_pass⟩
  | .Break p => ⟨.brk, fun _ _ _ _ => ss_brk⟩
  | .Continue p => ⟨.cont, fun _ _ _ _ => ss_cont⟩
  | .Return v p => (match v with
    | none => ⟨.ret (.lit .none), fun _ _ _ _ => ss_ret_none⟩
    | some e => ⟨.ret (ih cc e).1, fun W Γ k H => ss_ret H.good ((ih cc e).2 W Γ k H).se⟩)
  | .If t b o p => ⟨.ite (ih cc t).1 (cBk rec b).1 (cBk rec o).1, fun W Γ k H => ss_ite H.good ((ih cc t).2 W Γ k H).st ((cBk rec b).2 W Γ k H) ((cBk rec o).2 W Γ k H)⟩
  | .While t b o p => (match o with
    | [] => ⟨.while_ (ih cc t).1 (cBk rec b).1, fun W Γ k H => ss_while H.good ((ih cc t).2 W Γ k H).st ((cBk rec b).2 W Γ k H)⟩
    | _ :: _ => .bad)
  | .For t iter b o p => if isEnum iter = true then mo _ else (match o with
    | [] => (match cTarget (cc := cc) t with
      | some is => if hn : notSet iter = true then ⟨.for_ is.1 (cSrc ih iter).1 (cBk rec b).1, fun W Γ k H => ss_for H.good is.2 ((cSrc ih iter).2 W Γ k H) hn ((cBk rec b).2 W Γ k H)⟩ else .bad
      | none => .bad)
    | _ :: _ => .bad)
  | .Assign ts e p => cAssign ih mo owns ts e p
  | .AugAssign t op e p => (match t with
    | .Name x q => cAug ih mo owns x q p op e
    | .Subscript o i q => (match o with
      | .Name x r => cAugI ih x r q p i op e
      | _ => mo _)
    | _ => .bad)
  | .Expr e p => cCallS ih mo owns e p
  | .Try b hs o f p => (match hs with
    | h :: t => (match o, f with
      | [], [] => ⟨.try_ (cBk rec b).1, fun W Γ k H => ss_try ((cBk rec b).2 W Γ k H)⟩
      | _, _ => .bad)
    | [] => .bad)
  | _ => .bad
end
/-- what a law's text needs beyond this -/
structure More (cfg : Cfg) (fns : List Str) where
  e : ∀ (ih : ∀ (cc : CC) (e : Expr), CE cfg fns cc e) (cc : CC) (e : Expr), CE cfg fns cc e
  s : ∀ (ih : ∀ (cc : CC) (e : Expr), CE cfg fns cc e) (owns : List Str) (cc : CC) (rec : ∀ st, CS cfg fns cc st) (st : Stmt), CS cfg fns cc st
def cS {cfg : Cfg} {fns : List Str} (mo : More cfg fns) (owns : List Str) (n : Nat) (cc : CC) (st : Stmt) : CS cfg fns cc st :=
  Nat.rec (motive := fun _ => ∀ st, CS cfg fns cc st) (fun _ => .bad) (fun n rec => cS1 (cE mo.e n) (mo.s (cE mo.e n) owns cc rec) owns rec) n st
/-- a def's body -/
def cB {cfg : Cfg} {fns : List Str} (mo : More cfg fns) (owns : List Str) (n : Nat) (cc : CC) (b : List Stmt) : CB cfg fns cc b := cBk (cS mo owns n cc) b
end Mine
end
noncomputable section
namespace Mine
open Builtin

/-! ## a def of the heap -/
/-- what is asked of a def: its name, the names of its frame, how many of them are parameters, a parameter for the rest, the lists that it owns -/
structure Sig where
  name : Str
  slots : List Str
  np : Nat
  rest : Bool
  owns : List Str
def CC.of (slots : List Str) (scope : Scope) : CC where
  σ := fun x => slots.findIdx? (· == x)
  gl := fun x => decide (scope.names.lookup x = some .globalImplicit)
  cl := fun x => decide (scope.names.lookup x = some .cell)
  n := slots.length
def nodupS : List Str → Bool
  | [] => true
  | x :: r => !(r.contains x) && nodupS r
def scopeOkB (slots : List Str) (scope : Scope) (np : Nat) : Bool :=
  nodupS slots && (slots.all (fun x => decide (scope.names.lookup x = some .local) || decide (scope.names.lookup x = some .cell)) && (decide (np ≤ slots.length) && decide (scope.kind = .function)))
theorem nodupS_of {l : List Str} (h : nodupS l = true) : l.Nodup := by
  induction l with
  | nil => exact .nil
  | cons x r ih =>
    obtain ⟨h1, h2⟩ := and_of h
    exact List.nodup_cons.mpr ⟨fun hm => by rw [List.contains_iff_mem.mpr hm] at h1; exact Bool.false_ne_true h1, ih h2⟩
theorem find_at {l : List Str} {x : Str} {i : Nat} (h : l.findIdx? (· == x) = some i) : l[i]? = some x := by
  obtain ⟨hlt, hx, _⟩ := List.findIdx?_eq_some_iff_getElem.mp h
  rw [List.getElem?_eq_getElem hlt, eq_of_beq hx]
theorem find_of {x : Str} {l : List Str} : ∀ {i : Nat}, l.Nodup → l[i]? = some x → l.findIdx? (· == x) = some i := by
  induction l with
  | nil => exact fun _ h => nomatch h
  | cons y r ih =>
    intro i hn h
    obtain ⟨h1, h2⟩ := List.nodup_cons.mp hn
    cases i with
    | zero => cases h; rw [List.findIdx?_cons, if_pos (beq_self_eq_true _)]
    | succ i =>
      have h : r[i]? = some x := h
      rw [List.findIdx?_cons, if_neg fun q => h1 ((eq_of_beq q : y = x) ▸ List.mem_of_getElem? h), ih h2 h]
      rfl
theorem scopeOk_of {slots : List Str} {scope : Scope} {np : Nat} (h : scopeOkB slots scope np = true) : ScopeOk (CC.of slots scope) scope (slots.take np) := by
  obtain ⟨h1, h⟩ := and_of h
  obtain ⟨h2, h⟩ := and_of h
  obtain ⟨h3, h4⟩ := and_of h
  have hn := nodupS_of h1
  refine ⟨⟨fun x i hx => (List.getElem?_eq_some_iff.mp (find_at hx)).1, fun x y i hx hy => Option.some.inj ((find_at hx).symm.trans (find_at hy))⟩, fun x hx => of_decide_eq_true hx, fun x hx => of_decide_eq_true hx,
    fun x i hx => (Bool.or_eq_true_iff.mp (List.all_eq_true.mp h2 x (List.mem_of_getElem? (find_at hx)))).imp of_decide_eq_true of_decide_eq_true, fun i x hx => find_of hn ?_, hn.sublist (List.take_sublist np slots), of_decide_eq_true h4, List.length_take_le' np slots⟩
  rw [List.getElem?_take] at hx
  split at hx
  · exact hx
  · exact nomatch hx

/-! how arguments meet parameters -/
theorem ite_neg_eq {α : Type} {c : Prop} [Decidable c] {a b x : α} (h : ¬ c) (e : b = x) : (if c then a else b) = x := (if_neg h).trans e
section
variable {name qual : Str} {a b : Arg} {kd : List (Option Expr)} {ds : List Expr} {body : FuncBody} {scope : Scope} {g : Addr} {cl : List (Str × Addr)} {kw doc pm : Value} {an : Option Addr} {cd ct : Value} {bi : Addr} {v u : Value} {vs : List Value}
theorem look_one (n : Str) {v : Value} {r : List (Str × Value)} : ((n, v) :: r).lookup n = some v := by rw [List.lookup_cons, beq_self_eq_true]
theorem bind_one : bindArgs ⟨name, qual, ⟨[], [a], none, [], kd, none, ds⟩, body, scope, g, cl, .none, kw, doc, pm, an, cd, ct, bi⟩ ⟨[v], []⟩ = pure [(a.arg, v)] := by
  have e := look_one a.arg (v := v) (r := [])
  refine ite_neg_eq (c := (!(([a.arg].filter fun n => (([(a.arg, v)] : List (Str × Value)).lookup n).isNone).isEmpty)) = true) (by rw [List.filter_cons, e]; exact Bool.false_ne_true) ?_
  show (pure ([a.arg].filterMap fun n => (([(a.arg, v)] : List (Str × Value)).lookup n).map fun v => (n, v)) : Sem (List (Str × Value))) = _
  rw [List.filterMap_cons, e]; rfl
theorem bind_two (hn : a.arg ≠ b.arg) : bindArgs ⟨name, qual, ⟨[], [a, b], none, [], kd, none, ds⟩, body, scope, g, cl, .none, kw, doc, pm, an, cd, ct, bi⟩ ⟨[v, u], []⟩ = pure [(a.arg, v), (b.arg, u)] := by
  have e := look_one a.arg (v := v) (r := [(b.arg, u)])
  have e2 : ([(a.arg, v), (b.arg, u)] : List (Str × Value)).lookup b.arg = some u := by rw [List.lookup_cons, beq_false_of_ne hn.symm]; exact look_one _
  refine ite_neg_eq (c := (!(([a.arg, b.arg].filter fun n => (([(a.arg, v), (b.arg, u)] : List (Str × Value)).lookup n).isNone).isEmpty)) = true) (by rw [List.filter_cons, List.filter_cons, e, e2]; exact Bool.false_ne_true) ?_
  show (pure ([a.arg, b.arg].filterMap fun n => (([(a.arg, v), (b.arg, u)] : List (Str × Value)).lookup n).map fun v => (n, v)) : Sem (List (Str × Value))) = _
  rw [List.filterMap_cons, List.filterMap_cons, e, e2]; rfl
/-- and with a parameter for the rest -/
theorem bind_rest : bindArgs ⟨name, qual, ⟨[], [a], some b, [], kd, none, ds⟩, body, scope, g, cl, .none, kw, doc, pm, an, cd, ct, bi⟩ ⟨v :: vs, []⟩ = (do let t ← newTuple vs; pure [(a.arg, v), (b.arg, t)]) := by
  have e := look_one a.arg (v := v) (r := [])
  refine ite_neg_eq (c := (decide ((v :: vs).length > 1) && false) = true) (by rw [Bool.and_false]; exact Bool.false_ne_true) (ite_neg_eq (c := (!(([a.arg].filter fun n => (([(a.arg, v)] : List (Str × Value)).lookup n).isNone).isEmpty)) = true) (by rw [List.filter_cons, e]; exact Bool.false_ne_true) ?_)
  show (do let t ← newTuple vs; pure (([a.arg].filterMap fun n => (([(a.arg, v)] : List (Str × Value)).lookup n).map fun v => (n, v)) ++ [(b.arg, t)])) = _
  rw [List.filterMap_cons, e]; rfl
end
/-- a tuple of one default -/
def tup1B (K : Frag) (d : Addr) : Bool := match K.lookup d with
  | some o => (match o.data with | .seq items _ => items.size == 1 | _ => false)
  | none => false
/-- the parameters are these, without defaults; or two, the second with a default -/
def argsB (K : Frag) (fd : FuncData) (ps : List Str) (rest : Bool) : Bool :=
  match fd.params, fd.defaults with
  | ⟨[], as, va, [], _, none, _⟩, .none => (match rest, va with
    | false, none => decide (as.map (·.arg) = ps)
    | true, some b => decide (as.map (·.arg) ++ [b.arg] = ps)
    | _, _ => false)
  | ⟨[], [a, b], none, [], _, none, _⟩, .ref d => !rest && (decide ([a.arg, b.arg] = ps) && tup1B K d)
  | _, _ => false
inductive ArgsAre : FuncData → Value → List Arg → Option Arg → Prop
  | mk {name qual as va kd ds body scope g cl df kw doc pm an cd ct bi} : ArgsAre ⟨name, qual, ⟨[], as, va, [], kd, none, ds⟩, body, scope, g, cl, df, kw, doc, pm, an, cd, ct, bi⟩ df as va
theorem args_inv {K : Frag} {fd : FuncData} {ps : List Str} {rest : Bool} (h : argsB K fd ps rest = true) : (∃ as va, ArgsAre fd .none as va ∧ match rest with
    | false => va = none ∧ as.map (·.arg) = ps
    | true => ∃ b, va = some b ∧ as.map (·.arg) ++ [b.arg] = ps) ∨ ∃ a b d, ArgsAre fd (.ref d) [a, b] none ∧ rest = false ∧ [a.arg, b.arg] = ps ∧ tup1B K d = true := by
  obtain ⟨name, qual, ⟨po, as, va, ko, kd, ka, ds⟩, body, scope, g, cl, df, kw, doc, pm, an, cd, ct, bi⟩ := fd
  cases po with
  | cons _ _ => exact nomatch h
  | nil => cases ko with
    | cons _ _ => cases df <;> exact nomatch h
    | nil => cases ka with
      | some _ => cases df <;> exact nomatch h
      | none => cases df with
        | none =>
          refine .inl ⟨as, va, .mk, ?_⟩
          cases rest with
          | false => cases va with
            | none => exact ⟨rfl, of_decide_eq_true h⟩
            | some _ => exact nomatch h
          | true => cases va with
            | none => exact nomatch h
            | some b => exact ⟨b, rfl, of_decide_eq_true h⟩
        | ref d =>
          match as, va, h with
          | [a, b], none, h =>
            obtain ⟨h1, h2⟩ := and_of h
            obtain ⟨h3, h4⟩ := and_of h2
            exact .inr ⟨a, b, d, .mk, (Bool.not_eq_true' _).mp h1, of_decide_eq_true h3, h4⟩
          | [], _, h => exact nomatch h
          | [_], _, h => exact nomatch h
          | _ :: _ :: _ :: _, _, h => exact nomatch h
          | [_, _], some _, h => exact nomatch h
        | _ => exact nomatch h
theorem len_one {α : Type} {l : List α} (h : l.length = 1) : ∃ a, l = [a] := by
  cases l with
  | nil => exact nomatch h
  | cons a r => exact ⟨a, congrArg _ (List.eq_nil_of_length_eq_zero (Nat.succ.inj h))⟩
theorem len_two {α : Type} {l : List α} (h : l.length = 2) : ∃ a b, l = [a, b] := by
  cases l with
  | nil => exact nomatch h
  | cons a r => obtain ⟨b, rfl⟩ := len_one (Nat.succ.inj h); exact ⟨a, b, rfl⟩
theorem packs_one {W : Wld} {K : Frag} {fd : FuncData} {p : Str} (h : argsB K fd [p] false = true) : Packs W fd [p] fun xs Z => lenIs 1 xs (Z xs) := by
  rcases args_inv h with ⟨as, va, ha, rfl, he⟩ | ⟨a, b, d, _, _, he, _⟩
  · obtain ⟨a, rfl⟩ := len_one (l := as) (by have := congrArg List.length he; rw [List.length_map] at this; exact this)
    cases he
    refine packs_plain rfl fun vs hl => ?_
    obtain ⟨v, rfl⟩ := len_one hl
    cases ha
    exact bind_one
  · exact nomatch he
/-- two arguments given, the second one's default stays unused -/
theorem bind_dflt {W : Wld} {A : Around} {s : Shared} {name qual : Str} {a b : Arg} {kd : List (Option Expr)} {ds : List Expr} {body : FuncBody} {scope : Scope} {g d : Addr} {cl : List (Str × Addr)} {kw doc pm : Value} {an : Option Addr} {cd ct : Value} {bi : Addr} {v u : Value}
    {o : Obj} {x : Value} {n : Nat} (hn : a.arg ≠ b.arg) (ho : s.heap.get? d = some o) (hd : o.data = .seq #[x] n) {E : Value → Shared → Prop} {Q : List (Str × Value) → Shared → Prop} (q : Q [(a.arg, v), (b.arg, u)] s) :
    wpAny W.M A (bindArgs ⟨name, qual, ⟨[], [a, b], none, [], kd, none, ds⟩, body, scope, g, cl, .ref d, kw, doc, pm, an, cd, ct, bi⟩ ⟨[v, u], []⟩) Q E s := by
  have e := look_one a.arg (v := v) (r := [(b.arg, u)])
  have e2 : ([(a.arg, v), (b.arg, u)] : List (Str × Value)).lookup b.arg = some u := by rw [List.lookup_cons, beq_false_of_ne hn.symm]; exact look_one _
  show wpAny W.M A (seqItems? (.ref d) >>= fun r => _) Q E s
  refine wpAny_bind (wpAny_seqItems ho hd ?_)
  refine wp_neg (c := (!(([a.arg].filter fun n => (([(a.arg, v), (b.arg, u)] : List (Str × Value)).lookup n).isNone).isEmpty)) = true) (by rw [List.filter_cons, e]; exact Bool.false_ne_true) ?_
  show wpAny W.M A (forIn [(b.arg, x)] ([(a.arg, v), (b.arg, u)] : List (Str × Value)) _ >>= fun r => _) Q E s
  rw [List.forIn_cons]
  refine wpAny_bind (wpAny_bind (wp_neg (c := (([(a.arg, v), (b.arg, u)] : List (Str × Value)).lookup b.arg).isNone = true) (by rw [e2]; exact Bool.false_ne_true) (wpAny_pure ?_)))
  show wpAny W.M A (forIn ([] : List (Str × Value)) ([(a.arg, v), (b.arg, u)] : List (Str × Value)) _) _ E s
  rw [List.forIn_nil]
  refine wpAny_pure ?_
  show wpAny W.M A (pure ([a.arg, b.arg].filterMap fun n => (([(a.arg, v), (b.arg, u)] : List (Str × Value)).lookup n).map fun v => (n, v)) : Sem (List (Str × Value))) Q E s
  rw [List.filterMap_cons, List.filterMap_cons, e, e2]
  exact wpAny_pure q
theorem packs_two {W : Wld} {fd : FuncData} {p q : Str} (hn : p ≠ q) (h : argsB W.K fd [p, q] false = true) : Packs W fd [p, q] fun xs Z => lenIs 2 xs (Z xs) := by
  rcases args_inv h with ⟨as, va, ha, rfl, he⟩ | ⟨a, b, d, ha, _, he, ht⟩
  · obtain ⟨a, b, rfl⟩ := len_two (l := as) (by have := congrArg List.length he; rw [List.length_map] at this; exact this)
    cases he
    refine packs_plain rfl fun vs hl => ?_
    obtain ⟨v, u, rfl⟩ := len_two hl
    cases ha
    exact bind_two hn
  · cases he
    intro A s Ok vs xs Z E Q hon fr r e qq
    obtain ⟨hl, z⟩ := lenIs_inv e
    obtain ⟨v, u, rfl⟩ := len_two (r.1.length.trans hl)
    unfold tup1B at ht
    cases hk : W.K.lookup d with
    | none => rw [hk] at ht; exact nomatch ht
    | some o =>
      rw [hk] at ht
      have ht : (match o.data with | .seq items _ => items.size == 1 | _ => false) = true := ht
      cases hd : o.data with
      | seq items n =>
        rw [hd] at ht
        obtain ⟨x, hx⟩ := len_one (l := items.toList) (by rw [Array.length_toList]; exact eq_of_beq ht)
        have hi : items = #[x] := by rw [← Array.toArray_toList (xs := items), hx]
        subst hi
        cases ha
        exact bind_dflt hn (hon.frag _ _ hk) hd (qq _ xs s (.refl s) r rfl z)
      | _ => rw [hd] at ht; exact nomatch ht
theorem packs_rest {W : Wld} {K : Frag} {fd : FuncData} {p q : Str} (h : argsB K fd [p, q] true = true) : Packs W fd [p, q] packVar := by
  rcases args_inv h with ⟨as, va, ha, b, rfl, he⟩ | ⟨a, b, d, _, hr, _, _⟩
  · obtain ⟨a, rfl⟩ := len_one (l := as) (by have := congrArg List.length he; rw [List.length_append, List.length_map] at this; exact Nat.succ.inj this)
    cases he
    refine packs_var fun v vs => ?_
    cases ha
    exact bind_rest
  · exact nomatch hr

/-! what a head tells of a def -/
def fdAt (K : Frag) (a : Addr) : FuncData := match K.lookup a with
  | some o => (match o.data with | .func fd => fd | _ => default)
  | none => default
def bodyOf (fd : FuncData) : List Stmt := match fd.body with
  | .stmts b => b
  | _ => []
def isFnB (K : Frag) (a : Addr) : Bool := match K.lookup a with
  | some o => (match o.data with | .func fd => (match fd.body with | .stmts _ => true | _ => false) | _ => false)
  | none => false
def fdOkB (K : Frag) (a : Addr) (g : Sig) : Bool :=
  isFnB K a && (decide ((fdAt K a).globals = mainGlobals) && (decide ((fdAt K a).builtins = builtinsNs) && ((fdAt K a).closure.isEmpty && (!(fdAt K a).scope.isCoroutine && (!(fdAt K a).scope.isGenerator && (codeIn K (fdAt K a).code (fdAt K a).qualname && (scopeOkB g.slots (fdAt K a).scope g.np && argsB K (fdAt K a) (g.slots.take g.np) g.rest)))))))
def FUEL : Nat := 60
def obsFn {cfg : Cfg} {fns : List Str} (mo : More cfg fns) (g : Sig) (K : Frag) : Bool × MS := match nsIn K mainGlobals g.name with
  | some (some (.ref a)) => (fdOkB K a g, (cB mo g.owns FUEL (CC.of g.slots (fdAt K a).scope) (bodyOf (fdAt K a))).1)
  | _ => (false, .bad)
def obsAll {cfg : Cfg} (mo : ∀ fns, More cfg fns) : List Sig → List Str → Frag → List (Bool × MS)
  | [], _, _ => []
  | g :: r, fns, K => obsFn (mo fns) g K :: obsAll mo r (fns ++ [g.name]) K
def noneB : Option (Option Value) → Bool
  | some none => true
  | _ => false
def namesB (K : Frag) (names : List (Str × Value)) : Bool := names.all fun p => noneB (nsIn K mainGlobals p.1) && !(p.1 == ("__name__" : Str))
def obsK {cfg : Cfg} (mo : ∀ fns, More cfg fns) (sigs : List Sig) (K : Frag) : Bool × List (Bool × MS) := (namesB K cfg.names, obsAll mo sigs [] K)
def Boots : List (Str × Value) → Prop
  | [] => True
  | p :: r => bootBuiltins p.1 = some p.2 ∧ Boots r
def fragOf (as : List Addr) (h : Heap) : Frag := as.filterMap fun a => (h.get? a).map fun o => (a, o)
theorem frag_in (as : List Addr) (h : Heap) : (fragOf as h).In h := fun a o e => by
  obtain ⟨b, _, hb⟩ := List.mem_filterMap.mp (lookup_mem e)
  cases q : h.get? b with
  | none => rw [q] at hb; exact nomatch hb
  | some o' => rw [q] at hb; cases hb; exact q
section
variable {cfg : Cfg} {fns : List Str} {W : Wld} {Γ : FEnv} {k : Nat} {h : Heap}
theorem none_of {o : Option (Option Value)} (h : noneB o = true) : o = some none := by
  cases o with
  | none => exact nomatch h
  | some v => cases v with
    | none => rfl
    | some v => exact nomatch h
theorem names_of (hon : W.On h) (hb : ∀ x : Str, x ≠ "__name__" → W.mb x = bootBuiltins x) {names : List (Str × Value)} (hn : namesB W.K names = true) (hB : Boots names) : ∀ p ∈ names, W.glob p.1 = some p.2 := by
  induction names with
  | nil => exact fun _ h => nomatch h
  | cons a r ih =>
    obtain ⟨h1, h2⟩ := and_of hn
    obtain ⟨h3, h4⟩ := and_of h1
    refine fun p hp => (List.mem_cons.mp hp).elim (fun e => ?_) (ih h2 hB.2 p)
    subst e
    unfold Wld.glob
    rw [mg_none_of hon.frag hon.g (none_of h3)]
    exact (hb p.1 fun e => by rw [e] at h4; exact Bool.false_ne_true h4).trans hB.1
theorem getF_old {F : Fn} {i : Nat} (h : i < Γ.length) : getF (Γ ++ [F]) i = getF Γ i := by
  induction Γ generalizing i with
  | nil => exact nomatch h
  | cons a r ih => cases i with
    | zero => rfl
    | succ i => exact ih (Nat.lt_of_succ_lt_succ h)
theorem getF_new {F : Fn} : getF (Γ ++ [F]) Γ.length = F := by
  induction Γ with
  | nil => rfl
  | cons a r ih => exact ih
/-- one more def -/
theorem GOk.step {mo : ∀ fns, More cfg fns} {g : Sig} {r : List Sig} {ms : MS} {rest : List (Bool × MS)} {F : Fn} {pack : List PV → (List PV → Prop) → Prop} (hon : W.On h) (bg : ∀ p ∈ cfg.names, W.glob p.1 = some p.2)
    (G : GOk W k Γ fns ∧ obsAll mo (g :: r) fns W.K = (true, ms) :: rest) (hl : Γ.length = fns.length) (hp : ∀ fd, argsB W.K fd (g.slots.take g.np) g.rest = true → Packs W fd (g.slots.take g.np) pack)
    (hF : ∀ xs Z, F xs Z → pack xs fun ys => callP Γ g.slots.length ms ys Z) : GOk W (k + 1) (Γ ++ [F]) (fns ++ [g.name]) ∧ obsAll mo r (fns ++ [g.name]) W.K = rest := by
  obtain ⟨G, ho⟩ := G
  obtain ⟨h1, h2⟩ := List.cons.inj ho
  refine ⟨fun f name hf => ?_, h2⟩
  rw [List.getElem?_append] at hf
  split at hf
  · rename_i hlt
    obtain ⟨fa, o, fd, a, b, c, d⟩ := G f name hf
    exact ⟨fa, o, fd, a, b, c, by rw [getF_old (by rw [hl]; exact hlt)]; exact d.mono (Nat.le_succ k)⟩
  · rename_i hge
    have hlen := (List.getElem?_eq_some_iff.mp hf).1
    have : f - fns.length = 0 := Nat.lt_one_iff.mp hlen
    rw [this] at hf
    have hf0 : f = Γ.length := by rw [hl]; exact Nat.le_antisymm (Nat.le_of_sub_eq_zero this) (Nat.not_lt.mp hge)
    cases hf
    subst hf0
    rw [getF_new]
    unfold obsFn at h1
    split at h1
    · rename_i a hns
      obtain ⟨h3, h4⟩ := Prod.mk.inj h1
      obtain ⟨e1, h3⟩ := and_of h3
      obtain ⟨e2, h3⟩ := and_of h3
      obtain ⟨e3, h3⟩ := and_of h3
      obtain ⟨e4, h3⟩ := and_of h3
      obtain ⟨e5, h3⟩ := and_of h3
      obtain ⟨e6, h3⟩ := and_of h3
      obtain ⟨e7, h3⟩ := and_of h3
      obtain ⟨e8, e9⟩ := and_of h3
      obtain ⟨o, hk, hd, hb⟩ : ∃ o, W.K.lookup a = some o ∧ o.data = .func (fdAt W.K a) ∧ (fdAt W.K a).body = .stmts (bodyOf (fdAt W.K a)) := by
        unfold isFnB at e1
        unfold fdAt
        cases hk : W.K.lookup a with
        | none => rw [hk] at e1; exact nomatch e1
        | some o =>
          rw [hk] at e1
          refine ⟨o, rfl, ?_⟩
          revert e1
          show (match o.data with | .func fd => (match fd.body with | .stmts _ => true | _ => false) | _ => false) = true → o.data = .func (match o.data with | .func fd => fd | _ => default) ∧ (match o.data with | .func fd => fd | _ => default).body = .stmts (bodyOf (match o.data with | .func fd => fd | _ => default))
          cases o.data with
          | func fd =>
            intro e1
            refine ⟨rfl, ?_⟩
            show fd.body = .stmts (bodyOf fd)
            unfold bodyOf
            revert e1
            show (match fd.body with | .stmts _ => true | _ => false) = true → _
            cases fd.body with
            | stmts b => exact fun _ => rfl
            | _ => exact fun e => nomatch e
          | _ => exact fun e => nomatch e
      have sc := scopeOk_of e8
      refine ⟨a, o, _, ?_, hk, hd, ?_⟩
      · unfold Wld.glob
        rw [mg_of hon.frag hon.g hns]
      · have hB := (cB (mo fns) g.owns FUEL (CC.of g.slots (fdAt W.K a).scope) (bodyOf (fdAt W.K a))).2 W Γ k ⟨bg, G, sc.good⟩
        rw [h4] at hB
        have main := fun_ok (C := ⟨W, Γ, k, CC.of g.slots (fdAt W.K a).scope⟩) ⟨hb, ⟨o, hk, hd⟩, fun h hon => codeRec_of hon.frag e7, of_decide_eq_true e2, of_decide_eq_true e3, List.isEmpty_iff.mp e4, (Bool.not_eq_true' _).mp e5, (Bool.not_eq_true' _).mp e6⟩ (hp _ e9) sc hB
        exact fun A s Ok vs xs Z r on fr ra hz => main A s Ok vs xs Z r on fr ra (hF xs Z hz)
    · exact nomatch h1
theorem GOk.nil : GOk W k [] [] := fun f name h => nomatch h

/-! the frame of a law that the head has entered: one argument, no cells -/
theorem rep_ints {H : Heap} {Ok : Addr → Prop} {vs : List Value} {ns : List Int} (h : IntsAre vs ns) : RepAll H Ok vs (ns.map .int) := by
  induction h with
  | nil => exact .nil
  | cons n t r ih => exact .cons (.int n t) ih
end
end Mine
end
noncomputable section
namespace Mine
/-! ## the program's defs in the small language -/
def msSep : MS := (.ite (.bi2 .isinst (.var 0) (.lit (.cls "bytes"))) (.ret (.lit (.txt true [47]))) (.ret (.lit (.txt false [47]))))
def msJoin_4 : MS := (.ret (.var 3))
def msJoin3yb_1 : MS := (.ite (.or_ (.meth .startswith (.var 4) (.var 2)) (.not_ (.var 3))) (.asg 3 false (.var 4)) (.ite (.meth .endswith (.var 3) (.var 2)) (.aug 3 .add (.var 4)) (.aug 3 .add (.bin .add (.var 2) (.var 4)))))
def msJoin3yb : MS := .seq (.asg 4 false (.fn 0 (.cons (.var 4) .nil))) msJoin3yb_1
def msJoin_3 : MS := .seq (.try_ (.for_ [4] (.var 1) msJoin3yb)) msJoin_4
def msJoin_2 : MS := .seq (.asg 3 false (.var 0)) msJoin_3
def msJoin_1 : MS := .seq (.asg 2 false (.fn 1 (.cons (.var 0) .nil))) msJoin_2
def msJoin : MS := .seq (.asg 0 false (.fn 0 (.cons (.var 0) .nil))) msJoin_1
def msSplitroot_2 : MS := (.ite (.cmp .ne (.cut (.var 0) (.lit .none) (.lit (.int 1))) (.var 1)) (.ret (.tup (.cons (.var 2) (.cons (.var 2) (.cons (.var 0) .nil))))) (.ite (.or_ (.cmp .ne (.cut (.var 0) (.lit (.int 1)) (.lit (.int 2))) (.var 1)) (.cmp .eq (.cut (.var 0) (.lit (.int 2)) (.lit (.int 3))) (.var 1))) (.ret (.tup (.cons (.var 2) (.cons (.var 1) (.cons (.cut (.var 0) (.lit (.int 1)) (.lit .none)) .nil))))) (.ret (.tup (.cons (.var 2) (.cons (.cut (.var 0) (.lit .none) (.lit (.int 2))) (.cons (.cut (.var 0) (.lit (.int 2)) (.lit .none)) .nil)))))))
def msSplitroot1t_1 : MS := (.asg 2 false (.lit (.txt true [])))
def msSplitroot1t : MS := .seq (.asg 1 false (.lit (.txt true [47]))) msSplitroot1t_1
def msSplitroot1e_1 : MS := (.asg 2 false (.lit (.txt false [])))
def msSplitroot1e : MS := .seq (.asg 1 false (.lit (.txt false [47]))) msSplitroot1e_1
def msSplitroot_1 : MS := .seq (.ite (.bi2 .isinst (.var 0) (.lit (.cls "bytes"))) msSplitroot1t msSplitroot1e) msSplitroot_2
def msSplitroot : MS := .seq (.asg 0 false (.fn 0 (.cons (.var 0) .nil))) msSplitroot_1
def msNormpath_9 : MS := (.ret (.or_ (.var 0) (.var 2)))
def msNormpath_8 : MS := .seq (.asg 0 false (.bin .add (.var 5) (.meth .join (.var 1) (.var 6)))) msNormpath_9
def msNormpath_7 : MS := .seq (.asg 6 false (.var 7)) msNormpath_8
def msNormpath6b_1 : MS := (.ite (.or_ (.cmp .ne (.var 8) (.var 3)) (.or_ (.and_ (.not_ (.var 5)) (.not_ (.var 7))) (.and_ (.var 7) (.cmp .eq (.idx (.var 7) (.neg (.lit (.int 1)))) (.var 3))))) (.append 7 (.var 8)) (.ite (.var 7) (.pop 7) .skip))
def msNormpath6b : MS := .seq (.ite (.or_ (.not_ (.var 8)) (.cmp .eq (.var 8) (.var 2))) .cont .skip) msNormpath6b_1
def msNormpath_6 : MS := .seq (.for_ [8] (.var 6) msNormpath6b) msNormpath_7
def msNormpath_5 : MS := .seq (.asg 7 true (.list .nil)) msNormpath_6
def msNormpath_4 : MS := .seq (.asg 6 false (.meth .split (.var 0) (.var 1))) msNormpath_5
def msNormpath_3 : MS := .seq (.unpack [4, 5, 0] (.fn 3 (.cons (.var 0) .nil))) msNormpath_4
def msNormpath_2 : MS := .seq (.ite (.not_ (.var 0)) (.ret (.var 2)) .skip) msNormpath_3
def msNormpath1t_2 : MS := (.asg 3 false (.lit (.txt true [46, 46])))
def msNormpath1t_1 : MS := .seq (.asg 2 false (.lit (.txt true [46]))) msNormpath1t_2
def msNormpath1t : MS := .seq (.asg 1 false (.lit (.txt true [47]))) msNormpath1t_1
def msNormpath1e_2 : MS := (.asg 3 false (.lit (.txt false [46, 46])))
def msNormpath1e_1 : MS := .seq (.asg 2 false (.lit (.txt false [46]))) msNormpath1e_2
def msNormpath1e : MS := .seq (.asg 1 false (.lit (.txt false [47]))) msNormpath1e_1
def msNormpath_1 : MS := .seq (.ite (.bi2 .isinst (.var 0) (.lit (.cls "bytes"))) msNormpath1t msNormpath1e) msNormpath_2
def msNormpath : MS := .seq (.asg 0 false (.fn 0 (.cons (.var 0) .nil))) msNormpath_1
theorem boolP_of {b : Bool} {P1 P2 : Prop} (h1 : b = true → P1) (h2 : b = false → P2) : boolP b P1 P2 := by
  cases b with
  | true => exact h1 rfl
  | false => exact h2 rfl
section
variable {α : Type} [BEq α] [LawfulBEq α] {a b : α}
theorem bne_t (h : (!(a == b)) = true) : a ≠ b := fun e => by rw [beq_iff_eq.mpr e] at h; exact nomatch h
theorem bne_f (h : (!(a == b)) = false) : a = b := by
  cases q : a == b with
  | true => exact eq_of_beq q
  | false => rw [q] at h; exact nomatch h
theorem beq_f (h : (a == b) = false) : a ≠ b := fun e => nomatch (beq_iff_eq.mpr e).symm.trans h
end
def txt1 : List PV → (Bool → List Nat → Prop) → Prop
  | [x], f => txtP x f
  | _, _ => False
theorem txt1_inv {xs : List PV} {f : Bool → List Nat → Prop} (h : txt1 xs f) : ∃ k cs, xs = [.txt k cs] ∧ f k cs := by
  cases xs with
  | nil => exact h.elim
  | cons x r => cases r with
    | nil => obtain ⟨k, cs, rfl, h⟩ := txt_inv (x := x) h; exact ⟨k, cs, rfl, h⟩
    | cons _ _ => exact h.elim
def fspathF : Fn := fun xs Q => txt1 xs fun k cs => Q (.txt k cs)
def sepF : Fn := fun xs Q => txt1 xs fun k _ => Q (.txt k [47])
def gam1 : FEnv := [fspathF]
def gam2 : FEnv := [fspathF, sepF]
theorem sep_run (xs : List PV) (Q : PV → Prop) (h : sepF xs Q) : lenIs 1 xs (callP gam1 1 msSep xs Q) := by
  obtain ⟨k, cs, rfl, h⟩ := txt1_inv h
  cases k <;> exact ⟨rfl, h⟩

/-! join -/
def joinStep (path b : List Nat) : List Nat :=
  if [47].isPrefixOf b = true ∨ path = [] then b else if [47].isSuffixOf path = true then path ++ b else path ++ ([47] ++ b)
def joinP (a : List Nat) (bs : List (List Nat)) : List Nat := bs.foldl joinStep a
def szL (ps : List (List Nat)) : Nat := (ps.map fun p => p.length + 1).sum
theorem szL_cons (a : List Nat) (b : List (List Nat)) : szL (a :: b) = a.length + 1 + szL b := List.sum_cons
theorem len_szL (ps : List (List Nat)) : ps.length ≤ szL ps := by
  induction ps with
  | nil => exact Nat.le_refl _
  | cons p ps ih => rw [szL_cons, List.length_cons, Nat.add_comm]; exact Nat.add_le_add (Nat.le_add_left 1 _) ih
theorem joinStep_len (path b : List Nat) : (joinStep path b).length ≤ path.length + (b.length + 1) := by
  unfold joinStep
  split
  · exact Nat.le_trans (Nat.le_succ _) (Nat.le_add_left _ _)
  · split <;> rw [List.length_append]
    · exact Nat.add_le_add_left (Nat.le_succ _) _
    · rw [List.length_append, Nat.add_comm b.length]; exact Nat.le_refl _
theorem join_one {k : Bool} {a0 ps : PV} {b path : List Nat} {f : List Slt → Prop} {Q : Post} (hz : path.length + (b.length + 1) ≤ LIM)
    (h : f [some (a0, 0), some (ps, 0), some (.txt k [47], 0), some (.txt k (joinStep path b), 0), some (.txt k b, 0)]) :
    wp gam2 msJoin3yb [some (a0, 0), some (ps, 0), some (.txt k [47], 0), some (.txt k path, 0), some (.txt k b, 0)] (loopK f Q) := by
  unfold joinStep at h
  refine ⟨rfl, boolP_of (fun h1 => ?_) fun h1 => boolP_of (fun h2 => ?_) fun h2 => ⟨rfl, boolP_of (fun h3 => ?_) fun h3 => ?_⟩⟩
  · rw [if_pos (.inl h1)] at h; exact h
  · cases path with
    | nil => rw [if_pos (.inr rfl)] at h; exact h
    | cons _ _ => exact nomatch h2
  all_goals
    have hp : ¬ ([47].isPrefixOf b = true ∨ path = []) := fun q => q.elim (fun q => nomatch h1.symm.trans q) fun q => by subst q; exact nomatch h2
    rw [if_neg hp] at h
  · rw [if_pos h3] at h
    exact ⟨rfl, Nat.le_trans (Nat.add_le_add_left (Nat.le_succ _) _) hz, h⟩
  · rw [if_neg (Bool.eq_false_iff.mp h3)] at h
    have hb : 1 + b.length ≤ LIM := by rw [Nat.add_comm]; exact Nat.le_trans (Nat.le_add_left _ _) hz
    exact ⟨rfl, hb, rfl, by rw [List.length_append, Nat.add_comm [47].length]; exact hz, h⟩
theorem join_for {k : Bool} {a0 ps : PV} {Q : Post} {bs : List (List Nat)} : ∀ {path : List Nat} {c : Slt}, path.length + szL bs ≤ LIM →
    (∀ c, Q .next [some (a0, 0), some (ps, 0), some (.txt k [47], 0), some (.txt k (joinP path bs), 0), c]) →
    forP (wp gam2 msJoin3yb) [4] (bs.map (.txt k)) [some (a0, 0), some (ps, 0), some (.txt k [47], 0), some (.txt k path, 0), c] Q := by
  induction bs with
  | nil => exact fun {path c} _ h => h c
  | cons b bs ih =>
    intro path c hz h
    rw [szL_cons, ← Nat.add_assoc] at hz
    exact join_one (Nat.le_trans (Nat.le_add_right _ _) hz) (ih (Nat.le_trans (Nat.add_le_add_right (joinStep_len path b) _) hz) h)
def joinF : Fn
  | x :: r, Q => txtP x fun k a => ∃ bs : List (List Nat), r = bs.map (.txt k) ∧ a.length + szL bs ≤ LIM ∧ Q (.txt k (joinP a bs))
  | [], _ => False
theorem join_run (xs : List PV) (Q : PV → Prop) (h : joinF xs Q) : packVar xs fun ys => callP gam2 5 msJoin ys Q := by
  cases xs with
  | nil => exact h.elim
  | cons x r =>
    obtain ⟨k, a, rfl, bs, rfl, hz, h⟩ := txt_inv (x := x) h
    exact ⟨by rw [List.length_map]; exact lim_lst (Nat.le_trans (len_szL bs) (Nat.le_trans (Nat.le_add_left _ _) hz)), join_for (a0 := .txt k a) (ps := .tup (bs.map (.txt k))) hz fun c => h⟩

/-! splitroot -/
theorem clip_nat (n i : Nat) : clipAt n (i : Int) = min i n := by
  unfold clipAt
  rw [if_neg (Int.not_lt.mpr (Int.natCast_nonneg i))]
  rcases Nat.le_total i n with h | h
  · rw [Nat.min_eq_left h, Int.min_eq_left (Int.ofNat_le.mpr h), Int.max_eq_right (Int.natCast_nonneg _), Int.toNat_natCast]
  · rw [Nat.min_eq_right h, Int.min_eq_right (Int.ofNat_le.mpr h), Int.max_eq_right (Int.natCast_nonneg _), Int.toNat_natCast]
theorem cut_to {α : Type} (xs : List α) (i : Nat) : cut xs none (some (i : Int)) = xs.take i := by
  unfold cut
  rw [Option.elim_none, Option.elim_some, clip_nat, Nat.sub_zero, List.drop_zero]
  rcases Nat.le_total i xs.length with h | h
  · rw [Nat.min_eq_left h]
  · rw [Nat.min_eq_right h, List.take_of_length_le (Nat.le_refl _), List.take_of_length_le h]
theorem cut_from {α : Type} (xs : List α) (i : Nat) : cut xs (some (i : Int)) none = xs.drop i := by
  unfold cut
  rw [Option.elim_none, Option.elim_some, clip_nat]
  rcases Nat.le_total i xs.length with h | h
  · rw [Nat.min_eq_left h, List.take_of_length_le (by rw [List.length_drop]; exact Nat.le_refl _)]
  · rw [Nat.min_eq_right h, List.drop_of_length_le (Nat.le_refl _), List.drop_of_length_le h, List.take_nil]
theorem cut_mid {α : Type} (xs : List α) (i j : Nat) : cut xs (some (i : Int)) (some (j : Int)) = (xs.drop i).take (j - i) := by
  unfold cut
  rw [Option.elim_some, Option.elim_some, clip_nat, clip_nat]
  rcases Nat.le_total i xs.length with h | h
  · rw [Nat.min_eq_left h]
    rcases Nat.le_total j xs.length with h' | h'
    · rw [Nat.min_eq_left h']
    · rw [Nat.min_eq_right h', List.take_of_length_le (by rw [List.length_drop]; exact Nat.le_refl _), List.take_of_length_le (by rw [List.length_drop]; exact Nat.sub_le_sub_right h' i)]
  · rw [Nat.min_eq_right h, List.drop_of_length_le (Nat.le_refl _), List.drop_of_length_le h, List.take_nil, List.take_nil]
/-- what splitroot splits off -/
def rootS (cs : List Nat) : List Nat × List Nat :=
  if cs.take 1 ≠ [47] then ([], cs) else if (cs.drop 1).take 1 ≠ [47] ∨ (cs.drop 2).take 1 = [47] then ([47], cs.drop 1) else (cs.take 2, cs.drop 2)
def splitrootF : Fn := fun xs Q => txt1 xs fun k cs => Q (.tup [.txt k [], .txt k (rootS cs).1, .txt k (rootS cs).2])
def gam3 : FEnv := [fspathF, sepF, joinF]
def gam4 : FEnv := [fspathF, sepF, joinF, splitrootF]
theorem splitroot_end {k : Bool} {cs : List Nat} {Q : PV → Prop} (h : Q (.tup [.txt k [], .txt k (rootS cs).1, .txt k (rootS cs).2])) : wp gam3 msSplitroot_2 [some (.txt k cs, 0), some (.txt k [47], 0), some (.txt k [], 0)] (retK Q) := by
  unfold rootS at h
  have c1 : cut cs none (some 1) = cs.take 1 := cut_to cs 1
  have c2 : cut cs (some 1) (some 2) = (cs.drop 1).take 1 := cut_mid cs 1 2
  have c3 : cut cs (some 2) (some 3) = (cs.drop 2).take 1 := cut_mid cs 2 3
  have c4 : cut cs (some 1) none = cs.drop 1 := cut_from cs 1
  have c5 : cut cs none (some 2) = cs.take 2 := cut_to cs 2
  have c6 : cut cs (some 2) none = cs.drop 2 := cut_from cs 2
  rw [← c1, ← c2, ← c3, ← c4, ← c5, ← c6] at h
  refine ⟨rfl, boolP_of (fun h1 => ?_) fun h1 => ⟨rfl, boolP_of (fun h2 => ?_) fun h2 => ⟨rfl, boolP_of (fun h3 => ?_) fun h3 => ?_⟩⟩⟩
  · rw [if_pos (bne_t h1)] at h; exact ⟨rfl, h⟩
  all_goals rw [if_neg fun q => q (bne_f h1)] at h
  · rw [if_pos (.inl (bne_t h2))] at h; exact ⟨rfl, h⟩
  · rw [if_pos (.inr (eq_of_beq h3))] at h; exact ⟨rfl, h⟩
  · rw [if_neg fun q => q.elim (fun q => q (bne_f h2)) (beq_f h3)] at h; exact ⟨rfl, h⟩
theorem splitroot_run (xs : List PV) (Q : PV → Prop) (h : splitrootF xs Q) : lenIs 1 xs (callP gam3 3 msSplitroot xs Q) := by
  obtain ⟨k, cs, rfl, h⟩ := txt1_inv h
  cases k <;> exact ⟨rfl, splitroot_end h⟩

/-! normpath -/
def normStep (abs : Bool) (acc : List (List Nat)) (c : List Nat) : List (List Nat) :=
  if c = [] ∨ c = [46] then acc
  else if c ≠ [46, 46] ∨ (abs = false ∧ acc = []) ∨ acc.getLast? = some [46, 46] then acc ++ [c]
  else acc.dropLast
def normA (abs : Bool) (acc cs : List (List Nat)) : List (List Nat) := cs.foldl (normStep abs) acc
theorem idx_snoc {α : Type} (xs : List α) (x : α) : idxAt (xs ++ [x]) (-1) = some x := by
  unfold idxAt
  have hl : (xs ++ [x]).length = xs.length + 1 := List.length_append
  rw [if_neg (by decide), if_pos (by rw [hl]; omega), hl, show ((-1 : Int) + ((xs.length + 1 : Nat) : Int)).toNat = xs.length by omega]
  exact List.getElem?_concat_length
theorem last_cases {α : Type} (xs : List α) : xs = [] ∨ ∃ r x, xs = r ++ [x] := by
  rcases List.eq_nil_or_concat xs with h | ⟨r, x, h⟩
  · exact .inl h
  · exact .inr ⟨r, x, h.trans List.concat_eq_append⟩
theorem empty_f {α : Type} {xs : List α} (h : (!xs.isEmpty) = false) : xs = [] := by
  cases xs with
  | nil => rfl
  | cons _ _ => exact nomatch h
theorem empty_t {α : Type} {xs : List α} (h : (!xs.isEmpty) = true) : xs ≠ [] := fun e => by subst e; exact nomatch h
/-- the frame of normpath in its loop -/
def rN (k : Bool) (s : List Nat) (a0 cs : PV) (r : Slt) (acc : List (List Nat)) (c : Slt) : List Slt :=
  [some (a0, 0), some (.txt k [47], 0), some (.txt k [46], 0), some (.txt k [46, 46], 0), r, some (.txt k s, 0), some (cs, 0), some (.list (acc.map (.txt k)), 1), c]
theorem norm_turn {k : Bool} {s : List Nat} {a0 cs : PV} {r : Slt} {acc : List (List Nat)} {c : List Nat} {f : List Slt → Prop} {Q : Post} (hz : acc.length < LST)
    (h : f (rN k s a0 cs r (normStep (!s.isEmpty) acc c) (some (.txt k c, 0)))) : wp gam4 msNormpath6b (rN k s a0 cs r acc (some (.txt k c, 0))) (loopK f Q) := by
  unfold normStep at h
  refine boolP_of (fun h1 => ?_) fun h1 => ⟨rfl, boolP_of (fun h2 => ?_) fun h2 => ?_⟩
  · rw [if_pos (.inl (by cases c with | nil => rfl | cons _ _ => exact nomatch h1))] at h; exact h
  · rw [if_pos (.inr (eq_of_beq h2))] at h; exact h
  rw [if_neg fun q => q.elim (fun e => by subst e; exact nomatch h1) (beq_f h2)] at h
  have app : f (rN k s a0 cs r (acc ++ [c]) (some (.txt k c, 0))) → wp gam4 (.append 7 (.var 8)) (rN k s a0 cs r acc (some (.txt k c, 0))) (loopK f Q) := fun h => ⟨by rw [List.length_map]; exact hz, by
    show f _
    unfold rN at h
    rw [List.map_append] at h
    exact h⟩
  have last : ¬ ((!s.isEmpty) = false ∧ acc = []) → c = [46, 46] → (evA gam4 (.and_ (.var 7) (.cmp .eq (.idx (.var 7) (.neg (.lit (.int 1)))) (.var 3))) (rN k s a0 cs r acc (some (.txt k c, 0)))).tru fun t =>
      boolP t (wp gam4 (.append 7 (.var 8)) (rN k s a0 cs r acc (some (.txt k c, 0))) (loopK f Q)) (wp gam4 (.ite (.var 7) (.pop 7) .skip) (rN k s a0 cs r acc (some (.txt k c, 0))) (loopK f Q)) := fun hA hc => by
    rcases last_cases acc with rfl | ⟨acc, x, rfl⟩
    · rw [if_neg fun q => q.elim (fun q => q hc) fun q => q.elim hA fun q => nomatch q] at h
      exact h
    · have hm : (acc ++ [x]).map (PV.txt k) = acc.map (.txt k) ++ [.txt k x] := List.map_append
      have hd : (acc ++ [x]).dropLast = acc := List.dropLast_concat
      have hl : (acc ++ [x]).getLast? = some x := List.getLast?_concat
      have hne : ¬ (!(List.map (PV.txt k) (acc ++ [x])).isEmpty) = false := fun q => by rw [hm] at q; exact absurd (empty_f q) (fun e => nomatch (List.append_eq_nil_iff.mp e).2)
      refine boolP_of (fun _ => ⟨.txt k x, hm ▸ idx_snoc _ _, rfl, boolP_of (fun h6 => ?_) fun h6 => boolP_of (fun _ => ?_) fun h7 => absurd h7 hne⟩) fun h7 => absurd h7 hne
      · rw [if_pos (.inr (.inr (by rw [hl, eq_of_beq h6])))] at h; exact app h
      · rw [if_neg fun q => q.elim (fun q => q hc) fun q => q.elim hA fun q => beq_f h6 (Option.some.inj (hl.symm.trans q)), hd] at h
        exact ⟨acc.map (.txt k), k, x, hm, h⟩
  refine ⟨rfl, boolP_of (fun h3 => ?_) fun h3 => boolP_of (fun h4 => boolP_of (fun h5 => ?_) fun h5 => last (fun q => ?_) (bne_f h3)) fun h4 => last (fun q => ?_) (bne_f h3)⟩
  · rw [if_pos (.inl (bne_t h3))] at h; exact app h
  · rw [if_pos (.inr (.inl ⟨(Bool.not_eq_true' _).mp h4, by cases acc with | nil => rfl | cons _ _ => exact nomatch h5⟩))] at h; exact app h
  · rw [q.2] at h5; exact nomatch h5
  · rw [q.1] at h4; exact nomatch h4
theorem normStep_sz (abs : Bool) (acc : List (List Nat)) (c : List Nat) : szL (normStep abs acc c) ≤ szL acc + (c.length + 1) := by
  unfold normStep
  split
  · exact Nat.le_add_right _ _
  · split
    · unfold szL; rw [List.map_append, List.sum_append]; exact Nat.le_refl _
    · rcases last_cases acc with rfl | ⟨acc, x, rfl⟩
      · exact Nat.zero_le _
      · rw [List.dropLast_concat]; unfold szL; rw [List.map_append, List.sum_append, Nat.add_assoc]; exact Nat.le_add_right _ _
theorem normA_sz (abs : Bool) (cs : List (List Nat)) : ∀ acc, szL (normA abs acc cs) ≤ szL acc + szL cs := by
  induction cs with
  | nil => exact fun acc => Nat.le_add_right _ _
  | cons c cs ih =>
    intro acc
    rw [szL_cons, ← Nat.add_assoc]
    exact Nat.le_trans (ih _) (Nat.add_le_add_right (normStep_sz abs acc c) _)
theorem norm_for {k : Bool} {s : List Nat} {a0 cs : PV} {r : Slt} {Q : Post} {ps : List (List Nat)} : ∀ {acc : List (List Nat)} {c : Slt}, szL acc + szL ps ≤ LIM →
    (∀ c, Q .next (rN k s a0 cs r (normA (!s.isEmpty) acc ps) c)) → forP (wp gam4 msNormpath6b) [8] (ps.map (.txt k)) (rN k s a0 cs r acc c) Q := by
  induction ps with
  | nil => exact fun {acc c} _ h => h c
  | cons p ps ih =>
    intro acc c hz h
    rw [szL_cons, ← Nat.add_assoc] at hz
    refine norm_turn ?_ (ih (Nat.le_trans (Nat.add_le_add_right (normStep_sz _ acc p) _) hz) h)
    have := len_szL acc
    have : LIM < LST := by decide
    omega
theorem rootS_len (cs : List Nat) : (rootS cs).1.length + (rootS cs).2.length = cs.length := by
  unfold rootS
  split
  · exact Nat.zero_add _
  · rename_i h1
    have h1 : cs.take 1 = [47] := Classical.not_not.mp h1
    split
    · rw [← h1, ← List.length_append, List.take_append_drop]
    · rw [← List.length_append, List.take_append_drop]
theorem joinC_len1 (c : Nat) (ps : List (List Nat)) : (joinC [c] ps).length ≤ szL ps ∧ (ps ≠ [] → (joinC [c] ps).length + 1 = szL ps) := by
  have key : ps ≠ [] → (joinC [c] ps).length + 1 = szL ps := by
    induction ps with
    | nil => exact fun h => absurd rfl h
    | cons p r ih =>
      intro _
      cases r with
      | nil => rw [show joinC [c] [p] = p from List.append_nil p]; rfl
      | cons q r => rw [joinC_cons, List.length_append, List.length_append, Nat.add_assoc, ih (fun h => nomatch h), szL_cons p]; rfl
  refine ⟨?_, key⟩
  cases ps with
  | nil => exact Nat.zero_le _
  | cons p r => rw [← key fun h => nomatch h]; exact Nat.le_succ _
theorem szL_split (c : Nat) (cs : List Nat) : szL (splitC c cs) = cs.length + 1 := by
  have h := (joinC_len1 c (splitC c cs)).2 (let ⟨p, ps, e⟩ := splitC_cons c cs; fun q => nomatch e.symm.trans q)
  rw [joinC_split] at h
  exact h.symm
theorem szL_eq (ps : List (List Nat)) : (ps.map List.length).sum + ps.length * 1 = szL ps := by
  induction ps with
  | nil => rfl
  | cons p ps ih => rw [szL_cons, ← ih, List.map_cons, List.sum_cons, List.length_cons]; omega
def normP (cs : List Nat) : List Nat :=
  if cs = [] then [46] else
  if (rootS cs).1 ++ joinC [47] (normA (!(rootS cs).1.isEmpty) [] (splitC 47 (rootS cs).2)) = [] then [46] else (rootS cs).1 ++ joinC [47] (normA (!(rootS cs).1.isEmpty) [] (splitC 47 (rootS cs).2))
def normpathF : Fn := fun xs Q => txt1 xs fun k cs => cs.length < LIM ∧ Q (.txt k (normP cs))
theorem normpath_end {k : Bool} {cs : List Nat} {Q : PV → Prop} (hz : cs.length < LIM) (h : Q (.txt k (normP cs))) :
    wp gam4 msNormpath_2 [some (.txt k cs, 0), some (.txt k [47], 0), some (.txt k [46], 0), some (.txt k [46, 46], 0), none, none, none, none, none] (retK Q) := by
  unfold normP at h
  refine boolP_of (fun h1 => ?_) fun h1 => ?_
  · cases cs with
    | nil => exact h
    | cons _ _ => exact nomatch h1
  rw [if_neg fun e => by subst e; exact nomatch h1] at h
  have hl := rootS_len cs
  have hA := normA_sz (!(rootS cs).1.isEmpty) (splitC 47 (rootS cs).2) []
  have hS := szL_split 47 (rootS cs).2
  refine ⟨rfl, rfl, norm_for (k := k) (s := (rootS cs).1) (a0 := .txt k (rootS cs).2) (r := some (.txt k [], 0)) (acc := []) (Nat.le_trans (Nat.le_of_eq ((Nat.zero_add _).trans hS)) (by omega)) fun c => ?_⟩
  rw [hS, show szL [] = 0 from rfl] at hA
  revert h hA
  generalize normA (!(rootS cs).1.isEmpty) [] (splitC 47 (rootS cs).2) = A
  intro h hA
  have hJ := (joinC_len1 47 A).1
  refine ⟨A, rfl, Nat.le_trans (Nat.le_of_eq (szL_eq A)) (by omega), rfl, by omega, boolP_of (fun h2 => ?_) fun h2 => ?_⟩
  · rw [if_neg (empty_t h2)] at h; exact h
  · rw [if_pos (empty_f h2)] at h; exact h
theorem normpath_run (xs : List PV) (Q : PV → Prop) (h : normpathF xs Q) : lenIs 1 xs (callP gam4 9 msNormpath xs Q) := by
  obtain ⟨k, cs, rfl, hz, h⟩ := txt1_inv h
  cases k <;> exact ⟨rfl, normpath_end hz h⟩
def gam5 : FEnv := [fspathF, sepF, joinF, splitrootF, normpathF]
end Mine
end
noncomputable section
namespace Mine
/-! ## common prefixes; the least and the greatest of a row of rows -/
theorem tlt_asymm : ∀ a b : List Nat, tlt a b = true → tlt b a = false
  | [], [], h => nomatch h
  | _ :: _, [], h => nomatch h
  | [], _ :: _, _ => rfl
  | a :: x, b :: y, h => by
    unfold tlt at h ⊢
    by_cases h1 : a < b
    · rw [if_neg (Nat.lt_asymm h1), if_pos h1]
    · rw [if_neg h1] at h
      by_cases h2 : b < a
      · rw [if_pos h2] at h; exact nomatch h
      · rw [if_neg h2] at h; rw [if_neg h2, if_neg h1]; exact tlt_asymm x y h
theorem tlt_tri : ∀ a b : List Nat, tlt a b = false → tlt b a = false → a = b
  | [], [], _, _ => rfl
  | _ :: _, [], _, h => nomatch h
  | [], _ :: _, h, _ => nomatch h
  | a :: x, b :: y, h, h' => by
    unfold tlt at h h'
    by_cases h1 : a < b
    · rw [if_pos h1] at h; exact nomatch h
    · by_cases h2 : b < a
      · rw [if_pos h2] at h'; exact nomatch h'
      · rw [if_neg h1, if_neg h2] at h
        rw [if_neg h2, if_neg h1] at h'
        rw [tlt_tri x y h h', Nat.le_antisymm (Nat.not_lt.mp h2) (Nat.not_lt.mp h1)]
theorem tlt_trans : ∀ a b c : List Nat, tlt a b = true → tlt b c = true → tlt a c = true
  | [], [], _, h, _ => nomatch (show false = true from h)
  | _ :: _, [], _, h, _ => nomatch (show false = true from h)
  | _, _ :: _, [], _, h => nomatch (show false = true from h)
  | [], _ :: _, _ :: _, _, _ => rfl
  | a :: x, b :: y, c :: z, h, h' => by
    unfold tlt at h h' ⊢
    by_cases h1 : a < b
    · by_cases h2 : b < c
      · rw [if_pos (Nat.lt_trans h1 h2)]
      · rw [if_neg h2] at h'
        by_cases h3 : c < b
        · rw [if_pos h3] at h'; exact nomatch h'
        · rw [if_pos (Nat.lt_of_lt_of_le h1 (Nat.not_lt.mp h3))]
    · rw [if_neg h1] at h
      by_cases h2 : b < a
      · rw [if_pos h2] at h; exact nomatch h
      · rw [if_neg h2] at h
        have e : a = b := Nat.le_antisymm (Nat.not_lt.mp h2) (Nat.not_lt.mp h1)
        subst e
        by_cases h3 : a < c
        · rw [if_pos h3]
        · rw [if_neg h3] at h' ⊢
          by_cases h4 : c < a
          · rw [if_pos h4] at h'; exact nomatch h'
          · rw [if_neg h4] at h' ⊢; exact tlt_trans x y z h h'
theorem tlt_neg (a b c : List Nat) (h : tlt a b = false) (h' : tlt b c = false) : tlt a c = false := by
  cases q : tlt a c with
  | false => rfl
  | true =>
    cases q2 : tlt c b with
    | true => rw [tlt_trans a c b q q2] at h; exact nomatch h
    | false => rw [tlt_tri b c h' q2] at h; exact nomatch q.symm.trans h
theorem rlt_asymm : ∀ a b : List (List Nat), rlt a b = true → rlt b a = false
  | [], [], h => nomatch h
  | _ :: _, [], h => nomatch h
  | [], _ :: _, _ => rfl
  | a :: x, b :: y, h => by
    unfold rlt at h ⊢
    by_cases e : a = b
    · rw [if_pos e] at h; rw [if_pos e.symm]; exact rlt_asymm x y h
    · rw [if_neg e] at h; rw [if_neg (Ne.symm e)]; exact tlt_asymm a b h
theorem rlt_nil (a : List (List Nat)) : rlt a [] = false := by cases a <;> rfl
theorem rlt_neg : ∀ a b c : List (List Nat), rlt a b = false → rlt b c = false → rlt a c = false
  | a, _, [], _, _ => rlt_nil a
  | _, [], c :: z, _, h => Bool.noConfusion (show true = false from h)
  | [], b :: y, _ :: _, h, _ => Bool.noConfusion (show true = false from h)
  | a :: x, b :: y, c :: z, h, h' => by
    unfold rlt at h h' ⊢
    by_cases e : a = b
    · subst e
      rw [if_pos rfl] at h
      by_cases e2 : a = c
      · rw [if_pos e2] at h' ⊢; exact rlt_neg x y z h h'
      · rw [if_neg e2] at h' ⊢; exact h'
    · rw [if_neg e] at h
      by_cases e2 : b = c
      · subst e2; rw [if_neg e]; exact h
      · rw [if_neg e2] at h'
        have := tlt_neg a b c h h'
        by_cases e3 : a = c
        · subst e3; exact absurd (tlt_tri a b h h') e
        · rw [if_neg e3]; exact this
/-- the best one is not worse than any -/
theorem bestOf_all {α : Type} (f : α → α → Bool) (asy : ∀ x y, f x y = true → f y x = false) (neg : ∀ x y z, f x y = false → f y z = false → f x z = false) : ∀ (xs : List α) (b : α), ∀ x ∈ b :: xs, f x (bestOf f b xs) = false
  | [], b, x, hx => by
    rw [List.mem_singleton.mp hx]
    cases q : f b b with
    | false => exact q
    | true => exact (asy b b q)
  | y :: ys, b, x, hx => by
    have ih := bestOf_all f asy neg ys (if f y b then y else b)
    show f x (bestOf f (if f y b then y else b) ys) = false
    have h0 := ih _ (.head _)
    rcases List.mem_cons.mp hx with rfl | hx
    · cases q : f y x with
      | true =>
        rw [q, if_pos rfl] at h0
        rw [if_pos rfl]
        exact neg _ _ _ (asy _ _ q) h0
      | false => rw [q, if_neg Bool.false_ne_true] at h0; rw [if_neg Bool.false_ne_true]; exact h0
    · rcases List.mem_cons.mp hx with rfl | hx
      · cases q : f x b with
        | true => rw [q, if_pos rfl] at h0; rw [if_pos rfl]; exact h0
        | false => rw [q, if_neg Bool.false_ne_true] at h0; rw [if_neg Bool.false_ne_true]; exact neg _ _ _ q h0
      · exact ih _ (.tail _ hx)
def minR (r : List (List Nat)) (rs : List (List (List Nat))) : List (List Nat) := bestOf (turnB false rlt) r rs
def maxR (r : List (List Nat)) (rs : List (List (List Nat))) : List (List Nat) := bestOf (turnB true rlt) r rs
theorem minR_le {r : List (List Nat)} {rs : List (List (List Nat))} {x : List (List Nat)} (h : x ∈ r :: rs) : rlt x (minR r rs) = false := bestOf_all (turnB false rlt) (fun x y h => rlt_asymm x y h) (fun x y z h h' => rlt_neg x y z h h') rs r x h
theorem maxR_le {r : List (List Nat)} {rs : List (List (List Nat))} {x : List (List Nat)} (h : x ∈ r :: rs) : rlt (maxR r rs) x = false := bestOf_all (turnB true rlt) (fun x y h => rlt_asymm y x h) (fun x y z h h' => rlt_neg z y x h' h) rs r x h
theorem bestOf_mem2 {α : Type} (f : α → α → Bool) : ∀ (xs : List α) (b : α), bestOf f b xs ∈ b :: xs
  | [], b => .head _
  | x :: xs, b => by
    show bestOf f (if f x b then x else b) xs ∈ _
    rcases List.mem_cons.mp (bestOf_mem2 f xs (if f x b then x else b)) with h | h
    · rw [h]; split
      · exact .tail _ (.head _)
      · exact .head _
    · exact .tail _ (.tail _ h)
section
variable {α : Type} [DecidableEq α]
/-- the longest common prefix -/
def cpre : List α → List α → List α
  | a :: x, b :: y => if a = b then a :: cpre x y else []
  | _, _ => []
def cpreA (r : List α) (rs : List (List α)) : List α := rs.foldl cpre r
theorem cpre_left : ∀ x y : List α, cpre x y <+: x
  | [], _ => List.nil_prefix
  | _ :: _, [] => List.nil_prefix
  | a :: x, b :: y => by
    unfold cpre
    split
    · exact List.cons_prefix_cons.mpr ⟨rfl, cpre_left x y⟩
    · exact List.nil_prefix
theorem cpre_right : ∀ x y : List α, cpre x y <+: y
  | [], _ => List.nil_prefix
  | _ :: _, [] => List.nil_prefix
  | a :: x, b :: y => by
    unfold cpre
    split
    · rename_i e; exact List.cons_prefix_cons.mpr ⟨e, cpre_right x y⟩
    · exact List.nil_prefix
theorem cpre_of : ∀ {p x y : List α}, p <+: x → p <+: y → p <+: cpre x y
  | [], _, _, _, _ => List.nil_prefix
  | c :: p, [], _, h, _ => nomatch List.prefix_nil.mp h
  | c :: p, _ :: _, [], _, h => nomatch List.prefix_nil.mp h
  | c :: p, a :: x, b :: y, h, h' => by
    obtain ⟨e1, h1⟩ := List.cons_prefix_cons.mp h
    obtain ⟨e2, h2⟩ := List.cons_prefix_cons.mp h'
    unfold cpre
    rw [if_pos (e1.symm.trans e2)]
    exact List.cons_prefix_cons.mpr ⟨e1, cpre_of h1 h2⟩
omit [DecidableEq α] in
theorem prefix_antisymm {x y : List α} (h : x <+: y) (h' : y <+: x) : x = y := h.eq_of_length (Nat.le_antisymm h.length_le h'.length_le)
theorem cpre_app : ∀ p x y : List α, cpre (p ++ x) (p ++ y) = p ++ cpre x y
  | [], _, _ => rfl
  | a :: p, x, y => by
    show (if a = a then a :: cpre (p ++ x) (p ++ y) else []) = _
    rw [if_pos rfl, cpre_app p x y]; rfl
theorem cpreA_all : ∀ {rs : List (List α)} {r x : List α}, x ∈ r :: rs → cpreA r rs <+: x
  | [], r, x, h => by rw [List.mem_singleton.mp h]; exact List.prefix_refl _
  | y :: ys, r, x, h => by
    show cpreA (cpre r y) ys <+: x
    rcases List.mem_cons.mp h with rfl | h
    · exact (cpreA_all (rs := ys) (.head _)).trans (cpre_left _ _)
    · rcases List.mem_cons.mp h with rfl | h
      · exact (cpreA_all (rs := ys) (.head _)).trans (cpre_right _ _)
      · exact cpreA_all (.tail _ h)
theorem cpreA_of {p : List α} : ∀ {rs : List (List α)} {r : List α}, (∀ x ∈ r :: rs, p <+: x) → p <+: cpreA r rs
  | [], r, h => h r (.head _)
  | y :: ys, r, h => cpreA_of (rs := ys) (r := cpre r y) fun x hx => (List.mem_cons.mp hx).elim (fun e => e ▸ cpre_of (h r (.head _)) (h y (.tail _ (.head _)))) fun hx => h x (.tail _ (.tail _ hx))
end
theorem cpre_mid : ∀ {a b x : List (List Nat)}, rlt x a = false → rlt b x = false → cpre a b <+: x
  | [], _, _, _, _ => List.nil_prefix
  | _ :: _, [], _, _, _ => List.nil_prefix
  | c :: a, d :: b, x, h, h' => by
    unfold cpre
    split
    · rename_i e
      subst e
      cases x with
      | nil => exact nomatch h
      | cons e x =>
        unfold rlt at h h'
        by_cases q : e = c
        · subst q
          rw [if_pos rfl] at h h'
          exact List.cons_prefix_cons.mpr ⟨rfl, cpre_mid h h'⟩
        · rw [if_neg q] at h
          rw [if_neg (Ne.symm q)] at h'
          exact absurd (tlt_tri e c h h') q
    · exact List.nil_prefix
/-- the common prefix of the least and the greatest is that of all -/
theorem cpre_best (r : List (List Nat)) (rs : List (List (List Nat))) : cpre (minR r rs) (maxR r rs) = cpreA r rs :=
  prefix_antisymm (cpreA_of fun x hx => cpre_mid (minR_le hx) (maxR_le hx)) (cpre_of (cpreA_all (bestOf_mem2 _ _ _)) (cpreA_all (bestOf_mem2 _ _ _)))
theorem best_le (r : List (List Nat)) (rs : List (List (List Nat))) : rlt (maxR r rs) (minR r rs) = false := maxR_le (bestOf_mem2 _ _ _)
end Mine
end
noncomputable section
namespace Mine

/-! ## ways: what normpath's fold is -/
abbrev Way := Nat × List (List Nat)
def wStep (w : Way) (c : List Nat) : Way :=
  if c = [46, 46] then (if w.2 = [] then (w.1 + 1, []) else (w.1, w.2.dropLast)) else if c = [] ∨ c = [46] then w else (w.1, w.2 ++ [c])
def wRun (w : Way) (cs : List (List Nat)) : Way := cs.foldl wStep w
def dd : List Nat := [46, 46]
/-- what holds of each piece that is a name -/
def AllN (P : List Nat → Prop) (ns : List (List Nat)) : Prop := ∀ p ∈ ns, P p
theorem AllN.nil (P : List Nat → Prop) : AllN P [] := fun _ h => nomatch h
theorem AllN.append {P : List Nat → Prop} {a b : List (List Nat)} (h : AllN P a) (h' : AllN P b) : AllN P (a ++ b) := fun p hp => (List.mem_append.mp hp).elim (h p) (h' p)
theorem wStep_all {P : List Nat → Prop} {w : Way} {c : List Nat} (h : AllN P w.2) (hc : c ≠ [46, 46] → c ≠ [] → c ≠ [46] → P c) : AllN P (wStep w c).2 := by
  unfold wStep
  split
  · split
    · exact .nil P
    · exact fun p hp => h p ((List.dropLast_sublist _).subset hp)
  · rename_i h1
    split
    · exact h
    · rename_i h2
      exact h.append fun p hp => List.mem_singleton.mp hp ▸ hc h1 (fun q => h2 (.inl q)) fun q => h2 (.inr q)
theorem wRun_all {P : List Nat → Prop} {cs : List (List Nat)} : ∀ {w : Way}, AllN P w.2 → (∀ c ∈ cs, c ≠ [46, 46] → c ≠ [] → c ≠ [46] → P c) → AllN P (wRun w cs).2 := by
  induction cs with
  | nil => exact fun h _ => h
  | cons c cs ih => exact fun h hc => ih (wStep_all h (hc c (.head _))) fun c h => hc c (.tail _ h)
theorem wStep_sz (w : Way) (c : List Nat) : (wStep w c).1 ≤ w.1 + 1 ∧ szL (wStep w c).2 ≤ szL w.2 + (c.length + 1) := by
  unfold wStep
  split
  · split
    · exact ⟨Nat.le_refl _, Nat.zero_le _⟩
    · refine ⟨Nat.le_succ _, ?_⟩
      rcases last_cases w.2 with h | ⟨a, x, h⟩ <;> rw [h]
      · exact Nat.zero_le _
      · rw [List.dropLast_concat]; unfold szL; rw [List.map_append, List.sum_append, Nat.add_assoc]; exact Nat.le_add_right _ _
  · split
    · exact ⟨Nat.le_succ _, Nat.le_add_right _ _⟩
    · exact ⟨Nat.le_succ _, by unfold szL; rw [List.map_append, List.sum_append]; exact Nat.le_refl _⟩
theorem wRun_sz (cs : List (List Nat)) : ∀ w : Way, (wRun w cs).1 ≤ w.1 + cs.length ∧ szL (wRun w cs).2 ≤ szL w.2 + szL cs := by
  induction cs with
  | nil => exact fun w => ⟨Nat.le_refl _, Nat.le_add_right _ _⟩
  | cons c cs ih =>
    intro w
    have h := wStep_sz w c
    have i := ih (wStep w c)
    rw [szL_cons, List.length_cons, ← Nat.add_assoc (szL w.2), Nat.add_comm cs.length, ← Nat.add_assoc]
    exact ⟨Nat.le_trans i.1 (Nat.add_le_add_right h.1 _), Nat.le_trans i.2 (Nat.add_le_add_right h.2 _)⟩
abbrev NotDD (p : List Nat) : Prop := p ≠ [46, 46]
theorem norm_step {abs : Bool} {us : List (List Nat)} {w : Way} (h : AllN NotDD w.2) (hu : (abs = true ∧ us = []) ∨ (abs = false ∧ us = List.replicate w.1 dd)) (c : List Nat) :
    ∃ us', normStep abs (us ++ w.2) c = us' ++ (wStep w c).2 ∧ ((abs = true ∧ us' = []) ∨ (abs = false ∧ us' = List.replicate (wStep w c).1 dd)) := by
  obtain ⟨u, ns⟩ := w
  unfold normStep wStep
  by_cases c2 : c = [46, 46]
  · subst c2
    rw [if_neg (by decide), if_pos rfl]
    rcases last_cases ns with rfl | ⟨a, x, rfl⟩
    · rw [if_pos rfl]
      rcases hu with ⟨rfl, rfl⟩ | ⟨rfl, rfl⟩
      · exact ⟨[], if_neg (fun q => q.elim (fun q => q rfl) fun q => q.elim (fun q => nomatch q.1) fun q => nomatch q), .inl ⟨rfl, rfl⟩⟩
      · refine ⟨List.replicate (u + 1) dd, (if_pos ?_).trans ?_, .inr ⟨rfl, rfl⟩⟩
        · cases u with
          | zero => exact .inr (.inl ⟨rfl, rfl⟩)
          | succ u => exact .inr (.inr (by rw [List.append_nil, List.replicate_succ']; exact List.getLast?_concat))
        · rw [List.append_nil, List.append_nil, List.replicate_succ']; rfl
    · have hne : ¬ a ++ [x] = [] := fun q => absurd (List.append_eq_nil_iff.mp q).2 (List.cons_ne_nil x [])
      rw [if_neg (show ¬ ((u, a ++ [x]) : Way).2 = [] from hne)]
      refine ⟨us, (if_neg ?_).trans (?_ : (us ++ (a ++ [x])).dropLast = us ++ (a ++ [x]).dropLast), hu⟩
      · rintro (q | q | q)
        · exact q rfl
        · exact hne (List.append_eq_nil_iff.mp q.2).2
        · have q : (us ++ (a ++ [x])).getLast? = some [46, 46] := q
          rw [← List.append_assoc, List.getLast?_concat] at q
          exact h x (List.mem_append_right _ (.head _)) (Option.some.inj q)
      · rw [List.dropLast_concat, ← List.append_assoc, List.dropLast_concat]
  · rw [if_neg c2]
    by_cases c0 : c = [] ∨ c = [46]
    · rw [if_pos c0, if_pos c0]; exact ⟨us, rfl, hu⟩
    · rw [if_neg c0, if_neg c0, if_pos (.inl c2), List.append_assoc]; exact ⟨us, rfl, hu⟩
theorem norm_run {abs : Bool} {cs : List (List Nat)} : ∀ {us : List (List Nat)} {w : Way}, AllN NotDD w.2 → ((abs = true ∧ us = []) ∨ (abs = false ∧ us = List.replicate w.1 dd)) →
    ∃ us', normA abs (us ++ w.2) cs = us' ++ (wRun w cs).2 ∧ ((abs = true ∧ us' = []) ∨ (abs = false ∧ us' = List.replicate (wRun w cs).1 dd)) := by
  induction cs with
  | nil => exact fun {us w} _ hu => ⟨us, rfl, hu⟩
  | cons c cs ih =>
    intro us w h hu
    obtain ⟨us', e, hu'⟩ := norm_step h hu c
    obtain ⟨us2, e2, hu2⟩ := ih (w := wStep w c) (wStep_all h fun a _ _ => a) hu'
    exact ⟨us2, (congrArg (fun z => normA abs z cs) e).trans e2, hu2⟩
theorem abs_run (cs : List (List Nat)) : normA true [] cs = (wRun (0, []) cs).2 := by
  obtain ⟨us, e, h⟩ := norm_run (abs := true) (us := []) (w := (0, [])) (cs := cs) (.nil _) (.inl ⟨rfl, rfl⟩)
  exact e.trans (h.elim (fun h => by rw [h.2]; rfl) fun h => nomatch h.1)

/-- names alone -/
theorem wRun_names {xs : List (List Nat)} : (∀ p ∈ xs, p ≠ [46, 46] ∧ p ≠ [] ∧ p ≠ [46]) → ∀ w : Way, wRun w xs = (w.1, w.2 ++ xs) := by
  induction xs with
  | nil => exact fun _ w => by rw [List.append_nil]; rfl
  | cons x r ih =>
    intro h w
    obtain ⟨h1, h2, h3⟩ := h x (.head _)
    have e : wStep w x = (w.1, w.2 ++ [x]) := (if_neg h1).trans (if_neg fun q => q.elim h2 h3)
    rw [show wRun w (x :: r) = wRun (wStep w x) r from rfl, e, ih (fun p hp => h p (.tail _ hp)), List.append_assoc]; rfl

/-! what normpath gives, told by the way -/
theorem take1_cases (t : List Nat) : t.take 1 ≠ [47] ∨ ∃ r, t = 47 :: r := by
  cases t with
  | nil => exact .inl fun h => nomatch h
  | cons a r =>
    by_cases h : a = 47
    · exact .inr ⟨r, by rw [h]⟩
    · exact .inl fun q => h (List.cons.inj q).1
def relOut (w : Way) : List Nat := if joinC [47] (List.replicate w.1 dd ++ w.2) = [] then [46] else joinC [47] (List.replicate w.1 dd ++ w.2)
theorem normP_abs {t s r : List Nat} (h : rootS t = (s, r)) (hs : s ≠ []) (h0 : t ≠ []) : normP t = s ++ joinC [47] (wRun (0, []) (splitC 47 r)).2 := by
  unfold normP
  rw [if_neg h0, h, ← abs_run, show (!s.isEmpty) = true by cases s with | nil => exact absurd rfl hs | cons _ _ => rfl]
  exact if_neg fun q => hs (List.append_eq_nil_iff.mp q).1
theorem wRun_slash (w : Way) (r : List Nat) : wRun w (splitC 47 (47 :: r)) = wRun w (splitC 47 r) := by
  rw [splitC_eq]; rfl
/-- how many slashes lead -/
def leadN : List Nat → Nat
  | [] => 0
  | a :: r => if a = 47 then leadN r + 1 else 0
theorem leadN_slash (r : List Nat) : leadN (47 :: r) = leadN r + 1 := rfl
theorem leadN_zero {t : List Nat} (h : t.take 1 ≠ [47]) : leadN t = 0 := by
  cases t with
  | nil => rfl
  | cons a r => exact if_neg fun q => h (by rw [q]; rfl)
theorem lead_iff (t : List Nat) : 0 < leadN t ↔ t.take 1 = [47] := by
  rcases take1_cases t with h1 | ⟨r, rfl⟩
  · rw [leadN_zero h1]; exact ⟨fun h => absurd h (Nat.lt_irrefl 0), fun h => absurd h h1⟩
  · exact ⟨fun _ => rfl, fun _ => Nat.succ_pos _⟩
/-- an absolute way's front -/
def frontOf (n : Nat) : List Nat := if n = 2 then [47, 47] else [47]
theorem root_one {r : List Nat} (h : r.take 1 ≠ [47]) : rootS (47 :: r) = ([47], r) := (if_neg fun q => q rfl).trans (if_pos (.inl h))
theorem root_two {r : List Nat} (h : r.take 1 ≠ [47]) : rootS (47 :: 47 :: r) = ([47, 47], r) := (if_neg fun q => q rfl).trans (if_neg fun q => q.elim (fun q => q rfl) h)
theorem normP_lead {t : List Nat} (h : 0 < leadN t) : normP t = frontOf (leadN t) ++ joinC [47] (wRun (0, []) (splitC 47 t)).2 := by
  rcases take1_cases t with h1 | ⟨r, rfl⟩
  · rw [leadN_zero h1] at h; exact absurd h (Nat.lt_irrefl 0)
  · rw [wRun_slash]
    rcases take1_cases r with h2 | ⟨r2, rfl⟩
    · rw [normP_abs (root_one h2) (fun q => nomatch q) (fun q => nomatch q), leadN_slash, leadN_zero h2]; rfl
    · rw [wRun_slash]
      rcases take1_cases r2 with h3 | ⟨r3, rfl⟩
      · rw [normP_abs (root_two h3) (fun q => nomatch q) (fun q => nomatch q), leadN_slash, leadN_slash, leadN_zero h3]; rfl
      · have hr : rootS (47 :: 47 :: 47 :: r3) = ([47], 47 :: 47 :: r3) := (if_neg fun q => q rfl).trans (if_pos (.inr rfl))
        rw [normP_abs hr (fun q => nomatch q) (fun q => nomatch q), wRun_slash, show frontOf (leadN (47 :: 47 :: 47 :: r3)) = [47] from if_neg fun q => nomatch q]
theorem prefix_iff (t : List Nat) : [47].isPrefixOf t = true ↔ t.take 1 = [47] := by
  cases t with
  | nil => exact ⟨(fun q => nomatch q), fun q => nomatch q⟩
  | cons a r =>
    show (47 == a && true) = true ↔ [a] = [47]
    rw [Bool.and_true, beq_iff_eq]
    exact ⟨fun q => by rw [q], fun q => (List.cons.inj q).1.symm⟩
theorem joinC_head {ps : List (List Nat)} (h : ∀ p ∈ ps, p ≠ [] ∧ 47 ∉ p) : (joinC [47] ps).take 1 ≠ [47] := by
  cases ps with
  | nil => exact fun q => nomatch q
  | cons p r =>
    obtain ⟨h1, h2⟩ := h p (.head _)
    cases p with
    | nil => exact absurd rfl h1
    | cons a p => exact fun q => h2 (List.mem_cons.mpr (.inl (List.cons.inj q).1.symm))
end Mine
end
noncomputable section
namespace Mine
variable {Γ : FEnv}
/-! ## a law's octets -/
theorem compP_map {α : Type} {f : PV → (Bool → Prop) → Prop} {g : PV → (PV → Nat → Prop) → Prop} {φ ψ : α → PV} {cs : List α} : (∀ c ∈ cs, ∀ K : Bool → Prop, K true → f (φ c) K) → (∀ c ∈ cs, ∀ K : PV → Nat → Prop, K (ψ c) 0 → g (φ c) K) →
    ∀ {Z : List PV → Prop}, Z (cs.map ψ) → compP f g (cs.map φ) Z := by
  induction cs with
  | nil => exact fun _ _ _ h => h
  | cons c cs ih => exact fun hf hg Z h => hf c (.head _) _ (hg c (.head _) _ (ih (fun c hc => hf c (.tail _ hc)) (fun c hc => hg c (.tail _ hc)) h))
/-! ## heights -/
abbrev wOf (t : List Nat) : Way := wRun (0, []) (splitC 47 t)
end Mine
end
noncomputable section
namespace Mine
/-! ## fspath, commonprefix, abspath in the small language (laws 5, 1, 6) -/
def msFspath5_9 : MS := .bad
def msFspath5_8 : MS := .seq (.ite (.cmp .gt (.bi1 .len .bad) (.lit (.int 200))) .bad .skip) msFspath5_9
def msFspath5_7 : MS := .seq (.ite (.bi2 .issub (.bi1 .typ (.var 3)) (.tup (.cons (.lit (.cls "str")) (.cons (.lit (.cls "bytes")) .nil)))) (.ret (.var 3)) .skip) msFspath5_8
def msFspath5_6 : MS := .seq (.asg 3 false .bad) msFspath5_7
def msFspath5_5 : MS := .seq (.ite .bad .bad .skip) msFspath5_6
def msFspath5_4 : MS := .seq (.ite (.cmp .is_ (.var 2) (.lit .none)) .bad .skip) msFspath5_5
def msFspath5_3 : MS := .seq (.asg 2 false .bad) msFspath5_4
def msFspath5_2 : MS := .seq .bad msFspath5_3
def msFspath5_1 : MS := .seq (.ite (.bi2 .issub (.var 1) (.tup (.cons (.lit (.cls "str")) (.cons (.lit (.cls "bytes")) .nil)))) (.ret (.var 0)) .skip) msFspath5_2
def msFspath5 : MS := .seq (.asg 1 false (.bi1 .typ (.var 0))) msFspath5_1
def msAbspath_2 : MS := (.ret (.fn 4 (.cons (.var 0) .nil)))
def msAbspath_1 : MS := .seq (.ite (.bi2 .isinst (.var 0) (.lit (.cls "bytes"))) (.ite (.not_ (.meth .startswith (.var 0) (.lit (.txt true [47])))) (.asg 0 false (.fn 2 (.cons .bad (.cons (.var 0) .nil)))) .skip) (.ite (.not_ (.meth .startswith (.var 0) (.lit (.txt false [47])))) (.asg 0 false (.fn 2 (.cons .bad (.cons (.var 0) .nil)))) .skip)) msAbspath_2
def msAbspath : MS := .seq (.asg 0 false (.fn 0 (.cons (.var 0) .nil))) msAbspath_1
def msCommonprefix_5 : MS := (.ret (.var 1))
def msCommonprefix4b : MS := (.ite (.cmp .ne (.var 4) (.idx (.var 2) (.var 3))) (.ret (.cut (.var 1) (.lit .none) (.var 3))) .skip)
def msCommonprefix_4 : MS := .seq (.for_ [3, 4] (.enum (.var 1)) msCommonprefix4b) msCommonprefix_5
def msCommonprefix_3 : MS := .seq (.asg 2 false (.bi1 .max (.var 0))) msCommonprefix_4
def msCommonprefix_2 : MS := .seq (.asg 1 false (.bi1 .min (.var 0))) msCommonprefix_3
def msCommonprefix_1 : MS := .seq (.ite (.not_ (.bi2 .isinst (.idx (.var 0) (.lit (.int 0))) (.tup (.cons (.lit (.cls "list")) (.cons (.lit (.cls "tuple")) .nil))))) (.asg 0 false (.mapfn 0 (.var 0))) .skip) msCommonprefix_2
def msCommonprefix : MS := .seq (.ite (.not_ (.var 0)) (.ret (.lit (.txt false []))) .skip) msCommonprefix_1
theorem fspath5_run (xs : List PV) (Q : PV → Prop) (h : fspathF xs Q) : lenIs 1 xs (callP [] 4 msFspath5 xs Q) := by
  obtain ⟨k, cs, rfl, h⟩ := txt1_inv h
  cases k with
  | false => exact ⟨rfl, .inl rfl, rfl, h⟩
  | true => exact ⟨rfl, .inr rfl, rfl, h⟩
def abspathF : Fn := fun xs Q => txt1 xs fun k cs => [47].isPrefixOf cs = true ∧ cs.length < LIM ∧ Q (.txt k (normP cs))
theorem abspath_run (xs : List PV) (Q : PV → Prop) (h : abspathF xs Q) : lenIs 1 xs (callP gam5 1 msAbspath xs Q) := by
  obtain ⟨k, cs, rfl, h1, h2, h⟩ := txt1_inv h
  cases k with
  | false => exact ⟨rfl, rfl, boolP_of (fun h => absurd ((congrArg (fun b => !b) h1).symm.trans h) Bool.false_ne_true) fun _ => ⟨h2, h⟩⟩
  | true => exact ⟨rfl, rfl, boolP_of (fun h => absurd ((congrArg (fun b => !b) h1).symm.trans h) Bool.false_ne_true) fun _ => ⟨h2, h⟩⟩
theorem idx_nat {α : Type} {xs : List α} {n : Nat} {x : α} (h : xs[n]? = some x) : idxAt xs (n : Int) = some x := by
  unfold idxAt
  rw [if_pos (Int.natCast_nonneg n), Int.toNat_natCast]; exact h
theorem cut_row (k : Bool) (p r : List (List Nat)) : PV.list (cut ((p ++ r).map (PV.txt k)) none (some (p.length : Int))) = rowV k p := by
  rw [cut_to, ← List.map_take, List.take_left]; rfl
/-- what is left of the least and the greatest, sign by sign -/
theorem rlt_step {c : List Nat} {r1 r2 : List (List Nat)} (h : rlt r2 (c :: r1) = false) : ∃ d r, r2 = d :: r ∧ (c = d → rlt r r1 = false) := by
  cases r2 with
  | nil => exact Bool.noConfusion (show true = false from h)
  | cons d r =>
    refine ⟨d, r, rfl, fun e => ?_⟩
    unfold rlt at h
    rw [if_pos e.symm] at h
    exact h
theorem row_at (k : Bool) (p r : List (List Nat)) (d : List Nat) : ((p ++ d :: r).map (PV.txt k))[p.length]? = some (.txt k d) := by
  rw [List.getElem?_map, List.getElem?_append_right (Nat.le_refl _), Nat.sub_self]; rfl
theorem prefix_for {Γ : FEnv} {k : Bool} {m0 : PV} {s1 s2 : List (List Nat)} {Q : Post} (hr : ∀ ρ, Q (.ret (rowV k (cpre s1 s2))) ρ) (hn : ∀ c3 c4, s1 = cpre s1 s2 → Q .next [some (m0, 0), some (rowV k s1, 0), some (rowV k s2, 0), c3, c4]) :
    ∀ {r1 r2 p : List (List Nat)} {c3 c4 : Slt}, s1 = p ++ r1 → s2 = p ++ r2 → rlt r2 r1 = false →
      forP (wp Γ msCommonprefix4b) [3, 4] (enumF p.length (r1.map (PV.txt k))) [some (m0, 0), some (rowV k s1, 0), some (rowV k s2, 0), c3, c4] Q := by
  intro r1
  induction r1 with
  | nil =>
    intro r2 p c3 c4 h1 h2 _
    refine hn c3 c4 ?_
    rw [h1, h2, List.append_nil]
    exact (prefix_antisymm (cpre_left p (p ++ r2)) (cpre_of (List.prefix_refl p) (List.prefix_append p r2))).symm
  | cons c r1 ih =>
    intro r2 p c3 c4 h1 h2 hlt
    obtain ⟨d, r, rfl, hcd⟩ := rlt_step hlt
    refine ⟨.txt k d, idx_nat (h2 ▸ row_at k p r d), rfl, boolP_of (fun hne => ?_) fun heq => ?_⟩
    · have e : cpre s1 s2 = p := by
        rw [h1, h2, cpre_app, show cpre (c :: r1) (d :: r) = [] from if_neg (bne_t hne), List.append_nil]
      have := hr [some (m0, 0), some (rowV k s1, 0), some (rowV k s2, 0), some (.int p.length, 0), some (.txt k c, 0)]
      rw [e, ← cut_row k p (c :: r1), ← h1] at this
      exact this
    · have hc : c = d := bne_f heq
      have h := ih (r2 := r) (p := p ++ [c]) (c3 := some (.int p.length, 0)) (c4 := some (.txt k c, 0)) (by rw [h1, List.append_assoc]; rfl) (by rw [h2, List.append_assoc, hc]; rfl) (hcd hc)
      rw [List.length_append] at h
      exact h
theorem min_two (a b : List (List Nat)) : cpre (minR a [b]) (maxR a [b]) = cpre a b := cpre_best a [b]
def commonprefixF : Fn := fun xs Q => ∃ k a b, xs = [.list [rowV k a, rowV k b]] ∧ Q (rowV k (cpre a b))
theorem commonprefix_run {Γ : FEnv} (xs : List PV) (Q : PV → Prop) (h : commonprefixF xs Q) : lenIs 1 xs (callP Γ 5 msCommonprefix xs Q) := by
  obtain ⟨k, a, b, rfl, h⟩ := h
  refine ⟨rowV k a, rfl, rfl, rfl, .inr ⟨k, a, [b], rfl, .inr ⟨k, a, [b], rfl, ?_⟩⟩⟩
  exact prefix_for (m0 := .list [rowV k a, rowV k b]) (s1 := minR a [b]) (s2 := maxR a [b]) (p := []) (fun ρ => (min_two a b).symm ▸ h) (fun c3 c4 e => by
    show Q (rowV k (minR a [b]))
    rw [e, min_two a b]; exact h) rfl rfl (best_le a [b])
end Mine
end
noncomputable section
namespace Mine
open Builtin Builtin.Bytes

/-! ## rfind, rstrip -/
section
variable {c : Nat} {cs : List Nat}
end
section
variable {α : Type} {p : α → Bool}
theorem while_drop (l : List α) : l.dropWhile p = l.drop (l.takeWhile p).length := by
  induction l with
  | nil => rfl
  | cons x r ih =>
    rw [List.dropWhile_cons, List.takeWhile_cons]
    split
    · rw [List.length_cons, List.drop_succ_cons]; exact ih
    · rfl
end
theorem contains_one (c : Nat) : (#[c] : Array Nat).contains = (· == c) := by
  funext x; rw [Bool.eq_iff_iff, Array.contains_iff_mem]; exact ⟨fun h => beq_iff_eq.mpr (Array.mem_singleton.mp h), fun h => Array.mem_singleton.mpr (eq_of_beq h)⟩
theorem while_nums (c : UInt8) (bs : List UInt8) : (bs.map UInt8.toNat).dropWhile (· == c.toNat) = (bs.dropWhile (· == c)).map UInt8.toNat := by
  induction bs with
  | nil => rfl
  | cons b bs ih =>
    rw [List.map_cons, List.dropWhile_cons, List.dropWhile_cons, show (b.toNat == c.toNat) = (b == c) from Bool.eq_iff_iff.mpr (beq_iff_eq.trans (UInt8.toNat_inj.trans beq_iff_eq.symm)), ih]
    split <;> rfl
section
variable {W : Wld} {A : Around} {s : Shared} {Ok : Addr → Prop} {v u : Value} {k : Bool} {a : List Nat} {c : Nat}
end
/-! ## products -/
end Mine
end
noncomputable section
namespace Mine
/-! ## the texts of law 4 in the small language -/
/-! ## dirname -/
end Mine
end
noncomputable section
namespace Mine
variable {Γ : FEnv}
/-! ## a link: what it is does not matter, but that its pieces and its name are short, without slash and of octets -/
end Mine
end
noncomputable section
namespace Mine
variable {Γ : FEnv}
/-! ## heights of a row of pieces -/
theorem szL_app (a b : List (List Nat)) : szL (a ++ b) = szL a + szL b := by
  induction a with
  | nil => exact (Nat.zero_add _).symm
  | cons p r ih => rw [List.cons_append, szL_cons, szL_cons, ih]; omega
theorem szL_dots' (u : Nat) : szL (List.replicate u [46, 46]) = 3 * u := by
  induction u with
  | zero => rfl
  | succ u ih => rw [List.replicate_succ, szL_cons, ih]; show 2 + 1 + 3 * u = _; omega
end Mine
end
noncomputable section
namespace Mine
/-! ## what a path tells: its root and its way -/
/-! ## dirname of a path of pieces and a name -/
theorem joinC_snoc (ps : List (List Nat)) (h : ps ≠ []) (nm : List Nat) : joinC [47] (ps ++ [nm]) = joinC [47] ps ++ 47 :: nm := by
  induction ps with
  | nil => exact absurd rfl h
  | cons p r ih =>
    cases r with
    | nil => exact (joinC_cons [47] p nm []).trans (by rw [show joinC [47] [nm] = nm from List.append_nil nm, show joinC [47] [p] = p from List.append_nil p, List.append_assoc]; rfl)
    | cons q r => exact (joinC_cons [47] p q (r ++ [nm])).trans (by rw [joinC_cons, List.append_assoc (p ++ [47]), ← ih fun k => nomatch k]; rfl)
theorem split_join' {ps : List (List Nat)} (h : ps ≠ []) (hf : ∀ p ∈ ps, 47 ∉ p) : splitC 47 (joinC [47] ps) = ps := by
  cases ps with
  | nil => exact absurd rfl h
  | cons p r => exact splitC_join 47 r p hf
end Mine
end
noncomputable section
namespace Mine
/-! ## relpath in the small language (laws 5, 6) -/
def msRelpath4y_7 : MS := (.ret (.meth .join (.var 3) (.var 10)))
def msRelpath4y_6 : MS := .seq (.ite (.not_ (.var 10)) (.ret (.var 2)) .skip) msRelpath4y_7
def msRelpath4y_5 : MS := .seq (.asg 10 false (.bin .add (.bin .mul (.list (.cons (.var 4) .nil)) (.bin .sub (.bi1 .len (.var 7)) (.var 9))) (.cut (.var 8) (.var 9) (.lit .none)))) msRelpath4y_6
def msRelpath4y_4 : MS := .seq (.asg 9 false (.bi1 .len (.fn 6 (.cons (.list (.cons (.var 7) (.cons (.var 8) .nil))) .nil)))) msRelpath4y_5
def msRelpath4y_3 : MS := .seq (.asg 8 false (.ite (.var 6) (.meth .split (.var 6) (.var 3)) (.list .nil))) msRelpath4y_4
def msRelpath4y_2 : MS := .seq (.asg 7 false (.ite (.var 5) (.meth .split (.var 5) (.var 3)) (.list .nil))) msRelpath4y_3
def msRelpath4y_1 : MS := .seq (.asg 6 false (.meth .lstrip (.fn 5 (.cons (.var 0) .nil)) (.var 3))) msRelpath4y_2
def msRelpath4y : MS := .seq (.asg 5 false (.meth .lstrip (.fn 5 (.cons (.var 1) .nil)) (.var 3))) msRelpath4y_1
def msRelpath_4 : MS := (.try_ msRelpath4y)
def msRelpath_3 : MS := .seq (.ite (.cmp .is_ (.var 1) (.lit .none)) (.asg 1 false (.var 2)) (.asg 1 false (.fn 0 (.cons (.var 1) .nil)))) msRelpath_4
def msRelpath2t_2 : MS := (.asg 4 false (.lit (.txt true [46, 46])))
def msRelpath2t_1 : MS := .seq (.asg 3 false (.lit (.txt true [47]))) msRelpath2t_2
def msRelpath2t : MS := .seq (.asg 2 false (.lit (.txt true [46]))) msRelpath2t_1
def msRelpath2e_2 : MS := (.asg 4 false (.lit (.txt false [46, 46])))
def msRelpath2e_1 : MS := .seq (.asg 3 false (.lit (.txt false [47]))) msRelpath2e_2
def msRelpath2e : MS := .seq (.asg 2 false (.lit (.txt false [46]))) msRelpath2e_1
def msRelpath_2 : MS := .seq (.ite (.bi2 .isinst (.var 0) (.lit (.cls "bytes"))) msRelpath2t msRelpath2e) msRelpath_3
def msRelpath_1 : MS := .seq (.ite (.not_ (.var 0)) .bad .skip) msRelpath_2
def msRelpath : MS := .seq (.asg 0 false (.fn 0 (.cons (.var 0) .nil))) msRelpath_1
theorem good_names (t : List Nat) : ∀ p ∈ (wOf t).2, (p ≠ [46, 46] ∧ p ≠ [] ∧ p ≠ [46]) ∧ 47 ∉ p := wRun_all (P := fun p => (p ≠ [46, 46] ∧ p ≠ [] ∧ p ≠ [46]) ∧ 47 ∉ p) (.nil _) fun c hc a b d => ⟨⟨a, b, d⟩, splitC_free 47 t c hc⟩
theorem drop_head {a : List Nat} (h : a.take 1 ≠ [47]) : a.dropWhile (· == 47) = a := by
  cases a with
  | nil => rfl
  | cons x r => rw [List.dropWhile_cons, if_neg fun q => h (by rw [eq_of_beq q]; rfl)]
/-- what is left of a plain absolute path without its front -/
theorem tail_names {t : List Nat} (h : 0 < leadN t) : (normP t).dropWhile (· == 47) = joinC [47] (wOf t).2 := by
  have hh : (joinC [47] (wOf t).2).take 1 ≠ [47] := joinC_head fun p hp => ⟨(good_names t p hp).1.2.1, (good_names t p hp).2⟩
  rw [normP_lead h]
  unfold frontOf
  split
  · exact drop_head hh
  · exact drop_head hh
theorem joinC_nil {ps : List (List Nat)} (h : ∀ p ∈ ps, p ≠ []) : joinC [47] ps = [] → ps = [] := by
  cases ps with
  | nil => exact fun _ => rfl
  | cons p r => exact fun q => absurd (List.append_eq_nil_iff.mp (show p ++ _ = [] from q)).1 (h p (.head _))
/-- the way from one place to another, by their names -/
def relW (s p : List (List Nat)) : Way := (s.length - (cpre s p).length, p.drop (cpre s p).length)
def relP (p s : List Nat) : List Nat := relOut (relW (wOf s).2 (wOf p).2)
theorem names_sz (t : List Nat) : szL (wOf t).2 ≤ t.length + 1 := by
  have h := (wRun_sz (splitC 47 t) (0, [])).2
  rw [szL_split, show szL (0, ([] : List (List Nat))).2 = 0 from rfl, Nat.zero_add] at h
  exact h
theorem szL_drop (ps : List (List Nat)) (n : Nat) : szL (ps.drop n) ≤ szL ps := by
  have h := szL_app (ps.take n) (ps.drop n)
  rw [List.take_append_drop] at h
  rw [h]; exact Nat.le_add_left _ _
theorem rel_sz (s p : List (List Nat)) : szL (List.replicate (relW s p).1 dd ++ (relW s p).2) ≤ 3 * szL s + szL p := by
  rw [szL_app, show szL (List.replicate (relW s p).1 dd) = 3 * (relW s p).1 from szL_dots' _]
  have h1 : (relW s p).1 ≤ szL s := Nat.le_trans (Nat.sub_le _ _) (len_szL s)
  have h2 : szL (relW s p).2 ≤ szL p := szL_drop p _
  omega
def gam7 : FEnv := [fspathF, sepF, joinF, splitrootF, normpathF, abspathF, commonprefixF]
theorem rep_flat {α : Type} (n : Nat) (x : α) : (List.replicate n [x]).flatten = List.replicate n x := by
  induction n with
  | zero => rfl
  | succ n ih => rw [List.replicate_succ, List.flatten_cons, ih, List.replicate_succ]; rfl
theorem lead_prefix {t : List Nat} (h : 0 < leadN t) : [47].isPrefixOf t = true := (prefix_iff t).mpr ((lead_iff t).mp h)
def GoodN (ns : List (List Nat)) : Prop := ∀ p ∈ ns, (p ≠ [46, 46] ∧ p ≠ [] ∧ p ≠ [46]) ∧ 47 ∉ p
/-- the ways up and the names down, joined -/
theorem rel_end {k : Bool} {a0 a1 a5 a6 : PV} {S P : List (List Nat)} {Q : PV → Prop} (gP : GoodN P) (zS : szL S ≤ 65536) (zP : szL P ≤ 65536) (h : Q (.txt k (relOut (relW S P)))) :
    wp gam7 msRelpath4y_4 [some (a0, 0), some (a1, 0), some (.txt k [46], 0), some (.txt k [47], 0), some (.txt k [46, 46], 0), some (a5, 0), some (a6, 0), some (rowV k S, 0), some (rowV k P, 0), none, none] (retK Q) := by
  have nS := Nat.le_trans (len_szL S) zS
  have nP := Nat.le_trans (len_szL P) zP
  have hr := rel_sz S P
  have hI : (cpre S P).length ≤ S.length := (cpre_left _ _).length_le
  refine ⟨rfl, k, S, P, rfl, rfl, ?_⟩
  have e1 : ((S.map (PV.txt k)).length : Int) - ((cpre S P).map (PV.txt k)).length = ((S.length - (cpre S P).length : Nat) : Int) := by rw [List.length_map, List.length_map]; omega
  have e2 : (((cpre S P).map (PV.txt k)).length : Int) = ((cpre S P).length : Int) := by rw [List.length_map]
  have hl : 262144 ≤ LST := by decide
  have h40 : (65536 : Int) < 2 ^ 40 := by decide
  show (([PV.txt k [46, 46]].length * (((S.map (PV.txt k)).length : Int) - ((cpre S P).map (PV.txt k)).length).toNat ≤ LST ∧ -(2 ^ 40 : Int) ≤ _ ∧ _) ∧ _)
  rw [e1, e2, Int.toNat_natCast]
  refine ⟨⟨by show 1 * _ ≤ LST; omega, by omega, by omega⟩, ?_⟩
  have e3 : (List.replicate (S.length - (cpre S P).length) [PV.txt k [46, 46]]).flatten ++ cut (P.map (PV.txt k)) (some ((cpre S P).length : Int)) none = (List.replicate (relW S P).1 dd ++ (relW S P).2).map (PV.txt k) := by
    rw [rep_flat, cut_from, List.map_append, List.map_replicate, ← List.map_drop]; rfl
  have z3 : (List.replicate (S.length - (cpre S P).length) [PV.txt k [46, 46]]).flatten.length + (cut (P.map (PV.txt k)) (some ((cpre S P).length : Int)) none).length = (List.replicate (relW S P).1 dd ++ (relW S P).2).length := by
    rw [← List.length_append, e3, List.length_map]
  refine ⟨by rw [z3]; have := len_szL (List.replicate (relW S P).1 dd ++ (relW S P).2); omega, ?_⟩
  show wp gam7 msRelpath4y_6 [some (a0, 0), some (a1, 0), some (.txt k [46], 0), some (.txt k [47], 0), some (.txt k [46, 46], 0), some (a5, 0), some (a6, 0), some (rowV k S, 0), some (rowV k P, 0), some (.int ((cpre S P).map (PV.txt k)).length, 0), some (.list ((List.replicate (S.length - (cpre S P).length) [PV.txt k [46, 46]]).flatten ++ cut (P.map (PV.txt k)) (some ((cpre S P).length : Int)) none), 0)] (retK Q)
  rw [e3]
  have hne : ∀ p ∈ List.replicate (relW S P).1 dd ++ (relW S P).2, p ≠ [] := fun p hp => (List.mem_append.mp hp).elim (fun h => List.eq_of_mem_replicate h ▸ fun q => nomatch q) fun h => (gP p (List.mem_of_mem_drop h)).1.2.1
  unfold relOut at h
  revert h hne hr
  generalize List.replicate (relW S P).1 dd ++ (relW S P).2 = R
  intro h hr hne
  refine boolP_of (fun q => ?_) fun q => ?_
  · have : R = [] := by
      cases R with
      | nil => rfl
      | cons _ _ => exact nomatch q
    rw [if_pos (by rw [this]; rfl)] at h
    exact h
  · rw [if_neg fun e => by rw [joinC_nil hne e] at q; exact nomatch q] at h
    exact ⟨R, rfl, Nat.le_trans (Nat.le_of_eq (szL_eq R)) (Nat.le_trans hr (Nat.le_trans (show _ ≤ 262144 by omega) (by decide : 262144 ≤ LIM))), h⟩
theorem relpath_end {k : Bool} {p s : List Nat} {Q : PV → Prop} (hp : 0 < leadN p) (hs : 0 < leadN s) (zp : p.length < 65535) (zs : s.length < 65535) (h : Q (.txt k (relP p s))) :
    wp gam7 msRelpath_3 [some (.txt k p, 0), some (.txt k s, 0), some (.txt k [46], 0), some (.txt k [47], 0), some (.txt k [46, 46], 0), none, none, none, none, none, none] (retK Q) := by
  have L : (65535 : Nat) < LIM := by decide
  have zS := names_sz s
  have zP := names_sz p
  have hsplit : ∀ {t : List Nat}, (!(joinC [47] (wOf t).2).isEmpty) = true → PV.list ((splitC 47 (joinC [47] (wOf t).2)).map (PV.txt k)) = rowV k (wOf t).2 := fun {t} q =>
    congrArg (rowV k) (split_join' (fun e => empty_t q (by rw [e]; rfl)) fun c hc => (good_names t c hc).2)
  have hnil : ∀ {t : List Nat}, (!(joinC [47] (wOf t).2).isEmpty) = false → PV.list [] = rowV k (wOf t).2 := fun {t} q => by
    rw [joinC_nil (fun c hc => (good_names t c hc).1.2.1) (empty_f q)]; rfl
  refine ⟨rfl, lead_prefix hs, Nat.lt_trans zs L, rfl, ?_⟩
  rw [tail_names hs]
  refine ⟨lead_prefix hp, Nat.lt_trans zp L, rfl, ?_⟩
  rw [tail_names hp]
  have key := rel_end (k := k) (a0 := .txt k p) (a1 := .txt k s) (a5 := .txt k (joinC [47] (wOf s).2)) (a6 := .txt k (joinC [47] (wOf p).2)) (S := (wOf s).2) (P := (wOf p).2) (Q := Q) (good_names p) (by omega) (by omega) h
  refine boolP_of (fun q => ⟨rfl, ?_⟩) fun q => ⟨rfl, ?_⟩
  · rw [hsplit q]
    refine boolP_of (fun q => ⟨rfl, ?_⟩) fun q => ⟨rfl, ?_⟩
    · rw [hsplit q]; exact key
    · rw [hnil q]; exact key
  · rw [hnil q]
    refine boolP_of (fun q => ⟨rfl, ?_⟩) fun q => ⟨rfl, ?_⟩
    · rw [hsplit q]; exact key
    · rw [hnil q]; exact key
def relpathF : Fn := fun xs Q => ∃ k p s, xs = [.txt k p, .txt k s] ∧ 0 < leadN p ∧ 0 < leadN s ∧ p.length < 65535 ∧ s.length < 65535 ∧ Q (.txt k (relP p s))
theorem relpath_run (xs : List PV) (Q : PV → Prop) (h : relpathF xs Q) : lenIs 2 xs (callP gam7 11 msRelpath xs Q) := by
  obtain ⟨k, p, s, rfl, hp, hs, zp, zs, h⟩ := h
  have hne : p ≠ [] := fun e => by rw [e] at hp; exact absurd hp (Nat.lt_irrefl 0)
  refine boolP_of (fun q => ?_) fun _ => ?_
  · cases p with
    | nil => exact absurd rfl hne
    | cons _ _ => exact nomatch q
  · cases k with
    | false => exact ⟨rfl, relpath_end hp hs zp zs h⟩
    | true => exact ⟨rfl, relpath_end hp hs zp zs h⟩
end Mine
end
noncomputable section
namespace Mine
/-! ## commonpath in the small language (laws 1, 5, 6) -/
def msCommonpath3y_8 : MS := (.ret (.bin .add (.var 10) (.meth .join (.var 1) (.var 7))))
def msCommonpath3y_7 : MS := .seq (.asg 10 false (.ite (.var 4) (.var 1) (.cut (.var 1) (.lit .none) (.lit (.int 0))))) msCommonpath3y_8
def msCommonpath3y6b0t_1 : MS := .brk
def msCommonpath3y6b0t : MS := .seq (.asg 7 false (.cut (.var 5) (.lit .none) (.var 8))) msCommonpath3y6b0t_1
def msCommonpath3y6b : MS := (.ite (.cmp .ne (.var 9) (.idx (.var 6) (.var 8))) msCommonpath3y6b0t .skip)
def msCommonpath3y_6 : MS := .seq (.for_ [8, 9] (.enum (.var 5)) msCommonpath3y6b) msCommonpath3y_7
def msCommonpath3y_5 : MS := .seq (.asg 7 false (.var 5)) msCommonpath3y_6
def msCommonpath3y_4 : MS := .seq (.asg 6 false (.bi1 .max (.var 3))) msCommonpath3y_5
def msCommonpath3y_3 : MS := .seq (.asg 5 false (.bi1 .min (.var 3))) msCommonpath3y_4
def msCommonpath3y_2 : MS := .seq (.asg 3 false (.comp (.comp (.var 12) (.var 11) (.and_ (.var 12) (.cmp .ne (.var 12) (.var 2)))) (.var 3) (.lit (.bool true)))) msCommonpath3y_3
def msCommonpath3y_1 : MS := .seq (.try_ (.oneOf 4 (.meth .startswith (.var 11) (.var 1)) (.var 0))) msCommonpath3y_2
def msCommonpath3y : MS := .seq (.asg 3 false (.comp (.meth .split (.var 11) (.var 1)) (.var 0) (.lit (.bool true)))) msCommonpath3y_1
def msCommonpath_3 : MS := (.try_ msCommonpath3y)
def msCommonpath2t_1 : MS := (.asg 2 false (.lit (.txt true [46])))
def msCommonpath2t : MS := .seq (.asg 1 false (.lit (.txt true [47]))) msCommonpath2t_1
def msCommonpath2e_1 : MS := (.asg 2 false (.lit (.txt false [46])))
def msCommonpath2e : MS := .seq (.asg 1 false (.lit (.txt false [47]))) msCommonpath2e_1
def msCommonpath_2 : MS := .seq (.ite (.bi2 .isinst (.idx (.var 0) (.lit (.int 0))) (.lit (.cls "bytes"))) msCommonpath2t msCommonpath2e) msCommonpath_3
def msCommonpath_1 : MS := .seq (.ite (.not_ (.var 0)) .bad .skip) msCommonpath_2
def msCommonpath : MS := .seq (.asg 0 false (.mapfn 0 (.var 0))) msCommonpath_1
def keepB (c : List Nat) : Bool := !c.isEmpty && !(c == [46])
def pcs (p : List Nat) : List (List Nat) := (splitC 47 p).filter keepB
def comP (b : Bool) (p0 : List Nat) (ps : List (List Nat)) : List Nat := (if b = true then [47] else []) ++ joinC [47] (cpreA (pcs p0) (ps.map pcs))
def commonpathF : Fn := fun xs Q => ∃ k b p0 ps, xs = [.list ((p0 :: ps).map (PV.txt k))] ∧ (∀ p ∈ p0 :: ps, [47].isPrefixOf p = b) ∧ p0.length < 65536 ∧ Q (.txt k (comP b p0 ps))
theorem compP_filter {α : Type} {f : PV → (Bool → Prop) → Prop} {g : PV → (PV → Nat → Prop) → Prop} {φ : α → PV} {t : α → Bool} {cs : List α} : (∀ c ∈ cs, ∀ K : Bool → Prop, K (t c) → f (φ c) K) → (∀ c ∈ cs, ∀ K : PV → Nat → Prop, K (φ c) 0 → g (φ c) K) →
    ∀ {Z : List PV → Prop}, Z ((cs.filter t).map φ) → compP f g (cs.map φ) Z := by
  induction cs with
  | nil => exact fun _ _ _ h => h
  | cons c cs ih =>
    intro hf hg Z h
    have hf' := fun d hd => hf d (.tail _ hd)
    have hg' := fun d hd => hg d (.tail _ hd)
    refine hf c (.head _) _ ?_
    rw [List.filter_cons] at h
    cases q : t c with
    | true => rw [if_pos q] at h; exact hg c (.head _) _ (ih hf' hg' (Z := fun ys => Z (φ c :: ys)) h)
    | false => rw [if_neg (Bool.eq_false_iff.mp q)] at h; exact ih hf' hg' h
theorem onesP_all {g : PV → (PV → Nat → Prop) → Prop} {b : Bool} {P : Prop} (p : P) : ∀ {xs : List PV} {seen : Bool}, (∀ x ∈ xs, ∀ K : PV → Nat → Prop, K (.bool b) 0 → g x K) → (seen = true ∨ xs ≠ []) → onesP g b seen xs P
  | [], seen, _, h => ⟨h.elim id fun h => absurd rfl h, p⟩
  | x :: xs, seen, hg, _ => hg x (.head _) _ ⟨rfl, onesP_all p (fun y hy => hg y (.tail _ hy)) (.inl rfl)⟩
theorem com_for {Γ : FEnv} {k : Bool} {t sp : PV} {ia : PV} {s1 s2 : List (List Nat)} {Q : Post} (hn : ∀ c8 c9, Q .next [some (t, 0), some (.txt k [47], 0), some (.txt k [46], 0), some (sp, 0), some (ia, 0), some (rowV k s1, 0), some (rowV k s2, 0), some (rowV k (cpre s1 s2), 0), c8, c9, none]) :
    ∀ {r1 r2 p : List (List Nat)} {c8 c9 : Slt}, s1 = p ++ r1 → s2 = p ++ r2 → rlt r2 r1 = false →
      forP (wp Γ msCommonpath3y6b) [8, 9] (enumF p.length (r1.map (PV.txt k))) [some (t, 0), some (.txt k [47], 0), some (.txt k [46], 0), some (sp, 0), some (ia, 0), some (rowV k s1, 0), some (rowV k s2, 0), some (rowV k s1, 0), c8, c9, none] Q := by
  intro r1
  induction r1 with
  | nil =>
    intro r2 p c8 c9 h1 h2 _
    have e : cpre s1 s2 = s1 := by rw [h1, h2, List.append_nil]; exact prefix_antisymm (cpre_left p (p ++ r2)) (cpre_of (List.prefix_refl p) (List.prefix_append p r2))
    have := hn c8 c9
    rw [e] at this
    exact this
  | cons c r1 ih =>
    intro r2 p c8 c9 h1 h2 hlt
    obtain ⟨d, r, rfl, hcd⟩ := rlt_step hlt
    refine ⟨.txt k d, idx_nat (h2 ▸ row_at k p r d), rfl, boolP_of (fun hne => ?_) fun heq => ?_⟩
    · have e : cpre s1 s2 = p := by
        rw [h1, h2, cpre_app, show cpre (c :: r1) (d :: r) = [] from if_neg (bne_t hne), List.append_nil]
      have := hn (some (.int p.length, 0)) (some (.txt k c, 0))
      rw [e, ← cut_row k p (c :: r1), ← h1] at this
      exact this
    · have hc : c = d := bne_f heq
      have h := ih (r2 := r) (p := p ++ [c]) (c8 := some (.int p.length, 0)) (c9 := some (.txt k c, 0)) (by rw [h1, List.append_assoc]; rfl) (by rw [h2, List.append_assoc, hc]; rfl) (hcd hc)
      rw [List.length_append] at h
      exact h
theorem szL_sub' {a b : List (List Nat)} (h : a.Sublist b) : szL a ≤ szL b := by
  induction h with
  | slnil => exact Nat.le_refl _
  | cons p _ ih => rw [szL_cons]; exact Nat.le_trans ih (Nat.le_add_left _ _)
  | cons_cons p _ ih => rw [szL_cons, szL_cons]; exact Nat.add_le_add_left ih _
theorem com_end {Γ : FEnv} {k b : Bool} {p0 : List Nat} {ps : List (List Nat)} {Q : PV → Prop} (hb : ∀ p ∈ p0 :: ps, [47].isPrefixOf p = b) (hz : p0.length < 65536) (h : Q (.txt k (comP b p0 ps))) :
    wp Γ msCommonpath_3 [some (.tup ((p0 :: ps).map (PV.txt k)), 0), some (.txt k [47], 0), some (.txt k [46], 0), none, none, none, none, none, none, none, none] (retK Q) := by
  refine compP_map (φ := PV.txt k) (ψ := fun p => rowV k (splitC 47 p)) (fun _ _ _ z => z) (fun _ _ _ z => ⟨rfl, z⟩) ?_
  refine ⟨b, onesP_all ?_ (fun x hx K z => ?_) (.inr fun e => nomatch e)⟩
  case refine_2 =>
    obtain ⟨p, hp, rfl⟩ := List.mem_map.mp hx
    exact ⟨rfl, hb p hp ▸ z⟩
  refine compP_map (φ := fun p => rowV k (splitC 47 p)) (ψ := fun p => rowV k (pcs p)) (fun _ _ _ z => z) (fun p _ K z => ?_) ?_
  · refine compP_filter (φ := PV.txt k) (t := keepB) (fun c _ K z => boolP_of (fun q => ⟨rfl, ?_⟩) fun q => ?_) (fun _ _ _ z => z) z
    · have e : keepB c = false := by unfold keepB; rw [show (!c.isEmpty) = false from q]; rfl
      rw [e] at z; exact z
    · have e : keepB c = !(c == [46]) := by unfold keepB; rw [show (!c.isEmpty) = true from q]; rfl
      rw [e] at z; exact z
  have e : (p0 :: ps).map (fun p => rowV k (pcs p)) = (pcs p0 :: ps.map pcs).map (rowV k) := (List.map_map (f := pcs) (g := rowV k) (l := p0 :: ps)).symm
  rw [e]
  refine .inr ⟨k, pcs p0, ps.map pcs, rfl, .inr ⟨k, pcs p0, ps.map pcs, rfl, ?_⟩⟩
  refine com_for (t := .tup ((p0 :: ps).map (PV.txt k))) (sp := .list ((pcs p0 :: ps.map pcs).map (rowV k))) (ia := .bool b) (s1 := minR (pcs p0) (ps.map pcs)) (s2 := maxR (pcs p0) (ps.map pcs)) (p := []) (fun c8 c9 => ?_) rfl rfl (best_le _ _)
  rw [cpre_best]
  have hz1 : szL (cpreA (pcs p0) (ps.map pcs)) ≤ 65536 := Nat.le_trans (szL_sub' ((cpreA_all (.head _)).sublist.trans List.filter_sublist)) (by rw [szL_split]; exact hz)
  unfold comP at h
  revert h hz1
  generalize cpreA (pcs p0) (ps.map pcs) = R
  intro h hz1
  have hj : (joinC [47] R).length ≤ 65536 := Nat.le_trans (joinC_len1 47 R).1 hz1
  have L1 : 65537 ≤ LIM := by decide
  cases b with
  | true => exact ⟨R, rfl, Nat.le_trans (Nat.le_of_eq (szL_eq R)) (Nat.le_trans hz1 (by decide)), rfl, by show 1 + _ ≤ _; omega, h⟩
  | false => exact ⟨R, rfl, Nat.le_trans (Nat.le_of_eq (szL_eq R)) (Nat.le_trans hz1 (by decide)), rfl, by show 0 + _ ≤ _; omega, h⟩
theorem commonpath_run {Γ : FEnv} (hΓ : getF Γ 0 = fspathF) (xs : List PV) (Q : PV → Prop) (h : commonpathF xs Q) : lenIs 1 xs (callP Γ 11 msCommonpath xs Q) := by
  obtain ⟨k, b, p0, ps, rfl, hb, hz, h⟩ := h
  refine ⟨(p0 :: ps).map fun p => (k, p), (List.map_map (f := fun p => (k, p)) (g := fun (p : Bool × List Nat) => PV.txt p.1 p.2) (l := p0 :: ps)).symm, fun p _ Z z => by rw [hΓ]; exact z, ?_⟩
  cases k with
  | false => exact ⟨0, rfl, .txt false p0, rfl, rfl, com_end hb hz h⟩
  | true => exact ⟨0, rfl, .txt true p0, rfl, rfl, com_end hb hz h⟩
end Mine
end
noncomputable section
namespace Mine
/-! ## codes and names as lists of ints (laws 5, 6) -/
def iv (r : List Nat) : PV := .list (r.map fun (c : Nat) => PV.int (c : Int))
def nv (ns : List (List Nat)) : PV := .list (ns.map iv)
def kv (k : Bool) : PV := .int (match k with | true => 1 | false => 0)
def lim (k : Bool) : Nat := match k with | true => 256 | false => 1114112
theorem eqs_map {α : Type} [BEq α] [LawfulBEq α] {f : PV → PV → Option Bool} {φ : α → PV} (hf : ∀ a b, f (φ a) (φ b) = some (a == b)) : ∀ {a b : List α}, a.length = b.length → eqs f (a.map φ) (b.map φ) = some (a == b)
  | [], [], _ => rfl
  | [], _ :: _, h => nomatch h
  | _ :: _, [], h => nomatch h
  | x :: a, y :: b, h => by
    rw [List.map_cons, List.map_cons, eqs, hf, eqs_map hf (Nat.succ.inj h)]; rfl
theorem eqL_map {α : Type} [BEq α] [LawfulBEq α] {n : Nat} {φ : α → PV} (hf : ∀ a b, eqV (eqL n) (φ a) (φ b) = some (a == b)) (a b : List α) : eqL (n + 1) (a.map φ) (b.map φ) = some (a == b) := by
  show (if (a.map φ).length = (b.map φ).length then eqs (eqV (eqL n)) (a.map φ) (b.map φ) else some false) = _
  rw [List.length_map, List.length_map]
  by_cases h : a.length = b.length
  · rw [if_pos h, eqs_map hf h]
  · rw [if_neg h, beq_false_of_ne fun q => h (congrArg List.length q)]
theorem eq_iv {n : Nat} (a b : List Nat) : eqV (eqL (n + 1)) (iv a) (iv b) = some (a == b) :=
  eqL_map (φ := fun (c : Nat) => PV.int (c : Int)) (fun a b => show some ((a : Int) == (b : Int)) = some (a == b) from congrArg some (Bool.eq_iff_iff.mpr (beq_iff_eq.trans (Int.natCast_inj.trans beq_iff_eq.symm)))) a b
theorem eq_nv {n : Nat} (a b : List (List Nat)) : eqV (eqL (n + 2)) (nv a) (nv b) = some (a == b) := eqL_map (fun a b => eq_iv a b) a b

/-! _law_made -/
def msMade_1 : MS := (.ret (.bi1 .bytes (.var 0)))
def msMade : MS := .seq (.ite (.cmp .eq (.var 1) (.lit (.int 0))) (.ret (.meth .join (.lit (.txt false [])) (.comp (.bi1 .chr (.var 2)) (.var 0) (.lit (.bool true))))) .skip) msMade_1
def madeF : Fn := fun xs Q => ∃ (k : Bool) (r : List Nat), xs = [iv r, kv k] ∧ (∀ c ∈ r, c < lim k) ∧ r.length ≤ 65536 ∧ Q (.txt k r)
theorem join_signs (r : List Nat) : joinC [] (r.map fun c => [c]) = r := by
  cases r with
  | nil => rfl
  | cons c r =>
    show c :: ((r.map fun c => [c]).map fun q => [] ++ q).flatten = c :: r
    rw [List.map_map]
    exact congrArg (c :: ·) (by
      induction r with
      | nil => rfl
      | cons d r ih => rw [List.map_cons, List.flatten_cons, ih]; rfl)
theorem made_run {Γ : FEnv} (xs : List PV) (Q : PV → Prop) (h : madeF xs Q) : lenIs 2 xs (callP Γ 2 msMade xs Q) := by
  obtain ⟨k, r, rfl, hc, hz, h⟩ := h
  cases k with
  | false =>
    have hc2 : ∀ c ∈ r, (c : Int) ≤ 1114111 := fun c hm => by
      have h2 : c < 1114112 := hc c hm
      omega
    refine compP_map (φ := fun (c : Nat) => PV.int (c : Int)) (ψ := fun c => .txt false [c]) (fun _ _ _ z => z) (fun c hm K z => ⟨⟨Int.natCast_nonneg c, hc2 c hm⟩, z⟩) ?_
    · refine ⟨r.map fun c => [c], (List.map_map (f := fun c => [c]) (g := PV.txt false) (l := r)).symm, ?_, ?_⟩
      · rw [List.map_map, List.length_map]
        have : (r.map (List.length ∘ fun c => [c])).sum = r.length := by
          clear hc hz h hc2
          induction r with
          | nil => rfl
          | cons c r ih => rw [List.map_cons, List.sum_cons, ih, List.length_cons]; show 1 + _ = _; omega
        rw [this]
        show r.length + r.length * 0 ≤ LIM
        rw [Nat.mul_zero]
        exact Nat.le_trans hz (by decide)
      · rw [join_signs]; exact h
  | true => exact ⟨r, rfl, Nat.le_trans hz (by decide), hc, h⟩

/-! _law_names -/
def msNames_2 : MS := (.ret (.var 1))
def msNames1b_2 : MS := (.asg 2 false (.list .nil))
def msNames1b_1 : MS := .seq (.ite (.cmp .eq (.var 2) (.list (.cons (.lit (.int 46)) (.cons (.lit (.int 46)) .nil)))) (.asg 1 false (.cut (.var 1) (.lit .none) (.neg (.lit (.int 1))))) (.ite (.and_ (.cmp .ne (.var 2) (.list .nil)) (.cmp .ne (.var 2) (.list (.cons (.lit (.int 46)) .nil)))) (.asg 1 false (.bin .add (.var 1) (.list (.cons (.var 2) .nil)))) .skip)) msNames1b_2
def msNames1b0t_1 : MS := .cont
def msNames1b0t : MS := .seq (.asg 2 false (.bin .add (.var 2) (.list (.cons (.var 3) .nil)))) msNames1b0t_1
def msNames1b : MS := .seq (.ite (.cmp .ne (.var 3) (.lit (.int 47))) msNames1b0t .skip) msNames1b_1
def msNames_1 : MS := .seq (.for_ [3] (.bin .add (.var 0) (.list (.cons (.lit (.int 47)) .nil))) msNames1b) msNames_2
def msNames : MS := .seq (.multi [1, 2] [0, 0] (.cons (.list .nil) (.cons (.list .nil) .nil))) msNames_1
def namesF : Fn := fun xs Q => ∃ r, xs = [iv r] ∧ r.length ≤ 65536 ∧ Q (nv (wOf r).2)
theorem cut_last {α : Type} (xs : List α) : cut xs none (some (-1)) = xs.dropLast := by
  unfold cut
  rw [Option.elim_none, Option.elim_some, List.drop_zero, List.dropLast_eq_take, Nat.sub_zero]
  unfold clipAt
  congr 1
  rw [if_pos (by decide)]
  omega
theorem wStep_dots (w : Way) : (wStep w [46, 46]).2 = w.2.dropLast := by
  unfold wStep
  rw [if_pos rfl]
  split
  · rename_i h; rw [h]; rfl
  · rfl
theorem wStep_skip (w : Way) {c : List Nat} (h : c = [] ∨ c = [46]) : wStep w c = w := by
  unfold wStep
  rw [if_neg (fun q => by rw [q] at h; exact h.elim (fun q => nomatch q) (fun q => nomatch q)), if_pos h]
theorem wStep_name (w : Way) {c : List Nat} (h1 : c ≠ [46, 46]) (h2 : c ≠ []) (h3 : c ≠ [46]) : wStep w c = (w.1, w.2 ++ [c]) := by
  unfold wStep
  rw [if_neg h1, if_neg (fun q => q.elim h2 h3)]
theorem names_for {Γ : FEnv} {a0 : PV} {Q : Post} : ∀ {r p : List Nat} {w : Way} {s3 : Slt}, 47 ∉ p → r.length + p.length ≤ 65536 → w.2.length + r.length ≤ 65536 →
    (∀ s3, Q .next [some (a0, 0), some (nv (wRun w (splitC 47 (p ++ r))).2, 0), some (iv [], 0), s3]) →
    forP (wp Γ msNames1b) [3] ((r ++ [47]).map fun (c : Nat) => PV.int (c : Int)) [some (a0, 0), some (nv w.2, 0), some (iv p, 0), s3] Q := by
  have turn : ∀ {p : List Nat} {w : Way} {f : List Slt → Prop}, w.2.length ≤ 65536 → f [some (a0, 0), some (nv (wStep w p).2, 0), some (iv [], 0), some (.int 47, 0)] → wp Γ msNames1b [some (a0, 0), some (nv w.2, 0), some (iv p, 0), some (.int 47, 0)] (loopK f Q) := by
    intro p w f hz h
    refine ⟨rfl, p == [46, 46], eq_iv p [46, 46], boolP_of (fun h1 => ?_) (fun h1 => ⟨rfl, p == [], eq_iv p [], boolP_of (fun h2 => ⟨rfl, p == [46], eq_iv p [46], boolP_of (fun h3 => ?_) (fun h3 => ?_)⟩) (fun h2 => ?_)⟩)⟩
    · have e := wStep_dots w
      rw [eq_of_beq h1] at h
      rw [e, ← cut_last] at h
      have e2 : nv (cut w.2 none (some (-1))) = .list (cut (w.2.map iv) none (some (-1))) := by rw [cut_last, cut_last]; unfold nv; rw [List.map_dropLast]
      rw [e2] at h
      exact ⟨rfl, h⟩
    · rw [wStep_name w (beq_f h1) (bne_t h2) (bne_t h3)] at h
      refine ⟨rfl, by rw [List.length_map]; exact Nat.le_trans (Nat.succ_le_succ hz) (by decide), ?_⟩
      have e2 : nv (w.2 ++ [p]) = .list (w.2.map iv ++ [iv p]) := congrArg PV.list List.map_append
      rw [e2] at h
      exact ⟨rfl, h⟩
    · rw [wStep_skip w (.inr (bne_f h3))] at h; exact ⟨rfl, h⟩
    · rw [wStep_skip w (.inl (bne_f h2))] at h; exact ⟨rfl, h⟩
  intro r
  induction r with
  | nil =>
    intro p w s3 hp hz hw h
    refine turn (by have : ([] : List Nat).length = 0 := rfl; omega) ?_
    rw [List.append_nil, splitC_self 47 p hp] at h
    exact h _
  | cons c r ih =>
    intro p w s3 hp hz hw h
    rw [List.length_cons] at hz hw
    by_cases hc : c = 47
    · subst hc
      refine turn (by omega) (ih (p := []) (w := wStep w p) (fun q => nomatch q) (by show _ + 0 ≤ _; omega) ?_ fun s3 => ?_)
      · have : (wStep w p).2.length ≤ w.2.length + 1 := by
          by_cases q : p = [46, 46]
          · rw [q, wStep_dots, List.length_dropLast]; omega
          · by_cases q2 : p = [] ∨ p = [46]
            · rw [wStep_skip w q2]; omega
            · rw [wStep_name w q (fun e => q2 (.inl e)) fun e => q2 (.inr e), List.length_append]; exact Nat.le_refl _
        omega
      · have := h s3
        rw [splitC_app 47 r p hp] at this
        exact this
    · have hne : ¬ (!((c : Int) == 47)) = false := fun q => hc (Int.ofNat_inj.mp (bne_f q))
      have hi := ih (p := p ++ [c]) (w := w) (s3 := some (.int (c : Int), 0)) (fun hm => (List.mem_append.mp hm).elim hp fun hm => hc (List.mem_singleton.mp hm).symm) (by rw [List.length_append]; show r.length + (p.length + 1) ≤ _; omega) (by omega) fun s3 => by
        have := h s3
        rw [List.append_assoc]; exact this
      have e2 : iv (p ++ [c]) = .list ((p.map fun (c : Nat) => PV.int (c : Int)) ++ [.int (c : Int)]) := congrArg PV.list List.map_append
      rw [e2] at hi
      exact boolP_of (fun _ => ⟨rfl, by rw [List.length_map]; exact Nat.le_trans (show p.length + 1 ≤ 65536 by omega) (by decide), hi⟩) fun q => absurd q hne
theorem names_run {Γ : FEnv} (xs : List PV) (Q : PV → Prop) (h : namesF xs Q) : lenIs 1 xs (callP Γ 4 msNames xs Q) := by
  obtain ⟨r, rfl, hz, h⟩ := h
  refine ⟨rfl, rfl, rfl, rfl, by rw [List.length_map]; exact Nat.le_trans (Nat.succ_le_succ hz) (by decide), ?_⟩
  have := names_for (Γ := Γ) (a0 := iv r) (Q := seqK (fun ρ => wp Γ msNames_2 ρ (retK Q)) (retK Q)) (r := r) (p := []) (w := (0, [])) (s3 := none) (fun q => nomatch q) (by exact hz) (by show 0 + _ ≤ _; omega) fun s3 => h
  rw [List.map_append] at this
  exact this
end Mine
end
noncomputable section
namespace Mine
theorem range_nat (n : Nat) : rangeF 0 (n : Int) = (List.range' 0 n).map fun (i : Nat) => PV.int (i : Int) := by
  unfold rangeF
  rw [show ((n : Int) - 0).toNat = n by omega, List.range_eq_range']
  exact List.map_congr_left fun k _ => by rw [Int.zero_add]
theorem range_ok {n : Nat} (h : n ≤ 65536) : -(2 ^ 40 : Int) ≤ 0 ∧ (0 : Int) ≤ 2 ^ 40 ∧ -(2 ^ 40 : Int) ≤ (n : Int) ∧ (n : Int) ≤ LIM ∧ ((n : Int) - 0).toNat ≤ LIM := by
  have L : 65536 ≤ LIM := by decide
  refine ⟨by decide, by decide, by omega, by omega, by omega⟩
/-! _law_laid -/
def msLaid_2 : MS := (.ret (.var 1))
def msLaid1b : MS := (.asg 1 false (.bin .add (.bin .add (.var 1) (.ite (.cmp .gt (.var 2) (.lit (.int 0))) (.list (.cons (.lit (.int 47)) .nil)) (.list .nil))) (.idx (.var 0) (.var 2))))
def msLaid_1 : MS := .seq (.for_ [2] (.range (.lit (.int 0)) (.bi1 .len (.var 0))) msLaid1b) msLaid_2
def msLaid : MS := .seq (.asg 1 false (.list .nil)) msLaid_1
def laidF : Fn := fun xs Q => ∃ ns, xs = [nv ns] ∧ szL ns ≤ 65536 ∧ Q (iv (joinC [47] ns))
theorem laid_snoc (ns : List (List Nat)) (p : List Nat) : joinC [47] (ns ++ [p]) = joinC [47] ns ++ (if 0 < ns.length then [47] else []) ++ p := by
  cases ns with
  | nil => exact List.append_nil p
  | cons q r => rw [joinC_snoc (q :: r) (fun e => nomatch e), if_pos (show 0 < (q :: r).length from Nat.succ_pos _), List.append_assoc]; rfl
theorem nv_len (ns : List (List Nat)) : (ns.map iv).length = ns.length := List.length_map _
theorem laid_for {Γ : FEnv} {Q : Post} {ns : List (List Nat)} (hz : szL ns ≤ 65536) (h : ∀ s2, Q .next [some (nv ns, 0), some (iv (joinC [47] ns), 0), s2]) : ∀ {m i : Nat} {s2 : Slt}, i + m = ns.length →
    forP (wp Γ msLaid1b) [2] ((List.range' i m).map fun (i : Nat) => PV.int (i : Int)) [some (nv ns, 0), some (iv (joinC [47] (ns.take i)), 0), s2] Q := by
  intro m
  induction m with
  | zero =>
    intro i s2 hi
    rw [List.take_of_length_le (show ns.length ≤ i from Nat.le_of_eq hi.symm)]
    exact h s2
  | succ m ih =>
    intro i s2 hi
    have hlt : i < ns.length := by omega
    have ih := ih (i := i + 1) (s2 := some (.int (i : Int), 0)) (by omega)
    have e : joinC [47] (ns.take (i + 1)) = joinC [47] (ns.take i) ++ (if 0 < i then [47] else []) ++ ns[i] := by
      rw [List.take_succ_eq_append_getElem hlt, laid_snoc, List.length_take, Nat.min_eq_left (Nat.le_of_lt hlt)]
    have hl : (joinC [47] (ns.take (i + 1))).length ≤ 65536 := Nat.le_trans (joinC_len1 47 _).1 (Nat.le_trans (szL_sub' (List.take_sublist _ _)) hz)
    have L : 65536 ≤ LST := by decide
    have hx : idxAt (ns.map iv) (i : Int) = some (iv ns[i]) := idx_nat (by rw [List.getElem?_map, List.getElem?_eq_getElem hlt]; rfl)
    rw [e, List.length_append, List.length_append] at hl
    rw [e] at ih
    rw [List.range'_succ]
    have h0 : decide ((0 : Int) < (i : Int)) = decide (0 < i) := decide_eq_decide.mpr Int.natCast_pos
    refine boolP_of (fun q => ?_) fun q => ?_
    · have q : decide ((0 : Int) < (i : Int)) = true := q
      rw [h0] at q
      rw [if_pos (of_decide_eq_true q)] at ih hl
      have e2 : iv (joinC [47] (ns.take i) ++ [47] ++ ns[i]) = .list (((joinC [47] (ns.take i)).map fun (c : Nat) => PV.int (c : Int)) ++ [.int 47] ++ ns[i].map fun (c : Nat) => PV.int (c : Int)) := by unfold iv; rw [List.map_append, List.map_append]; rfl
      rw [e2] at ih
      refine ⟨rfl, by rw [List.length_map]; exact Nat.le_trans (Nat.le_trans (Nat.le_add_right _ _) hl) L, iv ns[i], hx, ?_, ih⟩
      rw [List.length_append, List.length_map, List.length_map]; exact Nat.le_trans hl L
    · have q : decide ((0 : Int) < (i : Int)) = false := q
      rw [h0] at q
      rw [if_neg (of_decide_eq_false q)] at ih hl
      have e2 : iv (joinC [47] (ns.take i) ++ [] ++ ns[i]) = .list (((joinC [47] (ns.take i)).map fun (c : Nat) => PV.int (c : Int)) ++ [] ++ ns[i].map fun (c : Nat) => PV.int (c : Int)) := by unfold iv; rw [List.map_append, List.map_append]; rfl
      rw [e2] at ih
      refine ⟨rfl, by rw [List.length_map]; exact Nat.le_trans (Nat.le_trans (Nat.le_add_right _ _) hl) L, iv ns[i], hx, ?_, ih⟩
      rw [List.length_append, List.length_map, List.length_map]; exact Nat.le_trans hl L
theorem laid_run {Γ : FEnv} (xs : List PV) (Q : PV → Prop) (h : laidF xs Q) : lenIs 1 xs (callP Γ 3 msLaid xs Q) := by
  obtain ⟨ns, rfl, hz, h⟩ := h
  have hn := Nat.le_trans (len_szL ns) hz
  refine ⟨rfl, ?_⟩
  show (-(2 ^ 40 : Int) ≤ 0 ∧ (0 : Int) ≤ 2 ^ 40 ∧ -(2 ^ 40 : Int) ≤ ((ns.map iv).length : Int) ∧ ((ns.map iv).length : Int) ≤ LIM ∧ (((ns.map iv).length : Int) - 0).toNat ≤ LIM) ∧ forP (wp Γ msLaid1b) [2] (rangeF 0 ((ns.map iv).length : Int)) [some (nv ns, 0), some (iv [], 0), none] (seqK (fun ρ => wp Γ msLaid_2 ρ (retK Q)) (retK Q))
  rw [nv_len, range_nat]
  exact ⟨range_ok hn, laid_for (i := 0) hz (fun s2 => h) (Nat.zero_add _)⟩

/-! _law_turn -/
theorem nv_take (k : Nat) (ns : List (List Nat)) : nv (ns.take k) = .list (cut (ns.map iv) none (some (k : Int))) := by
  rw [cut_to, ← List.map_take]; rfl
end Mine
end
noncomputable section
namespace Mine
/-! ## law 6's maths: a tree of places, searched step by step -/
abbrev Pl := List (List Nat)
def ddd : List Nat := [46, 46]
/-- the way from one place to another -/
def wayTo (s p : Pl) : Pl := List.replicate (s.length - (cpre s p).length) ddd ++ p.drop (cpre s p).length
theorem len_le {α : Type} : ∀ {T S : List α}, T.Nodup → (∀ x ∈ T, x ∈ S) → T.length ≤ S.length
  | [], _, _, _ => Nat.zero_le _
  | a :: T, S, hn, h => by
    obtain ⟨h1, h2⟩ := List.nodup_cons.mp hn
    obtain ⟨A, B, rfl⟩ := List.append_of_mem (h a (.head _))
    have := len_le (T := T) (S := A ++ B) h2 fun x hx => (List.mem_append.mp (h x (.tail _ hx))).elim (fun q => List.mem_append_left _ q) fun q => (List.mem_cons.mp q).elim (fun e => absurd (e ▸ hx) h1) fun q => List.mem_append_right _ q
    rw [List.length_append] at this
    rw [List.length_append, List.length_cons, List.length_cons]
    omega
theorem cpre_self (s : Pl) : cpre s s = s := prefix_antisymm (cpre_left _ _) (cpre_of (List.prefix_refl _) (List.prefix_refl _))
theorem cpre_pre {s p : Pl} (h : p <+: s) : cpre s p = p := prefix_antisymm (cpre_right _ _) (cpre_of h (List.prefix_refl _))
theorem drop_last_pre (p : Pl) : p.dropLast <+: p := by rw [List.dropLast_eq_take]; exact List.take_prefix _ _
theorem wayTo_self (s : Pl) : wayTo s s = [] := by
  unfold wayTo
  rw [cpre_self, Nat.sub_self, List.drop_length]; rfl
theorem wayTo_pre {s p : Pl} (h : p <+: s) : wayTo s p = List.replicate (s.length - p.length) ddd := by
  unfold wayTo
  rw [cpre_pre h, List.drop_length, List.append_nil]
theorem wayTo_up {s X : Pl} (h : X <+: s) (h0 : X ≠ []) : wayTo s X.dropLast = wayTo s X ++ [ddd] := by
  have hl := h.length_le
  have h1 : 0 < X.length := List.length_pos_iff.mpr h0
  rw [wayTo_pre ((drop_last_pre X).trans h), wayTo_pre h, List.length_dropLast, show s.length - (X.length - 1) = s.length - X.length + 1 by omega, List.replicate_succ']
theorem wayTo_down {s X : Pl} {n : List Nat} (h : ¬ X ++ [n] <+: s) : wayTo s (X ++ [n]) = wayTo s X ++ [n] := by
  have e : cpre s (X ++ [n]) = cpre s X := by
    refine prefix_antisymm (cpre_of (cpre_left _ _) ?_) (cpre_of (cpre_left _ _) ((cpre_right _ _).trans (List.prefix_append _ _)))
    have hr := cpre_right s (X ++ [n])
    rcases Nat.lt_or_ge (cpre s (X ++ [n])).length (X ++ [n]).length with q | q
    · refine List.prefix_of_prefix_length_le hr (List.prefix_append X [n]) ?_
      rw [List.length_append] at q
      exact Nat.le_of_lt_succ q
    · have := hr.eq_of_length (Nat.le_antisymm hr.length_le q)
      exact absurd (this ▸ cpre_left s (X ++ [n])) h
  unfold wayTo
  rw [e, List.drop_append_of_le_length (cpre_right s X).length_le, List.append_assoc]
/-- what is known of the places found -/
structure Bf (s : Pl) (T S : List Pl) : Prop where
  nd : S.Nodup
  sub : ∀ x ∈ S, x ∈ T
  start : s ∈ S
  up : ∀ X ∈ S, X ≠ s → X <+: s → s.take (X.length + 1) ∈ S
  back : ∀ X ∈ S, X ≠ s → ¬ X <+: s → X.dropLast ∈ S
section
variable {s X p : Pl} {T S : List Pl}
theorem nodup_snoc (h : S.Nodup) (hp : p ∉ S) : (S ++ [p]).Nodup := List.nodup_append.mpr ⟨h, List.nodup_cons.mpr ⟨List.not_mem_nil, .nil⟩, fun a ha b hb e => hp (List.mem_singleton.mp hb ▸ e ▸ ha)⟩
theorem Bf.first (hs : s ∈ T) : Bf s T [s] where
  nd := List.nodup_cons.mpr ⟨List.not_mem_nil, .nil⟩
  sub := fun x hx => List.mem_singleton.mp hx ▸ hs
  start := .head _
  up := fun X hX h => absurd (List.mem_singleton.mp hX) h
  back := fun X hX h => absurd (List.mem_singleton.mp hX) h
theorem Bf.add (B : Bf s T S) (hp : p ∈ T) (hn : p ∉ S) (h1 : p <+: s → s.take (p.length + 1) ∈ S) (h2 : ¬ p <+: s → p.dropLast ∈ S) : Bf s T (S ++ [p]) where
  nd := nodup_snoc B.nd hn
  sub := fun x hx => (List.mem_append.mp hx).elim (B.sub x) fun hx => List.mem_singleton.mp hx ▸ hp
  start := List.mem_append_left _ B.start
  up := fun X hX h q => (List.mem_append.mp hX).elim (fun hX => List.mem_append_left _ (B.up X hX h q)) fun hX => by
    rw [List.mem_singleton.mp hX] at q ⊢
    exact List.mem_append_left _ (h1 q)
  back := fun X hX h q => (List.mem_append.mp hX).elim (fun hX => List.mem_append_left _ (B.back X hX h q)) fun hX => by
    rw [List.mem_singleton.mp hX] at q ⊢
    exact List.mem_append_left _ (h2 q)
theorem Bf.goUp (B : Bf s T S) (hX : X ∈ S) (hp : p ∈ T) (hn : p ∉ S) (e : p = X.dropLast) : Bf s T (S ++ [p]) ∧ wayTo s p = wayTo s X ++ [ddd] := by
  have h0 : X ≠ [] := fun q => hn (by rw [e, q]; rw [q] at hX; exact hX)
  have hpre : X <+: s := by
    apply Classical.byContradiction
    intro q
    exact hn (e ▸ B.back X hX (fun h => q (h ▸ List.prefix_refl _)) q)
  have h1 : 0 < X.length := List.length_pos_iff.mpr h0
  have hps : p <+: s := e ▸ (drop_last_pre X).trans hpre
  refine ⟨B.add hp hn (fun _ => ?_) (fun q => absurd hps q), e ▸ wayTo_up hpre h0⟩
  rw [e, List.length_dropLast, Nat.sub_add_cancel h1, ← List.prefix_iff_eq_take.mp hpre]
  exact hX
theorem Bf.goDown (B : Bf s T S) (hX : X ∈ S) (hp : p ∈ T) (hn : p ∉ S) (e : p.dropLast = X) : ∃ n, p = X ++ [n] ∧ Bf s T (S ++ [p]) ∧ wayTo s p = wayTo s X ++ [n] := by
  have h0 : p ≠ [] := fun q => hn (by rw [q] at e ⊢; have e : [] = X := e; rw [e]; exact hX)
  have hpe : p = X ++ [p.getLast h0] := by rw [← e]; exact (List.dropLast_concat_getLast h0).symm
  have hps : ¬ p <+: s := fun q => by
    have hXs : X <+: s := (e ▸ drop_last_pre p).trans q
    have hl : p.length = X.length + 1 := by rw [hpe, List.length_append]; rfl
    have hne : X ≠ s := fun h => by have := q.length_le; rw [hl, h] at this; omega
    have := B.up X hX hne hXs
    rw [← hl, ← List.prefix_iff_eq_take.mp q] at this
    exact hn this
  refine ⟨p.getLast h0, hpe, B.add hp hn (fun q => absurd q hps) (fun _ => e.symm ▸ hX), ?_⟩
  rw [hpe] at hps
  exact (congrArg (wayTo s) hpe).trans (wayTo_down hps)
def Adj (p X : Pl) : Prop := p = X.dropLast ∨ p.dropLast = X
/-- places that hold all their neighbours are all -/
theorem closed_all (hT : ∀ x ∈ T, x.dropLast ∈ T) (hs : s ∈ S) (hsub : ∀ x ∈ S, x ∈ T) (hc : ∀ X ∈ S, ∀ p ∈ T, Adj p X → p ∈ S) : ∀ p ∈ T, p ∈ S := by
  have nil : ∀ (n : Nat) (X : Pl), X.length ≤ n → X ∈ S → [] ∈ S := by
    intro n
    induction n with
    | zero => exact fun X hl hX => List.length_eq_zero_iff.mp (Nat.le_zero.mp hl) ▸ hX
    | succ n ih => exact fun X hl hX => ih X.dropLast (by rw [List.length_dropLast]; omega) (hc X hX _ (hT X (hsub X hX)) (.inl rfl))
  have h0 := nil _ s (Nat.le_refl _) hs
  have all : ∀ (n : Nat) (p : Pl), p.length ≤ n → p ∈ T → p ∈ S := by
    intro n
    induction n with
    | zero => exact fun p hl _ => List.length_eq_zero_iff.mp (Nat.le_zero.mp hl) ▸ h0
    | succ n ih => exact fun p hl hp => hc p.dropLast (ih _ (by rw [List.length_dropLast]; omega) (hT p hp)) p hp (.inr rfl)
  exact fun p hp => all _ p (Nat.le_refl _) hp
/-- the first t places hold all their neighbours -/
def Seen (T S : List Pl) (t : Nat) : Prop := ∀ X ∈ S.take t, ∀ p ∈ T, Adj p X → p ∈ S
theorem Bf.all (B : Bf s T S) (hT : ∀ x ∈ T, x.dropLast ∈ T) {t : Nat} (h : Seen T S t) (hl : S.length ≤ t) : ∀ p ∈ T, p ∈ S := by
  unfold Seen at h
  rw [List.take_of_length_le hl] at h
  exact closed_all hT B.start B.sub h
theorem Bf.more (B : Bf s T S) (hT : ∀ x ∈ T, x.dropLast ∈ T) (hn : T.Nodup) {t : Nat} (h : Seen T S t) (ht : t < T.length) : t < S.length := by
  rcases Nat.lt_or_ge t S.length with q | q
  · exact q
  · have := len_le hn (B.all hT h q)
    omega
theorem Bf.done (B : Bf s T S) (hT : ∀ x ∈ T, x.dropLast ∈ T) (h : Seen T S T.length) : ∀ p ∈ T, p ∈ S := B.all hT h (len_le B.nd B.sub)
theorem count_way (h : ∀ n ∈ p, n ≠ ddd) : (wayTo s p).countP (· == ddd) = s.length - (cpre s p).length := by
  unfold wayTo
  rw [List.countP_append, List.countP_replicate, if_pos (by decide), List.countP_eq_zero.mpr fun n hn => by simp [h n (List.mem_of_mem_drop hn)], Nat.add_zero]
theorem top_way : s.take (s.length - (s.length - (cpre s p).length)) = cpre s p := by
  have := (cpre_left s p).length_le
  rw [show s.length - (s.length - (cpre s p).length) = (cpre s p).length by omega]
  exact (List.prefix_iff_eq_take.mp (cpre_left s p)).symm
/-- the topmost of the ways -/
theorem least_pre {g0 : Pl} {gs : List Pl} {m : Nat} (hs : s ∈ g0 :: gs) (hm : ∃ q ∈ g0 :: gs, m = (cpre s q).length) (hle : ∀ q ∈ g0 :: gs, m ≤ (cpre s q).length) : s.take m = cpreA g0 gs := by
  refine prefix_antisymm (cpreA_of fun x hx => ?_) ?_
  · refine (List.prefix_of_prefix_length_le (List.take_prefix _ _) (cpre_left s x) ?_).trans (cpre_right s x)
    exact Nat.le_trans (List.length_take_le _ _) (hle x hx)
  · obtain ⟨q, hq, e⟩ := hm
    refine List.prefix_of_prefix_length_le (cpreA_all hs) (List.take_prefix _ _) ?_
    have h1 := (cpre_of (cpreA_all hs) (cpreA_all hq) : cpreA g0 gs <+: cpre s q).length_le
    have h2 := (cpreA_all hs : cpreA g0 gs <+: s).length_le
    rw [List.length_take]
    omega
end
end Mine
end
noncomputable section
namespace Mine
/-! ## law 6: _law_ways -/
def msWays_2 : MS := (.ret (.tup (.cons (.var 2) (.cons (.var 3) .nil))))
def msWays1b0b1t_1 : MS := (.append 3 (.bin .add (.idx (.var 3) (.var 4)) (.list (.cons (.list (.cons (.lit (.int 46)) (.cons (.lit (.int 46)) .nil))) .nil))))
def msWays1b0b1t : MS := .seq (.append 2 (.var 5)) msWays1b0b1t_1
def msWays1b0b1et_1 : MS := (.append 3 (.bin .add (.idx (.var 3) (.var 4)) (.list (.cons (.idx (.var 5) (.neg (.lit (.int 1)))) .nil))))
def msWays1b0b1et : MS := .seq (.append 2 (.var 5)) msWays1b0b1et_1
def msWays1b0b_1 : MS := (.ite (.cmp .eq (.var 5) (.cut (.idx (.var 2) (.var 4)) (.lit .none) (.neg (.lit (.int 1))))) msWays1b0b1t (.ite (.cmp .eq (.cut (.var 5) (.lit .none) (.neg (.lit (.int 1)))) (.idx (.var 2) (.var 4))) msWays1b0b1et .skip))
def msWays1b0b : MS := .seq (.ite (.cmp .isin (.var 5) (.var 2)) .cont .skip) msWays1b0b_1
def msWays1b : MS := (.for_ [5] (.var 0) msWays1b0b)
def msWays_1 : MS := .seq (.for_ [4] (.range (.lit (.int 0)) (.bi1 .len (.var 0))) msWays1b) msWays_2
def msWays : MS := .seq (.multi [2, 3] [1, 1] (.cons (.list (.cons (.var 1) .nil)) (.cons (.list (.cons (.list .nil) .nil)) .nil))) msWays_1
theorem like_nv (p y : Pl) : likeB (nv p) (nv y) = (y == p) := by
  unfold likeB
  rw [show pvEq 4 (nv y) (nv p) = some (y == p) from eq_nv y p]
  cases y == p <;> rfl
theorem allEq_nv (p : Pl) (S : List Pl) : allEq (nv p) (S.map nv) := fun y hy => by
  obtain ⟨q, _, rfl⟩ := List.mem_map.mp hy
  exact ⟨q == p, eq_nv q p⟩
theorem any_nv (p : Pl) (S : List Pl) : (S.map nv).any (likeB (nv p)) = decide (p ∈ S) := by
  induction S with
  | nil => rfl
  | cons a S ih =>
    rw [List.map_cons, List.any_cons, ih, like_nv]
    refine Bool.eq_iff_iff.mpr ?_
    rw [Bool.or_eq_true, beq_iff_eq, decide_eq_true_iff, decide_eq_true_iff, List.mem_cons]
    exact ⟨fun h => h.imp Eq.symm id, fun h => h.imp Eq.symm id⟩
theorem nv_last (X : Pl) : PV.list (cut (X.map iv) none (some (-1))) = nv X.dropLast := by
  rw [cut_last]; unfold nv; rw [List.map_dropLast]
theorem eq_last (p X : Pl) : pvEq 4 (nv p) (.list (cut (X.map iv) none (some (-1)))) = some (p == X.dropLast) := by rw [nv_last]; exact eq_nv _ _
theorem last_eq (p X : Pl) : pvEq 4 (.list (cut (p.map iv) none (some (-1)))) (nv X) = some (p.dropLast == X) := by rw [nv_last]; exact eq_nv _ _
theorem idx_last {α : Type} (xs : List α) (x : α) : idxAt (xs ++ [x]) (-1) = some x := idx_snoc xs x
def gv (S : List Pl) : PV := .list (S.map nv)
def wv (s : Pl) (S : List Pl) : PV := .list (S.map fun p => nv (wayTo s p))
def rW (T : List Pl) (s : Pl) (S : List Pl) (t pl : Slt) : List Slt := [some (gv T, 0), some (nv s, 0), some (gv S, 1), some (wv s S, 1), t, pl]
structure TreeOk (T : List Pl) : Prop where
  nd : T.Nodup
  pre : ∀ x ∈ T, x.dropLast ∈ T
  few : T.length ≤ 1000
  short : ∀ x ∈ T, x.length ≤ 1000
theorem wayTo_len (s p : Pl) : (wayTo s p).length ≤ s.length + p.length := by
  unfold wayTo
  rw [List.length_append, List.length_replicate, List.length_drop]
  omega
section
variable {Γ : FEnv} {T : List Pl} {s X : Pl} {t : Nat} {Q : Post} {f : List Slt → Prop}
theorem gv_snoc (S : List Pl) (p : Pl) : gv (S ++ [p]) = .list (S.map nv ++ [nv p]) := congrArg PV.list List.map_append
theorem wv_snoc (S : List Pl) (p : Pl) {n : List Nat} (e : wayTo s p = wayTo s X ++ [n]) : wv s (S ++ [p]) = .list ((S.map fun p => nv (wayTo s p)) ++ [.list ((wayTo s X).map iv ++ [iv n])]) := by
  unfold wv
  rw [List.map_append, List.map_singleton, e]
  unfold nv
  rw [List.map_append]; rfl
/-- one place, looked at from another one -/
theorem ways_turn {S : List Pl} {p : Pl} (O : TreeOk T) (B : Bf s T S) (hX : S[t]? = some X) (hp : p ∈ T)
    (hf : ∀ S', Bf s T S' → S <+: S' → (Adj p X → p ∈ S') → f (rW T s S' (some (.int (t : Int), 0)) (some (nv p, 0)))) :
    wp Γ msWays1b0b (rW T s S (some (.int (t : Int), 0)) (some (nv p, 0))) (loopK f Q) := by
  have hXm : X ∈ S := List.mem_of_getElem? hX
  have hl : S.length < LST := Nat.lt_of_le_of_lt (Nat.le_trans (len_le B.nd B.sub) O.few) (by decide)
  have i2 : idxAt (S.map nv) (t : Int) = some (nv X) := idx_nat (by rw [List.getElem?_map, hX]; rfl)
  have i3 : idxAt (S.map fun p => nv (wayTo s p)) (t : Int) = some (nv (wayTo s X)) := idx_nat (by rw [List.getElem?_map, hX]; rfl)
  have hw : (wayTo s X).length + 1 ≤ LST := by
    have h1 := wayTo_len s X
    have h2 := O.short s (B.sub s B.start)
    have h3 := O.short X (B.sub X hXm)
    have h4 : 3000 ≤ LST := by decide
    omega
  have app : ∀ {n : List Nat}, p ∉ S → Bf s T (S ++ [p]) → wayTo s p = wayTo s X ++ [n] → f [some (gv T, 0), some (nv s, 0), some (.list (S.map nv ++ [nv p]), 1), some (.list ((S.map fun p => nv (wayTo s p)) ++ [.list ((wayTo s X).map iv ++ [iv n])]), 1), some (.int (t : Int), 0), some (nv p, 0)] := fun {n} hn B' e => by
    have := hf (S ++ [p]) B' (List.prefix_append _ _) fun _ => List.mem_append_right _ (.head _)
    unfold rW at this
    rw [gv_snoc, wv_snoc S p e] at this
    exact this
  refine ⟨allEq_nv p S, ?_⟩
  rw [any_nv]
  refine boolP_of (fun h => hf S B (List.prefix_refl _) fun _ => of_decide_eq_true h) fun h => ?_
  have hn : p ∉ S := of_decide_eq_false h
  refine ⟨nv X, i2, p == X.dropLast, eq_last p X, boolP_of (fun h => ?_) fun h => ?_⟩
  · obtain ⟨B', e⟩ := B.goUp hXm hp hn (eq_of_beq h)
    refine ⟨by rw [List.length_map]; exact hl, nv (wayTo s X), i3, rfl, rfl, by rw [List.length_map]; exact hw, by rw [List.length_map]; exact hl, app hn B' e⟩
  · have hu : p ≠ X.dropLast := beq_f h
    refine ⟨nv X, i2, p.dropLast == X, last_eq p X, boolP_of (fun h => ?_) fun h => ?_⟩
    · obtain ⟨n, e0, B', e⟩ := B.goDown hXm hp hn (eq_of_beq h)
      have il : idxAt (p.map iv) (-1) = some (iv n) := by rw [e0, List.map_append]; exact idx_last _ _
      refine ⟨by rw [List.length_map]; exact hl, nv (wayTo s X), i3, iv n, il, rfl, by rw [List.length_map]; exact hw, by rw [List.length_map]; exact hl, app hn B' e⟩
    · exact hf S B (List.prefix_refl _) fun a => a.elim (fun a => absurd a hu) fun a => absurd a (beq_f h)
theorem get_pre {α : Type} {S S' : List α} {x : α} {i : Nat} (h : S[i]? = some x) (p : S <+: S') : S'[i]? = some x := by
  obtain ⟨B, rfl⟩ := p
  rw [List.getElem?_append_left (List.getElem?_eq_some_iff.mp h).1]; exact h
/-- one turn: all places of the tree -/
theorem ways_inner (O : TreeOk T) : ∀ {Ts : List Pl} {S : List Pl} {pl : Slt}, (∀ p ∈ Ts, p ∈ T) → Bf s T S → S[t]? = some X →
    (∀ S' pl, Bf s T S' → S <+: S' → (∀ p ∈ Ts, Adj p X → p ∈ S') → Q .next (rW T s S' (some (.int (t : Int), 0)) pl)) →
    forP (wp Γ msWays1b0b) [5] (Ts.map nv) (rW T s S (some (.int (t : Int), 0)) pl) Q
  | [], S, pl, _, B, _, h => h S pl B (List.prefix_refl _) fun p hp => nomatch hp
  | p :: Ts, S, pl, hT, B, hX, h => ways_turn (f := fun ρ => forP (wp Γ msWays1b0b) [5] (Ts.map nv) ρ Q) O B hX (hT p (.head _)) fun S1 B1 P1 h1 => ways_inner O (fun q hq => hT q (.tail _ hq)) B1 (get_pre hX P1) fun S2 pl B2 P2 h2 =>
      h S2 pl B2 (P1.trans P2) fun q hq a => (List.mem_cons.mp hq).elim (fun e => by subst e; exact P2.subset (h1 a)) fun hq => h2 q hq a
theorem Seen.next {S S' : List Pl} (h : Seen T S t) (P : S <+: S') (hX : S[t]? = some X) (h2 : ∀ p ∈ T, Adj p X → p ∈ S') : Seen T S' (t + 1) := by
  intro Y hY p hp a
  have ht := (List.getElem?_eq_some_iff.mp hX).1
  obtain ⟨B, rfl⟩ := P
  rw [List.take_append_of_le_length ht, List.take_succ_eq_append_getElem ht] at hY
  rcases List.mem_append.mp hY with hY | hY
  · exact List.mem_append_left _ (h Y hY p hp a)
  · rw [List.mem_singleton.mp hY, (List.getElem?_eq_some_iff.mp hX).2] at a
    exact h2 p hp a
/-- all turns -/
theorem ways_outer (O : TreeOk T) (hq : ∀ S t pl, Bf s T S → (∀ p ∈ T, p ∈ S) → Q .next (rW T s S t pl)) : ∀ {m t : Nat} {S : List Pl} {tu pl : Slt}, t + m = T.length → Bf s T S → Seen T S t →
    forP (wp Γ msWays1b) [4] ((List.range' t m).map fun (i : Nat) => PV.int (i : Int)) (rW T s S tu pl) Q := by
  intro m
  induction m with
  | zero => exact fun {t S tu pl} ht B h => hq S tu pl B (B.done O.pre ((Nat.add_zero t).symm.trans ht ▸ h))
  | succ m ih =>
    intro t S tu pl ht B h
    have hl := B.more O.pre O.nd h (by omega)
    rw [List.range'_succ]
    exact ways_inner (t := t) (X := S[t]) O (fun p hp => hp) B (List.getElem?_eq_getElem hl) fun S' pl B' P h2 => ih (by omega) B' (h.next P (List.getElem?_eq_getElem hl) h2)
end
def waysF : Fn := fun xs Q => ∃ T s, xs = [gv T, nv s] ∧ TreeOk T ∧ s ∈ T ∧ ∀ S, Bf s T S → (∀ p ∈ T, p ∈ S) → Q (.tup [gv S, wv s S])
theorem ways_run {Γ : FEnv} (xs : List PV) (Q : PV → Prop) (h : waysF xs Q) : lenIs 2 xs (callP Γ 6 msWays xs Q) := by
  obtain ⟨T, s, rfl, O, hs, h⟩ := h
  have hl : T.length ≤ 65536 := Nat.le_trans O.few (by decide)
  have key := ways_outer (Γ := Γ) (s := s) (Q := seqK (fun ρ => wp Γ msWays_2 ρ (retK Q)) (retK Q)) O (fun S t pl B a => ⟨rfl, h S B a⟩) (m := T.length) (t := 0) (tu := none) (pl := none) (Nat.zero_add _) (Bf.first hs) fun X hX => nomatch hX
  have e : wv s [s] = .list [.list []] := by unfold wv; rw [List.map_singleton, wayTo_self]; rfl
  unfold rW at key
  rw [e] at key
  refine ⟨rfl, rfl, rfl, rfl, ?_⟩
  show (-(2 ^ 40 : Int) ≤ 0 ∧ (0 : Int) ≤ 2 ^ 40 ∧ -(2 ^ 40 : Int) ≤ (((T.map nv).length : Nat) : Int) ∧ (((T.map nv).length : Nat) : Int) ≤ LIM ∧ ((((T.map nv).length : Nat) : Int) - 0).toNat ≤ LIM) ∧
    forP (wp Γ msWays1b) [4] (rangeF 0 (((T.map nv).length : Nat) : Int)) [some (gv T, 0), some (nv s, 0), some (.list [nv s], 1), some (.list [.list []], 1), none, none] (seqK (fun ρ => wp Γ msWays_2 ρ (retK Q)) (retK Q))
  rw [List.length_map, range_nat]
  exact ⟨range_ok hl, key⟩
end Mine
end
noncomputable section
namespace Mine
/-! ## law 5: _law_rows -/
def CodeL (r : List Nat) : Prop := ∀ c ∈ r, c < 1114112
/-- the rows so far, by the number of figures that are used up -/
structure RowsI (R : List (List Nat)) (z : Nat) : Prop where
  ne : R ≠ []
  few : R.length ≤ z + 1
  short : ∀ r ∈ R, r.length ≤ z
  codes : ∀ r ∈ R, CodeL r
def rowsF : Fn := fun xs Q => ∃ ns : List Int, xs = [.list (ns.map .int)] ∧ ∀ R, RowsI R 30 → Q (nv R)
theorem RowsI.more {R : List (List Nat)} {z z' : Nat} (h : RowsI R z) (hz : z ≤ z') : RowsI R z' := ⟨h.ne, Nat.le_trans h.few (Nat.succ_le_succ hz), fun r hr => Nat.le_trans (h.short r hr) hz, h.codes⟩
theorem RowsI.push {R : List (List Nat)} {z : Nat} {r : List Nat} (h : RowsI R z) (h1 : r.length ≤ z + 1) (h2 : CodeL r) : RowsI (R ++ [r]) (z + 1) where
  ne := fun e => nomatch (List.append_eq_nil_iff.mp e).2
  few := by rw [List.length_append]; exact Nat.succ_le_succ h.few
  short := fun q hq => (List.mem_append.mp hq).elim (fun hq => Nat.le_succ_of_le (h.short q hq)) fun hq => List.mem_singleton.mp hq ▸ h1
  codes := fun q hq => (List.mem_append.mp hq).elim (h.codes q) fun hq => List.mem_singleton.mp hq ▸ h2
theorem RowsI.last {R : List (List Nat)} {z : Nat} {r : List Nat} {c : Nat} (h : RowsI (R ++ [r]) z) (hc : c < 1114112) : RowsI (R ++ [r ++ [c]]) (z + 1) where
  ne := fun e => nomatch (List.append_eq_nil_iff.mp e).2
  few := by have := h.few; rw [List.length_append] at this ⊢; exact Nat.le_succ_of_le this
  short := fun q hq => (List.mem_append.mp hq).elim (fun hq => Nat.le_succ_of_le (h.short q (List.mem_append_left _ hq))) fun hq => by
    rw [List.mem_singleton.mp hq, List.length_append]
    exact Nat.succ_le_succ (h.short r (List.mem_append_right _ (.head _)))
  codes := fun q hq => (List.mem_append.mp hq).elim (fun hq => h.codes q (List.mem_append_left _ hq)) fun hq => by
    rw [List.mem_singleton.mp hq]
    exact fun d hd => (List.mem_append.mp hd).elim (h.codes r (List.mem_append_right _ (.head _)) d) fun hd => List.mem_singleton.mp hd ▸ hc
theorem idx_in {α : Type} {xs : List α} {i : Int} (h0 : 0 ≤ i) (h1 : i < xs.length) : ∃ x, idxAt xs i = some x ∧ x ∈ xs := by
  have hl : i.toNat < xs.length := by omega
  refine ⟨xs[i.toNat], ?_, List.getElem_mem hl⟩
  unfold idxAt
  rw [if_pos h0]; exact List.getElem?_eq_getElem hl
theorem iv_snoc (r : List Nat) (c : Nat) : PV.list ((r.map fun (c : Nat) => PV.int (c : Int)) ++ [.int (c : Int)]) = iv (r ++ [c]) := (congrArg PV.list (List.map_append (f := fun (c : Nat) => PV.int (c : Int)) (l₁ := r) (l₂ := [c]))).symm
theorem place_last (R : List PV) (r x : PV) : placeOfI (R ++ [r]) (-1) = R.length ∧ (R ++ [r]).set R.length x = R ++ [x] := by
  constructor
  · unfold placeOfI
    rw [if_neg (by decide), List.length_append]
    show ((-1 : Int) + ((R.length + 1 : Nat) : Int)).toNat = R.length
    omega
  · rw [List.set_append_right _ _ (Nat.le_refl _), Nat.sub_self]; rfl
section
variable {Γ : FEnv} {a0 : PV} {f : List Slt → Prop} {Q : Post} {z : Nat} {x kd : Int} {c : Int}
def rR (a0 : PV) (R : List (List Nat)) (z : Nat) (x kd c : Slt) : List Slt := [some (a0, 0), some (nv R, 2), some (.int (z : Int), 0), x, kd, c]
/-- a sign for the last row -/
theorem rows_app {R : List (List Nat)} {r : List Nat} {d : Nat} {i : ME} {e : ME} {ρ : List Slt} {K : Post} (hl : r.length < LST) (h1 : getS (freeze (esc true e) ρ) 1 = some (nv (R ++ [r]), 2))
    (hi : ∀ K : PV → Nat → Prop, K (.int (-1)) 0 → (evA Γ i (freeze (esc true e) ρ)).val K) (he : ∀ K : PV → Nat → Prop, K (.int (d : Int)) 0 → (evA Γ e (freeze (esc true e) ρ)).val K)
    (h : K .next (setS (freeze (esc true e) ρ) 1 (some (nv (R ++ [r ++ [d]]), 2)))) : wp Γ (.append2 1 i e) ρ K := by
  show rowsP (getS (freeze (esc true e) ρ) 1) _
  rw [h1]
  have e0 : (R ++ [r]).map iv = R.map iv ++ [iv r] := List.map_append
  have e1 := place_last (R.map iv) (iv r) (iv (r ++ [d]))
  refine hi _ ⟨r.map fun (c : Nat) => PV.int (c : Int), by rw [e0]; exact idx_snoc _ _, he _ ⟨by rw [List.length_map]; exact hl, ?_⟩⟩
  rw [iv_snoc, e0, e1.1, e1.2]
  have e2 : nv (R ++ [r ++ [d]]) = .list (R.map iv ++ [iv (r ++ [d])]) := congrArg PV.list List.map_append
  rw [e2] at h
  exact h
theorem mod_range (n : Int) {m : Int} (hm : 0 < m) : 0 ≤ n.fmod m ∧ n.fmod m < m := ⟨Int.fmod_nonneg_of_pos n hm, Int.fmod_lt_of_pos n hm⟩
end
end Mine
end
noncomputable section
namespace Mine
/-! ## law 5: _law_way -/
def CodesN (k : Bool) (ns : List (List Nat)) : Prop := ∀ p ∈ ns, ∀ c ∈ p, c < lim k
theorem join_codes {k : Bool} {ns : List (List Nat)} (h : CodesN k ns) : ∀ c ∈ joinC [47] ns, c < lim k := by
  have h47 : 47 < lim k := by cases k <;> decide
  cases ns with
  | nil => exact fun _ h => nomatch h
  | cons p r =>
    intro c hc
    rcases List.mem_append.mp (show c ∈ p ++ _ from hc) with hc | hc
    · exact h p (.head _) c hc
    · obtain ⟨l, hl, hc⟩ := List.mem_flatten.mp hc
      obtain ⟨q, hq, rfl⟩ := List.mem_map.mp hl
      rcases List.mem_append.mp hc with hc | hc
      · rw [List.mem_singleton.mp hc]; exact h47
      · exact h q (.tail _ hq) c hc
theorem dd_codes (k : Bool) : ∀ c ∈ dd, c < lim k := fun c hc => by
  have : c = 46 := List.eq_of_mem_replicate (n := 2) hc
  rw [this]; cases k <;> decide
end Mine
end
noncomputable section
namespace Mine
/-! ## law 5's maths: a tour's ways, one behind the other -/
theorem pcs_names {g : List (List Nat)} (h : GoodN g) : pcs (47 :: joinC [47] g) = g := by
  unfold pcs
  rw [splitC_eq]
  have hk : ∀ p ∈ g, keepB p = true := fun p hp => by
    obtain ⟨⟨_, h1, h2⟩, _⟩ := h p hp
    unfold keepB
    rw [beq_false_of_ne h2]
    cases p with
    | nil => exact absurd rfl h1
    | cons _ _ => rfl
  by_cases e : g = []
  · subst e; rfl
  · rw [split_join' e fun p hp => (h p hp).2]
    exact List.filter_eq_self.mpr hk
theorem wOf_plain {g : List (List Nat)} (h : GoodN g) : (wOf (47 :: joinC [47] g)).2 = g := by
  show (wRun (0, []) (splitC 47 (47 :: joinC [47] g))).2 = g
  rw [wRun_slash]
  by_cases e : g = []
  · subst e; rfl
  · rw [split_join' e fun p hp => (h p hp).2, wRun_names fun p hp => (h p hp).1]; rfl
theorem com_names {g0 : List (List Nat)} {gs : List (List (List Nat))} (h0 : GoodN g0) (h : ∀ g ∈ gs, GoodN g) : comP true (47 :: joinC [47] g0) (gs.map fun g => 47 :: joinC [47] g) = 47 :: joinC [47] (cpreA g0 gs) := by
  unfold comP
  have e : gs.map (pcs ∘ fun g => 47 :: joinC [47] g) = gs := (List.map_congr_left (g := fun g => g) fun g hg => pcs_names (h g hg)).trans (List.map_id' gs)
  rw [pcs_names h0, List.map_map, e]
  rfl
end Mine
end
noncomputable section
namespace Mine
/-! ## law 5: the tour -/
abbrev Pr := List (List Nat) × List Nat
structure PairOk (k : Bool) (t : Pr) : Prop where
  names : (wOf t.2).2 = t.1
  lead : 0 < leadN t.2
  len : t.2.length ≤ 64
  codes : CodesN k t.1
  sz : szL t.1 ≤ 40
theorem PairOk.good {k : Bool} {t : Pr} (h : PairOk k t) : GoodN t.1 := h.names ▸ good_names t.2
def gV (T : List Pr) : PV := .list (T.map fun t => nv t.1)
def pV (k : Bool) (T : List Pr) : PV := .list (T.map fun t => PV.txt k (47 :: joinC [47] t.1))
def sV (k : Bool) (T : List Pr) : PV := .list (T.map fun t => PV.txt k t.2)
theorem idx_map {α : Type} {T : List α} {φ : α → PV} {i : Nat} {t : α} (h : T[i]? = some t) : idxAt (T.map φ) (i : Int) = some (φ t) := idx_nat (by rw [List.getElem?_map, h]; rfl)
theorem ne_same {α : Type} [BEq α] [LawfulBEq α] {a b : α} {P1 P2 : Prop} (e : a = b) (h : P2) : boolP (!(a == b)) P1 P2 := by
  rw [beq_iff_eq.mpr e]; exact h
section
variable {k : Bool} {a0 : PV} {t0 : Pr} {Tr : List Pr} {f : List Slt → Prop} {Q : Post}
theorem plain_codes {k : Bool} {g : List (List Nat)} (h : CodesN k g) : ∀ c ∈ 47 :: joinC [47] g, c < lim k := fun c hc => (List.mem_cons.mp hc).elim (fun e => by rw [e]; cases k <;> decide) (join_codes h c)
end
end Mine
end
noncomputable section
namespace Mine
/-! ## law 5: the whole tour, the law -/
def pairOf (r : List Nat) : Pr := ((wOf r).2, 47 :: r)
def homeOf (r : List Nat) : Pr := ((wOf r).2, 47 :: joinC [47] (wOf r).2)
theorem names_codes {k : Bool} {r : List Nat} (h : ∀ c ∈ r, c < lim k) : CodesN k (wOf r).2 := by
  refine wRun_all (P := fun p => ∀ c ∈ p, c < lim k) (.nil _) fun p hp _ _ _ => ?_
  intro c hc
  have e := joinC_split 47 r
  refine h c ?_
  rw [← e]
  clear e h
  revert hp
  generalize splitC 47 r = ps
  intro hp
  cases ps with
  | nil => exact nomatch hp
  | cons q qs =>
    refine List.mem_append.mpr ?_
    rcases List.mem_cons.mp hp with rfl | hp
    · exact .inl hc
    · exact .inr (List.mem_flatten.mpr ⟨_, List.mem_map.mpr ⟨p, hp, rfl⟩, List.mem_append_right _ hc⟩)
theorem pair_ok {k : Bool} {r : List Nat} (hl : r.length ≤ 30) (hc : ∀ c ∈ r, c < lim k) : PairOk k (pairOf r) ∧ PairOk k (homeOf r) := by
  have hz := names_sz r
  refine ⟨⟨congrArg Prod.snd (wRun_slash (0, []) r), Nat.succ_pos _, ?_, names_codes hc, Nat.le_trans hz (by omega)⟩, ⟨wOf_plain (good_names r), Nat.succ_pos _, ?_, names_codes hc, Nat.le_trans hz (by omega)⟩⟩
  · show r.length + 1 ≤ 64; omega
  · have := (joinC_len1 47 (wOf r).2).1
    show (joinC [47] (wOf r).2).length + 1 ≤ 64; omega
section
variable {k : Bool} {a0 : PV} {r0 : List Nat} {Rs : List (List Nat)} {Q : PV → Prop}
end
end Mine
end
noncomputable section
namespace Mine
section
variable {k : Bool} {r0 : List Nat} {Rs : List (List Nat)} {Q : PV → Prop}
theorem one_code (k : Bool) : ∀ c ∈ [46], c < lim k := fun c hc => by rw [List.mem_singleton.mp hc]; cases k <;> decide
/-- one text of a place -/
theorem made_step {Γ : FEnv} (h10 : getF Γ 10 = madeF) {r : List Nat} {K : PV → Nat → Prop} (hc : ∀ c ∈ r, c < lim k) (hl : r.length < 65536) (z : K (.txt k (47 :: r)) 0) :
    [PV.int 47].length + (r.map fun (c : Nat) => PV.int (c : Int)).length ≤ LST ∧ getF Γ 10 [iv (47 :: r), kv k] fun v => K v 0 := by
  rw [h10, List.length_map]
  exact ⟨Nat.le_trans (show 1 + r.length ≤ 65536 by omega) (by decide), k, 47 :: r, rfl, fun c hc' => (List.mem_cons.mp hc').elim (fun e => by rw [e]; cases k <;> decide) (hc c), by rw [List.length_cons]; omega, z⟩
end
def low (c : Nat) : Nat := ((c : Int) - 1).fmod 255 |>.toNat.succ
theorem low_lt (c : Nat) : low c < 256 := by
  have := mod_range ((c : Int) - 1) (show (0 : Int) < 255 by decide)
  unfold low
  omega
end Mine
end
noncomputable section
namespace Mine
/-! ## law 6: _law_tree, the tree -/
def msTree_6 : MS := (.ret (.lit (.bool true)))
def msTree5b_4 : MS := (.ite (.cmp .ne (.fn 8 (.cons (.var 7) .nil)) (.fn 10 (.cons (.bin .add (.list (.cons (.lit (.int 47)) .nil)) (.fn 12 (.cons (.cut (.idx (.var 2) (.var 8)) (.lit .none) (.var 14)) .nil))) (.cons (.var 1) .nil)))) (.ret (.lit (.bool false))) .skip)
def msTree5b_3 : MS := .seq (.asg 14 false (.bi1 .min (.comp (.bi1 .len (.var 15)) (.var 11) (.lit (.bool true))))) msTree5b_4
def msTree5b2b_3 : MS := (.ite (.cmp .ne (.fn 8 (.cons (.list (.cons (.idx (.var 7) (.var 8)) (.cons (.idx (.var 7) (.var 12)) .nil))) .nil)) (.fn 10 (.cons (.bin .add (.list (.cons (.lit (.int 47)) .nil)) (.fn 12 (.cons (.idx (.var 11) (.var 12)) .nil))) (.cons (.var 1) .nil)))) (.ret (.lit (.bool false))) .skip)
def msTree5b2b_2 : MS := .seq (.append 11 (.cut (.idx (.var 2) (.var 8)) (.lit .none) (.bin .sub (.bi1 .len (.idx (.var 2) (.var 8))) (.meth .count (.var 13) (.list (.cons (.lit (.int 46)) (.cons (.lit (.int 46)) .nil))))))) msTree5b2b_3
def msTree5b2b_1 : MS := .seq (.ite (.cmp .ne (.fn 7 (.cons (.idx (.var 6) (.var 12)) (.cons (.idx (.var 6) (.var 8)) .nil))) (.fn 10 (.cons (.ite (.cmp .ne (.var 13) (.list .nil)) (.fn 12 (.cons (.var 13) .nil)) (.list (.cons (.lit (.int 46)) .nil))) (.cons (.var 1) .nil)))) (.ret (.lit (.bool false))) .skip) msTree5b2b_2
def msTree5b2b : MS := .seq (.asg 13 false (.idx (.var 10) (.meth .index (.var 9) (.idx (.var 2) (.var 12))))) msTree5b2b_1
def msTree5b_2 : MS := .seq (.for_ [12] (.range (.lit (.int 0)) (.bi1 .len (.var 0))) msTree5b2b) msTree5b_3
def msTree5b_1 : MS := .seq (.asg 11 true (.list .nil)) msTree5b_2
def msTree5b : MS := .seq (.unpack [9, 10] (.fn 13 (.cons (.var 3) (.cons (.idx (.var 2) (.var 8)) .nil)))) msTree5b_1
def msTree_5 : MS := .seq (.for_ [8] (.range (.lit (.int 0)) (.bi1 .len (.var 0))) msTree5b) msTree_6
def msTree_4 : MS := .seq (.asg 7 false (.comp (.fn 10 (.cons (.bin .add (.list (.cons (.lit (.int 47)) .nil)) (.fn 12 (.cons (.var 15) .nil))) (.cons (.var 1) .nil))) (.var 2) (.lit (.bool true)))) msTree_5
def msTree_3 : MS := .seq (.asg 6 false (.comp (.fn 10 (.cons (.bin .add (.list (.cons (.lit (.int 47)) .nil)) (.var 15)) (.cons (.var 1) .nil))) (.var 0) (.lit (.bool true)))) msTree_4
def msTree2b0b : MS := (.ite (.cmp .notin (.cut (.var 4) (.lit .none) (.var 5)) (.var 3)) (.append 3 (.cut (.var 4) (.lit .none) (.var 5))) .skip)
def msTree2b : MS := (.for_ [5] (.range (.lit (.int 0)) (.bin .add (.bi1 .len (.var 4)) (.lit (.int 1)))) msTree2b0b)
def msTree_2 : MS := .seq (.for_ [4] (.var 2) msTree2b) msTree_3
def msTree_1 : MS := .seq (.asg 3 true (.list .nil)) msTree_2
def msTree : MS := .seq (.asg 2 false (.comp (.fn 11 (.cons (.var 15) .nil)) (.var 0) (.lit (.bool true)))) msTree_1
theorem allEq_cut (ns : Pl) (j : Nat) (S : List Pl) : allEq (.list (cut (ns.map iv) none (some (j : Int)))) (S.map nv) := by rw [← nv_take]; exact allEq_nv _ S
theorem any_cut (ns : Pl) (j : Nat) (S : List Pl) : (S.map nv).any (likeB (.list (cut (ns.map iv) none (some (j : Int))))) = decide (ns.take j ∈ S) := by rw [← nv_take]; exact any_nv _ S
structure TI (T : List Pl) : Prop where
  nd : T.Nodup
  pre : ∀ x ∈ T, x.dropLast ∈ T
  short : ∀ x ∈ T, x.length ≤ 31
section
variable {Γ : FEnv} {a0 kd gl : PV} {Q : Post}
def rB (a0 kd gl : PV) (T : List Pl) (s4 s5 : Slt) : List Slt := [some (a0, 0), some (kd, 0), some (gl, 0), some (gv T, 1), s4, s5, none, none, none, none, none, none, none, none, none]
theorem take_last (ns : Pl) {j : Nat} (h : j < ns.length) : (ns.take (j + 1)).dropLast = ns.take j := by
  rw [List.take_succ_eq_append_getElem h, List.dropLast_concat]
theorem tree_inner {ns : Pl} (hz : ns.length ≤ 31) : ∀ {m j : Nat} {T : List Pl} {s5 : Slt}, j + m = ns.length + 1 → TI T → (∀ i, i < j → ns.take i ∈ T) → T.length + m ≤ 1000 →
    (∀ T' s5, TI T' → (∀ x ∈ T, x ∈ T') → (∀ i, i < ns.length + 1 → ns.take i ∈ T') → T'.length ≤ T.length + m → Q .next (rB a0 kd gl T' (some (nv ns, 0)) s5)) →
    forP (wp Γ msTree2b0b) [5] ((List.range' j m).map fun (i : Nat) => PV.int (i : Int)) (rB a0 kd gl T (some (nv ns, 0)) s5) Q := by
  intro m
  induction m with
  | zero => exact fun {j T s5} hj I h hl q => q T s5 I (fun x hx => hx) (fun i hi => h i (by omega)) (Nat.le_refl _)
  | succ m ih =>
    intro j T s5 hj I h hl q
    have hT : T.length < LST := Nat.lt_of_le_of_lt (show T.length ≤ 1000 by omega) (by decide)
    rw [List.range'_succ]
    refine ⟨allEq_cut ns j T, ?_⟩
    rw [any_cut]
    have put : ∀ {T' : List Pl}, TI T' → (∀ x ∈ T, x ∈ T') → ns.take j ∈ T' → T'.length ≤ T.length + 1 → forP (wp Γ msTree2b0b) [5] ((List.range' (j + 1) m).map fun (i : Nat) => PV.int (i : Int)) (rB a0 kd gl T' (some (nv ns, 0)) (some (.int (j : Int), 0))) Q := fun {T'} I' hs hm hl' =>
      ih (by omega) I' (fun i hi => (Nat.lt_succ_iff_lt_or_eq.mp hi).elim (fun hi => hs _ (h i hi)) fun e => e ▸ hm) (by omega) fun T2 s5 I2 h2 h3 hl2 => q T2 s5 I2 (fun x hx => h2 x (hs x hx)) h3 (by omega)
    refine boolP_of (fun hn => ?_) fun hn => ?_
    · have hn : ns.take j ∉ T := of_decide_eq_false ((Bool.not_eq_true' _).mp hn)
      have := put (T' := T ++ [ns.take j]) ⟨nodup_snoc I.nd hn, fun x hx => ?_, fun x hx => ?_⟩ (fun x hx => List.mem_append_left _ hx) (List.mem_append_right _ (.head _)) (by rw [List.length_append]; exact Nat.le_refl _)
      · unfold rB at this
        rw [gv_snoc, nv_take] at this
        exact ⟨by rw [List.length_map]; exact hT, this⟩
      · rcases List.mem_append.mp hx with hx | hx
        · exact List.mem_append_left _ (I.pre x hx)
        · rw [List.mem_singleton.mp hx]
          cases j with
          | zero => exact List.mem_append_right _ (.head _)
          | succ j => rw [take_last ns (by omega)]; exact List.mem_append_left _ (h j (Nat.lt_succ_self j))
      · rcases List.mem_append.mp hx with hx | hx
        · exact I.short x hx
        · rw [List.mem_singleton.mp hx]; exact Nat.le_trans (List.length_take_le' _ _) hz
    · have hn : ns.take j ∈ T := of_decide_eq_true ((Bool.not_eq_false' _).mp hn)
      exact put I (fun x hx => hx) hn (Nat.le_succ _)
theorem tree_outer : ∀ {Gs : List Pl} {T : List Pl} {s4 s5 : Slt}, (∀ g ∈ Gs, g.length ≤ 31) → TI T → T.length + 32 * Gs.length ≤ 1000 →
    (∀ T' s4 s5, TI T' → (∀ x ∈ T, x ∈ T') → (∀ g ∈ Gs, g ∈ T') → T'.length ≤ T.length + 32 * Gs.length → Q .next (rB a0 kd gl T' s4 s5)) →
    forP (wp Γ msTree2b) [4] (Gs.map nv) (rB a0 kd gl T s4 s5) Q := by
  intro Gs
  induction Gs with
  | nil => exact fun {T s4 s5} _ I _ q => q T s4 s5 I (fun x hx => hx) (fun g hg => nomatch hg) (Nat.le_refl _)
  | cons g Gs ih =>
    intro T s4 s5 hz I hl q
    have hg := hz g (.head _)
    rw [List.length_cons] at hl
    show (-(2 ^ 40 : Int) ≤ 0 ∧ (0 : Int) ≤ 2 ^ 40 ∧ -(2 ^ 40 : Int) ≤ (((g.map iv).length : Nat) : Int) + 1 ∧ (((g.map iv).length : Nat) : Int) + 1 ≤ LIM ∧ ((((g.map iv).length : Nat) : Int) + 1 - 0).toNat ≤ LIM) ∧
      forP (wp Γ msTree2b0b) [5] (rangeF 0 ((((g.map iv).length : Nat) : Int) + 1)) (rB a0 kd gl T (some (nv g, 0)) s5) (loopK (fun ρ' => forP (wp Γ msTree2b) [4] (Gs.map nv) ρ' Q) Q)
    rw [List.length_map, show ((g.length : Nat) : Int) + 1 = ((g.length + 1 : Nat) : Int) from rfl, range_nat]
    refine ⟨range_ok (by omega), tree_inner hg (j := 0) (Nat.zero_add _) I (fun i hi => absurd hi (Nat.not_lt_zero i)) (by omega) fun T' s5 I' h1 h2 h3 => ?_⟩
    exact ih (fun x hx => hz x (.tail _ hx)) I' (by omega) fun T2 s4 s5 I2 k1 k2 k3 => q T2 s4 s5 I2 (fun x hx => k1 x (h1 x hx)) (fun x hx => (List.mem_cons.mp hx).elim (fun e => by
      subst e
      have := h2 x.length (Nat.lt_succ_self _)
      rw [List.take_length] at this
      exact k1 x this) fun hx => k2 x hx) (by rw [List.length_cons]; omega)
end
end Mine
end
noncomputable section
namespace Mine
/-! ## law 6: _law_tree, one place from another -/
def gam14 : FEnv := [fspathF, sepF, joinF, splitrootF, normpathF, abspathF, commonprefixF, relpathF, commonpathF, rowsF, madeF, namesF, laidF, waysF]
theorem like_iv (p y : List Nat) : likeB (iv p) (iv y) = (y == p) := by
  unfold likeB
  rw [show pvEq 4 (iv y) (iv p) = some (y == p) from eq_iv y p]
  cases y == p <;> rfl
theorem allEq_iv (p : List Nat) (S : Pl) : allEq (iv p) (S.map iv) := fun y hy => by
  obtain ⟨q, _, rfl⟩ := List.mem_map.mp hy
  exact ⟨q == p, eq_iv q p⟩
theorem count_iv (p : List Nat) (S : Pl) : List.countP (likeB (iv p)) (S.map iv) = S.countP (· == p) := by
  rw [List.countP_map]
  exact congrArg (fun f => List.countP f S) (funext fun y => like_iv p y)
theorem find_nv {g : Pl} : ∀ {S : List Pl}, g ∈ S → ∃ i, (S.map nv).findIdx? (likeB (nv g)) = some i ∧ S[i]? = some g
  | a :: S, h => by
    rw [List.map_cons, List.findIdx?_cons, like_nv]
    by_cases e : a = g
    · subst e
      rw [beq_self_eq_true, if_pos rfl]
      exact ⟨0, rfl, rfl⟩
    · rw [beq_false_of_ne e, if_neg Bool.false_ne_true]
      obtain ⟨i, h1, h2⟩ := find_nv ((List.mem_cons.mp h).resolve_left fun q => e q.symm)
      rw [h1]
      exact ⟨i + 1, rfl, h2⟩
theorem way_sz (s p : Pl) : szL (wayTo s p) ≤ 3 * s.length + szL p := by
  unfold wayTo
  rw [szL_app, show szL (List.replicate (s.length - (cpre s p).length) ddd) = 3 * (s.length - (cpre s p).length) from szL_dots' _]
  have := szL_drop p (cpre s p).length
  omega
theorem way_codes {k : Bool} {s p : Pl} (h : CodesN k p) : CodesN k (wayTo s p) := fun q hq => (List.mem_append.mp hq).elim (fun hq => List.eq_of_mem_replicate hq ▸ dd_codes k) fun hq => h q (List.mem_of_mem_drop hq)
theorem way_ne {s p : Pl} (h : ∀ q ∈ p, q ≠ []) : ∀ q ∈ wayTo s p, q ≠ [] := fun q hq => (List.mem_append.mp hq).elim (fun hq => List.eq_of_mem_replicate hq ▸ fun e => nomatch e) fun hq => h q (List.mem_of_mem_drop hq)
theorem rel_way (s p : Pl) : relOut (relW s p) = if joinC [47] (wayTo s p) = [] then [46] else joinC [47] (wayTo s p) := rfl
theorem top_cut {s g : Pl} (h : GoodN g) : PV.list (cut (s.map iv) none (some ((((s.map iv).length : Nat) : Int) - ((List.countP (likeB (iv ddd)) ((wayTo s g).map iv) : Nat) : Int)))) = nv (cpre s g) := by
  rw [count_iv, count_way fun n hn => (h n hn).1.1, List.length_map, show ((s.length : Nat) : Int) - ((s.length - (cpre s g).length : Nat) : Int) = ((s.length - (s.length - (cpre s g).length) : Nat) : Int) by omega, ← nv_take, top_way]
def rJ (k : Bool) (a0 T3 : PV) (P : List Pr) (i : Nat) (s : Pl) (S ts : List Pl) (s4 s5 s12 s13 s14 : Slt) : List Slt :=
  [some (a0, 0), some (kv k, 0), some (gV P, 0), some (T3, 0), s4, s5, some (sV k P, 0), some (pV k P, 0), some (.int (i : Int), 0), some (gv S, 0), some (wv s S, 0), some (gv ts, 1), s12, s13, s14]
section
variable {k : Bool} {a0 T3 : PV} {P : List Pr} {i j : Nat} {ti tj : Pr} {S ts : List Pl} {s4 s5 s12 s13 s14 : Slt} {f : List Slt → Prop} {Q : Post}
theorem tree_com (oi : PairOk k ti) (oj : PairOk k tj) (hi : P[i]? = some ti) (hj : P[j]? = some tj) (ht : ts[j]? = some (cpre ti.1 tj.1)) (hf : f (rJ k a0 T3 P i ti.1 S ts s4 s5 (some (.int (j : Int), 0)) s13 s14)) :
    wp gam14 msTree5b2b_3 (rJ k a0 T3 P i ti.1 S ts s4 s5 (some (.int (j : Int), 0)) s13 s14) (loopK f Q) := by
  have pi : idxAt (P.map fun t => PV.txt k (47 :: joinC [47] t.1)) (i : Int) = some (.txt k (47 :: joinC [47] ti.1)) := idx_map hi
  have pj : idxAt (P.map fun t => PV.txt k (47 :: joinC [47] t.1)) (j : Int) = some (.txt k (47 :: joinC [47] tj.1)) := idx_map hj
  have it : idxAt (ts.map nv) (j : Int) = some (nv (cpre ti.1 tj.1)) := idx_map ht
  have zi := oi.sz
  have hcom : comP true (47 :: joinC [47] ti.1) [47 :: joinC [47] tj.1] = 47 :: joinC [47] (cpre ti.1 tj.1) := com_names (gs := [tj.1]) oi.good fun g hg => List.mem_singleton.mp hg ▸ oj.good
  have szt : szL (cpre ti.1 tj.1) ≤ 40 := Nat.le_trans (szL_sub' (cpre_left _ _).sublist) zi
  have hjl := (joinC_len1 47 (cpre ti.1 tj.1)).1
  have hil := (joinC_len1 47 ti.1).1
  have L : 65536 ≤ LST := by decide
  refine ⟨_, pi, _, pj, rfl, k, true, 47 :: joinC [47] ti.1, [47 :: joinC [47] tj.1], rfl, ?_, by rw [List.length_cons]; omega, rfl, _, it, cpre ti.1 tj.1, rfl, by omega, ?_⟩
  · intro p hp
    rcases List.mem_cons.mp hp with rfl | hp
    · rfl
    · rw [List.mem_singleton.mp hp]; rfl
  · refine ⟨?_, k, 47 :: joinC [47] (cpre ti.1 tj.1), rfl, ?_, by rw [List.length_cons]; omega, rfl, ne_same hcom hf⟩
    · rw [List.length_map]
      exact Nat.le_trans (show 1 + (joinC [47] (cpre ti.1 tj.1)).length ≤ 65536 by omega) L
    · exact plain_codes fun p hp => oi.codes p ((cpre_left _ _).subset hp)
theorem tree_top (oi : PairOk k ti) (oj : PairOk k tj) (hi : P[i]? = some ti) (hj : P[j]? = some tj) (hl : ts.length = j) (hb : j ≤ 1000) (hf : f (rJ k a0 T3 P i ti.1 S (ts ++ [cpre ti.1 tj.1]) s4 s5 (some (.int (j : Int), 0)) (some (nv (wayTo ti.1 tj.1), 0)) s14)) :
    wp gam14 msTree5b2b_2 (rJ k a0 T3 P i ti.1 S ts s4 s5 (some (.int (j : Int), 0)) (some (nv (wayTo ti.1 tj.1), 0)) s14) (loopK f Q) := by
  have gi : idxAt (P.map fun t => nv t.1) (i : Int) = some (nv ti.1) := idx_map hi
  have key := tree_com (f := f) (Q := Q) (S := S) (s4 := s4) (s5 := s5) (s13 := some (nv (wayTo ti.1 tj.1), 0)) (s14 := s14) (a0 := a0) (T3 := T3) oi oj hi hj (ts := ts ++ [cpre ti.1 tj.1]) (by rw [List.getElem?_append_right (Nat.le_of_eq hl), hl, Nat.sub_self]; rfl) hf
  unfold rJ at key
  rw [gv_snoc, ← top_cut oj.good] at key
  exact ⟨nv ti.1, gi, nv ti.1, gi, rfl, allEq_iv ddd _, by rw [List.length_map, hl]; exact Nat.lt_of_le_of_lt hb (by decide), key⟩
/-- the way that is told is the one that relpath gives -/
theorem tree_rel (oi : PairOk k ti) (oj : PairOk k tj) (hi : P[i]? = some ti) (hj : P[j]? = some tj) (hl : ts.length = j) (hb : j ≤ 1000) (hf : f (rJ k a0 T3 P i ti.1 S (ts ++ [cpre ti.1 tj.1]) s4 s5 (some (.int (j : Int), 0)) (some (nv (wayTo ti.1 tj.1), 0)) s14)) :
    wp gam14 msTree5b2b_1 (rJ k a0 T3 P i ti.1 S ts s4 s5 (some (.int (j : Int), 0)) (some (nv (wayTo ti.1 tj.1), 0)) s14) (loopK f Q) := by
  have si : idxAt (P.map fun t => PV.txt k t.2) (i : Int) = some (.txt k ti.2) := idx_map hi
  have sj : idxAt (P.map fun t => PV.txt k t.2) (j : Int) = some (.txt k tj.2) := idx_map hj
  have key := tree_top (f := f) (Q := Q) (S := S) (s4 := s4) (s5 := s5) (s14 := s14) (a0 := a0) (T3 := T3) oi oj hi hj hl hb hf
  have e : relP tj.2 ti.2 = relOut (relW ti.1 tj.1) := by unfold relP; rw [oi.names, oj.names]
  have z1 := oi.len
  have z2 := oj.len
  have zw : szL (wayTo ti.1 tj.1) ≤ 200 := by
    have h1 := way_sz ti.1 tj.1
    have h2 := len_szL ti.1
    have h3 := oi.sz
    have h4 := oj.sz
    omega
  have hjl := (joinC_len1 47 (wayTo ti.1 tj.1)).1
  have hne := way_ne (s := ti.1) fun q hq => (oj.good q hq).1.2.1
  have hcd := way_codes (s := ti.1) oj.codes
  rw [rel_way] at e
  refine ⟨_, sj, _, si, k, tj.2, ti.2, rfl, oj.lead, oi.lead, by omega, by omega, rfl, wayTo ti.1 tj.1 == [], eq_nv _ [], boolP_of (fun h1 => ?_) fun h1 => ?_⟩
  · rw [if_neg fun q => bne_t h1 (joinC_nil hne q)] at e
    exact ⟨wayTo ti.1 tj.1, rfl, by omega, k, joinC [47] (wayTo ti.1 tj.1), rfl, join_codes hcd, by omega, rfl, ne_same e key⟩
  · rw [if_pos (by rw [bne_f h1]; rfl)] at e
    exact ⟨rfl, k, [46], rfl, one_code k, by decide, rfl, ne_same e key⟩
theorem tree_j (oi : PairOk k ti) (oj : PairOk k tj) (hi : P[i]? = some ti) (hj : P[j]? = some tj) (hS : tj.1 ∈ S) (hl : ts.length = j) (hb : j ≤ 1000) (hf : f (rJ k a0 T3 P i ti.1 S (ts ++ [cpre ti.1 tj.1]) s4 s5 (some (.int (j : Int), 0)) (some (nv (wayTo ti.1 tj.1), 0)) s14)) :
    wp gam14 msTree5b2b (rJ k a0 T3 P i ti.1 S ts s4 s5 (some (.int (j : Int), 0)) s13 s14) (loopK f Q) := by
  have gj : idxAt (P.map fun t => nv t.1) (j : Int) = some (nv tj.1) := idx_map hj
  obtain ⟨n, h1, h2⟩ := find_nv hS
  have wn : idxAt (S.map fun p => nv (wayTo ti.1 p)) (n : Int) = some (nv (wayTo ti.1 tj.1)) := idx_map h2
  exact ⟨_, gj, allEq_nv _ _, n, h1, _, wn, tree_rel oi oj hi hj hl hb hf⟩
end
end Mine
end
noncomputable section
namespace Mine
/-! ## law 6: _law_tree, all places -/
def treeF : Fn := fun xs Q => ∃ (k : Bool) (r0 : List Nat) (Rs : List (List Nat)), xs = [nv (r0 :: Rs), kv k] ∧ (r0 :: Rs).length ≤ 8 ∧ (∀ r ∈ r0 :: Rs, r.length ≤ 30 ∧ ∀ c ∈ r, c < lim k) ∧ Q (.bool true)
theorem best_int (a : Int) (is : List Int) : bestOf (turnB false fun a b : Int => decide (a < b)) a is ∈ a :: is ∧ ∀ x ∈ a :: is, bestOf (turnB false fun a b : Int => decide (a < b)) a is ≤ x := by
  refine ⟨bestOf_mem2 _ _ _, fun x hx => ?_⟩
  have := bestOf_all (turnB false fun a b : Int => decide (a < b)) (fun x y h => decide_eq_false (Int.lt_asymm (of_decide_eq_true (p := x < y) h) : ¬ y < x))
    (fun x y z h h' => decide_eq_false (show ¬ x < z from fun q => by
      have h1 : ¬ x < y := of_decide_eq_false (p := x < y) h
      have h2 : ¬ y < z := of_decide_eq_false (p := y < z) h'
      omega)) is a x hx
  have h1 : ¬ x < _ := of_decide_eq_false (p := x < bestOf (turnB false fun a b : Int => decide (a < b)) a is) this
  omega
theorem best_intP {xs : List PV} {a : Int} {is : List Int} {Q : PV → Prop} (e : xs = (a :: is).map PV.int) (h : Q (.int (bestOf (turnB false fun a b : Int => decide (a < b)) a is))) : bi1P .min (.list xs) 0 Q := Or.inl ⟨a, is, e, h⟩
section
variable {k : Bool} {a0 T3 : PV} {P : List Pr} {i : Nat} {ti : Pr} {S : List Pl} {s4 s5 s14 : Slt} {f : List Slt → Prop} {Q : Post}
theorem tree_jloop (ok : ∀ t ∈ P, PairOk k t) (hP : P.length ≤ 1000) (hi : P[i]? = some ti) (hS : ∀ t ∈ P, t.1 ∈ S) (hq : ∀ s12 s13, Q .next (rJ k a0 T3 P i ti.1 S (P.map fun t => cpre ti.1 t.1) s4 s5 s12 s13 s14)) :
    ∀ {m j : Nat} {s12 s13 : Slt}, j + m = P.length → forP (wp gam14 msTree5b2b) [12] ((List.range' j m).map fun (i : Nat) => PV.int (i : Int)) (rJ k a0 T3 P i ti.1 S ((P.take j).map fun t => cpre ti.1 t.1) s4 s5 s12 s13 s14) Q := by
  intro m
  induction m with
  | zero =>
    intro j s12 s13 hj
    rw [List.take_of_length_le (show P.length ≤ j by omega)]
    exact hq s12 s13
  | succ m ih =>
    intro j s12 s13 hj
    have hlt : j < P.length := by omega
    have hg : P[j]? = some P[j] := List.getElem?_eq_getElem hlt
    have hm : P[j] ∈ P := List.getElem_mem hlt
    have ih := ih (j := j + 1) (s12 := some (.int (j : Int), 0)) (s13 := some (nv (wayTo ti.1 P[j].1), 0)) (by omega)
    rw [List.take_succ_eq_append_getElem hlt, List.map_append] at ih
    rw [List.range'_succ]
    exact tree_j (ok ti (List.mem_of_getElem? hi)) (ok _ hm) hi hg (hS _ hm) (by rw [List.length_map, List.length_take, Nat.min_eq_left (Nat.le_of_lt hlt)]) (by omega) ih
/-- the topmost place of all ways -/
theorem tree_least {p0 : Pr} {Ps : List Pr} {n : Nat} {sG sW tp s12 s13 : Slt} {z8 : PV} (eP : P = p0 :: Ps) (ok : ∀ t ∈ P, PairOk k t) (hi : P[i]? = some ti) (hn : ti.1.take n = cpreA p0.1 (Ps.map (·.1)))
    (hf : f [some (a0, 0), some (kv k, 0), some (gV P, 0), some (T3, 0), s4, s5, some (sV k P, 0), some (pV k P, 0), some (.int (i : Int), 0), sG, sW, tp, s12, s13, some (.int (n : Int), 0)]) :
    wp gam14 msTree5b_4 [some (a0, 0), some (kv k, 0), some (gV P, 0), some (T3, 0), s4, s5, some (sV k P, 0), some (pV k P, 0), some (.int (i : Int), 0), sG, sW, tp, s12, s13, some (.int (n : Int), 0)] (loopK f Q) := by
  have gi : idxAt (P.map fun t => nv t.1) (i : Int) = some (nv ti.1) := idx_map hi
  have oi := ok ti (List.mem_of_getElem? hi)
  have zi := oi.sz
  have szt : szL (ti.1.take n) ≤ 40 := Nat.le_trans (szL_sub' (List.take_sublist _ _)) zi
  have hjl := (joinC_len1 47 (ti.1.take n)).1
  have L : 65536 ≤ LST := by decide
  have o0 := ok p0 (eP ▸ .head _)
  have h0 := (joinC_len1 47 p0.1).1
  have z0 := o0.sz
  have hcom : comP true (47 :: joinC [47] p0.1) ((Ps.map (·.1)).map fun g => 47 :: joinC [47] g) = 47 :: joinC [47] (cpreA p0.1 (Ps.map (·.1))) := com_names o0.good fun g hg => by
    obtain ⟨t, ht, rfl⟩ := List.mem_map.mp hg
    exact (ok t (eP ▸ .tail _ ht)).good
  rw [← hn] at hcom
  refine ⟨k, true, 47 :: joinC [47] p0.1, (Ps.map (·.1)).map fun g => 47 :: joinC [47] g, ?_, ?_, by rw [List.length_cons]; omega, rfl, _, gi, ti.1.take n, congrArg (fun z => [z]) (nv_take n ti.1).symm, by omega, ?_⟩
  · refine congrArg (fun z => [PV.list z]) ?_
    show P.map (fun t => PV.txt k (47 :: joinC [47] t.1)) = _
    rw [eP, List.map_cons, List.map_cons, List.map_map, List.map_map]; rfl
  · intro p hp
    rcases List.mem_cons.mp hp with rfl | hp
    · rfl
    · obtain ⟨g, _, rfl⟩ := List.mem_map.mp hp; rfl
  · refine ⟨?_, k, 47 :: joinC [47] (ti.1.take n), rfl, ?_, by rw [List.length_cons]; omega, rfl, ne_same hcom hf⟩
    · rw [List.length_map]
      exact Nat.le_trans (show 1 + (joinC [47] (ti.1.take n)).length ≤ 65536 by omega) L
    · exact plain_codes fun p hp => oi.codes p (List.mem_of_mem_take hp)
theorem tree_min {p0 : Pr} {Ps : List Pr} {sG sW s12 s13 : Slt} (eP : P = p0 :: Ps) (ok : ∀ t ∈ P, PairOk k t) (hi : P[i]? = some ti)
    (hf : ∀ s14, f [some (a0, 0), some (kv k, 0), some (gV P, 0), some (T3, 0), s4, s5, some (sV k P, 0), some (pV k P, 0), some (.int (i : Int), 0), sG, sW, some (gv (P.map fun t => cpre ti.1 t.1), 1), s12, s13, s14]) :
    wp gam14 msTree5b_3 [some (a0, 0), some (kv k, 0), some (gV P, 0), some (T3, 0), s4, s5, some (sV k P, 0), some (pV k P, 0), some (.int (i : Int), 0), sG, sW, some (gv (P.map fun t => cpre ti.1 t.1), 1), s12, s13, s14] (loopK f Q) := by
  refine compP_map (φ := nv) (ψ := fun t => PV.int (t.length : Int)) (fun _ _ _ z => z) (fun t _ K z => ?_) ?_
  · show K (.int (((t.map iv).length : Nat) : Int)) 0
    rw [List.length_map]; exact z
  · obtain ⟨h1, h2⟩ := best_int ((cpre ti.1 p0.1).length : Int) (Ps.map fun t => ((cpre ti.1 t.1).length : Int))
    have mm : ∀ {x : Int}, x ∈ ((cpre ti.1 p0.1).length : Int) :: (Ps.map fun t => ((cpre ti.1 t.1).length : Int)) ↔ ∃ t ∈ p0 :: Ps, x = ((cpre ti.1 t.1).length : Int) := fun {x} => by
      rw [← List.map_cons (f := fun t : Pr => ((cpre ti.1 t.1).length : Int)), List.mem_map]
      exact ⟨fun ⟨t, h, e⟩ => ⟨t, h, e.symm⟩, fun ⟨t, h, e⟩ => ⟨t, h, e.symm⟩⟩
    obtain ⟨t, ht, e⟩ := mm.mp h1
    have le : ∀ q ∈ p0 :: Ps, (cpre ti.1 t.1).length ≤ (cpre ti.1 q.1).length := fun q hq => by
      have := h2 _ (mm.mpr ⟨q, hq, rfl⟩)
      rw [e] at this
      omega
    have him : ti ∈ p0 :: Ps := eP ▸ List.mem_of_getElem? hi
    have hn : ti.1.take (cpre ti.1 t.1).length = cpreA p0.1 (Ps.map (·.1)) := by
      have m1 : ∀ {g : Pl}, g ∈ p0.1 :: Ps.map (·.1) ↔ ∃ t ∈ p0 :: Ps, t.1 = g := fun {g} => by rw [← List.map_cons (f := fun t : Pr => t.1), List.mem_map]
      refine least_pre (m1.mpr ⟨ti, him, rfl⟩) ⟨t.1, m1.mpr ⟨t, ht, rfl⟩, rfl⟩ fun g hg => ?_
      obtain ⟨q, hq, rfl⟩ := m1.mp hg
      exact le q hq
    have key := tree_least (f := f) (a0 := a0) (T3 := T3) (s4 := s4) (s5 := s5) (sG := sG) (sW := sW) (tp := some (gv (P.map fun t => cpre ti.1 t.1), 1)) (s12 := s12) (s13 := s13) (z8 := .none) (Q := Q) eP ok hi hn (hf _)
    rw [← e] at key
    refine best_intP (a := ((cpre ti.1 p0.1).length : Int)) (is := Ps.map fun t => ((cpre ti.1 t.1).length : Int)) ?_ ?_
    rotate_left
    · exact key
    rw [eP, List.map_cons, List.map_cons, List.map_cons, List.map_map, List.map_map]; rfl
def rI (k : Bool) (a0 : PV) (T : List Pl) (l : Nat) (P : List Pr) (s4 s5 s8 s9 s10 s11 s12 s13 s14 : Slt) : List Slt :=
  [some (a0, 0), some (kv k, 0), some (gV P, 0), some (gv T, l), s4, s5, some (sV k P, 0), some (pV k P, 0), s8, s9, s10, s11, s12, s13, s14]
theorem tree_i {T : List Pl} {l : Nat} {R : Pl} {s9 s10 s11 s12 s13 : Slt} (ea : a0 = nv R) (hR : R.length = P.length) (O : TreeOk T) (hT : ∀ t ∈ P, t.1 ∈ T) (ok : ∀ t ∈ P, PairOk k t) (hP : P.length ≤ 1000) (hi : P[i]? = some ti)
    (hf : ∀ s9 s10 s11 s12 s13 s14, f (rI k a0 T 0 P s4 s5 (some (.int (i : Int), 0)) s9 s10 s11 s12 s13 s14)) :
    wp gam14 msTree5b (rI k a0 T l P s4 s5 (some (.int (i : Int), 0)) s9 s10 s11 s12 s13 s14) (loopK f Q) := by
  have gi : idxAt (P.map fun t => nv t.1) (i : Int) = some (nv ti.1) := idx_map hi
  obtain ⟨p0, Ps, eP⟩ : ∃ p0 Ps, P = p0 :: Ps := by
    cases P with
    | nil => exact nomatch hi
    | cons a b => exact ⟨a, b, rfl⟩
  subst ea
  refine ⟨nv ti.1, gi, T, ti.1, rfl, O, hT _ (List.mem_of_getElem? hi), fun S B all => ?_⟩
  refine ⟨rfl, ?_⟩
  show (-(2 ^ 40 : Int) ≤ 0 ∧ (0 : Int) ≤ 2 ^ 40 ∧ -(2 ^ 40 : Int) ≤ (((R.map iv).length : Nat) : Int) ∧ (((R.map iv).length : Nat) : Int) ≤ LIM ∧ ((((R.map iv).length : Nat) : Int) - 0).toNat ≤ LIM) ∧
    forP (wp gam14 msTree5b2b) [12] (rangeF 0 (((R.map iv).length : Nat) : Int)) (rJ k (nv R) (gv T) P i ti.1 S [] s4 s5 s12 s13 s14) (seqK (fun ρ => wp gam14 msTree5b_3 ρ (loopK f Q)) (loopK f Q))
  rw [List.length_map, hR, range_nat]
  refine ⟨range_ok (by omega), ?_⟩
  exact tree_jloop ok hP hi (fun t ht => all _ (hT t ht)) (fun s12 s13 => tree_min eP ok hi fun s14 => hf _ _ _ _ _ _) (j := 0) (Nat.zero_add _)
end
end Mine
end
noncomputable section
namespace Mine
/-! ## law 6: _law_tree, whole -/
section
variable {k : Bool} {a0 : PV} {P : List Pr} {T : List Pl} {s4 s5 : Slt}
theorem tree_iloop {Q : Post} {R : Pl} (ea : a0 = nv R) (hR : R.length = P.length) (O : TreeOk T) (hT : ∀ t ∈ P, t.1 ∈ T) (ok : ∀ t ∈ P, PairOk k t) (hP : P.length ≤ 1000) (hq : ∀ l s8 s9 s10 s11 s12 s13 s14, Q .next (rI k a0 T l P s4 s5 s8 s9 s10 s11 s12 s13 s14)) :
    ∀ {m i l : Nat} {s8 s9 s10 s11 s12 s13 s14 : Slt}, i + m = P.length → forP (wp gam14 msTree5b) [8] ((List.range' i m).map fun (i : Nat) => PV.int (i : Int)) (rI k a0 T l P s4 s5 s8 s9 s10 s11 s12 s13 s14) Q := by
  intro m
  induction m with
  | zero => exact fun {i l s8 s9 s10 s11 s12 s13 s14} _ => hq l s8 s9 s10 s11 s12 s13 s14
  | succ m ih =>
    intro i l s8 s9 s10 s11 s12 s13 s14 hi
    have hlt : i < P.length := by omega
    rw [List.range'_succ]
    exact tree_i ea hR O hT ok hP (List.getElem?_eq_getElem hlt) fun s9 s10 s11 s12 s13 s14 => ih (by omega)
theorem tree_five {Q : PV → Prop} {R : Pl} (ea : a0 = nv R) (hR : R.length = P.length) (O : TreeOk T) (hT : ∀ t ∈ P, t.1 ∈ T) (ok : ∀ t ∈ P, PairOk k t) (hP : P.length ≤ 1000) (q : Q (.bool true)) :
    wp gam14 msTree_5 (rI k a0 T 1 P s4 s5 none none none none none none none) (retK Q) := by
  subst ea
  show (-(2 ^ 40 : Int) ≤ 0 ∧ (0 : Int) ≤ 2 ^ 40 ∧ -(2 ^ 40 : Int) ≤ (((R.map iv).length : Nat) : Int) ∧ (((R.map iv).length : Nat) : Int) ≤ LIM ∧ ((((R.map iv).length : Nat) : Int) - 0).toNat ≤ LIM) ∧
    forP (wp gam14 msTree5b) [8] (rangeF 0 (((R.map iv).length : Nat) : Int)) (rI k (nv R) T 1 P s4 s5 none none none none none none none) (seqK (fun ρ => wp gam14 msTree_6 ρ (retK Q)) (retK Q))
  rw [List.length_map, hR, range_nat]
  exact ⟨range_ok (by omega), tree_iloop rfl hR O hT ok hP (fun _ _ _ _ _ _ _ _ => q) (i := 0) (Nat.zero_add _)⟩
end
theorem tree_run (xs : List PV) (Q : PV → Prop) (h : treeF xs Q) : lenIs 2 xs (callP gam14 15 msTree xs Q) := by
  obtain ⟨k, r0, Rs, rfl, hl, h, q⟩ := h
  generalize hR : r0 :: Rs = R at hl h ⊢
  have hPl : (R.map pairOf).length = R.length := List.length_map _
  have ok : ∀ t ∈ R.map pairOf, PairOk k t := fun t ht => by
    obtain ⟨r, hr, rfl⟩ := List.mem_map.mp ht
    exact (pair_ok (h r hr).1 (h r hr).2).1
  have eG : R.map (fun r => nv (wOf r).2) = (R.map fun r => (wOf r).2).map nv := (List.map_map (f := fun r => (wOf r).2) (g := nv) (l := R)).symm
  have eG2 : gV (R.map pairOf) = .list (R.map fun r => nv (wOf r).2) := by unfold gV; rw [List.map_map]; rfl
  have eS : sV k (R.map pairOf) = .list (R.map fun r => PV.txt k (47 :: r)) := by unfold sV; rw [List.map_map]; rfl
  have eP : pV k (R.map pairOf) = .list ((R.map fun r => (wOf r).2).map fun g => PV.txt k (47 :: joinC [47] g)) := by unfold pV; rw [List.map_map, List.map_map]; rfl
  have gz : ∀ g ∈ R.map fun r => (wOf r).2, g.length ≤ 31 ∧ CodesN k g ∧ szL g ≤ 31 := fun g hg => by
    obtain ⟨r, hr, rfl⟩ := List.mem_map.mp hg
    have hz := Nat.le_trans (names_sz r) (Nat.succ_le_succ (h r hr).1)
    exact ⟨Nat.le_trans (len_szL _) hz, names_codes (h r hr).2, hz⟩
  refine compP_map (φ := iv) (ψ := fun r => nv (wOf r).2) (fun _ _ _ z => z) (fun r hr K z => ⟨r, rfl, by have := (h r hr).1; omega, z⟩) ?_
  have key := tree_outer (Γ := gam14) (a0 := nv R) (kd := kv k) (gl := .list (R.map fun r => nv (wOf r).2)) (Q := seqK (fun ρ => wp gam14 msTree_3 ρ (retK Q)) (retK Q)) (Gs := R.map fun r => (wOf r).2) (T := []) (s4 := none) (s5 := none) (fun g hg => (gz g hg).1)
    ⟨.nil, (fun x hx => nomatch hx), fun x hx => nomatch hx⟩ (by rw [List.length_map]; show 0 + _ ≤ _; omega) fun T s4 s5 I _ hm hlen => ?_
  · rw [← eG] at key
    exact ⟨rfl, key⟩
  · rw [List.length_map] at hlen
    have hlen : T.length ≤ 0 + 32 * R.length := hlen
    have five := tree_five (k := k) (a0 := nv R) (P := R.map pairOf) (T := T) (s4 := s4) (s5 := s5) (Q := Q) (R := R) rfl hPl.symm ⟨I.nd, I.pre, by omega, fun x hx => Nat.le_trans (I.short x hx) (by decide)⟩ (fun t ht => by
      obtain ⟨r, hr, rfl⟩ := List.mem_map.mp ht
      exact hm _ (List.mem_map.mpr ⟨r, hr, rfl⟩)) ok (by omega) q
    unfold rI at five
    rw [eG2, eS, eP] at five
    refine compP_map (φ := iv) (ψ := fun r => PV.txt k (47 :: r)) (fun _ _ _ z => z) (fun r hr K z => ?_) ?_
    · have := (h r hr).1
      exact ⟨rfl, made_step rfl (h r hr).2 (by omega) z⟩
    · have four : wp gam14 msTree_4 [some (nv R, 0), some (kv k, 0), some (.list ((R.map fun r => (wOf r).2).map nv), 0), some (gv T, 1), s4, s5, some (.list (R.map fun r => PV.txt k (47 :: r)), 0), none, none, none, none, none, none, none, none] (retK Q) := by
        refine compP_map (φ := nv) (ψ := fun g => PV.txt k (47 :: joinC [47] g)) (fun _ _ _ z => z) (fun g hg K z => ?_) ?_
        · have h2 := (joinC_len1 47 g).1
          have h3 := (gz g hg).2.2
          exact ⟨rfl, g, rfl, by omega, made_step rfl (join_codes (gz g hg).2.1) (by omega) z⟩
        · rw [← eG]; exact five
      rw [← eG] at four
      exact four
end Mine
end
noncomputable section
namespace Mine
/-! ## law 6: _law_rows -/
def msRows6_2 : MS := (.ret (.var 1))
def msRows61b1b_4 : MS := (.ite (.cmp .eq (.var 3) (.lit (.int 0))) .brk .skip)
def msRows61b1b_3 : MS := .seq (.asg 3 false (.bin .fdiv (.var 3) (.lit (.int 100000000)))) msRows61b1b_4
def msRows61b1b_2 : MS := .seq (.ite (.cmp .eq (.var 4) (.lit (.int 0))) (.push2 1 (.list .nil)) (.ite (.cmp .lt (.var 4) (.lit (.int 9))) (.append2 1 (.neg (.lit (.int 1))) (.bi1 .ord (.idx (.lit (.txt false [47, 46, 97, 47, 46, 98, 47, 46])) (.bin .sub (.var 4) (.lit (.int 1)))))) (.ite (.cmp .lt (.var 5) (.lit (.int 55295))) (.append2 1 (.neg (.lit (.int 1))) (.bin .add (.var 5) (.lit (.int 1)))) (.append2 1 (.neg (.lit (.int 1))) (.bin .add (.var 5) (.lit (.int 2049))))))) msRows61b1b_3
def msRows61b1b_1 : MS := .seq (.aug 2 .add (.lit (.int 1))) msRows61b1b_2
def msRows61b1b : MS := .seq (.multi [4, 5] [0, 0] (.cons (.bin .fmod (.var 3) (.lit (.int 10))) (.cons (.bin .fmod (.bin .fdiv (.bin .fmod (.var 3) (.lit (.int 100000000))) (.lit (.int 10))) (.lit (.int 1112063))) .nil))) msRows61b1b_1
def msRows61b_1 : MS := (.while_ (.cmp .lt (.var 2) (.lit (.int 30))) msRows61b1b)
def msRows61b : MS := .seq (.asg 3 false (.bi1 .abs (.var 3))) msRows61b_1
def msRows6_1 : MS := .seq (.for_ [3] (.var 0) msRows61b) msRows6_2
def msRows6 : MS := .seq (.multi [1, 2] [2, 0] (.cons (.list (.cons (.list .nil) .nil)) (.cons (.lit (.int 0)) .nil))) msRows6_1
section
variable {Γ : FEnv} {a0 : PV} {f : List Slt → Prop} {Q : Post} {z : Nat} {x kd : Int} {c : Int}
/-- one figure -/
theorem rows6_turn {R : List (List Nat)} {x4 x5 : Slt} (I : RowsI R z) (hz : z < 30) (hx : 0 ≤ x) (hn : ∀ R x' s4 s5, 0 ≤ x' → RowsI R (z + 1) → f (rR a0 R (z + 1) (some (.int x', 0)) s4 s5)) (hb : ∀ R x' s4 s5, RowsI R (z + 1) → Q .next (rR a0 R (z + 1) (some (.int x', 0)) s4 s5)) :
    wp Γ msRows61b1b (rR a0 R z (some (.int x, 0)) x4 x5) (loopK f Q) := by
  obtain ⟨R0, r, rfl⟩ : ∃ R0 r, R = R0 ++ [r] := (last_cases R).elim (fun e => absurd e I.ne) id
  have hk := mod_range x (show (0 : Int) < 10 by decide)
  have hc := mod_range ((x.fmod 100000000).fdiv 10) (show (0 : Int) < 1112063 by decide)
  have hl : r.length ≤ z := I.short r (List.mem_append_right _ (.head _))
  have L : 65536 ≤ LST := by decide
  have fin : ∀ R', RowsI R' (z + 1) → ∀ K C : Int, wp Γ msRows61b1b_3 [some (a0, 0), some (nv R', 2), some (.int ((z : Int) + 1), 0), some (.int x, 0), some (.int K, 0), some (.int C, 0)] (loopK f Q) := fun R' I' K C => by
    refine ⟨⟨by decide, by decide⟩, boolP_of (fun _ => hb R' _ _ _ I') fun _ => hn R' _ _ _ ?_ I'⟩
    exact Int.fdiv_nonneg hx (by decide)
  refine ⟨by decide, by decide, ⟨by decide, by decide⟩, by decide, rfl, ?_⟩
  show wp Γ msRows61b1b_2 [some (a0, 0), some (nv (R0 ++ [r]), 2), some (.int ((z : Int) + 1), 0), some (.int x, 0), some (.int (x.fmod 10), 0), some (.int (((x.fmod 100000000).fdiv 10).fmod 1112063), 0)] (loopK f Q)
  revert hk hc
  generalize x.fmod 10 = K
  generalize ((x.fmod 100000000).fdiv 10).fmod 1112063 = C
  intro hk hc
  refine boolP_of (fun q => ?_) fun q => boolP_of (fun q2 => ?_) fun q2 => boolP_of (fun q3 => ?_) fun q3 => ?_
  · have hlen : (R0 ++ [r]).length < LST := by have := I.few; omega
    refine ⟨rfl, by rw [List.length_map]; exact hlen, ?_⟩
    have := fin (R0 ++ [r] ++ [[]]) (I.push (Nat.zero_le _) fun d hd => nomatch hd) K C
    have e2 : nv (R0 ++ [r] ++ [[]]) = .list ((R0 ++ [r]).map iv ++ [.list []]) := by
      unfold nv; rw [List.map_append]; rfl
    rw [e2] at this
    exact this
  · have h0 : K ≠ 0 := fun e => by rw [e] at q; exact nomatch q
    have h9 : K < 9 := of_decide_eq_true q2
    obtain ⟨d, hd, hm⟩ := idx_in (xs := [47, 46, 97, 47, 46, 98, 47, 46]) (i := K - 1) (by omega) (by show K - 1 < 8; omega)
    have hd2 : d < 1114112 := by
      have : ∀ d ∈ [47, 46, 97, 47, 46, 98, 47, 46], d < 1114112 := by decide
      exact this d hm
    exact rows_app (R := R0) (r := r) (d := d) (by omega) rfl (fun _ z => z) (fun K' k => ⟨rfl, d, hd, d, rfl, rfl, k⟩) (fin _ (I.last hd2) K C)
  · have h3 : C < 55295 := of_decide_eq_true q3
    obtain ⟨c, rfl⟩ := Int.eq_ofNat_of_zero_le hc.1
    exact rows_app (R := R0) (r := r) (d := c + 1) (by omega) rfl (fun _ z => z) (fun K' k => k) (fin _ (I.last (by omega)) K (c : Int))
  · obtain ⟨c, rfl⟩ := Int.eq_ofNat_of_zero_le hc.1
    exact rows_app (R := R0) (r := r) (d := c + 2049) (by omega) rfl (fun _ z => z) (fun K' k => k) (fin _ (I.last (by omega)) K (c : Int))
theorem rows6_while : ∀ {m z : Nat} {R : List (List Nat)} {x : Int} {x4 x5 : Slt}, z + m = 30 → RowsI R z → 0 ≤ x → (∀ R z x s4 s5, RowsI R z → z ≤ 30 → Q .next (rR a0 R z x s4 s5)) →
    whileP (fun ρ K => (evA Γ (.cmp .lt (.var 2) (.lit (.int 30))) (freeze (esc false (.cmp .lt (.var 2) (.lit (.int 30)))) ρ)).tru fun t => K t (freeze (esc false (.cmp .lt (.var 2) (.lit (.int 30)))) ρ)) (wp Γ msRows61b1b) (m + 1) (rR a0 R z (some (.int x, 0)) x4 x5) Q := by
  intro m
  induction m with
  | zero =>
    intro z R x x4 x5 hm I hx h
    refine boolP_of (fun q => ?_) fun _ => h R z _ _ _ I (by omega)
    have : (z : Int) < 30 := of_decide_eq_true q
    omega
  | succ m ih =>
    intro z R x x4 x5 hm I hx h
    exact boolP_of (fun _ => rows6_turn I (by omega) hx (fun R x' s4 s5 hx' I' => ih (z := z + 1) (by omega) I' hx' h) fun R x' s4 s5 I' => h R (z + 1) _ _ _ I' (by omega)) fun _ => h R z _ _ _ I (by omega)
theorem rows6_for (h : ∀ R z x s4 s5, RowsI R z → z ≤ 30 → Q .next (rR a0 R z x s4 s5)) : ∀ {ns : List Int} {z : Nat} {R : List (List Nat)} {s3 s4 s5 : Slt}, RowsI R z → z ≤ 30 →
    forP (wp Γ msRows61b) [3] (ns.map PV.int) (rR a0 R z s3 s4 s5) Q := by
  intro ns
  induction ns with
  | nil => exact fun {z R s3 s4 s5} I hz => h R z _ _ _ I hz
  | cons n ns ih =>
    intro z R s3 s4 s5 I hz
    refine ⟨30 - z + 1, rows6_while (by omega) I (x := if n < 0 then -n else n) (by split <;> omega) fun R z x s4 s5 I hz => ih I hz⟩
end
theorem rows6_run {Γ : FEnv} (xs : List PV) (Q : PV → Prop) (h : rowsF xs Q) : lenIs 1 xs (callP Γ 6 msRows6 xs Q) := by
  obtain ⟨ns, rfl, h⟩ := h
  refine ⟨rfl, rfl, rfl, rows6_for (a0 := .list (ns.map .int)) (fun R z x s4 s5 I hz => h R (I.more hz)) (R := [[]]) (z := 0) ⟨(fun e => nomatch e), Nat.le_refl _, fun r hr => List.mem_singleton.mp hr ▸ Nat.le_refl _, fun r hr => List.mem_singleton.mp hr ▸ fun c hc => nomatch hc⟩ (Nat.zero_le _)⟩
end Mine
end
noncomputable section
namespace Mine
open Builtin
open AutoSeq1 (wpAny_loadPart')
open MeetsSeq MeetsSeq2 MeetsSeq3 SeqRoads2
/-! the order of texts, and of lists of texts -/
theorem tlt_list (a : List Nat) : ∀ b, decide (a < b) = tlt a b := by
  induction a with
  | nil => intro b; cases b <;> rfl
  | cons x a ih =>
    intro b
    cases b with
    | nil => rfl
    | cons y b =>
      unfold tlt
      rw [← ih b]
      by_cases h1 : x < y
      · rw [if_pos h1]; exact decide_eq_true (List.cons_lt_cons_iff.mpr (.inl h1))
      · rw [if_neg h1]
        by_cases h2 : y < x
        · rw [if_pos h2]; exact decide_eq_false fun h => (List.cons_lt_cons_iff.mp h).elim (fun h => h1 h) fun h => absurd h2 (h.1 ▸ Nat.lt_irrefl _)
        · rw [if_neg h2]
          have e : x = y := Nat.le_antisymm (Nat.not_lt.mp h2) (Nat.not_lt.mp h1)
          subst e
          exact Bool.eq_iff_iff.mpr (decide_eq_true_iff.trans ((List.cons_lt_cons_iff.trans ⟨fun h => h.elim (fun h => absurd h h1) fun h => h.2, fun h => .inr ⟨rfl, h⟩⟩).trans decide_eq_true_iff.symm))
theorem tlt_bytes (a : List UInt8) : ∀ b, ((Bytes.order a b == .lt) = tlt (a.map UInt8.toNat) (b.map UInt8.toNat)) ∧ ((Bytes.order a b == .gt) = tlt (b.map UInt8.toNat) (a.map UInt8.toNat)) := by
  induction a with
  | nil => intro b; cases b <;> exact ⟨rfl, rfl⟩
  | cons x a ih =>
    intro b
    cases b with
    | nil => exact ⟨rfl, rfl⟩
    | cons y b =>
      simp only [Bytes.order, List.map_cons, tlt]
      have e1 : (x < y) = (x.toNat < y.toNat) := propext UInt8.lt_iff_toNat_lt
      have e2 : (x > y) = (y.toNat < x.toNat) := propext UInt8.lt_iff_toNat_lt
      simp only [e1, e2]
      by_cases h1 : x.toNat < y.toNat
      · rw [if_pos h1, if_pos h1, if_neg (Nat.lt_asymm h1), if_pos h1]; exact ⟨rfl, rfl⟩
      · rw [if_neg h1, if_neg h1]
        by_cases h2 : y.toNat < x.toNat
        · rw [if_pos h2, if_pos h2, if_pos h2]; exact ⟨rfl, rfl⟩
        · rw [if_neg h2, if_neg h2, if_neg h2, if_neg h1]; exact ih b
theorem slot_b_lt : Slot "bytes" (cmpInfo .Lt).2.1 "bytes.__lt__" :=
  .of (owner := "bytes") (n := "__lt__") (by rw [typeLookup_type, builtinLookup_eq_fast]; kernel_rfl) (by decide +kernel) (by decide +kernel) (by decide +kernel)
    (by first | exact .inl (by decide +kernel) | exact .inr (by decide +kernel)) (by rw [isSubtype_type]; kernel_rfl)
theorem entry_b_lt : entryFor table "bytes.__lt__" = some Builtin.«bytes.__lt__» := entryFor_of_tree (by kernel_rfl)
theorem args_b_lt (a b : Value) : argsOk "bytes.__lt__" ⟨[a, b], []⟩ := by
  unfold argsOk; rw [signature?_of (id := "bytes.__lt__") (n := ['_', '_', 't', 'l', '_', '_']) (o := ['s', 'e', 't', 'y', 'b']) (by kernel_rfl) FB.owner_bytes]; kernel_rfl
theorem slot_b_gt : Slot "bytes" (cmpInfo .Gt).2.1 "bytes.__gt__" :=
  .of (owner := "bytes") (n := "__gt__") (by rw [typeLookup_type, builtinLookup_eq_fast]; kernel_rfl) (by decide +kernel) (by decide +kernel) (by decide +kernel)
    (by first | exact .inl (by decide +kernel) | exact .inr (by decide +kernel)) (by rw [isSubtype_type]; kernel_rfl)
theorem entry_b_gt : entryFor table "bytes.__gt__" = some Builtin.«bytes.__gt__» := entryFor_of_tree (by kernel_rfl)
theorem args_b_gt (a b : Value) : argsOk "bytes.__gt__" ⟨[a, b], []⟩ := by
  unfold argsOk; rw [signature?_of (id := "bytes.__gt__") (n := ['_', '_', 't', 'g', '_', '_']) (o := ['s', 'e', 't', 'y', 'b']) (by kernel_rfl) FB.owner_bytes]; kernel_rfl
section
variable {W : Wld} {A : Around} {s : Shared} {v u : Value}
theorem lt_txt {k : Bool} {a b : List Nat} (hv : TxtIs v k a) (hu : TxtIs u k b) {prog : Program} {w : World} {E Q : Value → Shared → Prop} (q : Q (.bool (tlt a b)) s) : wpAny (model prog w) A (richCompare .Lt v u) Q E s := by
  cases hv with
  | str cs t =>
    cases hu with
    | str cs' t' => exact P.lt_str (by rw [← tlt_list] at q; exact q)
  | bytes bs t =>
    cases hu with
    | bytes bs' t' =>
      refine richCompare_gives (op := .Lt) (typeIs_bytes s _ t) (typeIs_bytes s _ t') slot_b_lt entry_b_lt (args_b_lt _ _) (m := .val (.bool (Bytes.order bs bs' == .lt))) (.of_wp fun M A E s Q hq => ?_) (fun e => nomatch e) (by rw [← (tlt_bytes bs bs').1] at q; exact q)
      show wpAny M A (isInstance (.bytes bs'.toArray t') (.type "bytes") >>= fun r => _) _ E s
      refine wpAny_bind (wpAny_isInstance (typeIs_bytes s _ t') F.sub_bytes_bytes ?_)
      exact wpAny_pure ⟨_, rfl, hq⟩
theorem gt_txt {k : Bool} {a b : List Nat} (hv : TxtIs v k a) (hu : TxtIs u k b) {prog : Program} {w : World} {E Q : Value → Shared → Prop} (q : Q (.bool (tlt b a)) s) : wpAny (model prog w) A (richCompare .Gt v u) Q E s := by
  cases hv with
  | str cs t =>
    cases hu with
    | str cs' t' => exact P.gt_str (by rw [← tlt_list] at q; exact q)
  | bytes bs t =>
    cases hu with
    | bytes bs' t' =>
      refine richCompare_gives (op := .Gt) (typeIs_bytes s _ t) (typeIs_bytes s _ t') slot_b_gt entry_b_gt (args_b_gt _ _) (m := .val (.bool (Bytes.order bs bs' == .gt))) (.of_wp fun M A E s Q hq => ?_) (fun e => nomatch e) (by rw [← (tlt_bytes bs bs').2] at q; exact q)
      show wpAny M A (isInstance (.bytes bs'.toArray t') (.type "bytes") >>= fun r => _) _ E s
      refine wpAny_bind (wpAny_isInstance (typeIs_bytes s _ t') F.sub_bytes_bytes ?_)
      exact wpAny_pure ⟨_, rfl, hq⟩
/-- the texts of a list's items -/
def TxtAll (vs : Array Value) (k : Bool) (as : List (List Nat)) : Prop := vs.size = as.length ∧ ∀ i (h : i < vs.size) a, as[i]? = some a → TxtIs vs[i] k a
theorem lt_loop (l b : Addr) (items items2 : Array Value) (n n2 : Nat) (dd dd2 : Option Addr) (sl sl2 : Array (Option Value)) {k : Bool} {as bs : List (List Nat)} (ha : TxtAll items k as) (hb : TxtAll items2 k bs) (m : Nat) :
    ∀ i : Nat, as.length - i = m → i ≤ as.length → i ≤ bs.length → Meets (Builtin.«list.__eq__.loop» ⟨[.ref l, .ref b, rawInt i, rawInt 0], []⟩)
      (fun A R s => s.heap.get? l = some { cls := .type "list", dict := dd, data := .seq items n, slots := sl } ∧ s.heap.get? b = some { cls := .type "list", dict := dd2, data := .seq items2 n2, slots := sl2 } ∧
        R (.ok (.ret (.bool (rlt (as.drop i) (bs.drop i))))) s) := by
  induction m with
  | zero =>
    intro i hk hi hj prog w A R s h
    obtain ⟨hp, g, d, tk, os⟩ := s; obtain ⟨hl, hb0, h⟩ := h
    wp_walk using wpAny_loadPart' hl, wpAny_loadPart' hb0
    have e : i = as.length := Nat.le_antisymm hi (Nat.le_of_sub_eq_zero hk)
    have hi1 : items[((i : Nat) : Int).toNat]? = none := by rw [Int.toNat_natCast]; exact Array.getElem?_eq_none (ha.1 ▸ Nat.le_of_eq e.symm)
    rw [hi1]
    wp_walk using wpAny_loadPart' hl, wpAny_loadPart' hb0
    show R (.ok (.ret (.bool (decide (items.size < items2.size))))) _
    rw [e, List.drop_length] at h
    rw [ha.1, hb.1]
    rw [e] at hj
    cases hd : bs.drop as.length with
    | nil =>
      have := List.drop_eq_nil_iff.mp hd
      rw [hd] at h
      have e2 : bs.length = as.length := Nat.le_antisymm this hj
      rw [e2, decide_eq_false (Nat.lt_irrefl _)]
      exact h
    | cons x xs =>
      have : as.length < bs.length := Nat.lt_of_not_le fun h => nomatch hd.symm.trans (List.drop_eq_nil_iff.mpr h)
      rw [hd] at h
      rw [decide_eq_true this]
      exact h
  | succ m ih =>
    intro i hk hi hj prog w A R s h
    obtain ⟨hp, g, d, tk, os⟩ := s; obtain ⟨hl, hb0, h⟩ := h
    have hlt : i < as.length := Nat.lt_of_sub_pos (hk ▸ Nat.succ_pos m)
    have hlt1 : i < items.size := ha.1 ▸ hlt
    have hi1 : items[((i : Nat) : Int).toNat]? = some items[i] := by rw [Int.toNat_natCast]; exact Array.getElem?_eq_getElem hlt1
    wp_walk using wpAny_loadPart' hl, wpAny_loadPart' hb0
    by_cases hlt2 : i < bs.length
    · have hlt3 : i < items2.size := hb.1 ▸ hlt2
      have hi2 : items2[((i : Nat) : Int).toNat]? = some items2[i] := by rw [Int.toNat_natCast]; exact Array.getElem?_eq_getElem hlt3
      have ta := ha.2 i hlt1 _ (List.getElem?_eq_getElem hlt)
      have tb := hb.2 i hlt3 _ (List.getElem?_eq_getElem hlt2)
      have hc : ((i : Int) + 1) = ((i + 1 : Nat) : Int) := rfl
      rw [List.drop_eq_getElem_cons hlt, List.drop_eq_getElem_cons hlt2] at h
      rw [hi1, hi2]
      refine wpAny_bind ((eq_txt ta tb).2 prog w _ _ ?_)
      cases hq : as[i] == bs[i] with
      | true =>
        unfold rlt at h
        rw [if_pos (beq_iff_eq.mp hq)] at h
        wp_walk
        rw [hc]
        exact ⟨plainId_quiet plain_eq_loop _, codeAny_builtin entry_eq_loop (by
          rw [Around.under_plainId plain_eq_loop _]
          exact ih (i + 1) (by rw [Nat.sub_succ, hk]; rfl) hlt hlt2 prog w A R _ ⟨hl, hb0, h⟩)⟩
      | false =>
        unfold rlt at h
        rw [if_neg (beq_eq_false_iff_ne.mp hq)] at h
        wp_walk using wpAny_loadPart' hl, wpAny_loadPart' hb0
        rw [hi1, hi2]
        show wpAny _ _ (richCompare .Lt items[i] items2[i] >>= _) _ _ _
        exact wpAny_bind (lt_txt ta tb (wpAny_pure h))
    · have e : i = bs.length := Nat.le_antisymm hj (Nat.not_lt.mp hlt2)
      have hi2 : items2[((i : Nat) : Int).toNat]? = none := by rw [Int.toNat_natCast]; exact Array.getElem?_eq_none (hb.1 ▸ Nat.le_of_eq e.symm)
      rw [hi1, hi2]
      wp_walk using wpAny_loadPart' hl, wpAny_loadPart' hb0
      show R (.ok (.ret (.bool (decide (items.size < items2.size))))) _
      have hdb : bs.drop i = [] := e ▸ List.drop_length
      rw [List.drop_eq_getElem_cons hlt, hdb] at h
      rw [ha.1, hb.1]
      rw [decide_eq_false (by rw [← e]; exact Nat.lt_asymm hlt)]
      exact h
theorem gt_loop (l b : Addr) (items items2 : Array Value) (n n2 : Nat) (dd dd2 : Option Addr) (sl sl2 : Array (Option Value)) {k : Bool} {as bs : List (List Nat)} (ha : TxtAll items k as) (hb : TxtAll items2 k bs) (m : Nat) :
    ∀ i : Nat, as.length - i = m → i ≤ as.length → i ≤ bs.length → Meets (Builtin.«list.__eq__.loop» ⟨[.ref l, .ref b, rawInt i, rawInt 4], []⟩)
      (fun A R s => s.heap.get? l = some { cls := .type "list", dict := dd, data := .seq items n, slots := sl } ∧ s.heap.get? b = some { cls := .type "list", dict := dd2, data := .seq items2 n2, slots := sl2 } ∧
        R (.ok (.ret (.bool (rlt (bs.drop i) (as.drop i))))) s) := by
  induction m with
  | zero =>
    intro i hk hi hj prog w A R s h
    obtain ⟨hp, g, d, tk, os⟩ := s; obtain ⟨hl, hb0, h⟩ := h
    wp_walk using wpAny_loadPart' hl, wpAny_loadPart' hb0
    have e : i = as.length := Nat.le_antisymm hi (Nat.le_of_sub_eq_zero hk)
    have hi1 : items[((i : Nat) : Int).toNat]? = none := by rw [Int.toNat_natCast]; exact Array.getElem?_eq_none (ha.1 ▸ Nat.le_of_eq e.symm)
    rw [hi1]
    wp_walk using wpAny_loadPart' hl, wpAny_loadPart' hb0
    show R (.ok (.ret (.bool (decide (items2.size < items.size))))) _
    rw [e, List.drop_length] at h
    rw [ha.1, hb.1]
    rw [e] at hj
    cases hd : bs.drop as.length with
    | nil =>
      have := List.drop_eq_nil_iff.mp hd
      rw [hd] at h
      have e2 : bs.length = as.length := Nat.le_antisymm this hj
      rw [e2, decide_eq_false (Nat.lt_irrefl _)]
      exact h
    | cons x xs =>
      have : as.length < bs.length := Nat.lt_of_not_le fun h => nomatch hd.symm.trans (List.drop_eq_nil_iff.mpr h)
      rw [hd] at h
      rw [decide_eq_false (Nat.lt_asymm this)]
      exact h
  | succ m ih =>
    intro i hk hi hj prog w A R s h
    obtain ⟨hp, g, d, tk, os⟩ := s; obtain ⟨hl, hb0, h⟩ := h
    have hlt : i < as.length := Nat.lt_of_sub_pos (hk ▸ Nat.succ_pos m)
    have hlt1 : i < items.size := ha.1 ▸ hlt
    have hi1 : items[((i : Nat) : Int).toNat]? = some items[i] := by rw [Int.toNat_natCast]; exact Array.getElem?_eq_getElem hlt1
    wp_walk using wpAny_loadPart' hl, wpAny_loadPart' hb0
    by_cases hlt2 : i < bs.length
    · have hlt3 : i < items2.size := hb.1 ▸ hlt2
      have hi2 : items2[((i : Nat) : Int).toNat]? = some items2[i] := by rw [Int.toNat_natCast]; exact Array.getElem?_eq_getElem hlt3
      have ta := ha.2 i hlt1 _ (List.getElem?_eq_getElem hlt)
      have tb := hb.2 i hlt3 _ (List.getElem?_eq_getElem hlt2)
      have hc : ((i : Int) + 1) = ((i + 1 : Nat) : Int) := rfl
      rw [List.drop_eq_getElem_cons hlt, List.drop_eq_getElem_cons hlt2] at h
      rw [hi1, hi2]
      refine wpAny_bind ((eq_txt ta tb).2 prog w _ _ ?_)
      cases hq : as[i] == bs[i] with
      | true =>
        unfold rlt at h
        rw [if_pos ((beq_iff_eq.mp hq).symm)] at h
        wp_walk
        rw [hc]
        exact ⟨plainId_quiet plain_eq_loop _, codeAny_builtin entry_eq_loop (by
          rw [Around.under_plainId plain_eq_loop _]
          exact ih (i + 1) (by rw [Nat.sub_succ, hk]; rfl) hlt hlt2 prog w A R _ ⟨hl, hb0, h⟩)⟩
      | false =>
        unfold rlt at h
        rw [if_neg (Ne.symm (beq_eq_false_iff_ne.mp hq))] at h
        wp_walk using wpAny_loadPart' hl, wpAny_loadPart' hb0
        rw [hi1, hi2]
        show wpAny _ _ (richCompare .Gt items[i] items2[i] >>= _) _ _ _
        exact wpAny_bind (gt_txt ta tb (wpAny_pure h))
    · have e : i = bs.length := Nat.le_antisymm hj (Nat.not_lt.mp hlt2)
      have hi2 : items2[((i : Nat) : Int).toNat]? = none := by rw [Int.toNat_natCast]; exact Array.getElem?_eq_none (hb.1 ▸ Nat.le_of_eq e.symm)
      rw [hi1, hi2]
      wp_walk using wpAny_loadPart' hl, wpAny_loadPart' hb0
      show R (.ok (.ret (.bool (decide (items2.size < items.size))))) _
      have hdb : bs.drop i = [] := e ▸ List.drop_length
      rw [List.drop_eq_getElem_cons hlt, hdb] at h
      rw [ha.1, hb.1]
      rw [decide_eq_true (by rw [← e]; exact hlt)]
      exact h
end
end Mine
end
noncomputable section
namespace Mine
open Builtin
open AutoSeq1 (wpAny_loadPart')
open MeetsSeq MeetsSeq2 MeetsSeq3 SeqRoads2
section
variable {W : Wld} {A : Around} {s : Shared} {v u : Value} {Ok Ok' : Addr → Prop}
theorem lt_list (l b : Addr) (items items2 : Array Value) (n n2 : Nat) (dd dd2 : Option Addr) (sl sl2 : Array (Option Value)) {k : Bool} {as bs : List (List Nat)} (ha : TxtAll items k as) (hb : TxtAll items2 k bs) :
    Meets (Builtin.«list.__lt__» ⟨[.ref l, .ref b], []⟩)
      (fun A R s => s.heap.get? l = some { cls := .type "list", dict := dd, data := .seq items n, slots := sl } ∧ s.heap.get? b = some { cls := .type "list", dict := dd2, data := .seq items2 n2, slots := sl2 } ∧
        R (.ok (.ret (.bool (rlt as bs)))) s) := by
  intro prog w A R s h
  obtain ⟨hp, g, d, tk, os⟩ := s; obtain ⟨hl, hb0, h⟩ := h
  have f3 := AutoSeq1.sub_list_list
  wp_walk using wpAny_loadPart' hl, wpAny_loadPart' hb0
  exact ⟨plainId_quiet plain_eq_loop _, codeAny_builtin entry_eq_loop (by
    rw [Around.under_plainId plain_eq_loop _]
    exact lt_loop l b items items2 n n2 dd dd2 sl sl2 ha hb _ 0 rfl (Nat.zero_le _) (Nat.zero_le _) prog w A R _ ⟨hl, hb0, h⟩)⟩
theorem gt_list (l b : Addr) (items items2 : Array Value) (n n2 : Nat) (dd dd2 : Option Addr) (sl sl2 : Array (Option Value)) {k : Bool} {as bs : List (List Nat)} (ha : TxtAll items k as) (hb : TxtAll items2 k bs) :
    Meets (Builtin.«list.__gt__» ⟨[.ref l, .ref b], []⟩)
      (fun A R s => s.heap.get? l = some { cls := .type "list", dict := dd, data := .seq items n, slots := sl } ∧ s.heap.get? b = some { cls := .type "list", dict := dd2, data := .seq items2 n2, slots := sl2 } ∧
        R (.ok (.ret (.bool (rlt bs as)))) s) := by
  intro prog w A R s h
  obtain ⟨hp, g, d, tk, os⟩ := s; obtain ⟨hl, hb0, h⟩ := h
  have f3 := AutoSeq1.sub_list_list
  wp_walk using wpAny_loadPart' hl, wpAny_loadPart' hb0
  exact ⟨plainId_quiet plain_eq_loop _, codeAny_builtin entry_eq_loop (by
    rw [Around.under_plainId plain_eq_loop _]
    exact gt_loop l b items items2 n n2 dd dd2 sl sl2 ha hb _ 0 rfl (Nat.zero_le _) (Nat.zero_le _) prog w A R _ ⟨hl, hb0, h⟩)⟩
/-- the texts of a list that stands -/
theorem row_inv {h : Heap} {k : Bool} {as : List (List Nat)} (r : Rep h Ok v (rowV k as)) : ∃ (a : Addr) (vs : List Value), v = .ref a ∧ h.PlainList a vs.toArray ∧ TxtAll vs.toArray k as := by
  obtain ⟨a, vs, rfl, o, l, r⟩ := r.inv
  have hl : vs.length = as.length := r.length.trans (List.length_map _)
  refine ⟨a, vs, rfl, l, hl, fun i hi x hx => ?_⟩
  exact (r.at (List.getElem?_eq_getElem hi) (by rw [List.getElem?_map, hx]; rfl)).inv
theorem rc_lt_row {k : Bool} {as bs : List (List Nat)} (hA : A.units < cLine) (hv : Rep s.heap Ok v (rowV k as)) (hu : Rep s.heap Ok' u (rowV k bs)) {prog : Program} {w : World} {E Q : Value → Shared → Prop} (q : Q (.bool (rlt as bs)) s) : wpAny (model prog w) A (richCompare .Lt v u) Q E s := by
  obtain ⟨a, vs, rfl, ⟨n, l⟩, ta⟩ := row_inv hv
  obtain ⟨b, ws, rfl, ⟨m, l'⟩, tb⟩ := row_inv hu
  exact richCompare_meets_room (op := .Lt) ⟨_, l, rfl⟩ ⟨_, l', rfl⟩ F.slot_list_lt F.entry_list_lt (F.args_list_lt_2 _ _) (lt_list a b _ _ n m _ _ _ _ ta tb)
    ⟨l, l', show Value.bool (rlt as bs) ≠ Value.notImplemented ∧ Q (.bool (rlt as bs)) s from ⟨(fun x => nomatch x), q⟩⟩ hA
theorem rc_gt_row {k : Bool} {as bs : List (List Nat)} (hA : A.units < cLine) (hv : Rep s.heap Ok v (rowV k as)) (hu : Rep s.heap Ok' u (rowV k bs)) {prog : Program} {w : World} {E Q : Value → Shared → Prop} (q : Q (.bool (rlt bs as)) s) : wpAny (model prog w) A (richCompare .Gt v u) Q E s := by
  obtain ⟨a, vs, rfl, ⟨n, l⟩, ta⟩ := row_inv hv
  obtain ⟨b, ws, rfl, ⟨m, l'⟩, tb⟩ := row_inv hu
  exact richCompare_meets_room (op := .Gt) ⟨_, l, rfl⟩ ⟨_, l', rfl⟩ F.slot_list_gt F.entry_list_gt (F.args_list_gt_2 _ _) (gt_list a b _ _ n m _ _ _ _ ta tb)
    ⟨l, l', show Value.bool (rlt bs as) ≠ Value.notImplemented ∧ Q (.bool (rlt bs as)) s from ⟨(fun x => nomatch x), q⟩⟩ hA
end
end Mine
end
set_option maxRecDepth 100000
noncomputable section
namespace Mine
open Builtin
/-! min and max over what stands -/
/-- what is better, at any state that keeps the first one's heap -/
def CmpK (prog : Program) (w : World) (A : Around) (op : CmpOp) (h0 : Heap) (wr : List Addr) (P : Nat → Value → Prop) (bt : Nat → Nat → Bool) : Prop :=
  ∀ i j vi vj (s : Shared) (Q : Value → Shared → Prop) (E : Value → Shared → Prop), (∀ b o, b ∉ wr → h0.get? b = some o → s.heap.get? b = some o) → P i vi → P j vj → Q (.bool (bt i j)) s → wpAny (model prog w) A (richCompare op vi vj) Q E s
section
variable {prog : Program} {w : World} {A : Around} {R : Result → Shared → Prop} {I : Addr} {fp wr : List Addr} {n : Nat} {P : Nat → Value → Prop} {St : Nat → Heap → Prop}
theorem min_loop (W : Walks prog w A.in1 I fp wr n P St) (bt : Nat → Nat → Bool) (h0 : Heap) (hcmp : CmpK prog w A.in1 .Lt h0 wr P bt) (S : Addr) (hSf : S ∉ fp) (hS0 : h0.get? S = none) :
    ∀ (k j : Nat) (s : Shared) (vb : Value) (c : Nat), n - (j + 1) = k → j + 1 ≤ n → St (j + 1) s.heap → P (argBest bt j) vb → (∀ b o, b ∉ wr → h0.get? b = some o → s.heap.get? b = some o) →
    s.heap.get? S = some { cls := .type "list", dict := none, data := .seq #[vb, vb] c, slots := #[] } →
    (∀ v h' tk, P (argBest bt (n - 1)) v → (∀ b o, b ∉ wr → h0.get? b = some o → h'.get? b = some o) → R (.ok (.ret v)) { s with heap := h', toks := tk }) →
    codeAny (model prog w) A (.builtin "min.loop" ⟨[.ref I, .none, .ref S], []⟩) R s := by
  have hSw : S ∉ wr := fun h => hSf (W.sub _ h)
  have hname : (toString "min" ++ toString ".loop" : String) = "min.loop" := by decide
  have hup : ∀ {h : Heap} {f : Obj → Obj}, (∀ b o, b ∉ wr → h0.get? b = some o → h.get? b = some o) → ∀ b o, b ∉ wr → h0.get? b = some o → (h.update S f).get? b = some o := fun hk b o hb e => (Heap.get?_update_other _ _ (fun q : S = b => nomatch (q ▸ hS0).symm.trans e)).trans (hk b o hb e)
  intro k
  induction k with
  | zero =>
    intro j s vb c hk hj hst hPb hk0 hS hR
    have hin : j + 1 = n := Nat.le_antisymm hj (Nat.le_of_sub_eq_zero hk)
    refine codeAny_builtin F.entry_min_loop ?_
    rw [Around.under_plainId F.plain_min_loop _]
    show wpAny _ A.in1 (seqItems? (.ref S) >>= _) _ _ s
    refine wpAny_bind (wpAny_seqItems hS rfl ?_)
    show wpAny _ A.in1 (tryCatch (pyNext (.ref I)) _ >>= _) _ _ s
    refine wpAny_bind (wpAny_tryCatch (W.done s _ _ (hin ▸ hst) fun h' tk hk' => ?_))
    have hS' := hk' S _ hSw hS
    show wpAny _ A.in1 (updateSeq S (fun _ => #[]) >>= _) _ _ _
    refine wpAny_bind ?_
    refine wpAny_updateSeq hS' rfl (wpAny_bind (wpAny_letGo (wpAny_pure ?_)))
    exact hR vb _ tk (by rw [← hin]; exact hPb) (hup fun b o hb e => hk' b o hb (hk0 b o hb e))
  | succ k ih =>
    intro j s vb c hk hj hst hPb hk0 hS hR
    have hlt : j + 1 < n := Nat.lt_of_sub_pos (hk ▸ Nat.succ_pos k)
    refine codeAny_builtin F.entry_min_loop ?_
    rw [Around.under_plainId F.plain_min_loop _]
    show wpAny _ A.in1 (seqItems? (.ref S) >>= _) _ _ s
    refine wpAny_bind (wpAny_seqItems hS rfl ?_)
    show wpAny _ A.in1 (tryCatch (pyNext (.ref I)) _ >>= _) _ _ s
    refine wpAny_bind (wpAny_tryCatch (W.item (j + 1) s _ _ hlt hst fun v h' tk hP hst' hk' => ?_))
    have hS' := hk' S _ hSw hS
    have hk2 : ∀ b o, b ∉ wr → h0.get? b = some o → h'.get? b = some o := fun b o hb e => hk' b o hb (hk0 b o hb e)
    show wpAny _ A.in1 (tryCatch (holding [v, v] (richCompare .Lt v vb >>= _)) _ >>= _) _ _ _
    refine wpAny_bind (wpAny_tryCatch (wpAny_holding (wpAny_bind (hcmp (j + 1) (argBest bt j) v vb _ _ _ hk2 hP hPb ?_))))
    refine wpAny_bind (wpAny_holding (wpAny_truthy_bool ?_))
    refine wpAny_bind (wpAny_letGo (wpAny_pure ?_))
    cases hb : bt (j + 1) (argBest bt j) with
    | true =>
      rw [if_pos rfl]
      refine wpAny_bind ?_
      refine wpAny_updateSeq hS' rfl (wpAny_bind (wpAny_letGo ?_))
      rw [hname]
      exact wpAny_pure ⟨plainId_quiet F.plain_min_loop _, ih (j + 1) _ v _ (by rw [Nat.sub_succ, hk]; rfl) hlt (W.frame _ _ _ hst' fun b hbf o e => (Heap.get?_update_other _ _ (fun h : S = b => hSf (h ▸ hbf))).trans e) (by unfold argBest; rw [hb]; exact hP) (hup hk2) (Heap.get?_update_self _ hS' rfl) hR⟩
    | false =>
      rw [if_neg (fun e => nomatch e)]
      refine wpAny_bind (wpAny_letGo ?_)
      rw [hname]
      exact wpAny_pure ⟨plainId_quiet F.plain_min_loop _, ih (j + 1) _ vb c (by rw [Nat.sub_succ, hk]; rfl) hlt hst' (by unfold argBest; rw [hb]; exact hPb) hk2 hS' hR⟩
theorem min_call {E : Value → Shared → Prop} {s : Shared} {x : Value} {Q : Value → Shared → Prop}
    (h : wpAny (model prog w) A.in1 (pyIter x) (fun it s₂ => ∃ I fp wr n P St bt, it = .ref I ∧ Walks prog w A.in1 I fp wr n P St ∧ St 0 s₂.heap ∧ (∀ b ∈ fp, b < s₂.heap.objs.size) ∧ 0 < n ∧ CmpK prog w A.in1 .Lt s₂.heap wr P bt ∧
      ∀ v h' tk, P (argBest bt (n - 1)) v → (∀ b o, b ∉ wr → s₂.heap.get? b = some o → h'.get? b = some o) → Q v { s₂ with heap := h', toks := tk }) E s) :
    wpAny (model prog w) A (call (.builtin "min") [x]) Q E s := by
  have hname : (toString "min" ++ toString ".loop" : String) = "min.loop" := by decide
  refine call_function_tree F.kind_min F.plain_min F.entry_min (F.args_min1 _) ?_
  show wpAny _ A.in1 (Builtin.Builtins.bindParams "min" ["key", "default"] 0 ⟨[], []⟩ >>= _) _ _ s
  refine wpAny_bind (wpAny_of_eq (show Builtin.Builtins.bindParams "min" ["key", "default"] 0 ⟨[], []⟩ = pure [none, none] from rfl) ?_)
  refine wpAny_bind (wpAny_pure ?_)
  refine wpAny_bind (wpAny_mono h (fun it s₂ h₂ => ?_) fun _ _ e => e)
  obtain ⟨I, fp, wr, n, P, St, bt, rfl, W, hst, hfp, hn, hcmp, hQ⟩ := h₂
  refine wpAny_bind (wpAny_newObj_type ?_)
  have hSf : s₂.heap.objs.size ∉ fp := fun hm => Nat.lt_irrefl _ (hfp _ hm)
  have hSw : s₂.heap.objs.size ∉ wr := fun h => hSf (W.sub _ h)
  have hS0 : s₂.heap.get? s₂.heap.objs.size = none := get_size _
  rw [hname]
  refine wpAny_pure ⟨plainId_quiet F.plain_min_loop _, ?_⟩
  refine codeAny_builtin F.entry_min_loop ?_
  rw [Around.under_plainId F.plain_min_loop _]
  have hS : (s₂.heap.push { cls := .type "list", dict := none, data := .seq #[] 0, slots := #[] }).get? s₂.heap.objs.size = some _ := Heap.get?_push_size _ rfl
  show wpAny _ A.in1 (seqItems? (.ref s₂.heap.objs.size) >>= _) _ _ _
  refine wpAny_bind (wpAny_seqItems hS rfl ?_)
  show wpAny _ A.in1 (tryCatch (pyNext (.ref I)) _ >>= _) _ _ _
  refine wpAny_bind (wpAny_tryCatch (W.item 0 _ _ _ hn (W.frame _ _ _ hst fun b _ o e => Heap.get?_push_of_some _ e) fun v h' tk hP hst' hk' => ?_))
  have hS' := hk' _ _ hSw hS
  show wpAny _ A.in1 (updateSeq s₂.heap.objs.size (fun _ => #[v, v]) >>= _) _ _ _
  refine wpAny_bind ?_
  refine wpAny_updateSeq hS' rfl ?_
  rw [hname]
  exact wpAny_pure ⟨plainId_quiet F.plain_min_loop _, min_loop W bt s₂.heap hcmp _ hSf hS0 _ 0 _ v _ rfl hn (W.frame _ _ _ hst' fun b hbf o e => (Heap.get?_update_other _ _ (fun h : s₂.heap.objs.size = b => hSf (h ▸ hbf))).trans e) hP
    (fun b o hb e => (Heap.get?_update_other _ _ (fun q : s₂.heap.objs.size = b => nomatch (q ▸ hS0).symm.trans e)).trans (hk' b o hb (Heap.get?_push_of_some _ e))) (Heap.get?_update_self _ hS' rfl) hQ⟩
end
section
variable {prog : Program} {w : World} {A : Around} {R : Result → Shared → Prop} {I : Addr} {fp wr : List Addr} {n : Nat} {P : Nat → Value → Prop} {St : Nat → Heap → Prop}
theorem max_loop (W : Walks prog w A.in1 I fp wr n P St) (bt : Nat → Nat → Bool) (h0 : Heap) (hcmp : CmpK prog w A.in1 .Gt h0 wr P bt) (S : Addr) (hSf : S ∉ fp) (hS0 : h0.get? S = none) :
    ∀ (k j : Nat) (s : Shared) (vb : Value) (c : Nat), n - (j + 1) = k → j + 1 ≤ n → St (j + 1) s.heap → P (argBest bt j) vb → (∀ b o, b ∉ wr → h0.get? b = some o → s.heap.get? b = some o) →
    s.heap.get? S = some { cls := .type "list", dict := none, data := .seq #[vb, vb] c, slots := #[] } →
    (∀ v h' tk, P (argBest bt (n - 1)) v → (∀ b o, b ∉ wr → h0.get? b = some o → h'.get? b = some o) → R (.ok (.ret v)) { s with heap := h', toks := tk }) →
    codeAny (model prog w) A (.builtin "max.loop" ⟨[.ref I, .none, .ref S], []⟩) R s := by
  have hSw : S ∉ wr := fun h => hSf (W.sub _ h)
  have hname : (toString "max" ++ toString ".loop" : String) = "max.loop" := by decide
  have hup : ∀ {h : Heap} {f : Obj → Obj}, (∀ b o, b ∉ wr → h0.get? b = some o → h.get? b = some o) → ∀ b o, b ∉ wr → h0.get? b = some o → (h.update S f).get? b = some o := fun hk b o hb e => (Heap.get?_update_other _ _ (fun q : S = b => nomatch (q ▸ hS0).symm.trans e)).trans (hk b o hb e)
  intro k
  induction k with
  | zero =>
    intro j s vb c hk hj hst hPb hk0 hS hR
    have hin : j + 1 = n := Nat.le_antisymm hj (Nat.le_of_sub_eq_zero hk)
    refine codeAny_builtin F.entry_max_loop ?_
    rw [Around.under_plainId F.plain_max_loop _]
    show wpAny _ A.in1 (seqItems? (.ref S) >>= _) _ _ s
    refine wpAny_bind (wpAny_seqItems hS rfl ?_)
    show wpAny _ A.in1 (tryCatch (pyNext (.ref I)) _ >>= _) _ _ s
    refine wpAny_bind (wpAny_tryCatch (W.done s _ _ (hin ▸ hst) fun h' tk hk' => ?_))
    have hS' := hk' S _ hSw hS
    show wpAny _ A.in1 (updateSeq S (fun _ => #[]) >>= _) _ _ _
    refine wpAny_bind ?_
    refine wpAny_updateSeq hS' rfl (wpAny_bind (wpAny_letGo (wpAny_pure ?_)))
    exact hR vb _ tk (by rw [← hin]; exact hPb) (hup fun b o hb e => hk' b o hb (hk0 b o hb e))
  | succ k ih =>
    intro j s vb c hk hj hst hPb hk0 hS hR
    have hlt : j + 1 < n := Nat.lt_of_sub_pos (hk ▸ Nat.succ_pos k)
    refine codeAny_builtin F.entry_max_loop ?_
    rw [Around.under_plainId F.plain_max_loop _]
    show wpAny _ A.in1 (seqItems? (.ref S) >>= _) _ _ s
    refine wpAny_bind (wpAny_seqItems hS rfl ?_)
    show wpAny _ A.in1 (tryCatch (pyNext (.ref I)) _ >>= _) _ _ s
    refine wpAny_bind (wpAny_tryCatch (W.item (j + 1) s _ _ hlt hst fun v h' tk hP hst' hk' => ?_))
    have hS' := hk' S _ hSw hS
    have hk2 : ∀ b o, b ∉ wr → h0.get? b = some o → h'.get? b = some o := fun b o hb e => hk' b o hb (hk0 b o hb e)
    show wpAny _ A.in1 (tryCatch (holding [v, v] (richCompare .Gt v vb >>= _)) _ >>= _) _ _ _
    refine wpAny_bind (wpAny_tryCatch (wpAny_holding (wpAny_bind (hcmp (j + 1) (argBest bt j) v vb _ _ _ hk2 hP hPb ?_))))
    refine wpAny_bind (wpAny_holding (wpAny_truthy_bool ?_))
    refine wpAny_bind (wpAny_letGo (wpAny_pure ?_))
    cases hb : bt (j + 1) (argBest bt j) with
    | true =>
      rw [if_pos rfl]
      refine wpAny_bind ?_
      refine wpAny_updateSeq hS' rfl (wpAny_bind (wpAny_letGo ?_))
      rw [hname]
      exact wpAny_pure ⟨plainId_quiet F.plain_max_loop _, ih (j + 1) _ v _ (by rw [Nat.sub_succ, hk]; rfl) hlt (W.frame _ _ _ hst' fun b hbf o e => (Heap.get?_update_other _ _ (fun h : S = b => hSf (h ▸ hbf))).trans e) (by unfold argBest; rw [hb]; exact hP) (hup hk2) (Heap.get?_update_self _ hS' rfl) hR⟩
    | false =>
      rw [if_neg (fun e => nomatch e)]
      refine wpAny_bind (wpAny_letGo ?_)
      rw [hname]
      exact wpAny_pure ⟨plainId_quiet F.plain_max_loop _, ih (j + 1) _ vb c (by rw [Nat.sub_succ, hk]; rfl) hlt hst' (by unfold argBest; rw [hb]; exact hPb) hk2 hS' hR⟩
theorem max_call {E : Value → Shared → Prop} {s : Shared} {x : Value} {Q : Value → Shared → Prop}
    (h : wpAny (model prog w) A.in1 (pyIter x) (fun it s₂ => ∃ I fp wr n P St bt, it = .ref I ∧ Walks prog w A.in1 I fp wr n P St ∧ St 0 s₂.heap ∧ (∀ b ∈ fp, b < s₂.heap.objs.size) ∧ 0 < n ∧ CmpK prog w A.in1 .Gt s₂.heap wr P bt ∧
      ∀ v h' tk, P (argBest bt (n - 1)) v → (∀ b o, b ∉ wr → s₂.heap.get? b = some o → h'.get? b = some o) → Q v { s₂ with heap := h', toks := tk }) E s) :
    wpAny (model prog w) A (call (.builtin "max") [x]) Q E s := by
  have hname : (toString "max" ++ toString ".loop" : String) = "max.loop" := by decide
  refine call_function_tree F.kind_max F.plain_max F.entry_max (F.args_max1 _) ?_
  show wpAny _ A.in1 (Builtin.Builtins.bindParams "max" ["key", "default"] 0 ⟨[], []⟩ >>= _) _ _ s
  refine wpAny_bind (wpAny_of_eq (show Builtin.Builtins.bindParams "max" ["key", "default"] 0 ⟨[], []⟩ = pure [none, none] from rfl) ?_)
  refine wpAny_bind (wpAny_pure ?_)
  refine wpAny_bind (wpAny_mono h (fun it s₂ h₂ => ?_) fun _ _ e => e)
  obtain ⟨I, fp, wr, n, P, St, bt, rfl, W, hst, hfp, hn, hcmp, hQ⟩ := h₂
  refine wpAny_bind (wpAny_newObj_type ?_)
  have hSf : s₂.heap.objs.size ∉ fp := fun hm => Nat.lt_irrefl _ (hfp _ hm)
  have hSw : s₂.heap.objs.size ∉ wr := fun h => hSf (W.sub _ h)
  have hS0 : s₂.heap.get? s₂.heap.objs.size = none := get_size _
  rw [hname]
  refine wpAny_pure ⟨plainId_quiet F.plain_max_loop _, ?_⟩
  refine codeAny_builtin F.entry_max_loop ?_
  rw [Around.under_plainId F.plain_max_loop _]
  have hS : (s₂.heap.push { cls := .type "list", dict := none, data := .seq #[] 0, slots := #[] }).get? s₂.heap.objs.size = some _ := Heap.get?_push_size _ rfl
  show wpAny _ A.in1 (seqItems? (.ref s₂.heap.objs.size) >>= _) _ _ _
  refine wpAny_bind (wpAny_seqItems hS rfl ?_)
  show wpAny _ A.in1 (tryCatch (pyNext (.ref I)) _ >>= _) _ _ _
  refine wpAny_bind (wpAny_tryCatch (W.item 0 _ _ _ hn (W.frame _ _ _ hst fun b _ o e => Heap.get?_push_of_some _ e) fun v h' tk hP hst' hk' => ?_))
  have hS' := hk' _ _ hSw hS
  show wpAny _ A.in1 (updateSeq s₂.heap.objs.size (fun _ => #[v, v]) >>= _) _ _ _
  refine wpAny_bind ?_
  refine wpAny_updateSeq hS' rfl ?_
  rw [hname]
  exact wpAny_pure ⟨plainId_quiet F.plain_max_loop _, max_loop W bt s₂.heap hcmp _ hSf hS0 _ 0 _ v _ rfl hn (W.frame _ _ _ hst' fun b hbf o e => (Heap.get?_update_other _ _ (fun h : s₂.heap.objs.size = b => hSf (h ▸ hbf))).trans e) hP
    (fun b o hb e => (Heap.get?_update_other _ _ (fun q : s₂.heap.objs.size = b => nomatch (q ▸ hS0).symm.trans e)).trans (hk' b o hb (Heap.get?_push_of_some _ e))) (Heap.get?_update_self _ hS' rfl) hQ⟩
end
end Mine
end
noncomputable section
namespace Mine
open Builtin
theorem bestOf_snoc {α : Type} (f : α → α → Bool) (y : α) : ∀ (xs : List α) (b : α), bestOf f b (xs ++ [y]) = if f y (bestOf f b xs) then y else bestOf f b xs
  | [], b => rfl
  | x :: xs, b => bestOf_snoc f y xs _
theorem argBest_at {α : Type} (f : α → α → Bool) (b : α) (xs : List α) (bt : Nat → Nat → Bool) (hbt : ∀ i j x y, (b :: xs)[i]? = some x → (b :: xs)[j]? = some y → bt i j = f x y) : ∀ m, m ≤ xs.length → (b :: xs)[argBest bt m]? = some (bestOf f b (xs.take m)) := by
  intro m
  induction m with
  | zero => exact fun _ => rfl
  | succ m ih =>
    intro hm
    have h1 := ih (Nat.le_of_succ_le hm)
    have h2 : (b :: xs)[m + 1]? = some xs[m] := List.getElem?_eq_getElem hm
    rw [List.take_succ_eq_append_getElem hm, bestOf_snoc]
    unfold argBest
    rw [hbt _ _ _ _ h2 h1]
    cases f xs[m] (bestOf f b (xs.take m)) with
    | true => exact h2
    | false => exact h1
/-- the one looked at, at places -/
def atB {α : Type} (f : α → α → Bool) (L : List α) (i j : Nat) : Bool := match L[i]?, L[j]? with
  | some x, some y => f x y
  | _, _ => false
section
variable {W : Wld} {A : Around} {Ok : Addr → Prop} {s : Shared} {v : Value}
theorem bestOf_mem {α : Type} (f : α → α → Bool) : ∀ (xs : List α) (b : α), bestOf f b xs ∈ b :: xs
  | [], b => .head _
  | x :: xs, b => by
    show bestOf f (if f x b then x else b) xs ∈ _
    have := bestOf_mem f xs (if f x b then x else b)
    rcases List.mem_cons.mp this with h | h
    · rw [h]; split
      · exact .tail _ (.head _)
      · exact .head _
    · exact .tail _ (.tail _ h)
theorem min_gets {α : Type} (g : α → PV) (f : α → α → Bool) (hcmp : ∀ (s' : Shared) (Ok' : Addr → Prop) (v u : Value) (x y : α) (E Q : Value → Shared → Prop), Rep s'.heap Ok' v (g x) → Rep s'.heap Ok' u (g y) → Q (.bool (f x y)) s' → wpAny W.M A.in1 (richCompare .Lt v u) Q E s')
    (H : At A Ok s) {a : Addr} {vs : List Value} {b : α} {xs : List α} (ql : s.heap.PlainList a vs.toArray) (r : RepAll s.heap Ok vs ((b :: xs).map g)) : Gets W A Ok s (call (.builtin "min") [.ref a]) (g (bestOf f b xs)) := by
  refine fun E Q q => min_call (iter_list (z := False) ql r (fun h => h.elim) fun it s' e hi => ?_)
  obtain ⟨I, fp, wr, P, St, rfl, hi⟩ := hi
  have hmv : ∀ {h : Heap}, (∀ b o, b ∉ wr → s'.heap.get? b = some o → h.get? b = some o) → Moves s'.heap h (fun b => Ok b ∧ b ∉ wr) Ok := fun hk b hb _ => ⟨hb.1, fun o ho => hk b o hb.2 ho⟩
  have hat : ∀ i v, (i < ((b :: xs).map g).length ∧ P i v) → ∃ x, (b :: xs)[i]? = some x ∧ Rep s'.heap (fun b => Ok b ∧ b ∉ wr) v (g x) := fun i v ⟨hlt, hp⟩ => by
    rw [List.length_map] at hlt
    exact ⟨_, List.getElem?_eq_getElem hlt, hi.item i v _ (by rw [List.getElem?_map, List.getElem?_eq_getElem hlt]; rfl) hp⟩
  have hbt : ∀ i j x y, (b :: xs)[i]? = some x → (b :: xs)[j]? = some y → atB f (b :: xs) i j = f x y := fun i j x y h1 h2 => by unfold atB; rw [h1, h2]
  refine ⟨I, fp, wr, _, _, St, atB f (b :: xs), rfl, (hi.walks A.in1 H.hd).bound, hi.st, hi.old, by rw [List.length_map]; exact Nat.succ_pos _, fun i j vi vj s2 Q2 E2 hk h1 h2 q2 => ?_, fun v h' tk hp hk => ?_⟩
  · obtain ⟨x, e1, r1⟩ := hat i vi h1
    obtain ⟨y, e2, r2⟩ := hat j vj h2
    exact hcmp s2 Ok vi vj x y E2 Q2 (r1.mono (hmv hk)) (r2.mono (hmv hk)) (hbt i j x y e1 e2 ▸ q2)
  · obtain ⟨x, e1, r1⟩ := hat _ v hp
    rw [List.length_map, show (b :: xs).length - 1 = xs.length from rfl, argBest_at f b xs _ hbt _ (Nat.le_refl _), List.take_length] at e1
    cases e1
    refine q _ _ ⟨?_, fun c o ho => hk c o (fun hb => nomatch (hi.new c hb).symm.trans ho) (e.keep c o ho)⟩ (r1.mono (hmv hk))
    exact e.same.trans ⟨rfl, rfl⟩
theorem b1_min : Bi1Ok W .min := by
  intro A s Ok l v x Z H hv h
  obtain ⟨xs, rfl, h⟩ := list_inv h
  obtain ⟨hl, h⟩ := l1_inv h
  obtain ⟨a, vs, rfl, ql, _, r, _⟩ := hv.r.inv
  rcases h with ⟨i, is, rfl, z⟩ | ⟨k, b, rs, rfl, z⟩
  · exact (min_gets PV.int _ (fun s' Ok' v u x y E Q r1 r2 q => by
      obtain ⟨_, rfl⟩ := rep_int r1; obtain ⟨_, rfl⟩ := rep_int r2
      exact PySem.P.lt_int q) H ql (r hl)).yld (.int _) z
  · refine (min_gets (rowV k) (turnB false rlt) (fun s' Ok' v u x y E Q r1 r2 q => rc_lt_row (Nat.lt_of_le_of_lt (Nat.le_trans (Nat.le_refl (A.units + 1)) (Nat.add_le_add_left (by decide) _)) H.un) r1 r2 q) H ql (r hl)).yld (hv.z.list_all _ ?_) z
    exact List.mem_map.mpr ⟨_, bestOf_mem _ _ _, rfl⟩
theorem max_gets {α : Type} (g : α → PV) (f : α → α → Bool) (hcmp : ∀ (s' : Shared) (Ok' : Addr → Prop) (v u : Value) (x y : α) (E Q : Value → Shared → Prop), Rep s'.heap Ok' v (g x) → Rep s'.heap Ok' u (g y) → Q (.bool (f x y)) s' → wpAny W.M A.in1 (richCompare .Gt v u) Q E s')
    (H : At A Ok s) {a : Addr} {vs : List Value} {b : α} {xs : List α} (ql : s.heap.PlainList a vs.toArray) (r : RepAll s.heap Ok vs ((b :: xs).map g)) : Gets W A Ok s (call (.builtin "max") [.ref a]) (g (bestOf f b xs)) := by
  refine fun E Q q => max_call (iter_list (z := False) ql r (fun h => h.elim) fun it s' e hi => ?_)
  obtain ⟨I, fp, wr, P, St, rfl, hi⟩ := hi
  have hmv : ∀ {h : Heap}, (∀ b o, b ∉ wr → s'.heap.get? b = some o → h.get? b = some o) → Moves s'.heap h (fun b => Ok b ∧ b ∉ wr) Ok := fun hk b hb _ => ⟨hb.1, fun o ho => hk b o hb.2 ho⟩
  have hat : ∀ i v, (i < ((b :: xs).map g).length ∧ P i v) → ∃ x, (b :: xs)[i]? = some x ∧ Rep s'.heap (fun b => Ok b ∧ b ∉ wr) v (g x) := fun i v ⟨hlt, hp⟩ => by
    rw [List.length_map] at hlt
    exact ⟨_, List.getElem?_eq_getElem hlt, hi.item i v _ (by rw [List.getElem?_map, List.getElem?_eq_getElem hlt]; rfl) hp⟩
  have hbt : ∀ i j x y, (b :: xs)[i]? = some x → (b :: xs)[j]? = some y → atB f (b :: xs) i j = f x y := fun i j x y h1 h2 => by unfold atB; rw [h1, h2]
  refine ⟨I, fp, wr, _, _, St, atB f (b :: xs), rfl, (hi.walks A.in1 H.hd).bound, hi.st, hi.old, by rw [List.length_map]; exact Nat.succ_pos _, fun i j vi vj s2 Q2 E2 hk h1 h2 q2 => ?_, fun v h' tk hp hk => ?_⟩
  · obtain ⟨x, e1, r1⟩ := hat i vi h1
    obtain ⟨y, e2, r2⟩ := hat j vj h2
    exact hcmp s2 Ok vi vj x y E2 Q2 (r1.mono (hmv hk)) (r2.mono (hmv hk)) (hbt i j x y e1 e2 ▸ q2)
  · obtain ⟨x, e1, r1⟩ := hat _ v hp
    rw [List.length_map, show (b :: xs).length - 1 = xs.length from rfl, argBest_at f b xs _ hbt _ (Nat.le_refl _), List.take_length] at e1
    cases e1
    refine q _ _ ⟨?_, fun c o ho => hk c o (fun hb => nomatch (hi.new c hb).symm.trans ho) (e.keep c o ho)⟩ (r1.mono (hmv hk))
    exact e.same.trans ⟨rfl, rfl⟩
theorem b1_max : Bi1Ok W .max := by
  intro A s Ok l v x Z H hv h
  obtain ⟨xs, rfl, h⟩ := list_inv h
  obtain ⟨hl, h⟩ := l1_inv h
  obtain ⟨a, vs, rfl, ql, _, r, _⟩ := hv.r.inv
  rcases h with ⟨i, is, rfl, z⟩ | ⟨k, b, rs, rfl, z⟩
  · exact (max_gets PV.int _ (fun s' Ok' v u x y E Q r1 r2 q => by
      obtain ⟨_, rfl⟩ := rep_int r1; obtain ⟨_, rfl⟩ := rep_int r2
      exact PySem.P.gt_int q) H ql (r hl)).yld (.int _) z
  · refine (max_gets (rowV k) (turnB true rlt) (fun s' Ok' v u x y E Q r1 r2 q => rc_gt_row (Nat.lt_of_le_of_lt (Nat.le_trans (Nat.le_refl (A.units + 1)) (Nat.add_le_add_left (by decide) _)) H.un) r1 r2 q) H ql (r hl)).yld (hv.z.list_all _ ?_) z
    exact List.mem_map.mpr ⟨_, bestOf_mem _ _ _, rfl⟩
end
end Mine
end
noncomputable section
namespace Mine
open Builtin Builtin.Bytes
/-! ## lstrip -/
theorem slot_b_lstrip : Slot "bytes" "lstrip" "bytes.lstrip" :=
  .of (owner := "bytes") (n := "lstrip") (by rw [typeLookup_type, builtinLookup_eq_fast]; kernel_rfl) (by decide +kernel) (by decide +kernel) (by decide +kernel)
    (by first | exact .inl (by decide +kernel) | exact .inr (by decide +kernel)) (by rw [isSubtype_type]; kernel_rfl)
theorem type_b_lstrip : typeOf (.builtin "bytes.lstrip") = pure (.type "method_descriptor") := by show builtinType _ = _; rw [builtinType_eq_fast]; kernel_rfl
theorem entry_b_lstrip : entryFor table "bytes.lstrip" = some Builtin.«bytes.lstrip» := entryFor_of_tree (by kernel_rfl)
theorem args_b_lstrip (a b : Value) : argsOk "bytes.lstrip" ⟨[a, b], []⟩ := by
  unfold argsOk; rw [signature?_of (id := "bytes.lstrip") (n := ['p', 'i', 'r', 't', 's', 'l']) (o := ['s', 'e', 't', 'y', 'b']) (by kernel_rfl) FB.owner_bytes]; kernel_rfl
theorem txt_lstrip (a : List Nat) (c : Nat) : Txt.lstripChars (strL a) (strL [c]) = strL (a.dropWhile (· == c)) := by
  unfold Txt.lstripChars
  rw [W.stripBy_eq, show (strL [c]).cps.contains = (· == c) from contains_one c, while_drop]
  have h := StrLaws.strSub_toList (strL a) (a.takeWhile (· == c)).length a.length
  rw [show (strL a).cps.toList = a from rfl, List.take_of_length_le (Nat.le_of_eq (List.length_drop ..))] at h
  exact congrArg strL h
theorem gives_b_lstrip (b : Array UInt8) (c : UInt8) (t u : Tok) (hz : b.size ≤ sizeLine) (Q : Value → Shared → Prop) (M : Model) (A : Around) (E : Value → Shared → Prop) (s : Shared)
    (hq : ∀ t' k, Q (.bytes (b.toList.dropWhile (· == c)).toArray t') { s with toks := k }) : wpAny M A («bytes.lstrip» ⟨[.bytes b t, .bytes #[c] u], []⟩) (fun fin s' => ∃ v, fin = .done (.ret v) ∧ Q v s') E s := by
  show wpAny M A (bytesLike _ (.bytes #[c] u) >>= fun r => _) _ E s
  refine wpAny_bind (bytesLike_bytes ?_)
  have hc : (#[c] : Array UInt8).contains = (· == c) := by
    funext x; rw [Bool.eq_iff_iff, Array.contains_iff_mem]; exact ⟨fun h => beq_iff_eq.mpr (Array.mem_singleton.mp h), fun h => Array.mem_singleton.mpr (eq_of_beq h)⟩
  show wpAny M A (if ((b.toList.dropWhile ((#[c] : Array UInt8).contains)).length == b.size) = true then _ else _) _ E s
  rw [hc]
  have hl := (List.dropWhile_sublist (· == c) (l := b.toList)).length_le
  rw [Array.length_toList] at hl
  by_cases h : ((b.toList.dropWhile (· == c)).length == b.size) = true
  · refine wp_pos h (wpAny_bind (wpAny_rule (wpAny_pure ⟨_, rfl, ?_⟩)))
    have e : b.toList.dropWhile (· == c) = b.toList := (List.dropWhile_sublist _).eq_of_length (by rw [Array.length_toList]; exact eq_of_beq h)
    have q := hq t s.toks
    rw [e, Array.toArray_toList] at q
    exact q
  · refine wp_neg h (wpAny_bind (wpAny_mkBytes (wpAny_pure ⟨_, rfl, hq _ _⟩) ?_))
    show ((b.toList.dropWhile (· == c)).toArray).size ≤ sizeLine
    rw [List.size_toArray]
    exact Nat.le_trans hl hz
section
variable {W : Wld} {A : Around} {s : Shared} {Ok : Addr → Prop} {v u : Value} {k : Bool} {a : List Nat} {c : Nat}
theorem lstrip_txt (hz : a.length ≤ LIM) (hv : TxtIs v k a) (hu : TxtIs u k [c]) : Gets W A Ok s (call (.builtin (methId k "lstrip")) [v, u]) (.txt k (a.dropWhile (· == c))) := by
  intro E Q q
  rcases hu.one with ⟨t', rfl, rfl⟩ | ⟨d, t', rfl, rfl, rfl⟩
  · cases hv with
    | str _ t => exact SC.lstripChars (x := strL a) (y := strL [c]) (fun t' k => by rw [txt_lstrip]; exact q _ _ (.toks _ _) (.str _ _)) (lim_size hz)
  · cases hv with
    | bytes bs t =>
      rw [List.length_map] at hz
      exact call_meets (S := fun _ R s => ∀ t' k, R (.ok (.ret (.bytes (bs.dropWhile (· == d)).toArray t'))) { s with toks := k }) slot_b_lstrip (typeIs_bytes s _ _) entry_b_lstrip (args_b_lstrip _ _)
        (.of_wp fun prog w A R s h => gives_b_lstrip bs.toArray d t t' (by rw [List.size_toArray]; exact lim_size hz) _ _ _ _ _ h)
        fun t' k => q _ _ (.toks _ _) (.bytes _ _ (while_nums d bs))
end
theorem ok_lstrip {W : Wld} : MethOk W .lstrip where
  get A s Ok l v x P pl E Q hv h q := by
    obtain ⟨⟨k, cs, rfl⟩, p⟩ := txtR_inv h
    exact get_txt F.slot_str_lstrip F.type_str_lstrip slot_b_lstrip type_b_lstrip hv.r.inv.inv (by cases k <;> exact q p)
  run A s Ok l l' v u x y Z H hv hu hl h := by
    obtain ⟨k, cs, rfl, e, z⟩ := txt_inv h
    exact (lstrip_txt hv.z.txt_len hv.r.inv.inv (txt_eq hu e)).yld (.txt _ (Nat.le_trans (List.dropWhile_sublist _).length_le hv.z.txt_len)) z
end Mine
end
noncomputable section
namespace Mine
open Builtin Builtin.Bytes
/-! ## exceptions: lstrip of a text by one of the other kind; notes, flights, chains -/
section
variable {W : Wld} {A : Around} {s : Shared} {E Q : Value → Shared → Prop} {v u : Value} {k : Bool} {a b : List Nat}
theorem no_buffer_str : typeLookup (.type "str") "__buffer__" = pure none := by rw [typeLookup_type, builtinLookup_eq_fast]; kernel_rfl
theorem lstrip_raises (hh : A.handled = none) (hv : TxtIs v (!k) a) (hu : TxtIs u k b) (h : ∀ h' tk e, Heap.NewExc s.heap h' e "TypeError" → E (.ref e) { s with heap := h', toks := tk }) :
    wpAny W.M A (call (.builtin (methId (!k) "lstrip")) [v, u]) Q E s := by
  cases k with
  | false =>
    cases hv with
    | bytes bs t => cases hu with
      | str _ t' =>
        refine wpAny_call_entry slot_b_lstrip (typeIs_bytes s _ _) entry_b_lstrip ?_ (args_b_lstrip _ _)
        show wpAny _ _ (bytesLike _ (.str ⟨b.toArray⟩ t') >>= fun r => _) _ _ s
        unfold bytesLike buffer?
        refine wpAny_bind (wpAny_bind (wpAny_bind (wpAny_specialOf (T := "str") (v := .str ⟨b.toArray⟩ t') rfl no_buffer_str ?_)))
        refine wpAny_bind (wpAny_pure ?_)
        refine wpAny_pure ?_
        refine wpAny_bind (wpAny_rule (wpAny_bind (wpAny_typeNameOf' (T := "str") (v := .str ⟨b.toArray⟩ t') rfl (h := ?_))))
        exact wpAny_raiseErrorMade plainExc_TypeError hh h (by decide +kernel)
  | true =>
    cases hv with
    | str _ t => cases hu with
      | bytes bs t' =>
        refine wpAny_call_entry F.slot_str_lstrip (T := "str") rfl (entryFor_of_tree (by kernel_rfl) : entryFor table "str.lstrip" = some Builtin.«str.lstrip») ?_ (by unfold argsOk; kernel_rfl)
        show wpAny _ _ (rule _ >>= fun _ => _) _ _ s
        exact wpAny_bind (wpAny_rule (wpAny_bind (wpAny_raiseErrorMade plainExc_TypeError hh h (by decide +kernel))))
end
/-- a place of an exception that is held: its fields, its place in the traceback -/
structure ExcAt (h : Heap) (e : Addr) (c : Value) (fl : Value) (base : Heap) : Prop where
  there : ∃ ob vs T oT ts, h.get? e = some ob ∧ ob.cls = .type "TypeError" ∧ ob.data = .fields vs ∧ vs[1]? = some (.ref T) ∧ vs[2]? = some c ∧ base.get? T = none ∧ T ≠ e ∧ h.get? T = some oT ∧ oT.data = .fields ts ∧ ts[3]? = some fl
  new : base.get? e = none
/-- what all the steps of a raise keep -/
structure Stp (base : Heap) (l : List Env) (h h' : Heap) : Prop where
  stays : base.StaysIn h'
  frames : h'.FunFrames base l
  slots : h.UpToSlots h'
theorem Stp.trans {base a b c : Heap} {l : List Env} (x : Stp base l a b) (y : Stp base l b c) : Stp base l a c := ⟨y.stays, y.frames, x.slots.trans y.slots⟩
theorem stp_keeps {base h h' : Heap} {l : List Env} (hb : base.StaysIn h) (hf : h.FunFrames base l) (k : ∀ b o, h.get? b = some o → h'.get? b = some o) : Stp base l h h' :=
  ⟨fun b o e => k b o (hb b o e), hf.of_keeps fun b o ho _ => ⟨o, k b o ho, rfl⟩, .of_keeps k⟩
theorem not_base {base h : Heap} (hb : base.StaysIn h) {b : Addr} (hn : h.get? b = none) : base.get? b = none := by
  cases q : base.get? b with
  | none => rfl
  | some o => exact nomatch (hb b o q).symm.trans hn
/-- a fields object that is not of the base is turned -/
theorem stp_fields {base h : Heap} {l : List Env} {e : Addr} {ob : Obj} {vs : Array Value} (hb : base.StaysIn h) (hf : h.FunFrames base l) (he : h.get? e = some ob) (hd : ob.data = .fields vs) (hn : base.get? e = none) (f : Array Value → Array Value) :
    Stp base l h (h.update e (Obj.mapFields f)) := by
  have oth : ∀ b o, h.get? b = some o → (∀ vs, o.data ≠ .fields vs) → (h.update e (Obj.mapFields f)).get? b = some o := fun b o ho hnf =>
    (Heap.get?_update_other _ _ fun q : e = b => by rw [← q, he] at ho; cases ho; exact hnf vs hd).trans ho
  exact ⟨fun b o hbo => (Heap.get?_update_other _ _ fun q : e = b => nomatch (q ▸ hn).symm.trans hbo).trans (hb b o hbo), hf.of_keeps fun b o ho hnf => ⟨o, oth b o ho hnf, rfl⟩, fun b o ho hnf => ⟨o.slots, oth b o ho hnf⟩⟩
section
variable {M : Model} {A : Around} {s : Shared} {E : Value → Shared → Prop} {base : Heap} {env : Env} {l : List Env} {L e : Addr}
theorem set_one {vs : Array Value} {k : Nat} {x : Value} (hk : k < vs.size) : (vs.setIfInBounds k x)[k]? = some x := by rw [Array.getElem?_setIfInBounds_self_of_lt hk]
/-- the first note of an exception made here -/
theorem note_new {ob : Obj} {t : Value} {Q : Unit → Shared → Prop} (hfr : A.frames = some (env :: l)) (hl : s.heap.FunFrames base (env :: l)) (hf : env.frame = some L) (hb : base.StaysIn s.heap) (hen : base.get? e = none)
    (he : s.heap.get? e = some ob) (hc : ob.cls = .type "TypeError") (hd : ob.data = .fields #[t, .none, .none, .none, .bool false, .none])
    (h : ∀ h', Stp base (env :: l) s.heap h' → ExcAt h' e .none (rawInt L) base → Q () { s with heap := h' }) : wpAny M A (noteFrame (.ref e) env) Q E s := by
  unfold noteFrame
  simp only [hf]
  refine wpAny_bind (wpAny_field he hd (x := .none) rfl ?_)
  rw [if_neg (by decide)]
  have hene : e ∉ (env :: l).filterMap (·.frame) := fun hm => by
    obtain ⟨_, o, ho, hnf⟩ := hl.mem hm
    rw [he] at ho; cases ho; exact hnf _ hd
  refine wpAny_bind (wpAny_frameOf_fun hfr hl hf fun h₁ hs₁ => ?_)
  refine wpAny_bind (wpAny_entryPlaceOf fun pl hpl => ?_)
  unfold EntryCells.newEntry newFields
  refine wpAny_bind (wpAny_newObj_type ?_ (hpl.sizeOk5 _ _ _ _ _))
  have he₁ : h₁.get? e = some ob := (hs₁.2.1 e hene).trans he
  have kb₁ : base.StaysIn h₁ := fun b o hbo => (hs₁.2.1 b fun hm => nomatch (hl.mem hm).1.symm.trans hbo).trans (hb b o hbo)
  have S1 : Stp base (env :: l) s.heap h₁ := ⟨kb₁, hl.of_slotsOnly hs₁, fun b o ho _ => hs₁.2.2 b o ho⟩
  generalize hT : ({ cls := .type "traceback", dict := none, data := .fields ([Value.none, .ref L, .none, rawInt L, .none] ++ (if pl.isEmpty then List.replicate 6 Value.none else pl)).toArray } : Obj) = oT
  have S2 : Stp base (env :: l) h₁ (h₁.push oT) := stp_keeps kb₁ S1.frames fun b o ho => Heap.get?_push_of_some _ ho
  have he₂ : (h₁.push oT).get? e = some ob := Heap.get?_push_of_some _ he₁
  refine wpAny_setField he₂ hd (show 1 < 6 by decide) (h _ ((S1.trans S2).trans (stp_fields S2.stays S2.frames he₂ hd hen _)) ⟨⟨_, _, h₁.objs.size, oT, _, Heap.get?_update_self _ he₂ (Obj.isFreed_of_fields (Obj.data_mapFields hd _)), (Obj.cls_mapFields ..).trans hc, Obj.data_mapFields hd _, rfl, rfl, kb₁.fresh, Nat.ne_of_gt (Heap.lt_size he₁), ?_, by rw [← hT], ?_⟩, hen⟩)
  · refine (Heap.get?_update_other _ _ (Nat.ne_of_lt (Heap.lt_size he₁))).trans (Heap.get?_push_size _ (by rw [← hT]; rfl))
  · rcases hpl with rfl | ⟨_, _, _, _, _, _, _, rfl⟩ <;> simp
/-- where its place in the traceback is set -/
theorem flight_set {c fl : Value} {fr : Option Addr} {Q : Unit → Shared → Prop} (hb : base.StaysIn s.heap) (hl : s.heap.FunFrames base l) (x : ExcAt s.heap e c fl base)
    (h : ∀ h', Stp base l s.heap h' → ExcAt h' e c (fr.elim .none fun f => rawInt f) base → Q () { s with heap := h' }) : wpAny M A (setFlight (.ref e) fr) Q E s := by
  obtain ⟨ob, vs, T, oT, ts, he, hc, hd, h1, h2, hT0, hTe, hT, hdT, h3⟩ := x.there
  have h3s := (Array.getElem?_eq_some_iff.mp h3).1
  unfold setFlight
  refine wpAny_bind (wpAny_field he hd h1 ?_)
  rw [if_pos (show (Value.ref T != Value.none) = true from by simp)]
  refine wpAny_setField hT hdT h3s (h _ (stp_fields hb hl hT hdT hT0 _) ⟨⟨ob, vs, T, _, _, (Heap.get?_update_other _ _ hTe).trans he, hc, hd, h1, h2, hT0, hTe, Heap.get?_update_self _ hT (Obj.isFreed_of_fields (Obj.data_mapFields hdT _)), Obj.data_mapFields hdT _, set_one h3s⟩, x.new⟩)
end
theorem entry_unchain : entryFor table "proto.unchain" = some Builtin.«proto.unchain» := entryFor_of_tree (by kernel_rfl)
theorem plain_unchain : plainId "proto.unchain" = true := by decide +kernel
section
variable {prog : Program} {w : World} {A : Around} {s : Shared} {E : Value → Shared → Prop} {e h₀ : Addr}
/-- a new exception, raised where another one is held -/
theorem raise_held {α : Type} {oh oe : Obj} {hs vs : Array Value} {Q : α → Shared → Prop} (hh : A.handled = some (.ref h₀)) (hne : h₀ ≠ e) (ho : s.heap.get? h₀ = some oh) (hd : oh.data = .fields hs) (h2 : hs[2]? = some .none)
    (he : s.heap.get? e = some oe) (hde : oe.data = .fields vs) (hv : 2 < vs.size)
    (h : E (.ref e) { s with heap := s.heap.update e (Obj.mapFields (·.setIfInBounds 2 (.ref h₀))) }) : wpAny (model prog w) A (raiseNew (.ref e) : Sem α) Q E s := by
  unfold raiseNew
  refine wpAny_bind (wpAny_handled ?_)
  rw [hh]
  dsimp only
  rw [if_pos (show (Value.ref h₀ != Value.ref e) = true by simp [hne])]
  refine wpAny_bind (wpAny_holding (wpAny_runValue (codeAny_builtin entry_unchain ?_)))
  rw [Around.under_plainId plain_unchain _]
  show wpAny _ _ (field (.ref h₀) 2 >>= _) _ _ s
  refine wpAny_bind (wpAny_field ho hd h2 ?_)
  rw [if_pos (by decide)]
  refine wpAny_pure ?_
  show wpAny _ _ (setField (.ref e) 2 (.ref h₀) >>= fun _ => _) _ _ s
  exact wpAny_bind (wpAny_setField he hde hv (wpAny_throw h))
end
end Mine
end
noncomputable section
namespace Mine
open Builtin
/-! ## _check_arg_types, where an exception is held -/
structure CkEnv (W : Wld) (env : Env) : Prop where
  kind : env.scope.kind = .function
  globals : env.globals = mainGlobals
  builtins : env.builtins = builtinsNs
  frame : env.frame = some env.locals
def CkLoc (env : Env) (x : Str) : Prop := env.kindOf x = some .local ∧ badName x = false
def CkGl (W : Wld) (env : Env) (x : Str) (v : Value) : Prop := env.kindOf x = some .globalImplicit ∧ badName x = false ∧ W.glob x = some v
theorem bad_inv {x : Str} (h : badName x = false) : (x == ("__debug__" : Str)) = false ∧ (x == ("__classdict__" : Str)) = false := badName_of (by rw [h]; exact Bool.false_ne_true)
section
variable {W : Wld} {env : Env} {A : Around} {s s1 : Shared} {E Q : Value → Shared → Prop} {x : Str} {v : Value} {m : Str → Option Value} {it : Addr} {p p1 p2 p3 p4 : Pos}
theorem ck_local (C : CkEnv W env) (h : CkLoc env x) (hn : s.heap.Ns env.locals m) (hv : m x = some v) (q : Q v s) : wpAny W.M A (eval (.Name x p) env) Q E s :=
  Holds.load (h := s.heap) (.inl ⟨h.1, m, hn, hv⟩) C.kind (bad_inv h.2).1 (bad_inv h.2).2 q
theorem ck_glob (C : CkEnv W env) (h : CkGl W env x v) (hon : W.On s.heap) (q : Q v s) : wpAny W.M A (eval (.Name x p) env) Q E s :=
  Calls.Name_function_global C.kind h.1 (Wld.loadGlobal hon C.globals C.builtins h.2.2 q) (bad_inv h.2.1).1
theorem ck_store {Q : Unit → Shared → Prop} (C : CkEnv W env) (h : CkLoc env x) (hn : s.heap.Ns env.locals m)
    (q : ∀ h', h'.Ns env.locals (fun y => if y = x then some v else m y) → Heap.SameBut env.locals s.heap h' → Q () { s with heap := h', toks := s.toks + 1 }) : wpAny W.M A (assign (.Name x p) env v) Q E s :=
  wpAny_assign_Name (wpAny_storeName_local h.1 hn q (by rw [C.kind]; rfl))
/-- isinstance(x, c) of a text -/
theorem ck_isinst {a : List Nat} {k b : Bool} {c : String} {Q : Bool → Shared → Prop} (C : CkEnv W env) (hi : CkGl W env "isinstance" (.builtin "isinstance")) (hx : CkLoc env x) (hc : CkGl W env (Str.ofString c) (.type c)) (hon : W.On s.heap) (hn : s.heap.Ns env.locals m) (hv : m x = some v) (ht : TxtIs v k a)
    (hb : (c = "str" ∧ b = !k) ∨ (c = "bytes" ∧ b = k)) (q : ∀ tk, Q b { s with toks := tk }) :
    wpAny W.M A (isTrue (.Call (.Name "isinstance" p1) [.Name x p2, .Name (Str.ofString c) p3] [] p4) env (eval (.Call (.Name "isinstance" p1) [.Name x p2, .Name (Str.ofString c) p3] [] p4) env)) Q E s := by
  refine isTrue_plain (wpAny_Call_ofName (ck_glob C hi hon (Calls.callWith_builtin (plain_two rfl rfl) (evalArgs_of (fun y hy => nomatch (hy ▸ plain_two (env := env) (pos := p4) rfl rfl : ([(true, y)] : List (Bool × Sem Value)).any (·.1) = false)) (spliced_two rfl rfl (ck_local C hx hn hv (ck_glob C hc hon ?_))))))) rfl
  cases ht with
  | str _ t =>
    refine kia_one kitx_str frag_nil trivial (b := b) ?_ (fun e => nomatch e) fun tk => wpAny_truthy_bool (q tk)
    rcases hb with ⟨rfl, rfl⟩ | ⟨rfl, rfl⟩ <;> kernel_rfl
  | bytes bs t =>
    refine kia_one kitx_bytes frag_nil trivial (b := b) ?_ (fun e => nomatch e) fun tk => wpAny_truthy_bool (q tk)
    rcases hb with ⟨rfl, rfl⟩ | ⟨rfl, rfl⟩ <;> kernel_rfl
end
/-- the end of a tuple's iterator, where an exception is held -/
theorem tuple_end {prog : Program} {w : World} {A : Around} {E : Value → Shared → Prop} {s : Shared} {it t h₀ : Addr} {i : Nat} {items : Array Value} {oh : Obj} {hs : Array Value} {Q : Option Value → Shared → Prop} (hh : A.handled = some (.ref h₀)) (ho₀ : s.heap.get? h₀ = some oh) (hd₀ : oh.data = .fields hs) (h2 : hs[2]? = some .none)
    (hne : h₀ ≠ it) (hit : IsTupIter s.heap it t i) (ht : IsTup s.heap t items) (hx : items[i]? = none) (hQ : ∀ h', Heap.ExtBut it s.heap h' → Q none { s with heap := h' }) : wpAny (model prog w) A (pyNext (.ref it)) Q E s := by
  obtain ⟨o, ho, hc, hd⟩ := id hit
  obtain ⟨ol, hol, _, nl, hdl⟩ := ht
  unfold pyNext
  refine wpAny_bind (wpAny_attempt (wpAny_callSpecial?_slot (name := Str.ofString "__next__") hit.typeIs slot_tupleiter_next
    (wpAny_call_entry slot_tupleiter_next hit.typeIs entry_tupleiter_next ?_ (args_tupleiter_next _))))
  show wpAny _ _ (field (.ref it) 0 >>= _) _ _ s
  refine wpAny_bind (wpAny_field ho hd (x := .ref t) rfl ?_)
  show wpAny _ _ (if (Value.ref t == Value.none) = true then _ else _) _ _ s
  rw [if_neg (show ¬ ((Value.ref t == Value.none) = true) from Bool.false_ne_true)]
  show wpAny _ _ (field (.ref it) 1 >>= _) _ _ s
  refine wpAny_bind (wpAny_field ho hd (x := .int i 0) rfl ?_)
  show wpAny _ _ (seqItems? (.ref t) >>= _) _ _ s
  refine wpAny_bind (wpAny_seqItems hol hdl ?_)
  simp only [Int.toNat_natCast, hx]
  refine wpAny_bind (wpAny_rule (wpAny_bind (wpAny_setField ho hd (by simp) ?_)))
  have k1 : Heap.ExtBut it s.heap (s.heap.update it (Obj.mapFields (·.setIfInBounds 0 .none))) := (Heap.SameBut.update ..).extBut
  revert k1
  generalize s.heap.update it (Obj.mapFields (·.setIfInBounds 0 Value.none)) = H
  intro k1
  show wpAny _ _ (newExc (.type "StopIteration") [] >>= _) _ _ _
  refine wpAny_bind ?_
  simp only [newExc, newTuple]
  refine wpAny_bind (wpAny_newObj_type ?_ (by size_fits))
  refine wpAny_bind (m := firstArgMember _ _) (wpAny_of_eq (a := Value.none) (by first | rfl | (simp only [firstArgMember]; rfl)) ?_)
  refine wpAny_newObj_type ?_ (by size_fits)
  have k3 := (k1.push { cls := .type "tuple", data := .seq ([] : List Value).toArray }).push { cls := .type "StopIteration", data := .fields (#[Value.ref H.objs.size, Value.none, Value.none, Value.none, Value.bool false, Value.none] ++ ownMembersOf (.type "StopIteration") []) }
  have hlt := Heap.lt_size (k1 _ _ hne ho₀)
  refine raise_held (A := A.in1) hh (h₀ := h₀) ?_ (k3 _ _ hne ho₀) hd₀ h2 (Heap.get?_push_size _ rfl) rfl (by show 2 < 6; decide) ?_
  · show h₀ ≠ (H.push _).objs.size
    rw [Heap.size_push]; exact Nat.ne_of_lt (Nat.lt_succ_of_lt hlt)
  · refine wpAny_bind (wpAny_isInstance (T := "StopIteration") (b := true) ⟨_, Heap.get?_update_self _ (Heap.get?_push_size _ rfl) rfl, rfl⟩ isSubtype_stop ?_)
    refine wpAny_pure (hQ _ fun b o hb e => ?_)
    have := k3 b o hb e
    refine (Heap.get?_update_other _ _ fun q => ?_).trans this
    have h4 := k1 b o hb e
    have := Heap.lt_size h4
    rw [← q, Heap.size_push] at this
    exact absurd this (Nat.not_lt.mpr (Nat.le_succ _))
end Mine
end
noncomputable section
namespace Mine
open Builtin
section
variable {W : Wld} {env : Env} {A : Around} {s s1 : Shared} {E : Value → Shared → Prop} {m : Str → Option Value} {p p1 p2 p3 p4 p5 : Pos}
/-- what is kept, that knows nothing of the frame -/
structure CkS (env : Env) (K : Addr → Obj → Prop) (s1 : Shared) (m : Str → Option Value) (s : Shared) : Prop where
  ns : s.heap.Ns env.locals m
  same : Same s1 s
  keep : ∀ b o, K b o → s.heap.get? b = some o
variable {K : Addr → Obj → Prop}
theorem CkS.toks {t : Nat} (x : CkS env K s1 m s) : CkS env K s1 m { s with toks := t } := ⟨x.ns, x.same, x.keep⟩
theorem CkS.store {x : Str} {v : Value} {h' : Heap} {t : Nat} (x' : CkS env K s1 m s) (hL : ∀ o, ¬ K env.locals o) (hn : h'.Ns env.locals (fun y => if y = x then some v else m y)) (sb : Heap.SameBut env.locals s.heap h') : CkS env K s1 (fun y => if y = x then some v else m y) { s with heap := h', toks := t } :=
  ⟨hn, x'.same, fun b o e => sb.extBut b o (fun q => hL o (q ▸ e)) (x'.keep b o e)⟩
theorem ck_set {x : Str} {c : Const} {n : Nat} {v : Value} {Q : Flow → Shared → Prop} (C : CkEnv W env) (h : CkLoc env x) (S : CkS env K s1 m s) (hL : ∀ o, ¬ K env.locals o) (hc : ∀ E' (Q' : Value → Shared → Prop), Q' v s → wpAny W.M A (eval (.Constant c n p) env) Q' E' s)
    (q : ∀ s', CkS env K s1 (fun y => if y = x then some v else m y) s' → Q .next s') : wpAny W.M A (exec (.Assign [.Name x p1] (.Constant c n p) p2) env) Q E s :=
  wpAny_Assign_Name (hc _ _ (wpAny_storeName_local h.1 S.ns (fun h' hn sb => q _ (S.store hL hn sb)) (by rw [C.kind]; rfl))) (swaps_plain rfl _ _ _)
theorem const_bool {b : Bool} {n : Nat} (E' : Value → Shared → Prop) (Q' : Value → Shared → Prop) (q : Q' (.bool b) s) : wpAny W.M A (eval (.Constant (.bool b) n p) env) Q' E' s := by rw [eval_Constant]; exact wpAny_pure q
structure CkNames (W : Wld) (env : Env) : Prop where
  C : CkEnv W env
  s : CkLoc env "s"
  args : CkLoc env "args"
  hs : CkLoc env "hasstr"
  hb : CkLoc env "hasbytes"
  isi : CkGl W env "isinstance" (.builtin "isinstance")
  str : CkGl W env (Str.ofString "str") (.type "str")
  bytes : CkGl W env (Str.ofString "bytes") (.type "bytes")
  te : CkGl W env "TypeError" (.type "TypeError")
theorem ck_turn {els : List Stmt} {q1 q2 q3 q4 q5 q6 q7 q8 r1 r2 r3 r4 r5 r6 r7 r8 : Pos} {v : Value} {κ : Bool} {a : List Nat} {hs hb : Bool} {Q : Flow → Shared → Prop} (N : CkNames W env) (hon : ∀ h : Heap, (∀ b o, K b o → h.get? b = some o) → W.On h) (S : CkS env K s1 m s) (hL : ∀ o, ¬ K env.locals o)
    (hv : m "s" = some v) (ht : TxtIs v κ a) (h1 : m "hasstr" = some (.bool hs)) (h2 : m "hasbytes" = some (.bool hb))
    (q : ∀ m' s', CkS env K s1 m' s' → m' "hasstr" = some (.bool (hs || !κ)) → m' "hasbytes" = some (.bool (hb || κ)) → Q .next s') :
    wpAny W.M A (execs [.If (.Call (.Name "isinstance" q1) [.Name "s" q2, .Name (Str.ofString "str") q3] [] q4) [.Assign [.Name "hasstr" q5] (.Constant (.bool true) 0 q6) q7] [.If (.Call (.Name "isinstance" r1) [.Name "s" r2, .Name (Str.ofString "bytes") r3] [] r4) [.Assign [.Name "hasbytes" r5] (.Constant (.bool true) 0 r6) r7] els r8] q8] env) Q E s := by
  refine wpAny_execs_cons (wpAny_If (ck_isinst N.C N.isi N.s N.str (hon _ S.keep) S.ns hv ht (.inl ⟨rfl, rfl⟩) fun tk => ?_))
  cases κ with
  | false =>
    rw [Bool.not_false, if_pos rfl]
    refine wpAny_execs_cons (ck_set N.C N.hs S.toks hL const_bool fun s' S' => wpAny_execs_nil (wpAny_execs_nil (q _ s' S' ?_ ?_)))
    · show (if ("hasstr" : Str) = "hasstr" then some (Value.bool true) else _) = _
      rw [if_pos rfl, Bool.not_false, Bool.or_true]
    · show (if ("hasbytes" : Str) = "hasstr" then some (Value.bool true) else m "hasbytes") = _
      rw [if_neg (by decide), h2, Bool.or_false]
  | true =>
    rw [Bool.not_true, if_neg Bool.false_ne_true]
    refine wpAny_execs_cons (wpAny_If (ck_isinst (s := { s with toks := tk }) N.C N.isi N.s N.bytes (hon _ S.keep) S.toks.ns hv ht (.inr ⟨rfl, rfl⟩) fun tk2 => ?_))
    rw [if_pos rfl]
    refine wpAny_execs_cons (ck_set N.C N.hb S.toks.toks hL const_bool fun s' S' => wpAny_execs_nil (wpAny_execs_nil (wpAny_execs_nil (q _ s' S' ?_ ?_))))
    · show (if ("hasstr" : Str) = "hasbytes" then some (Value.bool true) else m "hasstr") = _
      rw [if_neg (by decide), h1, Bool.not_true, Bool.or_false]
    · show (if ("hasbytes" : Str) = "hasbytes" then some (Value.bool true) else _) = _
      rw [if_pos rfl, Bool.or_true]
/-- the loop -/
def ckAt (κ : Bool) : Nat → Bool × Bool
  | 0 => (false, false)
  | 1 => (!κ, κ)
  | _ => (true, true)
theorem ckAt_get {v u : Value} {κ : Bool} {a b : List Nat} {i : Nat} (hv : TxtIs v κ a) (hu : TxtIs u (!κ) b) (h : i < 2) :
    ∃ x κ' c, (#[v, u] : Array Value)[i]? = some x ∧ TxtIs x κ' c ∧ ((ckAt κ i).1 || !κ') = (ckAt κ (i + 1)).1 ∧ ((ckAt κ i).2 || κ') = (ckAt κ (i + 1)).2 := by
  cases i with
  | zero => exact ⟨v, κ, a, by simp, hv, by cases κ <;> decide, by cases κ <;> decide⟩
  | succ i => cases i with
    | zero => exact ⟨u, !κ, b, by simp, hu, by cases κ <;> decide, by cases κ <;> decide⟩
    | succ i => omega
def ckTurn (els : List Stmt) (q1 q2 q3 q4 q5 q6 q7 q8 r1 r2 r3 r4 r5 r6 r7 r8 : Pos) : List Stmt :=
  [.If (.Call (.Name "isinstance" q1) [.Name "s" q2, .Name (Str.ofString "str") q3] [] q4) [.Assign [.Name "hasstr" q5] (.Constant (.bool true) 0 q6) q7] [.If (.Call (.Name "isinstance" r1) [.Name "s" r2, .Name (Str.ofString "bytes") r3] [] r4) [.Assign [.Name "hasbytes" r5] (.Constant (.bool true) 0 r6) r7] els r8] q8]
theorem ck_loop {els : List Stmt} {q1 q2 q3 q4 q5 q6 q7 q8 r1 r2 r3 r4 r5 r6 r7 r8 : Pos} {t e₁ : Addr} {oh ot : Obj} {hs : Array Value} {n : Nat} {v u : Value} {κ : Bool} {a b : List Nat} {Q : Flow → Shared → Prop} (N : CkNames W env) (hon : ∀ h : Heap, (∀ b o, K b o → h.get? b = some o) → W.On h) (S : CkS env K s1 m s) (hL : ∀ o, ¬ K env.locals o)
    (hh : A.handled = some (.ref e₁)) (ho : K e₁ oh) (hd : oh.data = .fields hs) (hs2 : hs[2]? = some .none) (hot : K t ot) (hct : ot.cls = .type "tuple") (hdt : ot.data = .seq #[v, u] n) (hv : TxtIs v κ a) (hu : TxtIs u (!κ) b)
    (ha : m "args" = some (.ref t)) (h1 : m "hasstr" = some (.bool false)) (h2 : m "hasbytes" = some (.bool false))
    (q : ∀ m' s', CkS env K s1 m' s' → m' "hasstr" = some (.bool true) → m' "hasbytes" = some (.bool true) → Q .next s') :
    wpAny W.M A (exec (.For (.Name "s" p1) (.Name "args" p2) (ckTurn els q1 q2 q3 q4 q5 q6 q7 q8 r1 r2 r3 r4 r5 r6 r7 r8) [] p3) env) Q E s := by
  have tup : ∀ {h : Heap}, (∀ b o, K b o → h.get? b = some o) → IsTup h t #[v, u] := fun k => ⟨ot, k _ _ hot, hct, n, hdt⟩
  refine wpAny_For (ck_local N.C N.args S.ns ha (iter_tuple (tup S.keep) ?_)) (fun _ => rfl)
  have hit0 : IsTupIter (s.heap.push { cls := .type "tuple_iterator", data := .fields #[.ref t, .int 0 0] }) s.heap.objs.size t 0 := ⟨_, Heap.get?_push_size _ rfl, rfl, rfl⟩
  have hKi : ∀ o, ¬ K s.heap.objs.size o := fun o hk => Nat.lt_irrefl _ (Heap.lt_size (S.keep _ _ hk))
  have hLi : env.locals ≠ s.heap.objs.size := Nat.ne_of_lt S.ns.lt
  have S0 : CkS env K s1 m { s with heap := s.heap.push { cls := .type "tuple_iterator", data := .fields #[.ref t, .int 0 0] } } := ⟨S.ns.push _, S.same, fun b o k => Heap.get?_push_of_some _ (S.keep b o k)⟩
  revert hit0 S0 hKi hLi
  generalize s.heap.objs.size = it
  generalize s.heap.push { cls := .type "tuple_iterator", data := .fields #[.ref t, .int 0 0] } = H0
  intro hit0 hKi hLi S0
  refine codeAny_forLoop_any (I := fun n s' => ∃ i m', n = 2 - i ∧ i ≤ 2 ∧ CkS env K s1 m' s' ∧ IsTupIter s'.heap it t i ∧ m' "hasstr" = some (.bool (ckAt κ i).1) ∧ m' "hasbytes" = some (.bool (ckAt κ i).2)) ?_ 2 ⟨0, m, rfl, Nat.zero_le _, S0, hit0, h1, h2⟩
  rintro n' s' ⟨i, m', rfl, hi, S', hit, g1, g2⟩
  have hei : e₁ ≠ it := fun h => hKi _ (h ▸ ho)
  by_cases hlt : i < 2
  · obtain ⟨x, κ', c, hx, htx, k1, k2⟩ := ckAt_get hv hu hlt
    refine next_tuple_item hit (tup S'.keep) hx fun h' hit' sb => ?_
    refine wpAny_pure ?_
    have S2 : CkS env (fun b o => K b o ∨ (b = it ∧ h'.get? b = some o)) s1 m' { s' with heap := h' } := ⟨S'.ns.extBut sb.extBut hLi, S'.same, fun b o k => k.elim (fun k => sb.extBut b o (fun q => hKi o (q ▸ k)) (S'.keep b o k)) fun k => k.2⟩
    have hL2 : ∀ o, ¬ (K env.locals o ∨ (env.locals = it ∧ h'.get? env.locals = some o)) := fun o k => k.elim (hL o) fun k => hLi k.1
    refine ck_store N.C N.s S2.ns fun h3 hn3 sb3 => ?_
    have S3 := S2.store (t := s'.toks + 1) hL2 hn3 sb3
    refine ck_turn N (fun h k => hon h fun b o e => k b o (.inl e)) S3 hL2 (v := x) (by show (if ("s" : Str) = "s" then _ else _) = _; rw [if_pos rfl]) htx
      (by show (if ("hasstr" : Str) = "s" then _ else _) = _; rw [if_neg (by decide)]; exact g1) (by show (if ("hasbytes" : Str) = "s" then _ else _) = _; rw [if_neg (by decide)]; exact g2) fun m4 s4 S4 j1 j2 => ?_
    refine ⟨2 - (i + 1), by omega, i + 1, m4, rfl, hlt, ⟨S4.ns, S4.same, fun b o k => S4.keep b o (.inl k)⟩, ?_, j1.trans (by rw [k1]), j2.trans (by rw [k2])⟩
    obtain ⟨o, ho', r⟩ := hit'
    exact ⟨o, S4.keep _ _ (.inr ⟨rfl, ho'⟩), r⟩
  · have hi' : i = 2 := by omega
    subst hi'
    refine tuple_end hh (S'.keep _ _ ho) hd hs2 hei hit (tup S'.keep) rfl fun h' k => wpAny_execs_nil (q m' _ ⟨S'.ns.extBut k hLi, S'.same, fun b o e => k b o (fun q => hKi o (q ▸ e)) (S'.keep b o e)⟩ g1 g2)
/-- raise TypeError(a text) from None, where an exception is held -/
theorem ck_raise {msg : Str} {n n' : Nat} {q1 q2 q3 q4 q5 : Pos} {e₁ : Addr} {oh : Obj} {hs : Array Value} {Q : Flow → Shared → Prop} (N : CkNames W env) (hon : W.On s.heap) (hh : A.handled = some (.ref e₁)) (ho : s.heap.get? e₁ = some oh) (hd : oh.data = .fields hs) (h2 : hs[2]? = some .none) (hz : msg.length ≤ sizeLine)
    (q : ∀ h' tk e t, (∀ b o, s.heap.get? b = some o → h'.get? b = some o) → s.heap.get? e = none → h'.get? e = some { cls := .type "TypeError", data := .fields #[.ref t, .none, .ref e₁, .none, .bool true, .none] } → E (.ref e) { s with heap := h', toks := tk }) :
    wpAny W.M A (exec (.Raise (some (.Call (.Name "TypeError" q1) [.Constant (.str msg) n q2] [] q3)) (some (.Constant .none n' q4)) q5) env) Q E s := by
  rw [arm_exec_Raise]
  refine wpAny_bind (wpAny_standAt ?_)
  unfold raiseStmt
  obtain ⟨hp, gg, dd, tk, os⟩ := s
  refine wpAny_bind (wpAny_bind (wpAny_Call_ofName (ck_glob N.C N.te hon (callWith_excType (T := "TypeError") (by rw [starEach_plain rfl]; rfl) (evalArgs_of (fun y hy => nomatch (hy ▸ plain_one (env := env) (pos := q3) rfl : ([(true, y)] : List (Bool × Sem Value)).any (·.1) = false)) (spliced_one rfl ?_))))))
  rw [eval_Constant]
  refine wpAny_mkText (wpAny_call_exc PySem.F.excCall_TypeError (fun h' e M => ?_) (show 1 ≤ sizeLine by decide))
  refine wpAny_bind (wpAny_standAt (wpAny_pure ?_))
  obtain ⟨t, he, ht, _⟩ := M.there
  refine wpAny_bind (wpAny_holding ?_)
  dsimp only
  rw [eval_Constant]
  refine wpAny_bind (wpAny_pure (wpAny_bind (wpAny_standAt (wpAny_pure (wpAny_bind (wpAny_pure ?_))))))
  dsimp only
  have hnt : ∀ {H : Heap} {vs : Array Value} {Q' : Bool → Shared → Prop} {A : Around} {tk : Nat}, H.get? e = some { cls := .type "TypeError", data := .fields vs } → Q' false { heap := H, gens := gg, drawn := dd, toks := tk, os := os } → wpAny W.M A (isType (.ref e)) Q' E { heap := H, gens := gg, drawn := dd, toks := tk, os := os } := by
    intro H vs Q' A tk hH hq
    simp only [isType, loadHead]
    exact wpAny_bind (wpAny_loadPart hH (wpAny_pure hq))
  refine wpAny_bind (wpAny_holding ?_)
  unfold excFromValue isExcClass
  refine wpAny_bind (wpAny_bind (hnt he ?_))
  simp only [Bool.false_eq_true, if_false]
  refine wpAny_pure ?_
  simp only [Bool.false_eq_true, if_false]
  refine wpAny_bind (wpAny_isInstance (T := "TypeError") ⟨_, he, rfl⟩ PySem.F.excRaise_TypeError.isExc ?_)
  rw [if_pos rfl]
  refine wpAny_pure ?_
  rw [if_pos (by decide)]
  refine wpAny_bind (wpAny_pure ?_)
  have hlt := Heap.lt_size he
  refine wpAny_bind (wpAny_setField_rec he (show 3 < 6 by decide) fun h2' he2 sb2 => ?_)
  refine wpAny_bind (wpAny_setField_rec he2 (show 4 < 6 by decide) fun h3' he3 sb3 => ?_)
  refine wpAny_bind (hnt he3 ?_)
  rw [if_neg Bool.false_ne_true]
  unfold raisedInstance
  refine wpAny_bind (wpAny_bind (wpAny_typeOf (T := "TypeError") ⟨_, he3, rfl⟩ (wpAny_bind (m := typeOf (.type "TypeError")) (wpAny_pure ?_))))
  rw [if_pos PySem.F.excRaise_TypeError.plainMeta]
  refine wpAny_pure ?_
  unfold setFlight
  refine wpAny_bind (wpAny_bind (wpAny_field he3 rfl (x := Value.none) rfl ?_))
  rw [if_neg (by decide)]
  refine wpAny_pure ?_
  have hne : e₁ ≠ e := fun q => nomatch (q ▸ ho).symm.trans M.new
  have k3 : ∀ b o, hp.get? b = some o → h3'.get? b = some o := fun b o hb =>
    have hb' : b ≠ e := fun q => nomatch (q ▸ hb).symm.trans M.new
    sb3.extBut b o hb' (sb2.extBut b o hb' (M.keeps b o hb))
  refine raise_held hh hne (k3 _ _ ho) hd h2 he3 rfl (show 2 < 6 by decide) (q _ _ _ t (fun b o hb => (Heap.get?_update_other _ _ fun q => nomatch (q ▸ hb).symm.trans M.new).trans (k3 b o hb)) M.new ?_)
  exact Heap.get?_update_self _ he3 rfl
end
end Mine
end
noncomputable section
namespace Mine
open Builtin
/-- the body of _check_arg_types -/
structure CkPos where
  (a1 a2 a3 a4 b1 b2 b3 c1 c2 c3 c4 c5 c6 c7 c8 d1 d2 d3 d4 d5 d6 d7 d8 e1 e2 e3 e4 f1 f2 f3 f4 f5 : Pos)
def ckBody (x : CkPos) (els : List Stmt) (msg : Str) : List Stmt :=
  [.Assign [.Name "hasstr" x.a1, .Name "hasbytes" x.a2] (.Constant (.bool false) 0 x.a3) x.a4,
   .For (.Name "s" x.b1) (.Name "args" x.b2) (ckTurn els x.c1 x.c2 x.c3 x.c4 x.c5 x.c6 x.c7 x.c8 x.d1 x.d2 x.d3 x.d4 x.d5 x.d6 x.d7 x.d8) [] x.b3,
   .If (.BoolOp .And [.Name "hasstr" x.e1, .Name "hasbytes" x.e2] x.e3) [.Raise (some (.Call (.Name "TypeError" x.f1) [.Constant (.str msg) 0 x.f2] [] x.f3)) (some (.Constant .none 0 x.f4)) x.f5] [] x.e4]
def ScLoc (sc : Scope) (x : Str) : Prop := sc.names.lookup x = some .local ∧ badName x = false
def ScGl (W : Wld) (sc : Scope) (x : Str) (v : Value) : Prop := sc.names.lookup x = some .globalImplicit ∧ badName x = false ∧ W.glob x = some v
structure CkSc (W : Wld) (sc : Scope) : Prop where
  kind : sc.kind = .function
  f : sc.names.lookup ("funcname" : Str) = some .local
  s : ScLoc sc "s"
  args : ScLoc sc "args"
  hs : ScLoc sc "hasstr"
  hb : ScLoc sc "hasbytes"
  isi : ScGl W sc "isinstance" (.builtin "isinstance")
  str : ScGl W sc (Str.ofString "str") (.type "str")
  bytes : ScGl W sc (Str.ofString "bytes") (.type "bytes")
  te : ScGl W sc "TypeError" (.type "TypeError")
theorem CkSc.names {W : Wld} {sc : Scope} {env : Env} (S : CkSc W sc) (hk : ∀ x, env.kindOf x = sc.names.lookup x) (C : CkEnv W env) : CkNames W env :=
  have l : ∀ {x}, ScLoc sc x → CkLoc env x := fun h => ⟨(hk _).trans h.1, h.2⟩
  have g : ∀ {x v}, ScGl W sc x v → CkGl W env x v := fun h => ⟨(hk _).trans h.1, h.2⟩
  ⟨C, l S.s, l S.args, l S.hs, l S.hb, g S.isi, g S.str, g S.bytes, g S.te⟩
theorem rep_text6 {v : Value} {k : Bool} {a : List Nat} {h : Heap} {Ok : Addr → Prop} (t : TxtIs v k a) : Rep h Ok v (.txt k a) := by
  cases t with
  | str _ _ => exact .str _ _
  | bytes _ _ => exact .bytes _ _ rfl
theorem ck_two {W : Wld} {env : Env} {A : Around} {s s1 : Shared} {E : Value → Shared → Prop} {m : Str → Option Value} {K : Addr → Obj → Prop} {p1 p2 p3 p4 : Pos} {b : Bool} {Q : Flow → Shared → Prop} (N : CkNames W env) (S : CkS env K s1 m s) (hL : ∀ o, ¬ K env.locals o)
    (q : ∀ m' s', CkS env K s1 m' s' → m' "hasstr" = some (.bool b) → m' "hasbytes" = some (.bool b) → (∀ x : Str, x ≠ "hasstr" → x ≠ "hasbytes" → m' x = m x) → Q .next s') :
    wpAny W.M A (exec (.Assign [.Name "hasstr" p1, .Name "hasbytes" p2] (.Constant (.bool b) 0 p3) p4) env) Q E s := by
  refine wpAny_Assign_two (const_bool _ _ (ck_store N.C N.hs S.ns fun h1 hn1 sb1 => ?_))
  have S1 := S.store (t := s.toks + 1) hL hn1 sb1
  refine ck_store N.C N.hb S1.ns fun h2 hn2 sb2 => q _ _ (S1.store hL hn2 sb2) ?_ ?_ fun x n1 n2 => ?_
  · show (if ("hasstr" : Str) = "hasbytes" then _ else if ("hasstr" : Str) = "hasstr" then _ else _) = _
    rw [if_neg (by decide), if_pos rfl]
  · show (if ("hasbytes" : Str) = "hasbytes" then _ else _) = _
    rw [if_pos rfl]
  · show (if x = "hasbytes" then _ else if x = "hasstr" then _ else _) = _
    rw [if_neg n2, if_neg n1]
theorem chk_raises {W : Wld} {fa : Addr} {fd : FuncData} {x : CkPos} {els : List Stmt} {msg : Str} (D : DefIs W fa fd (ckBody x els msg)) (hpack : Packs W fd ["funcname", "args"] packVar) (N : CkSc W fd.scope) (hz : msg.length ≤ sizeLine)
    {A : Around} {s : Shared} {f v u : Value} {κ : Bool} {a b c : List Nat} {e₁ : Addr} {oh : Obj} {hs : Array Value} {base : Heap} {l : List Env} {R : Result → Shared → Prop}
    (hh : A.handled = some (.ref e₁)) (hfr : A.frames = some l) (hdep : A.depth < recursionLimit) (hl : s.heap.FunFrames base l) (hb : base.StaysIn s.heap) (hon : ∀ h, base.StaysIn h → W.On h)
    (he : s.heap.get? e₁ = some oh) (hd : oh.data = .fields hs) (h2 : hs[2]? = some .none) (hf : TxtIs f false c) (hc : c.length ≤ LIM) (hv : TxtIs v κ a) (ha : a.length ≤ LIM) (hu : TxtIs u (!κ) b) (hbl : b.length ≤ LIM)
    (q : ∀ s' e a0, Same s s' → Heap.FlyingW base l e (.type "TypeError") a0 s'.heap → s.heap.UpToSlots s'.heap → R (.error (.ref e)) s') :
    codeAny W.M A (.call (.ref fa) ⟨[f, v, u], []⟩) R s := by
  obtain ⟨o, hK, hdo⟩ := D.obj
  have hons := hon _ hb
  have hr : Vals s.heap (fun _ => True) [f, v, u] [.txt false c, .txt κ a, .txt (!κ) b] := ⟨.cons (rep_text6 hf) (.cons (rep_text6 hv) (.cons (rep_text6 hu) .nil)), fun x hx => by
    simp only [List.mem_cons, List.not_mem_nil, or_false] at hx
    rcases hx with rfl | rfl | rfl
    · exact .txt _ hc
    · exact .txt _ ha
    · exact .txt _ hbl⟩
  refine codeAny_call_function hdep (hons.frag _ _ hK) hdo D.co D.gen D.body (D.code _ hons) (hpack A.in1 s (fun _ => True) _ _ (fun ys => ys = [.txt false c, .tup [.txt κ a, .txt (!κ) b]]) _ _ hons (fun _ _ => trivial) hr ⟨show 2 ≤ LST by decide, rfl⟩ fun ws ys s1 e1 rw_ hlen hz' => ?_)
  subst hz'
  rw [D.closure, D.globals, D.builtins]
  obtain ⟨f', t', rfl, rf, rt⟩ := rw_.1.inv_two
  obtain ⟨t, ws, rfl, _, ht, rws⟩ := rt.inv
  obtain ⟨v', u', rfl, rv, ru⟩ := rws.inv_two
  have tv : TxtIs v' κ a := rv.inv
  have tu : TxtIs u' (!κ) b := ru.inv
  refine wpAny_newFunctionEnv_cells N.kind (fun y hy => .inl ?_) fun env hen s2 X => ?_
  · simp only [List.zip_cons_cons, List.zip_nil_left, List.mem_cons, List.not_mem_nil, or_false] at hy
    rcases hy with rfl | rfl
    · exact N.f
    · exact N.args.1
  obtain ⟨hsame0, hns, hkeep, hfre⟩ := X.toInCall
  have hsame : Same s1 s2 := by obtain ⟨h, tk, e⟩ := hsame0; rw [e]; exact ⟨rfl, rfl⟩
  have henvl : env.locals = s1.heap.objs.size := by rw [hen]; rfl
  have hfr0 : env.frame = some env.locals := by rw [hen]; rfl
  have hkd : ∀ y, env.kindOf y = fd.scope.names.lookup y := fun y => by rw [hen]; rfl
  have CE : CkEnv W env := ⟨by rw [hen]; exact N.kind, by rw [hen]; rfl, by rw [hen]; rfl, hfr0⟩
  have NN := N.names hkd CE
  have hL1 : s1.heap.get? env.locals = none := henvl ▸ get_size _
  have hL : ∀ o, ¬ s1.heap.get? env.locals = some o := fun o h => nomatch hL1.symm.trans h
  have st1 : base.StaysIn s1.heap := fun b o h => e1.keep b o (hb b o h)
  have hnl := (hons.ext e1).nolimit.keeps hkeep
  refine ⟨hnl, codeAny_func ?_⟩
  have S2 : CkS env (fun b o => s1.heap.get? b = some o) s1 _ s2 := ⟨hns, hsame, hkeep⟩
  have hon1 : ∀ h : Heap, (∀ b o, s1.heap.get? b = some o → h.get? b = some o) → W.On h := fun h k => hon h fun b o e => k b o (st1 b o e)
  obtain ⟨nt, ht⟩ := ht
  refine wpAny_execs_cons (ck_two NN S2 hL fun m3 s3 S3 g1 g2 g3 => ?_)
  refine wpAny_execs_cons (ck_loop NN hon1 S3 hL hh (e1.keep _ _ he) hd h2 ht rfl rfl tv tu ?_ g1 g2 fun m4 s4 S4 j1 j2 => ?_)
  · rw [g3 "args" (by decide) (by decide)]
    refine (bind_at (kd := env.kindOf) (m := fun _ => none) (i := 1) (x := "args") (w := .ref t) (by decide) rfl rfl).1 ((hkd _).trans N.args.1)
  have gt : ∀ {x} {Q : Bool → Shared → Prop} {p : Pos} {E : Value → Shared → Prop} {A : Around}, CkLoc env x → m4 x = some (.bool true) → Q true s4 → wpAny W.M A (isTrue (.Name x p) env (eval (.Name x p) env)) Q E s4 := fun hx hm qq =>
    wpAny_isTrue_value (ck_local CE hx S4.ns hm (wpAny_truthy_bool qq))
  refine wpAny_execs_cons (wpAny_If (wpAny_isTrue_BoolOp (wpAny_allTrue_And_cons (gt NN.hs j1 ?_))))
  rw [if_pos rfl]
  refine wpAny_allTrue_And_cons (gt NN.hb j2 ?_)
  rw [if_pos rfl]
  refine wpAny_allTrue_And_nil ?_
  rw [if_pos rfl]
  refine wpAny_execs_cons (ck_raise NN (hon1 _ S4.keep) hh (S4.keep _ _ (e1.keep _ _ he)) hd h2 hz fun h' tk e t0 k' hn' he' => ?_)
  have st4 : base.StaysIn s4.heap := fun b o h => S4.keep b o (st1 b o h)
  have st5 : base.StaysIn h' := fun b o h => k' b o (st4 b o h)
  have kk : ∀ b o, s.heap.get? b = some o → h'.get? b = some o := fun b o h => k' b o (S4.keep b o (e1.keep b o h))
  have hl5 : h'.FunFrames base (env :: l) := .cons (by rw [CE.kind]; decide) hfr0 (S4.ns.keeps k') (not_base st1 hL1) (hl.of_keeps fun b o h _ => ⟨o, kk b o h, rfl⟩)
  refine wpAny_leaving_firstW (A := A.deeper env) (base := base) (outer := l) (a0 := .ref t0) (by show A.frames.map _ = _; rw [hfr]; rfl) hl5 hfr0 he' st5 (not_base st4 hn') rfl rfl rfl fun h6 ⟨k1, ⟨_, _, k2⟩, k3, k4⟩ => ?_
  refine q _ e _ ((e1.same.trans S4.same).trans ⟨rfl, rfl⟩) ⟨k1, not_base st4 hn', k2, k3⟩ (Heap.UpToSlots.trans (.of_keeps kk) k4)
end Mine
end
noncomputable section
namespace Mine
open Builtin
section
variable {C : Cx} {A : Around} {env : Env} {Ok : Addr → Prop} {ρ : List Slt} {s : Shared}
/-- lstrip, between texts of two kinds -/
theorem lstrip_mixed {r a : ME} {o e : Expr} {apos pos : Pos} {k : Bool} {E Q : Value → Shared → Prop} (ho : notSuper o = true) (hline : (apos.endLine == pos.line) = true) (hn : notStar e = true) (hr : SE C r o) (ha : SE C a e) (H : Here C A env Ok ρ s) (hh : A.handled = none)
    (h : (evA C.Γ r ρ).val fun x _ => (∃ cs, x = .txt (!k) cs) ∧ (evA C.Γ a ρ).val fun y _ => ∃ cs, y = .txt k cs)
    (q : ∀ s1 h' tk e, Ext s s1 → Heap.NewExc s1.heap h' e "TypeError" → E (.ref e) { s1 with heap := h', toks := tk }) :
    wpAny C.W.M A (eval (.Call (.Attribute o Meth.lstrip.nameS apos) [e] [] pos) env) Q E s := by
  rw [arm_eval_Call, base_plain ho]
  refine wpAny_bind (hr A env Ok ρ s _ H h E _ fun ov s1 x lx e1 r1 h1 => wpAny_bind (wpAny_standAt ?_))
  obtain ⟨⟨cs, rfl⟩, h1⟩ := h1
  have hform : methodCallForm (([e] : List Expr).length + ([] : List Keyword).length) (backTo pos (starEach [e] env)) (backToKw pos (keywordEach [] env)) = true := by
    rw [starEach_plain hn]; rfl
  have hpos : methodCallPos true o env apos pos = pure pos := if_pos (by rw [hline]; rfl)
  unfold methodCall
  rw [hform]
  refine wpAny_bind (wpAny_holding ((ok_lstrip (W := C.W)).get A s1 Ok lx ov _ True _ E _ r1 trivial fun _ => wpAny_bind (wpAny_of_eq hpos ?_)))
  refine Calls.callWith_builtin (plain_one hn) (evalArgs_of (fun y hy => ?_) (spliced_one hn (ha A env Ok ρ s1 _ (H.ext e1) h1 E _ fun u s2 y ly e2 r2 h2 => ?_)))
  · rw [starEach_plain hn] at hy; exact nomatch (Prod.mk.inj (List.cons.inj hy).1).1
  · obtain ⟨ct, rfl⟩ := h2
    have hv : TxtIs ov (!k) cs := r1.r.inv.inv
    have hu : TxtIs u k ct := r2.r.inv.inv
    exact lstrip_raises hh hv hu fun h' tk e m => q s2 h' tk e (e1.trans e2) m
end
section
variable {W : Wld} {A : Around} {env : Env} {s : Shared} {E : Value → Shared → Prop} {base : Heap} {l : List Env} {L e : Addr}
theorem ExcAt.keeps {h h' : Heap} {c fl : Value} (x : ExcAt h e c fl base) (k : ∀ b o, h.get? b = some o → h'.get? b = some o) : ExcAt h' e c fl base := by
  obtain ⟨⟨ob, vs, T, oT, ts, he, hc, hd, h1, h2, hT0, hTe, hT, hdT, h3⟩, n⟩ := x
  exact ⟨⟨ob, vs, T, oT, ts, k _ _ he, hc, hd, h1, h2, hT0, hTe, k _ _ hT, hdT, h3⟩, n⟩
theorem ExcAt.typeIs {s : Shared} {c fl : Value} (x : ExcAt s.heap e c fl base) : s.TypeIs (.ref e) "TypeError" := by
  obtain ⟨⟨ob, vs, T, oT, ts, he, hc, _⟩, n⟩ := x
  exact ⟨ob, he, hc⟩
/-- held where its frame is left or the try goes on: back in the frame -/
theorem came_back {cls a0 : Value} (hf : env.frame = some L) (hh : Heap.HeldW base l e cls a0 L s.heap) (h : ∀ h', Heap.HeldW base l e cls a0 L h' → s.heap.UpToSlots h' → E (.ref e) { s with heap := h' }) : cameBackBy W.M A env E (.ref e) s := by
  obtain ⟨f1, f2, f3, oe, vs, T, oT, ts, he, hcls, hd, h1, hnT, hTe, hT, hdT, h3⟩ := hh
  have hsz3 : 3 < ts.size := (Array.getElem?_eq_some_iff.mp h3).1
  have other : ∀ b, b ≠ T → (s.heap.update T (Obj.mapFields (·.setIfInBounds 3 (rawInt L)))).get? b = s.heap.get? b := fun b hb => Heap.get?_update_other _ _ (Ne.symm hb)
  have noRecord : ∀ b o, s.heap.get? b = some o → (∀ vs, o.data ≠ .fields vs) → b ≠ T := fun b o hb hnf q => by
    rw [q, hT] at hb; injection hb with hb; subst hb; exact hnf ts hdT
  unfold cameBackBy
  refine wpAny_bind (wpAny_field he hd h1 ?_)
  rw [if_neg (by simp)]
  unfold setFlight
  rw [hf]
  refine wpAny_bind (wpAny_field he hd h1 ?_)
  rw [if_pos (show (Value.ref T != Value.none) = true from by simp)]
  refine wpAny_setField hT hdT hsz3 (h _ ⟨fun b o hbo => (other b fun q => nomatch (q ▸ hnT).symm.trans hbo).trans (f1 b o hbo), f2, f3.of_keeps fun b o hb hnf => ⟨o, (other b (noRecord b o hb hnf)).trans hb, rfl⟩, ?_⟩ fun b o hb hnf => ⟨o.slots, (other b (noRecord b o hb hnf)).trans hb⟩)
  exact ⟨oe, vs, T, _, _, (other e (Ne.symm hTe)).trans he, hcls, hd, h1, hnT, hTe, Heap.get?_update_self _ hT (Obj.isFreed_of_fields (Obj.data_mapFields hdT _)), Obj.data_mapFields hdT _, by simp [hsz3]⟩
theorem leaves_held {outer : List Env} {cls a0 : Value} {Q : Unit → Shared → Prop} (hf : env.frame = some L) (hh : Heap.HeldW base (env :: outer) e cls a0 L s.heap) (hQ : ∀ h', Heap.FlyingW base outer e cls a0 h' → s.heap.UpToSlots h' → Q () { s with heap := h' }) : wpAny W.M A (leaving env (.ref e)) Q E s := by
  unfold leaving
  refine wpAny_bind (wpAny_noteFrame_againW hf hh.2.2.2 ?_)
  refine wpAny_landsW hh fun h' hfl k => ?_
  obtain ⟨k1, k2, ⟨_, _, k3⟩, k4⟩ := hfl
  exact hQ h' ⟨k1, k2, k3, k4⟩ k
/-- TypeError is one of four -/
theorem matches_four {t : Addr} {T2 T3 T4 : String} {Q : Bool → Shared → Prop} (ht : IsTup s.heap t #[.type "TypeError", .type T2, .type T3, .type T4]) (hX : s.TypeIs (.ref e) "TypeError")
    (h2 : isSubtype (.type T2) (.type "BaseException") = pure true) (h3 : isSubtype (.type T3) (.type "BaseException") = pure true) (h4 : isSubtype (.type T4) (.type "BaseException") = pure true)
    (hs : isSubtype (.type "TypeError") (.type "TypeError") = pure true) (h : Q true s) : wpAny W.M A (excMatches (.ref e) (.ref t)) Q E s := by
  obtain ⟨o, ho, hc, n, hd⟩ := ht
  obtain ⟨hp, g, d, tk, os⟩ := s
  have h1 := PySem.F.excRaise_TypeError.isExc
  unfold excMatches
  refine wpAny_bind (wpAny_isInstance ⟨o, ho, hc⟩ isSubtype_tuple_tuple ?_)
  dsimp only
  rw [if_pos rfl]
  refine wpAny_bind (wpAny_seqItems ho hd ?_)
  dsimp only [Option.getD_some, Option.getD]
  wp_walk
  exact h
end
end Mine
end
noncomputable section
namespace Mine
open Builtin
/-- what a call that raises TypeError leaves -/
def Throws (base : Heap) (l : List Env) (s : Shared) (R : Result → Shared → Prop) : Prop :=
  ∀ s' e a0, Same s s' → Heap.FlyingW base l e (.type "TypeError") a0 s'.heap → s.heap.UpToSlots s'.heap → R (.error (.ref e)) s'
/-- a def that raises TypeError at texts of two kinds, where another is held -/
def ChkOk (W : Wld) (fa : Addr) : Prop :=
  ∀ {A : Around} {s : Shared} {f v u : Value} {κ : Bool} {a b c : List Nat} {e₁ : Addr} {oh : Obj} {hs : Array Value} {base : Heap} {l : List Env} {R : Result → Shared → Prop},
    A.handled = some (.ref e₁) → A.frames = some l → A.depth < recursionLimit → s.heap.FunFrames base l → base.StaysIn s.heap → (∀ h, base.StaysIn h → W.On h) →
    s.heap.get? e₁ = some oh → oh.data = .fields hs → hs[2]? = some .none → TxtIs f false c → c.length ≤ LIM → TxtIs v κ a → a.length ≤ LIM → TxtIs u (!κ) b → b.length ≤ LIM →
    Throws base l s R → codeAny W.M A (.call (.ref fa) ⟨[f, v, u], []⟩) R s
structure HdNames (W : Wld) (env : Env) (fa : Addr) : Prop where
  C : CkEnv W env
  te : CkGl W env "TypeError" (.type "TypeError")
  ae : CkGl W env "AttributeError" (.type "AttributeError")
  bw : CkGl W env "BytesWarning" (.type "BytesWarning")
  dw : CkGl W env "DeprecationWarning" (.type "DeprecationWarning")
  chk : CkGl W env "_check_arg_types" (.ref fa)
theorem exc_ae : isSubtype (.type "AttributeError") (.type "BaseException") = pure true := by rw [isSubtype_type]; kernel_rfl
theorem exc_bw : isSubtype (.type "BytesWarning") (.type "BaseException") = pure true := by rw [isSubtype_type]; kernel_rfl
theorem exc_dw : isSubtype (.type "DeprecationWarning") (.type "BaseException") = pure true := by rw [isSubtype_type]; kernel_rfl
theorem exc_te : isSubtype (.type "TypeError") (.type "TypeError") = pure true := by rw [isSubtype_type]; kernel_rfl

section
variable {W : Wld} {A : Around} {env : Env} {s : Shared} {E : Value → Shared → Prop} {base : Heap} {l : List Env} {e fa : Addr} {fo : Obj} {fd : FuncData} {m m' : Str → Option Value}
theorem rel_handler {t1 t2 t3 t4 t5 g1 g2 g3 g4 g5 g6 g7 : Pos} {rest : Stmt} {v u : Value} {κ : Bool} {a b : List Nat} {Q : Flow → Shared → Prop} (N : HdNames W env fa) (hp : CkLoc env "path") (hs : CkLoc env "start") (hK : W.K.lookup fa = some fo) (hfd : fo.data = .func fd) (hok : ChkOk W fa)
    (hh : A.handled = none) (hfr : A.frames = some (env :: l)) (hdep : A.depth < recursionLimit) (hl : s.heap.FunFrames base (env :: l)) (hb : base.StaysIn s.heap) (hon : ∀ h, base.StaysIn h → W.On h) (x : ExcAt s.heap e .none .none base)
    (hn : s.heap.Ns env.locals m) (hv : m "path" = some v) (hn' : s.heap.Ns env.locals m') (hu : m' "start" = some u) (tv : TxtIs v κ a) (ha : a.length ≤ LIM) (tu : TxtIs u (!κ) b) (hbl : b.length ≤ LIM)
    (q : ∀ s' e' a0, Same s s' → Heap.HeldW base (env :: l) e' (.type "TypeError") a0 env.locals s'.heap → s.heap.UpToSlots s'.heap → E (.ref e') s') :
    wpAny W.M A (handleBy (.ref e) env [.ExceptHandler (some (.Tuple [.Name "TypeError" t1, .Name "AttributeError" t2, .Name "BytesWarning" t3, .Name "DeprecationWarning" t4] 0 t5)) none
      [.Expr (.Call (.Name "_check_arg_types" g1) [.Constant (.str "relpath") 0 g2, .Name "path" g3, .Name "start" g4] [] g5) g6, rest] g7]) Q E s := by
  have hons := hon _ hb
  have hmk : (A.mark (some (.ref e))).handled = some (.ref e) := rfl
  refine wpAny_handleBy_cons (codeAny_handlers_test (wpAny_Tuple (wpAny_items_cons (ck_glob N.C N.te hons (wpAny_items_cons (ck_glob N.C N.ae hons (wpAny_items_cons (ck_glob N.C N.bw hons (wpAny_items_cons (ck_glob N.C N.dw hons (wpAny_items_nil ?_)))))))))))
    (fun q => nomatch q)
  refine ⟨by decide, ?_⟩
  have S1 : Stp base (env :: l) s.heap (s.heap.push { cls := .type "tuple", data := .seq [Value.type "TypeError", .type "AttributeError", .type "BytesWarning", .type "DeprecationWarning"].toArray }) := stp_keeps hb hl fun b o h => Heap.get?_push_of_some _ h
  have x1 := x.keeps (h' := s.heap.push { cls := .type "tuple", data := .seq [Value.type "TypeError", .type "AttributeError", .type "BytesWarning", .type "DeprecationWarning"].toArray }) fun b o h => Heap.get?_push_of_some _ h
  refine matches_four (T2 := "AttributeError") (T3 := "BytesWarning") (T4 := "DeprecationWarning") ⟨_, Heap.get?_push_size _ rfl, rfl, 0, rfl⟩ x1.typeIs exc_ae exc_bw exc_dw exc_te ?_
  rw [if_pos rfl]
  revert S1 x1
  generalize s.heap.push { cls := .type "tuple", data := .seq [Value.type "TypeError", .type "AttributeError", .type "BytesWarning", .type "DeprecationWarning"].toArray } = H1
  intro S1 x1
  refine codeAny_handlers_suite (flight_set (s := { s with heap := H1 }) (fr := none) S1.stays S1.frames x1 fun H2 S2 x2 => ?_)
  have S := S1.trans S2
  have hon2 := hon _ S2.stays
  refine wpAny_execs_cons (wpAny_Expr_any ?_ (by unfold interactive; rw [N.C.kind]; rfl) (swaps_plain rfl _ _ _))
  refine wpAny_Call_ofName (ck_glob N.C N.chk hon2 (Calls.callWith_function (o := fo) (fd := fd) ?_))
  refine evalArgs_of (fun y hy => nomatch (hy ▸ (by rfl) : ([(true, y)] : List (Bool × Sem Value)).any (·.1) = false)) (wpAny_items_cons ?_)
  rw [eval_Constant]
  refine wpAny_mkText (wpAny_items_cons (ck_local N.C hp (S.slots.ns hn) hv (wpAny_items_cons (ck_local N.C hs (S.slots.ns hn') hu (wpAny_items_nil ?_)))))
  refine ⟨⟨hon2.frag _ _ hK, hfd⟩, wpAny_call ?_⟩
  obtain ⟨ob, vs, T, oT, ts, he, hc, hd, h1, h2, _⟩ := x2.there
  refine hok hmk hfr hdep S2.frames S2.stays hon he hd h2 (.str _ _) (by decide) tv ha tu hbl fun s' e' a0 hsame hfl hup => ?_
  show wpAny _ _ (noteFrame (.ref e') env) _ _ s'
  refine wpAny_looks_onW (A := A.mark (some (.ref e))) hfr N.C.frame hfl fun H3 hh3 hu3 => ?_
  refine came_back (W := W) N.C.frame hh3 fun H4 hh4 hu4 => ?_
  exact q _ e' a0 hsame hh4 (S.slots.trans (hup.trans (hu3.trans hu4)))
end
end Mine
end
noncomputable section
namespace Mine
open Builtin
structure RelPos where
  (a1 a2 a3 a4 a5 a6 a7 a8 a9 t1 t2 t3 t4 t5 g1 g2 g3 g4 g5 g6 g7 : Pos)
def relTry (x : RelPos) (more : List Stmt) (rest : Stmt) : Stmt :=
  .Try (.Assign [.Name "start_tail" x.a1] (.Call (.Attribute (.Call (.Name "abspath" x.a2) [.Name "start" x.a3] [] x.a4) Meth.lstrip.nameS x.a5) [.Name "sep" x.a6] [] x.a7) x.a8 :: more)
    [.ExceptHandler (some (.Tuple [.Name "TypeError" x.t1, .Name "AttributeError" x.t2, .Name "BytesWarning" x.t3, .Name "DeprecationWarning" x.t4] 0 x.t5)) none
      [.Expr (.Call (.Name "_check_arg_types" x.g1) [.Constant (.str "relpath") 0 x.g2, .Name "path" x.g3, .Name "start" x.g4] [] x.g5) x.g6, rest] x.g7] [] [] x.a9
/-- relpath of texts of two kinds -/
def RelOk (W : Wld) (k : Nat) (fa : Addr) : Prop :=
  ∀ {A : Around} {s : Shared} {v u : Value} {κ : Bool} {a b : List Nat} {base : Heap} {l : List Env} {R : Result → Shared → Prop},
    RoomF A k → A.frames = some l → s.heap.FunFrames base l → base.StaysIn s.heap → (∀ h, base.StaysIn h → W.On h) → TxtIs v κ a → a.length ≤ LIM → TxtIs u (!κ) b → b.length < LIM → a ≠ [] → b.head? = some 47 →
    Throws base l s R → codeAny W.M A (.call (.ref fa) ⟨[v, u], []⟩) R s
theorem local_of {C : Cx} {F : Fr} {own : Nat → Addr → Prop} {ρ : List Slt} {s : Shared} {x : Str} {i : Nat} {k : Bool} {a : List Nat} (S : StR C F own ρ s) (hx : C.cc.σ x = some i) (hg : getS ρ i = some (.txt k a, 0)) (hk : F.env.kindOf x = some .local) : ∃ v m, s.heap.Ns F.env.locals m ∧ m x = some v ∧ TxtIs v k a := by
  obtain ⟨v, hv, hb, _⟩ := S.get x i hx _ _ hg
  have t : TxtIs v k a := hb.zero_inv.inv
  rcases hv with ⟨_, m, hn, hm⟩ | ⟨h | h, _⟩
  · exact ⟨v, m, hn, hm, t⟩
  · exact nomatch hk.symm.trans h
  · exact nomatch hk.symm.trans h
theorem rel_raises {C : Cx} {fr fc : Addr} {fo : Obj} {fd fdc : FuncData} {x : RelPos} {more : List Stmt} {rest st1 st2 st3 st4 : Stmt} {m1 m2 m3 m4 : MS} {r c : ME} {ip is : Nat}
    (D : DefIs C.W fr fd [st1, st2, st3, st4, relTry x more rest]) (hpack : Packs C.W fd ["path", "start"] fun xs Z => lenIs 2 xs (Z xs)) (hsc : ScopeOk C.cc fd.scope ["path", "start"])
    (h1 : SS C m1 st1) (h2 : SS C m2 st2) (h3 : SS C m3 st3) (h4 : SS C m4 st4) (hr : SE C r (.Call (.Name "abspath" x.a2) [.Name "start" x.a3] [] x.a4)) (hc : SE C c (.Name "sep" x.a6)) (hline : (x.a5.endLine == x.a7.line) = true)
    (hip : C.cc.σ "path" = some ip) (his : C.cc.σ "start" = some is) (lp : ScLoc fd.scope "path") (ls : ScLoc fd.scope "start")
    (gt : ScGl C.W fd.scope "TypeError" (.type "TypeError")) (ga : ScGl C.W fd.scope "AttributeError" (.type "AttributeError")) (gb : ScGl C.W fd.scope "BytesWarning" (.type "BytesWarning")) (gd : ScGl C.W fd.scope "DeprecationWarning" (.type "DeprecationWarning"))
    (gc : ScGl C.W fd.scope "_check_arg_types" (.ref fc)) (hK : C.W.K.lookup fc = some fo) (hfd : fo.data = .func fdc) (hok : ChkOk C.W fc)
    (hpre : ∀ (κ : Bool) (a b : List Nat), a.length ≤ LIM → b.length < LIM → a ≠ [] → b.head? = some 47 → wp C.Γ m1 (slotsOf [.txt κ a, .txt (!κ) b] C.cc.n) fun f1 ρ1 => f1 = .next ∧ wp C.Γ m2 ρ1 fun f2 ρ2 => f2 = .next ∧ wp C.Γ m3 ρ2 fun f3 ρ3 => f3 = .next ∧ wp C.Γ m4 ρ3 fun f4 ρ4 => f4 = .next ∧
      getS ρ4 ip = some (.txt κ a, 0) ∧ getS ρ4 is = some (.txt (!κ) b, 0) ∧ (evA C.Γ r ρ4).val fun y _ => (∃ cs, y = .txt (!κ) cs) ∧ (evA C.Γ c ρ4).val fun z _ => ∃ cs, z = .txt κ cs) :
    RelOk C.W (C.k + 1) fr := by
  intro A s v u κ a b base l R hroom hfr hl hb hon hv ha hu hbl ha0 hb0 q
  have hra : Vals s.heap (fun _ => True) [v, u] [.txt κ a, .txt (!κ) b] := ⟨.cons (rep_text6 hv) (.cons (rep_text6 hu) .nil), mem_cons_all (.txt _ ha) (mem_cons_all (.txt _ (Nat.le_of_lt hbl)) fun _ h => absurd h List.not_mem_nil)⟩
  refine fun_enter D hpack hsc hroom (hon _ hb) (fun _ _ => trivial) hra (Z := fun ys => ys = [.txt κ a, .txt (!κ) b]) rfl fun env s1 s2 ys e1 e2 hframe hL1 hkd hys S => ?_
  subst hys
  refine codeAny_func ?_
  have lv := fun (e : Value) (s' : Shared) => (show Prop from wpAny C.W.M (A.deeper env) (leaving env e) (fun _ s'' => R (.error e) s'') (fun e' s'' => R (.error e') s'') s')
  refine wpAny_execs_cons (h1 _ _ _ s2 _ S (hpre κ a b ha hbl ha0 hb0) _ _ fun o1 s3 ρ1 f1 g1 S1 hf1 z1 => ?_)
  obtain ⟨rfl, z1⟩ := z1
  cases hf1
  refine wpAny_execs_cons (h2 _ _ _ s3 _ S1 z1 _ _ fun o2 s4 ρ2 f2 g2 S2 hf2 z2 => ?_)
  obtain ⟨rfl, z2⟩ := z2
  cases hf2
  refine wpAny_execs_cons (h3 _ _ _ s4 _ S2 z2 _ _ fun o3 s5 ρ3 f3 g3 S3 hf3 z3 => ?_)
  obtain ⟨rfl, z3⟩ := z3
  cases hf3
  refine wpAny_execs_cons (h4 _ _ _ s5 _ S3 z3 _ _ fun o4 s6 ρ4 f4 g4 S4 hf4 z4 => ?_)
  obtain ⟨rfl, hp4, hs4, z4⟩ := z4
  cases hf4
  obtain ⟨vp, mp, np, hmp, tp⟩ := local_of S4 hip hp4 ((hkd _).trans lp.1)
  obtain ⟨vs, ms, ns, hms, ts⟩ := local_of S4 his hs4 ((hkd _).trans ls.1)
  refine wpAny_execs_cons (wpAny_Try_except ?_)
  refine wpAny_execs_cons (wpAny_Assign_Name (lstrip_mixed rfl hline rfl hr hc S4.here hroom.hd z4 fun s7 h8 tk e e7 ne => ?_) (swaps_plain rfl _ _ _))
  have st0 : base.StaysIn s1.heap := fun b o h => e1.keep b o (hb b o h)
  have k8 : ∀ b o, s6.heap.get? b = some o → h8.get? b = some o := fun b o h => ne.keeps b o (e7.keep b o h)
  have k18 : ∀ b o, s1.heap.get? b = some o → h8.get? b = some o := fun b o h => k8 b o (S4.kept b o h)
  have st8 : base.StaysIn h8 := fun b o h => k18 b o (st0 b o h)
  have kk : ∀ b o, s.heap.get? b = some o → h8.get? b = some o := fun b o h => k18 b o (e1.keep b o h)
  have CE : CkEnv C.W env := ⟨S4.st.kind, S4.st.globals, S4.st.builtins, hframe⟩
  have hl8 : h8.FunFrames base (env :: l) := .cons (by rw [CE.kind]; decide) hframe (np.keeps k8) (not_base st0 hL1) (hl.of_keeps fun b o h _ => ⟨o, kk b o h, rfl⟩)
  have hfr' : (A.deeper env).frames = some (env :: l) := by show A.frames.map _ = _; rw [hfr]; rfl
  obtain ⟨ob, t, he, hcl, hd⟩ := ne.there
  refine note_new (base := base) (s := { s7 with heap := h8, toks := tk }) hfr' hl8 hframe st8 (not_base (fun b o h => e7.keep b o (S4.kept b o (st0 b o h))) ne.new) he hcl hd fun h9 T9 x9 => ?_
  refine flight_set (s := { s7 with heap := h9, toks := tk }) (fr := none) T9.stays T9.frames x9 fun h10 T10 x10 => ?_
  have T := T9.trans T10
  have g : ∀ {x v}, ScGl C.W fd.scope x v → CkGl C.W env x v := fun h => ⟨(hkd _).trans h.1, h.2⟩
  have hdep : A.depth < 900 := by have := hroom.dep; omega
  refine rel_handler (W := C.W) (s := { s7 with heap := h10, toks := tk }) (base := base) ⟨CE, g gt, g ga, g gb, g gd, g gc⟩ ⟨(hkd _).trans lp.1, lp.2⟩ ⟨(hkd _).trans ls.1, ls.2⟩ hK hfd hok hroom.hd hfr' (by show A.depth + 1 < recursionLimit; unfold recursionLimit; omega) T.frames T.stays hon x10
    (T.slots.ns (np.keeps k8)) hmp (T.slots.ns (ns.keeps k8)) hms tp ha ts (Nat.le_of_lt hbl) fun s' e' a0 hsame hh hup => ?_
  refine leaves_held (W := C.W) hframe hh fun h12 fl12 up12 => ?_
  refine q _ e' a0 ((((e1.same.trans S4.same).trans e7.same).trans hsame).trans ⟨rfl, rfl⟩) fl12 (Heap.UpToSlots.trans (.of_keeps kk) (T.slots.trans (hup.trans up12)))
end Mine
end
noncomputable section
namespace Mine
open Builtin
structure RefPos where
  (a1 a2 a3 a4 a5 a6 a7 a8 a9 a10 : Pos)
def refBody (x : RefPos) (rest : List Stmt) : List Stmt :=
  .Try [.Expr (.Call (.Name "relpath" x.a1) [.Name "path" x.a2, .Name "start" x.a3] [] x.a4) x.a5] [.ExceptHandler (some (.Name "TypeError" x.a6)) none [.Return (some (.Constant (.bool true) 0 x.a7)) x.a8] x.a9] [] [] x.a10 :: rest
/-- a def that tells that relpath refuses texts of two kinds -/
def RefOk (W : Wld) (k : Nat) (fa : Addr) : Prop :=
  ∀ {A : Around} {s : Shared} {v u : Value} {κ : Bool} {a b : List Nat} {base : Heap} {l : List Env} {R : Result → Shared → Prop},
    RoomF A k → A.frames = some l → s.heap.FunFrames base l → base.StaysIn s.heap → (∀ h, base.StaysIn h → W.On h) → TxtIs v κ a → a.length ≤ LIM → TxtIs u (!κ) b → b.length < LIM → a ≠ [] → b.head? = some 47 →
    (∀ s', Same s s' → base.StaysIn s'.heap → s.heap.UpToSlots s'.heap → R (.ok (.ret (.bool true))) s') → codeAny W.M A (.call (.ref fa) ⟨[v, u], []⟩) R s
theorem not_tup_te : isSubtype (.type ((Manifest.find? "TypeError").elim "type" fun x => x.metatype)) (.type "tuple") = pure false := by rw [isSubtype_type]; kernel_rfl
theorem ref_true {W : Wld} {k : Nat} {fa fr : Addr} {fo : Obj} {fd fdr : FuncData} {x : RefPos} {rest : List Stmt} (D : DefIs W fa fd (refBody x rest)) (hpack : Packs W fd ["path", "start"] fun xs Z => lenIs 2 xs (Z xs)) (hk : fd.scope.kind = .function)
    (lp : ScLoc fd.scope "path") (ls : ScLoc fd.scope "start") (gt : ScGl W fd.scope "TypeError" (.type "TypeError")) (gr : ScGl W fd.scope "relpath" (.ref fr)) (hK : W.K.lookup fr = some fo) (hfd : fo.data = .func fdr) (hok : RelOk W k fr) : RefOk W (k + 1) fa := by
  intro A s v u κ a b base l R hroom hfr hl hb hon hv ha hu hbl ha0 hb0 q
  obtain ⟨o, hK0, hdo⟩ := D.obj
  have hons := hon _ hb
  have hdep : A.depth < recursionLimit := by have := hroom.dep; unfold recursionLimit; omega
  have hr : Vals s.heap (fun _ => True) [v, u] [.txt κ a, .txt (!κ) b] := ⟨.cons (rep_text6 hv) (.cons (rep_text6 hu) .nil), mem_cons_all (.txt _ ha) (mem_cons_all (.txt _ (Nat.le_of_lt hbl)) fun _ h => absurd h List.not_mem_nil)⟩
  refine codeAny_call_function hdep (hons.frag _ _ hK0) hdo D.co D.gen D.body (D.code _ hons) (hpack A.in1 s (fun _ => True) _ _ (fun ys => ys = [.txt κ a, .txt (!κ) b]) _ _ hons (fun _ _ => trivial) hr rfl fun ws ys s1 e1 rw_ hlen hz' => ?_)
  subst hz'
  rw [D.closure, D.globals, D.builtins]
  obtain ⟨v', u', rfl, rv, ru⟩ := rw_.1.inv_two
  have tv : TxtIs v' κ a := rv.inv
  have tu : TxtIs u' (!κ) b := ru.inv
  refine wpAny_newFunctionEnv_cells hk (fun y hy => .inl ?_) fun env hen s2 X => ?_
  · simp only [List.zip_cons_cons, List.zip_nil_left, List.mem_cons, List.not_mem_nil, or_false] at hy
    rcases hy with rfl | rfl
    · exact lp.1
    · exact ls.1
  obtain ⟨hsame0, hns, hkeep, hfre⟩ := X.toInCall
  have hsame : Same s1 s2 := by obtain ⟨h, tk, e⟩ := hsame0; rw [e]; exact ⟨rfl, rfl⟩
  have hfr0 : env.frame = some env.locals := by rw [hen]; rfl
  have hkd : ∀ y, env.kindOf y = fd.scope.names.lookup y := fun y => by rw [hen]; rfl
  have CE : CkEnv W env := ⟨by rw [hen]; exact hk, by rw [hen]; rfl, by rw [hen]; rfl, hfr0⟩
  have hL1 : s1.heap.get? env.locals = none := by rw [hen]; exact get_size _
  have st1 : base.StaysIn s1.heap := fun b o h => e1.keep b o (hb b o h)
  have st2 : base.StaysIn s2.heap := fun b o h => hkeep b o (st1 b o h)
  refine ⟨(hons.ext e1).nolimit.keeps hkeep, codeAny_func ?_⟩
  have g : ∀ {x v}, ScGl W fd.scope x v → CkGl W env x v := fun h => ⟨(hkd _).trans h.1, h.2⟩
  have hp : CkLoc env "path" := ⟨(hkd _).trans lp.1, lp.2⟩
  have hs : CkLoc env "start" := ⟨(hkd _).trans ls.1, ls.2⟩
  have hmp : bindL env.kindOf ([("path" : Str), "start"].zip [v', u']) (fun _ => none) "path" = some v' := (bind_at (kd := env.kindOf) (m := fun _ => none) (i := 0) (x := "path") (w := v') (by decide) rfl rfl).1 hp.1
  have hms : bindL env.kindOf ([("path" : Str), "start"].zip [v', u']) (fun _ => none) "start" = some u' := (bind_at (kd := env.kindOf) (m := fun _ => none) (i := 1) (x := "start") (w := u') (by decide) rfl rfl).1 hs.1
  have kk : ∀ b o, s.heap.get? b = some o → s2.heap.get? b = some o := fun b o h => hkeep b o (e1.keep b o h)
  have hl2 : s2.heap.FunFrames base (env :: l) := .cons (by rw [CE.kind]; decide) hfr0 hns (not_base st1 hL1) (hl.of_keeps fun b o h _ => ⟨o, kk b o h, rfl⟩)
  have hfr' : (A.deeper env).frames = some (env :: l) := by show A.frames.map _ = _; rw [hfr]; rfl
  have hon2 := hon _ st2
  refine wpAny_execs_cons (wpAny_Try_except (wpAny_execs_cons (wpAny_Expr_any ?_ (by unfold interactive; rw [CE.kind]; rfl) (swaps_plain rfl _ _ _))))
  refine wpAny_Call_ofName (ck_glob CE (g gr) hon2 (Calls.callWith_function (o := fo) (fd := fdr) ?_))
  refine evalArgs_of (fun y hy => nomatch (hy ▸ (by rfl) : ([(true, y)] : List (Bool × Sem Value)).any (·.1) = false)) (wpAny_items_cons (ck_local CE hp hns hmp (wpAny_items_cons (ck_local CE hs hns hms (wpAny_items_nil ?_)))))
  refine ⟨⟨hon2.frag _ _ hK, hfd⟩, wpAny_call ?_⟩
  have hroom' : RoomF ((A.deeper env).in1) k := ⟨hroom.hd, by have := hroom.dep; show A.depth + 1 + 2 * k < 900; omega, by have := hroom.un; show A.units + 3 + 1 + 200 * k + 100 < cLine; omega⟩
  refine hok (base := base) (l := env :: l) ?_ hfr' hl2 st2 hon tv ha tu hbl ha0 hb0 fun s' e a0 hsame' hfl hup => ?_
  · exact ⟨hroom.hd, by have := hroom.dep; show A.depth + 1 + 2 * k < 900; omega, by have := hroom.un; show A.units + 3 + 200 * k + 100 < cLine; omega⟩
  refine wpAny_looks_onW (A := A.deeper env) hfr' hfr0 hfl fun h3 hh3 up3 => ?_
  refine wpAny_landsW (s := { s' with heap := h3 }) hh3 fun h4 fl4 up4 => ?_
  have hon4 : W.On h4 := hon _ fl4.1
  obtain ⟨ob, hob, hcl⟩ := fl4.there
  refine wpAny_handleBy_builtin (X := "TypeError") (T := "TypeError") (b := true) PySem.F.excRaise_TypeError.isExc not_tup_te exc_te (ck_glob CE (g gt) hon4 ⟨rfl, ⟨ob, hob, hcl⟩, ?_⟩)
  rw [if_pos rfl]
  refine wpAny_setFlight_noneW (s := { s' with heap := h4 }) fl4.1 fl4.2.2.1 fl4.2.2.2.at fun h5 b5 _ _ k5 => ?_
  refine wpAny_execs_cons (wpAny_Return_some (const_bool _ _ ?_))
  exact q _ (((e1.same.trans hsame).trans hsame').trans ⟨rfl, rfl⟩) b5 (Heap.UpToSlots.trans (.of_keeps kk) (hup.trans (up3.trans (up4.trans fun b o h n => ⟨o.slots, k5 b o h n⟩))))
end Mine
end
noncomputable section
namespace Mine
open Builtin
/-! ## where the frame is the only one: what is turned of it -/
def Fz (F : Fr) : Prop := F.A.frames = some [F.env] ∧ F.env.frame = some F.env.locals
def StepsZ (C : Cx) (run : List Slt → Post → Prop) (t : Env → Sem Flow) : Prop :=
  ∀ F own ρ s (P : Post), Fz F → StR C F own ρ s → run ρ P →
    ∀ (E : Value → Shared → Prop) (Q : Flow → Shared → Prop), (∀ own' s' ρ' fl f, StR C F own' ρ' s' → FlowIs F.Ok s' fl f → P fl ρ' → Q f s') → wpAny C.W.M F.A (t F.env) Q E s
section
variable {C : Cx} {T1 T2 : List Slt → Post → Prop}
theorem Steps.z {t : Env → Sem Flow} (h : Steps C T1 t) : StepsZ C T1 t := fun F own ρ s P _ => h F own ρ s P
theorem sz_skip : StepsZ C (fun ρ Q => Q .next ρ) (PySem.execs []) := fun F own ρ s P _ S h E Q q => wpAny_execs_nil (q own s ρ .next _ S rfl h)
theorem sz_seq {st : Stmt} {rest : List Stmt} (ha : StepsZ C T1 (PySem.exec st)) (hb : StepsZ C T2 (PySem.execs rest)) : StepsZ C (fun ρ Q => T1 ρ (seqK (fun ρ' => T2 ρ' Q) Q)) (PySem.execs (st :: rest)) :=
  fun F own ρ s P Z S h E Q q => wpAny_execs_cons (ha F own ρ s _ Z S h E _ fun own' s' ρ' fl f S' hf hp => by
    cases fl with
    | next => cases hf; exact hb F own' ρ' s' P Z S' hp E Q q
    | brk => cases hf; exact q own' s' ρ' .brk _ S' rfl hp
    | cont => cases hf; exact q own' s' ρ' .cont _ S' rfl hp
    | ret z => obtain ⟨v, rfl, hv⟩ := hf; exact q own' s' ρ' (.ret z) _ S' ⟨v, rfl, hv⟩ hp)
theorem freed_none (h : Heap) (a : Addr) : (h.update a fun o => { o with data := .freed }).get? a = none := by
  cases q : (h.update a fun o => { o with data := .freed }).get? a with
  | none => rfl
  | some o =>
    obtain ⟨e, f⟩ := Heap.get?_some_iff.mp q
    exfalso
    cases h
    simp only [Heap.update, Array.getElem?_modify, if_true] at e
    obtain ⟨o', _, rfl⟩ := Option.map_eq_some_iff.mp e
    exact nomatch f
/-- only the frame's own place is turned, and only its marks -/
theorem StR.slots {F : Fr} {own : Nat → Addr → Prop} {ρ : List Slt} {s s' : Shared} (S : StR C F own ρ s) (hs : Same s s') (hk : ∀ b o, b ≠ F.env.locals → s.heap.get? b = some o → s'.heap.get? b = some o) (hu : s.heap.UpToSlots s'.heap) : StR C F own ρ s' := by
  obtain ⟨m, hm⟩ := S.ns
  have hm' := hu.ns hm
  have kb : KeepBut (fun b => b = F.env.locals) s s' := ⟨hs, fun b o hb => hk b o hb⟩
  have cell : ∀ {c : Addr} {v0}, s.heap.IsCell c v0 → s'.heap.IsCell c v0 := fun h => IsCell.to h fun o => hk _ o fun e => ns_cell hm h e.symm
  refine S.step kb (fun b hb => ⟨S.st.plc b (.inl hb), fun hn => ?_⟩) ⟨m, hm'⟩ (fun x c hx => let ⟨v0, h⟩ := S.cells x c hx; ⟨v0, cell h⟩) rfl (fun x i hx pv l hi => ?_) (fun i a h => .inl ⟨i, h⟩) S.inj
  · obtain ⟨o, _, _, ho, _⟩ := hm'
    rw [hb] at hn
    exact nomatch hn.symm.trans ho
  · obtain ⟨w, h3, h4, z⟩ := S.get x i hx _ _ hi
    refine ⟨w, h3.imp (fun ⟨a, m', hn, e⟩ => ⟨a, m', hu.ns hn, e⟩) fun ⟨a, c, e, hc⟩ => ⟨a, c, e, cell hc⟩, h4.move kb (fun b hb hq => ⟨hb, fun e => ns_seq (e ▸ hm) hq⟩) fun b hb => ⟨fun e => (S.owned i b hb).2.1 (.inl e), hb⟩, z⟩
theorem refused_call {F : Fr} {own : Nat → Addr → Prop} {ρ : List Slt} {s : Shared} {fa : Addr} {fo : Obj} {fd : FuncData} {x y : Str} {i j : Nat} {κ : Bool} {a b : List Nat} {p1 p2 p3 p4 : Pos} {E Q : Value → Shared → Prop} (Z : Fz F) (S : StR C F own ρ s) (hgl : C.cc.gl "_law_refused" = true) (hg : C.W.glob "_law_refused" = some (.ref fa)) (hK : C.W.K.lookup fa = some fo) (hfd : fo.data = .func fd) (hok : RefOk C.W C.k fa)
    (hx : C.cc.σ x = some i) (hy : C.cc.σ y = some j) (bx : badName x = false) (by_ : badName y = false) (gx : getS ρ i = some (.txt κ a, 0)) (gy : getS ρ j = some (.txt (!κ) b, 0)) (ha : a.head? = some 47) (hb : b.head? = some 47) (zb : b.length < LIM) (q : ∀ s', StR C F own ρ s' → Q (.bool true) s') :
    wpAny C.W.M F.A (eval (.Call (.Name "_law_refused" p1) [.Name x p2, .Name y p3] [] p4) F.env) Q E s := by
  obtain ⟨v, hv, bv, zv⟩ := S.get x i hx _ _ gx
  obtain ⟨u, hu, bu, zu⟩ := S.get y j hy _ _ gy
  obtain ⟨m, hm⟩ := S.ns
  have tv : TxtIs v κ a := bv.zero_inv.inv
  have tu : TxtIs u (!κ) b := bu.zero_inv.inv
  have H := S.here
  refine wpAny_Call_ofName (name_global H hgl hg (by decide) (Calls.callWith_function (o := fo) (fd := fd) (evalArgs_of (fun z hz => nomatch (hz ▸ (by rfl) : ([(true, z)] : List (Bool × Sem Value)).any (·.1) = false)) (wpAny_items_cons
    (Holds.load (h := s.heap) hv S.st.kind (bad_inv bx).1 (bad_inv bx).2 (wpAny_items_cons (Holds.load (h := s.heap) hu S.st.kind (bad_inv by_).1 (bad_inv by_).2 (wpAny_items_nil ?_))))))))
  refine ⟨⟨H.on.frag _ _ hK, hfd⟩, wpAny_call ?_⟩
  have sub : ∀ b o, b ≠ F.env.locals → ((s.heap.update F.env.locals fun o => { o with data := .freed }).get? b = some o ↔ s.heap.get? b = some o) := fun b o hb => by rw [Heap.get?_update_other _ _ (Ne.symm hb)]
  have stays : (s.heap.update F.env.locals fun o => { o with data := .freed }).StaysIn s.heap := fun b o h => (sub b o fun e => by rw [e, freed_none] at h; exact nomatch h).mp h
  refine hok (base := s.heap.update F.env.locals fun o => { o with data := .freed }) (l := [F.env]) H.room.toF Z.1 (.cons (by rw [S.st.kind]; decide) Z.2 hm (freed_none _ _) trivial) stays (fun h hh => S.st.on h fun b o hk => hh b o ((sub b o fun e => S.st.plc b (.inl e) o hk).mpr (S.kept b o hk))) tv zv.txt_len tu zb (fun e => by rw [e] at ha; exact nomatch ha) hb fun s' hsame hst hup => ?_
  exact q s' (S.slots hsame (fun b o hb h => hst b o ((sub b o hb).mpr h)) hup)
def refT (i j : Nat) (ρ : List Slt) (P : Post) : Prop := ∃ κ a b, getS ρ i = some (.txt κ a, 0) ∧ getS ρ j = some (.txt (!κ) b, 0) ∧ a.head? = some 47 ∧ b.head? = some 47 ∧ a.length < LIM ∧ b.length < LIM ∧ P .next ρ
theorem sz_refused {fa : Addr} {fo : Obj} {fd : FuncData} {x y : Str} {i j : Nat} {body : List Stmt} {p1 p2 p3 p4 p5 p6 p7 p8 p9 p10 p11 p12 : Pos} (hgl : C.cc.gl "_law_refused" = true) (hg : C.W.glob "_law_refused" = some (.ref fa)) (hK : C.W.K.lookup fa = some fo) (hfd : fo.data = .func fd) (hok : RefOk C.W C.k fa)
    (hx : C.cc.σ x = some i) (hy : C.cc.σ y = some j) (bx : badName x = false) (by_ : badName y = false) :
    StepsZ C (refT i j) (PySem.exec (.If (.BoolOp .Or [.UnaryOp .Not (.Call (.Name "_law_refused" p1) [.Name x p2, .Name y p3] [] p4) p5, .UnaryOp .Not (.Call (.Name "_law_refused" p6) [.Name y p7, .Name x p8] [] p9) p10] p11) body [] p12)) := by
  intro F own ρ s P Z S ⟨κ, a, b, gx, gy, ha, hb, za, zb, h⟩ E Q q
  refine wpAny_If (wpAny_isTrue_BoolOp (wpAny_allTrue_Or_cons (isTrue_not (isTrue_plain (refused_call Z S hgl hg hK hfd hok hx hy bx by_ gx gy ha hb zb fun s1 S1 => wpAny_truthy_bool ?_) rfl))))
  rw [Bool.not_true, if_neg Bool.false_ne_true]
  refine wpAny_allTrue_Or_cons (isTrue_not (isTrue_plain (refused_call (κ := !κ) Z S1 hgl hg hK hfd hok hy hx by_ bx gy (by rw [Bool.not_not]; exact gx) hb ha za fun s2 S2 => wpAny_truthy_bool ?_) rfl))
  rw [Bool.not_true, if_neg Bool.false_ne_true]
  refine wpAny_allTrue_Or_nil ?_
  rw [if_neg Bool.false_ne_true]
  exact wpAny_execs_nil (q own s2 ρ .next _ S2 rfl h)
end
end Mine
end
noncomputable section
namespace Mine
open Builtin
/-! ## a loop where the frame is the only one -/
def forT (Γ : FEnv) (is : List Nat) (src : ME) (T : List Slt → Post → Prop) (ρ : List Slt) (Q : Post) : Prop :=
  (evA Γ src (freeze (esc true src) ρ)).its fun vs l => l0 l (forP T is vs (freeze (esc true src) ρ) Q)
theorem sz_for {C : Cx} {T : List Slt → Post → Prop} (G : C.cc.Good) {is : List Nat} {src : ME} {t e : Expr} {body : List Stmt} {p : Pos} (ht : Target C.cc t is) (hs : SI C src e) (hns : notSet e = true) (hm : StepsZ C T (PySem.execs body)) :
    StepsZ C (forT C.Γ is src T) (PySem.exec (.For t e body [] p)) := by
  intro F own0 ρ0 s P hZ S0 hp E Q q
  obtain ⟨own, S1⟩ := S0.freeze G (esc true src)
  have hp : (evA C.Γ src (freeze (esc true src) ρ0)).its fun vs l => l0 l (forP (T) is vs (freeze (esc true src) ρ0) P) := hp
  revert S1 hp
  generalize freeze (esc true src) ρ0 = ρ
  intro S1 hp
  refine wpAny_For (hs F.A F.env _ _ s _ S1.here hp E _ fun it s2 vs l e2 hit sz h0 => ?_) (folded_plain hns F.env)
  obtain ⟨rfl, h1⟩ := l0_inv h0
  obtain ⟨I, fp, wr, St0, St, rfl, hit⟩ := hit
  have hw := hit.walks F.A S1.st.room.hd
  have S2 := S1.ext e2
  have wrK : ∀ b ∈ wr, ∀ o, ¬ F.Kp b o := fun b hb o hk => nomatch (hit.new b hb).symm.trans (S1.kept b o hk)
  have wrO : ∀ b ∈ wr, ∀ i, ¬ own i b := fun b hb i hi => (S1.owned i b hi).1 (hit.new b hb)
  have wrP : ∀ b ∈ wr, ¬ Plc F.env b := fun b hb h => none_ne (hit.new b hb) (S1.plc_some h)
  have wrL : ∀ b ∈ wr, ∀ o, ¬ LKp F own wr s2 b o := fun b hb o h => h.elim (wrK b hb o) fun h => h.2.2.2 hb
  have S3 : StR C (LF F own wr s2) own ρ s2 := S1.more e2 (fun b o h => .inl h) (fun b o h => h.elim (S2.kept b o) fun h => h.1) (fun b hb o h => h.elim (S1.st.plc b hb o) fun h => h.2.1 hb)
    (fun i b h => ⟨⟨(S1.owned i b h).2.2.1, fun hb => wrO b hb i h⟩, fun o hk => hk.elim ((S1.owned i b h).2.2.2 o) fun hk => hk.2.2.1 i h⟩) (fun a ha => ⟨S2.fresh a ha, fun hb => hit.there 0 _ hit.st a hb ha⟩) fun b hb ⟨_, _, _, ho, _⟩ => ⟨hb, fun hw => nomatch (hit.new b hw).symm.trans ho⟩
  have seen : ∀ b, Okc F.Ok own b → SeqAt s2.heap b → b ∉ wr → ∀ o, s2.heap.get? b = some o → LKp F own wr s2 b o := fun b hb hs hw o ho => .inr ⟨ho, S2.plc_not hs, hb.2, hw⟩
  have hfpK : ∀ b ∈ fp, b ∉ wr → ∃ o, LKp F own wr s2 b o := fun b hb hbw => (hit.kept rfl b hb).elim (fun h => absurd h hbw) fun h => let ⟨o, _, _, ho, _⟩ := h.2; ⟨o, seen b h.1 h.2 hbw o ho⟩
  have back : ∀ {own1 : Nat → Addr → Prop} {ρ1 : List Slt} {s1 : Shared}, StR C (LF F own wr s2) own1 ρ1 s1 → StR C F own1 ρ1 s1 := fun S => StR.less S S1.st (fun b o h => .inl h) fun b hb => hb.1
  refine codeAny_forLoop_any (I := fun n s' => ∃ i own1 ρ1, n = vs.length - i ∧ i ≤ vs.length ∧ StR C (LF F own wr s2) own1 ρ1 s' ∧ St i s'.heap ∧ forP (T) is (vs.drop i) ρ1 P) ?_ vs.length ⟨0, own, ρ, rfl, Nat.zero_le _, S3, hit.st, h1⟩
  rintro n s' ⟨i, own1, ρ1, rfl, hi, S4, st4, hfor⟩
  have wr1 : ∀ b ∈ wr, ¬ Plc F.env b ∧ (∀ i, ¬ own1 i b) ∧ (SeqAt s'.heap b → ¬ LOk F wr b) := fun b hb => ⟨wrP b hb, fun j hj => (S4.owned j b hj).2.2.1.2 hb, fun _ h => h.2 hb⟩
  by_cases hlt : i < vs.length
  · rw [List.drop_eq_getElem_cons hlt] at hfor
    have hx0 : vs[i]? = some vs[i] := List.getElem?_eq_getElem hlt
    revert hx0 hfor
    generalize vs[i] = x0
    intro hfor hx0
    refine hw.item i s' _ _ hlt st4 fun v h' tk hp' st5 hk => ?_
    have S5 : StR C (LF F own wr s2) own1 ρ1 { s' with heap := h', toks := tk } := S4.scr (X := fun b => b ∈ wr) ⟨⟨rfl, rfl⟩, hk⟩ (fun b hb => ⟨wrL b hb, fun hn => absurd hn (hit.there _ _ st5 b hb)⟩) wr1
    revert st5 S5
    show St (i + 1) ({ s' with heap := h', toks := tk } : Shared).heap → _
    generalize ({ s' with heap := h', toks := tk } : Shared) = sa
    intro st5 S5
    have rv : Rep sa.heap (Okc (LF F own wr s2).Ok own1) v x0 := (hit.item i v x0 hx0 hp').mono fun b hb hs =>
      have hK' := seen b hb.1 hs hb.2
      ⟨⟨⟨hb.1.1, hb.2⟩, fun j hj => let ⟨o, _, _, ho, _⟩ := hs; (S5.owned j b hj).2.2.2 o (hK' o ho)⟩, fun o ho => S5.kept b o (hK' o ho)⟩
    refine letGo_target ht (hit.kind _ _ st5) ?_
    have S6 : StR C (LF2 F own wr s2 sa) own1 ρ1 sa :=
      S5.more (.refl sa) (fun b o h => .inl h) (fun b o h => h.elim (S5.kept b o) fun h => h.2) (fun b hb o h => h.elim (S5.st.plc b hb o) fun h => (wr1 b h.1).1 hb) (fun j b h => ⟨(S5.owned j b h).2.2.1, fun o hk => hk.elim ((S5.owned j b h).2.2.2 o) fun hk => (wr1 b hk.1).2.1 j h⟩) S5.fresh fun _ h _ => h
    refine target_stored (F := LF2 F own wr s2 sa) G ht S6 rv (sz.list_all _ (List.mem_of_getElem? hx0)) hfor fun own2 s6 ρ2 S7 hfor => hm (LF2 F own wr s2 sa) own2 ρ2 s6 _ hZ S7 hfor _ _ fun own3 s7 ρ3 fl f S8 hf z => ?_
    have st7 : St (i + 1) s7.heap := hw.frame _ _ _ st5 fun b hb o ho => by
      by_cases hbw : b ∈ wr
      · exact S8.kept b o (.inr ⟨hbw, ho⟩)
      · obtain ⟨o', hK'⟩ := hfpK b hb hbw
        have := S5.kept b o' hK'
        rw [ho] at this
        exact Option.some.inj this ▸ S8.kept b o' (.inl hK')
    have S9 : StR C (LF F own wr s2) own3 ρ3 s7 := StR.less S8 S5.st (fun b o h => .inl h) fun b h => h
    cases fl with
    | next => cases hf; exact ⟨vs.length - (i + 1), Nat.sub_succ_lt_self _ _ hlt, i + 1, own3, ρ3, rfl, hlt, S9, st7, z⟩
    | cont => cases hf; exact ⟨vs.length - (i + 1), Nat.sub_succ_lt_self _ _ hlt, i + 1, own3, ρ3, rfl, hlt, S9, st7, z⟩
    | brk => cases hf; exact q own3 s7 _ .next _ (back S9) rfl z
    | ret r => obtain ⟨v', rfl, hv, hz⟩ := hf; exact q own3 s7 _ (.ret r) _ (back S9) ⟨v', rfl, hv.weaken fun b hb => hb.1, hz⟩ z
  · have hi' : i = vs.length := Nat.le_antisymm hi (Nat.not_lt.mp hlt)
    subst hi'
    rw [List.drop_length] at hfor
    refine hw.done s' _ _ st4 fun h' tk hk => wpAny_execs_nil (q own1 _ ρ1 .next _ ?_ rfl hfor)
    exact StR.scr' (Kp' := LKp F own wr s2) (Ok' := LOk F wr) S4 S1.st (fun b o h => .inl h) (fun b h => h.1) (X := fun b => b ∈ wr) ⟨⟨rfl, rfl⟩, hk⟩ (fun b hb => ⟨wrK b hb, fun _ => S1.fresh b (hit.new b hb)⟩) wr1
/-- the law's frame -/
theorem law_topZ {cc : CC} {W : Wld} {Γ : FEnv} {k : Nat} {T : List Slt → Post → Prop} {body : List Stmt} {A : Around} {env : Env} {s0 s1 : Shared} {m : Str → Option Value} {x : Str} {a : Addr} {vs : List Value} {ns : List Int}
    (hon : W.On s0.heap) (hB : StepsZ ⟨W, Γ, k, cc⟩ T (PySem.execs body)) (sc : ScopeOk cc env.scope [x])
    (hxl : env.scope.names.lookup x = some .local) (hroom : Room A k) (hg : env.globals = mainGlobals) (hb : env.builtins = builtinsNs) (hfr : A.frames = some [env]) (hf : env.frame = some env.locals)
    (hcells : env.cells = []) (hnc : ∀ y, env.scope.names.lookup y ≠ some .cell)
    (hL : env.locals = s0.heap.objs.size) (hns : s1.heap.Ns env.locals m) (hkeep : ∀ b o, s0.heap.get? b = some o → s1.heap.get? b = some o) (hsame : Same s0 s1)
    (hm : m x = some (.ref a)) (hl : s0.heap.PlainList a vs.toArray) (hI : IntsAre vs ns) (hn : ns.length ≤ LST) (hrun : T (slotsOf [.list (ns.map .int)] cc.n) (retK fun v => v = .bool true))
    (E : Value → Shared → Prop) (Q : Flow → Shared → Prop) (q : ∀ s' : Shared, Same s0 s' → (∀ b o, s0.heap.get? b = some o → s'.heap.get? b = some o) → Q (.ret (.bool true)) s') :
    wpAny W.M A (execs body env) Q E s1 := by
  have noc : ∀ {y c}, env.cells.lookup y = some c → False := fun h => by rw [hcells] at h; exact nomatch h
  have T' : StS ⟨W, Γ, k, cc⟩ ⟨A, env, fun b o => s0.heap.get? b = some o, s0, fun _ => True⟩ :=
    ⟨hroom, fun h hh => hon.keeps hh, sc.kind, hg, hb, sc.gl, fun y hy => absurd (sc.cl y hy) (hnc y), fun y i hy => (sc.st y i hy).imp_right fun h => absurd h (hnc y), fun y z c h1 _ => (noc h1).elim, fun b hb o hk => by
      have hk : s0.heap.get? b = some o := hk
      rcases hb with rfl | ⟨y, hy⟩
      · exact Nat.lt_irrefl _ (hL ▸ Heap.lt_size hk)
      · exact noc hy⟩
  have S : StR ⟨W, Γ, k, cc⟩ ⟨A, env, fun b o => s0.heap.get? b = some o, s0, fun _ => True⟩ (fun _ _ => False) (slotsOf [.list (ns.map .int)] cc.n) s1 := by
    refine ⟨T', hkeep, hsame, fun _ _ => trivial, slots_len sc.few, fun y i hy pv l hi => ?_, ⟨m, hns⟩, fun y c h => (noc h).elim, fun _ _ h => h.elim, fun _ _ _ h => h.elim⟩
    obtain ⟨hv, rfl⟩ := get_args hi
    cases i with
    | succ i => exact nomatch hv
    | zero =>
      cases hv
      have e : x = y := sc.good.inj _ _ _ (sc.par 0 x rfl) hy
      subst e
      exact ⟨_, .inl ⟨hxl, m, hns, hm⟩, .zero (.list ⟨trivial, fun _ h => h⟩ (hl.at fun o => hkeep a o) (rep_ints hI)), .list (by rw [List.length_map]; exact hn) fun w hw => let ⟨i, _, e⟩ := List.mem_map.mp hw; e ▸ .int i⟩
  refine hB _ _ _ s1 _ ⟨hfr, hf⟩ S hrun E Q fun own' s' ρ' fl f S' hf hz => ?_
  cases fl with
  | ret v =>
    obtain ⟨w, rfl, hw, _⟩ := hf
    have hz : v = .bool true := hz
    subst hz
    rw [show w = _ from hw.inv]
    exact q s' S'.same S'.kept
  | next => exact nomatch (show PV.none = .bool true from hz)
  | brk => exact hz.elim
  | cont => exact hz.elim
end Mine
end
noncomputable section
namespace Mine
/-! ## law 6: the law -/
def gam15L : FEnv := [fspathF, sepF, joinF, splitrootF, normpathF, abspathF, commonprefixF, relpathF, commonpathF, rowsF, madeF, namesF, laidF, waysF, treeF]
def msL0 : MS := .asg 1 false (.cut (.fn 9 (.cons (.var 0) .nil)) (.lit .none) (.lit (.int 8)))
def msL1 : MS := .asg 2 false (.comp (.comp (.bin .add (.bin .fmod (.bin .sub (.var 7) (.lit (.int 1))) (.lit (.int 255))) (.lit (.int 1))) (.var 6) (.lit (.bool true))) (.var 1) (.lit (.bool true)))
def srcL : ME := .range (.lit (.int 0)) (.bi1 .len (.var 1))
def msL2 : MS := .multi [4, 5] [0, 0] (.cons (.fn 10 (.cons (.bin .add (.list (.cons (.lit (.int 47)) .nil)) (.idx (.var 1) (.var 3))) (.cons (.lit (.int 0)) .nil))) (.cons (.fn 10 (.cons (.bin .add (.list (.cons (.lit (.int 47)) .nil)) (.idx (.var 2) (.lit (.int 0)))) (.cons (.lit (.int 1)) .nil))) .nil))
def msL3 : MS := .ret (.and_ (.fn 14 (.cons (.var 1) (.cons (.lit (.int 0)) .nil))) (.fn 14 (.cons (.var 2) (.cons (.lit (.int 1)) .nil))))
def endT (ρ : List Slt) (Q : Post) : Prop := Q .next ρ
def thenT (T1 T2 : List Slt → Post → Prop) (ρ : List Slt) (Q : Post) : Prop := T1 ρ (seqK (fun ρ' => T2 ρ' Q) Q)
def turnT (Γ : FEnv) : List Slt → Post → Prop := thenT (wp Γ msL2) (thenT (refT 4 5) endT)
def lawT (Γ : FEnv) : List Slt → Post → Prop := thenT (wp Γ msL0) (thenT (wp Γ msL1) (thenT (forT Γ [3] srcL (turnT Γ)) (thenT (wp Γ msL3) endT)))
def rL (a0 : PV) (R : List (List Nat)) (O : List (List Nat)) (s3 s4 s5 : Slt) : List Slt := [some (a0, 0), some (nv R, 0), some (nv O, 0), s3, s4, s5]
section
variable {a0 : PV} {R O : List (List Nat)} {o0 : List Nat} {Q : Post}
theorem law_turn6 {r : List Nat} {i : Nat} {s4 s5 : Slt} {f : List Slt → Prop} (hi : R[i]? = some r) (hr : r.length ≤ 30 ∧ ∀ c ∈ r, c < lim false) (ho : o0.length ≤ 30 ∧ ∀ c ∈ o0, c < lim true)
    (hf : ∀ s4 s5, f (rL a0 R (o0 :: O) (some (.int (i : Int), 0)) s4 s5)) : turnT gam15L (rL a0 R (o0 :: O) (some (.int (i : Int), 0)) s4 s5) (loopK f Q) := by
  have ix : idxAt (R.map iv) (i : Int) = some (iv r) := idx_map hi
  have i0 : idxAt ((o0 :: O).map iv) (0 : Int) = some (iv o0) := rfl
  have L : 65536 ≤ LST := by decide
  have l1 : [PV.int 47].length + (r.map fun (c : Nat) => PV.int (c : Int)).length ≤ LST := by rw [List.length_map]; exact Nat.le_trans (show 1 + r.length ≤ 65536 by omega) L
  have l2 : [PV.int 47].length + (o0.map fun (c : Nat) => PV.int (c : Int)).length ≤ LST := by rw [List.length_map]; exact Nat.le_trans (show 1 + o0.length ≤ 65536 by omega) L
  have c1 : ∀ c ∈ 47 :: r, c < lim false := fun c hc => (List.mem_cons.mp hc).elim (fun e => by rw [e]; decide) (hr.2 c)
  have c2 : ∀ c ∈ 47 :: o0, c < lim true := fun c hc => (List.mem_cons.mp hc).elim (fun e => by rw [e]; decide) (ho.2 c)
  have z1 : (47 :: r).length ≤ 65536 := by rw [List.length_cons]; omega
  have z2 : (47 :: o0).length ≤ 65536 := by rw [List.length_cons]; omega
  exact ⟨rfl, _, ix, l1, false, 47 :: r, rfl, c1, z1, rfl, _, i0, l2, true, 47 :: o0, rfl, c2, z2, rfl, false, 47 :: r, 47 :: o0, rfl, rfl, rfl, rfl, Nat.lt_of_le_of_lt z1 (by decide), Nat.lt_of_le_of_lt z2 (by decide), hf _ _⟩
theorem law_for6 (hR : ∀ r ∈ R, r.length ≤ 30 ∧ ∀ c ∈ r, c < lim false) (ho : o0.length ≤ 30 ∧ ∀ c ∈ o0, c < lim true) (hq : ∀ s3 s4 s5, Q .next (rL a0 R (o0 :: O) s3 s4 s5)) :
    ∀ {m i : Nat} {s3 s4 s5 : Slt}, i + m = R.length → forP (turnT gam15L) [3] ((List.range' i m).map fun (i : Nat) => PV.int (i : Int)) (rL a0 R (o0 :: O) s3 s4 s5) Q := by
  intro m
  induction m with
  | zero => exact fun {i s3 s4 s5} _ => hq s3 s4 s5
  | succ m ih =>
    intro i s3 s4 s5 hi
    have hlt : i < R.length := by omega
    rw [List.range'_succ]
    exact law_turn6 (List.getElem?_eq_getElem hlt) (hR _ (List.getElem_mem hlt)) ho fun s4 s5 => ih (by omega)
end
theorem law6_run (ns : List Int) : lawT gam15L (slotsOf [.list (ns.map .int)] 6) (retK fun v => v = .bool true) := by
  refine ⟨ns, rfl, fun R I => ?_⟩
  obtain ⟨r0, Rs, hR⟩ : ∃ r0 Rs, R.take 8 = r0 :: Rs := by
    cases R with
    | nil => exact absurd rfl I.ne
    | cons a b => exact ⟨a, b.take 7, rfl⟩
  have e8 : PV.list (cut (R.map iv) none (some 8)) = nv (r0 :: Rs) := (nv_take 8 R).symm.trans (by rw [hR])
  have hl : (r0 :: Rs).length ≤ 8 := hR ▸ List.length_take_le 8 R
  have hm : ∀ r ∈ r0 :: Rs, r.length ≤ 30 ∧ ∀ c ∈ r, c < lim false := fun r hr => by
    have := List.mem_of_mem_take (hR ▸ hr)
    exact ⟨I.short r this, I.codes r this⟩
  have ho : ∀ r ∈ r0.map low :: Rs.map (List.map low), r.length ≤ 30 ∧ ∀ c ∈ r, c < lim true := fun r hr => by
    obtain ⟨r', hr', e⟩ := List.mem_map.mp (show r ∈ (r0 :: Rs).map (List.map low) from hr)
    subst e
    exact ⟨by rw [List.length_map]; exact (hm r' hr').1, fun c hc => by obtain ⟨d, _, rfl⟩ := List.mem_map.mp hc; exact low_lt d⟩
  have key : wp gam15L msL1 [some (.list (ns.map .int), 0), some (nv (r0 :: Rs), 0), none, none, none, none] (seqK (fun ρ => thenT (forT gam15L [3] srcL (turnT gam15L)) (thenT (wp gam15L msL3) endT) ρ (retK fun v => v = .bool true)) (retK fun v => v = .bool true)) := by
    refine compP_map (φ := iv) (ψ := fun r => iv (r.map low)) (fun _ _ _ z => z) (fun r hr K z => ?_) ?_
    · refine compP_map (φ := fun (c : Nat) => PV.int (c : Int)) (ψ := fun c => PV.int (low c : Int)) (fun _ _ _ z => z) (fun c _ K z => ⟨by decide, ?_⟩) ?_
      · have e : r.map (fun c => PV.int (low c : Int)) = (r.map low).map fun (c : Nat) => PV.int (c : Int) := (List.map_map (f := low) (g := fun (c : Nat) => PV.int (c : Int)) (l := r)).symm
        rw [e]; exact z
      · have e : ((c : Int) - 1).fmod 255 + 1 = (low c : Int) := by
          have := mod_range ((c : Int) - 1) (show (0 : Int) < 255 by decide)
          unfold low
          omega
        show K (.int ((((c : Int) - 1).fmod 255) + 1)) 0
        rw [e]; exact z
    · have e : (r0 :: Rs).map (fun r => iv (r.map low)) = (r0.map low :: Rs.map (List.map low)).map iv := (List.map_map (f := List.map low) (g := iv) (l := r0 :: Rs)).symm
      rw [e]
      show (-(2 ^ 40 : Int) ≤ 0 ∧ (0 : Int) ≤ 2 ^ 40 ∧ -(2 ^ 40 : Int) ≤ ((((r0 :: Rs).map iv).length : Nat) : Int) ∧ ((((r0 :: Rs).map iv).length : Nat) : Int) ≤ LIM ∧ (((((r0 :: Rs).map iv).length : Nat) : Int) - 0).toNat ≤ LIM) ∧
        forP (turnT gam15L) [3] (rangeF 0 ((((r0 :: Rs).map iv).length : Nat) : Int)) (rL (.list (ns.map .int)) (r0 :: Rs) (r0.map low :: Rs.map (List.map low)) none none none) _
      rw [List.length_map, range_nat]
      refine ⟨range_ok (by omega), law_for6 hm (ho _ (.head _)) (fun s3 s4 s5 => ?_) (i := 0) (Nat.zero_add _)⟩
      exact ⟨false, r0, Rs, rfl, hl, hm, true, r0.map low, Rs.map (List.map low), rfl, by rw [List.length_cons, List.length_map]; exact hl, ho, rfl⟩
  rw [← e8] at key
  exact key
end Mine
end
noncomputable section
namespace Mine
open Builtin

/-! ## += on a list that a name owns -/
section
variable {ρ : List Slt} {i j : Nat} {a b : Slt}
theorem set_comm (h : i ≠ j) : setS (setS ρ i a) j b = setS (setS ρ j b) i a := by
  induction ρ generalizing i j with
  | nil => rfl
  | cons x r ih => cases i with
    | zero => cases j with
      | zero => exact absurd rfl h
      | succ j => rfl
    | succ i => cases j with
      | zero => rfl
      | succ j => exact congrArg (x :: ·) (ih fun e => h (congrArg (· + 1) e))
end
section
variable {C : Cx}
/-! ## a tuple of names takes the values of a tuple display, some of them lists made anew -/
inductive MIt (h : Heap) (Ok : Addr → Prop) : List Nat → List Value → List PV → List Addr → Prop
  | nil : MIt h Ok [] [] [] []
  | plain {v : Value} {x : PV} {os : List Nat} {vs : List Value} {xs : List PV} {as : List Addr} : Rep h Ok v x → MIt h Ok os vs xs as → MIt h Ok (0 :: os) (v :: vs) (x :: xs) as
  | own {a : Addr} {ws : List Value} {ys : List PV} {os : List Nat} {vs : List Value} {xs : List PV} {as : List Addr} : h.PlainList a ws.toArray → RepAll h Ok ws ys → MIt h Ok os vs xs as → MIt h Ok (1 :: os) (.ref a :: vs) (.list ys :: xs) (a :: as)
  | two {a : Addr} {bs : List Addr} {ys : List PV} {os : List Nat} {vs : List Value} {xs : List PV} {as : List Addr} : h.PlainList a (bs.map Value.ref).toArray → RowsRep h Ok bs ys → MIt h Ok os vs xs as → MIt h Ok (2 :: os) (.ref a :: vs) (.list ys :: xs) ((a :: bs) ++ as)
section
variable {h : Heap} {Ok Ok' : Addr → Prop} {os os' : List Nat} {vs vs' : List Value} {xs xs' : List PV} {as as' : List Addr} {s s' : Shared} {X : Addr → Prop}
theorem MIt.move (r : MIt s.heap Ok os vs xs as) (e : KeepBut X s s') (h1 : ∀ b, Ok b → SeqAt s.heap b → Ok' b ∧ ¬ X b) (h2 : ∀ b ∈ as, ¬ X b) : MIt s'.heap Ok' os vs xs as := by
  induction r with
  | nil => exact .nil
  | plain r _ ih => exact .plain (r.mono (e.moves h1)) (ih h2)
  | own q r _ ih => exact .own (q.at fun o => e.keep _ o (h2 _ (.head _))) (r.mono (e.moves h1)) (ih fun b hb => h2 b (.tail _ hb))
  | two q r _ ih => exact .two (q.at fun o => e.keep _ o (h2 _ (.head _))) (r.mono (e.moves h1) fun b hb o => e.keep b o (h2 b (.tail _ (List.mem_append_left _ hb)))) (ih fun b hb => h2 b (List.mem_append_right _ hb))
theorem MIt.append (r : MIt h Ok os vs xs as) (r' : MIt h Ok os' vs' xs' as') : MIt h Ok (os ++ os') (vs ++ vs') (xs ++ xs') (as ++ as') := by
  induction r with
  | nil => exact r'
  | plain r _ ih => exact .plain r ih
  | own q r _ ih => exact .own q r ih
  | two q r _ ih => exact List.append_assoc .. ▸ .two q r ih
theorem MIt.reverse (r : MIt h Ok os vs xs as) : ∃ as', MIt h Ok os.reverse vs.reverse xs.reverse as' ∧ as'.Perm as := by
  induction r with
  | nil => exact ⟨_, .nil, .nil⟩
  | plain r _ ih =>
    obtain ⟨as', ih, hp⟩ := ih
    rw [List.reverse_cons, List.reverse_cons, List.reverse_cons]; have h := ih.append (.plain r .nil); rw [List.append_nil] at h; exact ⟨_, h, hp⟩
  | own q r _ ih =>
    obtain ⟨as', ih, hp⟩ := ih
    rw [List.reverse_cons, List.reverse_cons, List.reverse_cons]; exact ⟨_, ih.append (.own q r .nil), List.perm_append_comm.trans (.cons _ hp)⟩
  | two q r _ ih =>
    obtain ⟨as', ih, hp⟩ := ih
    rw [List.reverse_cons, List.reverse_cons, List.reverse_cons]
    refine ⟨_, ih.append (.two q r .nil), ?_⟩
    rw [List.append_nil]
    exact List.perm_append_comm.trans (hp.append_left _)
theorem MIt.length (r : MIt h Ok os vs xs as) : vs.length = xs.length ∧ os.length = xs.length := by
  induction r with
  | nil => exact ⟨rfl, rfl⟩
  | plain _ _ ih => exact ⟨congrArg (· + 1) ih.1, congrArg (· + 1) ih.2⟩
  | own _ _ _ ih => exact ⟨congrArg (· + 1) ih.1, congrArg (· + 1) ih.2⟩
  | two _ _ _ ih => exact ⟨congrArg (· + 1) ih.1, congrArg (· + 1) ih.2⟩
end
theorem owns_snoc {i : Nat} {o : Nat} {x : PV} {is : List Nat} : ∀ {os : List Nat} {xs : List PV} {ρ : List Slt}, is.length = xs.length → os.length = xs.length → i ∉ is →
    setOwns (is ++ [i]) (os ++ [o]) (xs ++ [x]) ρ = setOwns is os xs (setS ρ i (some (x, ownL o x))) := by
  induction is with
  | nil => intro os xs ρ h1 h2 _; cases List.eq_nil_of_length_eq_zero h1.symm; cases List.eq_nil_of_length_eq_zero h2; rfl
  | cons j is ih =>
    intro os xs ρ h1 h2 hi
    cases xs with
    | nil => exact nomatch h1
    | cons y xs => cases os with
      | nil => exact nomatch h2
      | cons p os =>
        show setOwns (is ++ [i]) (os ++ [o]) (xs ++ [x]) (setS ρ j _) = setOwns is os xs (setS (setS ρ i _) j _)
        rw [ih (Nat.succ.inj h1) (Nat.succ.inj h2) fun h => hi (.tail _ h), set_comm fun e => hi (List.mem_cons.mpr (.inl e.symm))]
theorem owns_reverse {is : List Nat} : ∀ {os : List Nat} {xs : List PV} {ρ : List Slt}, is.length = xs.length → os.length = xs.length → is.Nodup → setOwns is.reverse os.reverse xs.reverse ρ = setOwns is os xs ρ := by
  induction is with
  | nil => intro os xs ρ h1 h2 _; cases List.eq_nil_of_length_eq_zero h1.symm; cases List.eq_nil_of_length_eq_zero h2; rfl
  | cons j is ih =>
    intro os xs ρ h1 h2 hn
    obtain ⟨h3, h4⟩ := List.nodup_cons.mp hn
    cases xs with
    | nil => exact nomatch h1
    | cons y xs => cases os with
      | nil => exact nomatch h2
      | cons p os =>
        rw [List.reverse_cons, List.reverse_cons, List.reverse_cons, owns_snoc (by rw [List.length_reverse, List.length_reverse]; exact Nat.succ.inj h1) (by rw [List.length_reverse, List.length_reverse]; exact Nat.succ.inj h2) (fun h => h3 (List.mem_reverse.mp h)), ih (Nat.succ.inj h1) (Nat.succ.inj h2) h4]
        rfl
/-- places that were made since are not among those that may be walked -/
theorem Here.tights {A : Around} {env : Env} {Ok New : Addr → Prop} {ρ : List Slt} {s s1 : Shared} (H : Here C A env Ok ρ s) (e : Ext s s1) (ha : ∀ a, New a → s.heap.get? a = none ∧ s1.heap.get? a ≠ none) : Here C A env (fun b => Ok b ∧ ¬ New b) ρ s1 :=
  { H.ext e with fresh := fun b hb => ⟨(H.fresh.ext e) b hb, fun q => (ha b q).2 hb⟩, get := fun x i pv l h1 h2 => let ⟨v, p, q⟩ := H.get x i pv l h1 h2; ⟨v, p.keeps e.keep, q.ext' e fun b hb ⟨_, _, _, ho, _⟩ => ⟨hb, fun q => nomatch (ha b q).1.symm.trans ho⟩⟩ }
theorem Here.tight {A : Around} {env : Env} {Ok : Addr → Prop} {ρ : List Slt} {s s1 : Shared} {a : Addr} (H : Here C A env Ok ρ s) (e : Ext s s1) (ha : s.heap.get? a = none) (ha' : s1.heap.get? a ≠ none) : Here C A env (fun b => Ok b ∧ b ≠ a) ρ s1 :=
  H.tights (New := fun b => b = a) e fun b hb => hb ▸ ⟨ha, ha'⟩
/-- the values of a display -/
def SM (C : Cx) (os : List Nat) (me : ME) (es : List Expr) : Prop := ∀ A env Ok ρ s pos Z, Here C A env Ok ρ s → (evA C.Γ me ρ).lst Z →
  ∀ (E : Value → Shared → Prop) (R : List Value → Shared → Prop), (∀ vs s' xs as, Ext s s' → MIt s'.heap (fun b => Ok b ∧ b ∉ as) os vs xs as → as.Nodup → (∀ a ∈ as, s.heap.get? a = none ∧ s'.heap.get? a ≠ none) → (∀ x ∈ xs, Sz x) → Z xs → R vs s') → wpAny C.W.M A (spliced (backTo pos (starEach es env))) R E s
theorem sm_nil : SM C [] .nil [] := fun A env Ok ρ s pos Z H h E R q => Calls.spliced_nil (q [] s [] [] (.refl _) .nil .nil (fun _ h => absurd h List.not_mem_nil) (fun _ h => absurd h List.not_mem_nil) h)
theorem sm_plain {os : List Nat} {a r : ME} {e : Expr} {rest : List Expr} (hn : notStar e = true) (ha : SE C a e) (hr : SM C os r rest) : SM C (0 :: os) (.cons a r) (e :: rest) := by
  intro A env Ok ρ s pos Z H h E R q
  rw [starEach_plain hn]
  refine Calls.spliced_cons (ha A env Ok ρ s _ H h E _ fun v s1 x l e1 r1 h1 => ?_)
  obtain ⟨rfl, h1⟩ := l0_inv h1
  refine hr A env Ok ρ s1 pos _ (H.ext e1) h1 E _ fun vs s2 xs as e2 mi nd has sz h2 => q (v :: vs) s2 (x :: xs) as (e1.trans e2) (.plain (r1.r.rep0.mono fun b hb ⟨_, _, _, ho, _⟩ => ⟨⟨hb, fun hm => nomatch (has b hm).1.symm.trans ho⟩, fun o => e2.keep b o⟩) mi) nd
    (fun a hm => ⟨e1.fresh (has a hm).1, (has a hm).2⟩) (mem_cons_all r1.z sz) h2
theorem sm_own {os : List Nat} {a r : ME} {e : Expr} {rest : List Expr} (hn : notStar e = true) (ha : ∀ A env Ok ρ s (Q : PV → Prop), Here C A env Ok ρ s → (evA C.Γ a ρ).val (fun x l => l0 l (Q x)) → ∀ E R : Value → Shared → Prop, (∀ a vs s' xs, Ext s s' → s.heap.get? a = none → s'.heap.PlainList a vs.toArray → RepAll s'.heap (fun b => Ok b ∧ b ≠ a) vs xs → Sz (.list xs) → Q (.list xs) → R (.ref a) s') → wpAny C.W.M A (eval e env) R E s)
    (hr : SM C os r rest) : SM C (1 :: os) (.cons a r) (e :: rest) := by
  intro A env Ok ρ s pos Z H h E R q
  rw [starEach_plain hn]
  refine Calls.spliced_cons (ha A env Ok ρ s _ H h E _ fun a ws s1 ys e1 hfr hpl hra hsz h1 => ?_)
  have hex := plain_some hpl
  refine hr A env _ ρ s1 pos _ (H.tight e1 hfr hex) h1 E _ fun vs s2 xs as e2 mi nd has sz h2 => q (.ref a :: vs) s2 (.list ys :: xs) (a :: as) (e1.trans e2) ?_ (List.nodup_cons.mpr ⟨fun hm => hex (has a hm).1, nd⟩) (fun b hm => (List.mem_cons.mp hm).elim (fun e => e ▸ ⟨hfr, fun q => hex (e2.fresh q)⟩) fun hm => ⟨e1.fresh (has b hm).1, (has b hm).2⟩) (mem_cons_all hsz sz) h2
  refine .own (hpl.at fun o => e2.keep a o) (hra.mono fun b hb ⟨_, _, _, ho, _⟩ => ⟨⟨hb.1, fun hm => (List.mem_cons.mp hm).elim hb.2 fun hm => nomatch (has b hm).1.symm.trans ho⟩, fun o => e2.keep b o⟩) ?_
  exact mi.move (X := fun _ => False) (s := s2) (KeepBut.refl _ _) (fun b hb _ => ⟨⟨hb.1.1, fun hm => (List.mem_cons.mp hm).elim hb.1.2 hb.2⟩, fun h => h⟩) fun _ _ h => h
/-- a new list of new lists -/
def SN2 (C : Cx) (me : ME) (e : Expr) : Prop := ∀ A env Ok ρ s (Z : PV → Prop), Here C A env Ok ρ s → (evA C.Γ me ρ).val (fun x l => l0 l (Z x)) → ∀ E R : Value → Shared → Prop,
  (∀ a bs s' xs, Ext s s' → (∀ b ∈ a :: bs, s.heap.get? b = none ∧ s'.heap.get? b ≠ none) → (a :: bs).Nodup → s'.heap.PlainList a (bs.map Value.ref).toArray → RowsRep s'.heap (fun b => Ok b ∧ b ∉ a :: bs) bs xs → Sz (.list xs) → Z (.list xs) → R (.ref a) s') → wpAny C.W.M A (eval e env) R E s
theorem sm_two {os : List Nat} {a r : ME} {e : Expr} {rest : List Expr} (hn : notStar e = true) (ha : SN2 C a e) (hr : SM C os r rest) : SM C (2 :: os) (.cons a r) (e :: rest) := by
  intro A env Ok ρ s pos Z H h E R q
  rw [starEach_plain hn]
  refine Calls.spliced_cons (ha A env Ok ρ s _ H h E _ fun a bs s1 ys e1 hfr hnd hpl hra hsz h1 => ?_)
  refine hr A env _ ρ s1 pos _ (H.tights (New := fun b => b ∈ a :: bs) e1 hfr) h1 E _ fun vs s2 xs as e2 mi nd has sz h2 => q (.ref a :: vs) s2 (.list ys :: xs) ((a :: bs) ++ as) (e1.trans e2) ?_
    (List.nodup_append.mpr ⟨hnd, nd, fun b hb c hc q => (hfr b hb).2 (q ▸ (has c hc).1)⟩) (fun b hm => (List.mem_append.mp hm).elim (fun hm => ⟨(hfr b hm).1, fun q => (hfr b hm).2 (e2.fresh q)⟩) fun hm => ⟨e1.fresh (has b hm).1, (has b hm).2⟩) (mem_cons_all hsz sz) h2
  refine .two (hpl.at fun o => e2.keep a o) (hra.mono (fun b hb ⟨_, _, _, ho, _⟩ => ⟨⟨hb.1, fun hm => (List.mem_append.mp hm).elim hb.2 fun hm => nomatch (has b hm).1.symm.trans ho⟩, fun o => e2.keep b o⟩) fun b _ o => e2.keep b o) ?_
  exact mi.move (X := fun _ => False) (s := s2) (KeepBut.refl _ _) (fun b hb _ => ⟨⟨hb.1.1, fun hm => (List.mem_append.mp hm).elim hb.1.2 hb.2⟩, fun h => h⟩) fun _ _ h => h
/-- a display of one empty list -/
theorem sn2_nil {p pos : Pos} : SN2 C (.list (.cons (.list .nil) .nil)) (.List [.List [] p] pos) := by
  intro A env Ok ρ s Z H h E R q
  have h1 : shortN 64 [PV.list []] = true ∧ Z (.list [.list []]) := (show _ ∧ _ from h).2
  refine List_ ?_
  rw [starEach_plain (e := .List [] p) rfl]
  refine Calls.spliced_cons (List_ (Calls.spliced_nil (wpAny_newList (newlist_at (Ok := Ok) (vs := []) (xs := []) 0 s.toks .nil E (fun v s1 => wpAny C.W.M A (spliced []) (fun vs s₂ => wpAny C.W.M A (newList (v :: vs)) R E s₂) E s1) fun b ws s1 e1 hb hpb rb => ?_) (Nat.zero_le _))))
  rw [rb.inv_nil] at hpb
  refine Calls.spliced_nil (wpAny_newList (newlist_at (Ok := fun c => c = b) 0 s1.toks (RepAll.cons (.list rfl hpb .nil) .nil) E _ fun a vs s2 e2 ha hpa ra => ?_) (show 1 ≤ sizeLine by decide))
  obtain ⟨v, ws', rfl, r1, r2⟩ := ra.inv_cons
  obtain ⟨b', vs', rfl, ⟨rfl, hba⟩, hpb2, r3⟩ := r1.inv
  rw [r2.inv_nil] at hpa
  rw [r3.inv_nil] at hpb2
  refine q a [b'] s2 [.list []] (e1.trans e2) (fun c hc => (List.mem_cons.mp hc).elim (fun q => q ▸ ⟨e1.fresh ha, plain_some hpa⟩) fun hc => List.mem_singleton.mp hc ▸ ⟨hb, plain_some hpb2⟩) (List.nodup_cons.mpr ⟨fun hm => hba (List.mem_singleton.mp hm).symm, List.nodup_cons.mpr ⟨List.not_mem_nil, List.nodup_nil⟩⟩) hpa (.cons hpb2 .nil .nil) (.list (by decide) fun x hx => List.mem_singleton.mp hx ▸ .list (by decide) fun x hx => nomatch hx) h1.2
end
end Mine
end
noncomputable section
namespace Mine
open Builtin
section
variable {C : Cx} {F : Fr} {own own' : Nat → Addr → Prop} {ρ ρ' : List Slt} {s s' : Shared} {E : Value → Shared → Prop}
theorem SN.sm {os : List Nat} {a r : ME} {e : Expr} {rest : List Expr} (hn : notStar e = true) (h : SN C a e) (hr : SM C os r rest) : SM C (1 :: os) (.cons a r) (e :: rest) :=
  sm_own hn (fun A env Ok ρ s Q H h1 => h A env Ok ρ s (fun x l => l0 l (Q x)) H h1) hr
/-- stores into names -/
inductive Sts (M : Model) (A : Around) (cc : CC) (env : Env) : List (Value → Sem Unit) → List (Str × Nat) → Prop
  | nil : Sts M A cc env [] []
  | cons {st : Value → Sem Unit} {x : Str} {i : Nat} {sts : List (Value → Sem Unit)} {ns : List (Str × Nat)} : cc.σ x = some i → (∀ (v : Value) (s : Shared) (E : Value → Shared → Prop) (Q : Unit → Shared → Prop), wpAny M A (storeName env x v) Q E s → wpAny M A (st v) Q E s) →
      Sts M A cc env sts ns → Sts M A cc env (st :: sts) ((x, i) :: ns)
theorem Sts.append {M : Model} {A : Around} {cc : CC} {env : Env} {st st' : List (Value → Sem Unit)} {ns ns' : List (Str × Nat)} (h : Sts M A cc env st ns) (h' : Sts M A cc env st' ns') : Sts M A cc env (st ++ st') (ns ++ ns') := by
  induction h with
  | nil => exact h'
  | cons a b _ ih => exact .cons a b ih
theorem storeMany (G : C.cc.Good) {stores : List (Value → Sem Unit)} {ns : List (Str × Nat)} (h : Sts C.W.M F.A C.cc F.env stores ns) : ∀ {own : Nat → Addr → Prop} {ρ : List Slt} {s : Shared} {os : List Nat} {vs : List Value} {xs : List PV} {as : List Addr} {Q : Unit → Shared → Prop},
    StR C F own ρ s → MIt s.heap (Okc F.Ok own) os vs xs as → as.Nodup → (∀ a ∈ as, own C.cc.n a) → (∀ x ∈ xs, Sz x) → ns.length = xs.length →
    (∀ own' s', StR C F own' (setOwns (ns.map (·.2)) os xs ρ) s' → Q () s') → wpAny C.W.M F.A (assignInOrder stores vs) Q E s := by
  induction h with
  | nil =>
    intro own ρ s os vs xs as Q S mi nd has sz hl q
    cases List.eq_nil_of_length_eq_zero hl.symm
    cases mi
    exact wpAny_assignInOrder_none (q own s S)
  | cons hx hst hs ih =>
    intro own ρ s os vs xs as Q S mi nd has sz hl q
    have ne := Nat.ne_of_gt (G.lt _ _ hx)
    cases mi with
    | nil => exact nomatch hl
    | plain r rs =>
      refine wpAny_assignInOrder_more (hst _ s _ _ (S.storeH G hx (new := fun _ => False) (fun _ h => h.elim) (.zero r) (sz _ (.head _)) fun s' kb S' =>
        ih S' (rs.move kb (fun b hb hs => ⟨takes_ok (n := C.cc.n) (fun _ h => h.elim) hb, S.plc_not hs⟩) fun b hb => (S.owned _ b (has b hb)).2.1) nd (fun a ha => .inr ⟨ne, has a ha, fun h => h⟩) (fun y hy => sz y (.tail _ hy)) (Nat.succ.inj hl) q))
    | own pl r rs =>
      rename_i a ws ys os' vs' xs' as'
      obtain ⟨hna, hnd⟩ := List.nodup_cons.mp nd
      have hnew : ∀ (i : Nat) (b : Addr), b = a → Mine.Mine C.cc.n own i b := fun i b hb => ⟨C.cc.n, hb ▸ has a (.head _), .inr (Nat.le_refl _)⟩
      refine wpAny_assignInOrder_more (hst _ s _ _ (S.storeH G hx (new := fun b => b = a) (hnew _) (.one rfl pl r) (sz _ (.head _)) fun s' kb S' =>
        ih S' (rs.move kb (fun b hb hs => ⟨takes_ok (hnew _) hb, S.plc_not hs⟩) fun b hb => (S.owned _ b (has b (.tail _ hb))).2.1) hnd (fun b hb => .inr ⟨ne, has b (.tail _ hb), fun q => hna (q ▸ hb)⟩) (fun y hy => sz y (.tail _ hy)) (Nat.succ.inj hl) q))
    | two pl r rs =>
      rename_i a bs ys os' vs' xs' as'
      obtain ⟨n1, hnd, n3⟩ := List.nodup_append.mp nd
      have hnew : ∀ (i : Nat) (b : Addr), b ∈ a :: bs → Mine.Mine C.cc.n own i b := fun i b hb => ⟨C.cc.n, has b (List.mem_append_left _ hb), .inr (Nat.le_refl _)⟩
      refine wpAny_assignInOrder_more (hst _ s _ _ (S.storeH G hx (new := fun b => b ∈ a :: bs) (hnew _) (.two (.head _) (fun b hb => .tail _ hb) n1 pl r) (sz _ (.head _)) fun s' kb S' =>
        ih S' (rs.move kb (fun b hb hs => ⟨takes_ok (hnew _) hb, S.plc_not hs⟩) fun b hb => (S.owned _ b (has b (List.mem_append_right _ hb))).2.1) hnd (fun b hb => .inr ⟨ne, has b (List.mem_append_right _ hb), fun q => n3 b q b hb rfl⟩) (fun y hy => sz y (.tail _ hy)) (Nat.succ.inj hl) q))
def nameOf : Expr → Option Str
  | .Name nm _ => some nm
  | _ => none
def nameIf (P : Str → Pos → Bool) : Expr → Option Str
  | .Name nm p => if P nm p = true then some nm else none
  | _ => none
theorem Names.sts {M : Model} {A : Around} {cc : CC} {env : Env} {es : List Expr} {is : List Nat} (h : Names cc es is) : ∃ ns : List (Str × Nat), Sts M A cc env ((assignEach es env).map (·.2)) ns ∧ ns.map (·.2) = is ∧ es.filterMap nameOf = ns.map (·.1) := by
  induction h with
  | nil => exact ⟨[], .nil, rfl, rfl⟩
  | cons hx hh ih =>
    obtain ⟨ns, h1, h2, h3⟩ := ih
    rename_i x p i es is
    exact ⟨(x, i) :: ns, .cons hx (fun v s E Q hq => wpAny_assign_Name hq) h1, congrArg _ h2, (List.filterMap_cons_some (show nameOf (.Name x p) = some x from rfl)).trans (congrArg _ h3)⟩
theorem sts_reverse {M : Model} {A : Around} {cc : CC} {env : Env} {stores : List (Value → Sem Unit)} {ns : List (Str × Nat)} (h : Sts M A cc env stores ns) : Sts M A cc env (ns.reverse.map fun x => bindName env x.1) ns.reverse := by
  induction h with
  | nil => exact .nil
  | cons hx _ _ ih =>
    rw [List.reverse_cons, List.map_append]
    exact ih.append (.cons hx (fun v s E Q hq => bindName_ hq) .nil)
theorem filter_names {cc : CC} {P : Str → Pos → Bool} {es : List Expr} {is : List Nat} (h : Names cc es is) : (es.filterMap (nameIf P)).length = es.length → es.filterMap (nameIf P) = es.filterMap nameOf := by
  induction h with
  | nil => exact fun _ => rfl
  | cons hx hr ih =>
    rename_i x p i es' is'
    intro hl
    by_cases hp : P x p = true
    · rw [List.filterMap_cons_some (show nameIf P (.Name x p) = some x from if_pos hp)] at hl ⊢
      rw [List.filterMap_cons_some (show nameOf (.Name x p) = some x from rfl), ih (Nat.succ.inj hl)]
    · rw [List.filterMap_cons_none (show nameIf P (.Name x p) = none from if_neg hp), List.length_cons] at hl
      exact absurd (hl ▸ List.length_filterMap_le (nameIf P) es') (Nat.not_succ_le_self _)
theorem swapped_cases {cc : CC} {env : Env} {es vs : List Expr} {is : List Nat} {n m : Nat} {p q : Pos} (h : Names cc es is) (hc : vs.all (constantsAlone 8) = false) :
    swappedStores [.Tuple es n p] (.Tuple vs m q) env = pure none ∨ swappedStores [.Tuple es n p] (.Tuple vs m q) env = pure (some (es.filterMap nameOf)) := by
  unfold swappedStores
  dsimp only
  split
  · exact .inl rfl
  · split
    · exact .inl rfl
    · split
      · exact .inl rfl
      · split
        · exact .inl rfl
        · rename_i a1 a2 a3 a4
          rw [if_neg (by rw [hc]; exact Bool.false_ne_true)]
          right
          have key : (es.filterMap (nameIf fun nm pos => env.kindOf nm == some NameKind.local && pos.line == (Option.map (fun x => x.pos.line) es.head?).getD 0)).length = es.length := by
            have a5 := a3
            simp only [Bool.or_eq_true, not_or, bne_iff_ne, ne_eq, Decidable.not_not] at a5
            exact a5.1
          exact congrArg (fun z => (pure (some z) : Sem (Option (List Str)))) (filter_names h key)
theorem made_items (G : C.cc.Good) {vs : List Expr} {os : List Nat} {me : ME} {m : Nat} {q : Pos} {Z : List PV → Prop} {Q1 : Shared → Prop} (hv : SM C os me vs) (S : StR C F own ρ s) (hxs : (evA C.Γ me ρ).lst fun xs => shortN 64 xs = true ∧ Z xs)
    (N : Nat) (Fn : List Value → Sem Unit) (hN : ∀ xs, Z xs → N = xs.length) (hF : ∀ vs' xs as own' s', StR C F own' ρ s' → MIt s'.heap (Okc F.Ok own') os vs' xs as → as.Nodup → (∀ a ∈ as, own' C.cc.n a) → (∀ x ∈ xs, Sz x) → Z xs → wpAny C.W.M F.A (Fn vs') (fun _ => Q1) E s') :
    wpAny C.W.M F.A (eval (.Tuple vs m q) F.env) (fun v s₁ => wpAny C.W.M F.A (unpackItems v N none) (fun items s₂ => wpAny C.W.M F.A (Fn items) (fun _ => Q1) E s₂) E s₁) E s := by
  refine Tuple_ (hv F.A F.env _ ρ s q _ S.here hxs E _ fun vs' s' xs as e1 mi nd has sz ⟨hsh, hz⟩ => ?_)
  have hlv := mi.length.1
  rw [hN xs hz]
  refine wpAny_newTuple ?_ (by rw [hlv]; exact lst_size (short_lst hsh))
  have e2 := Ext.push s' { cls := .type "tuple", data := .seq vs'.toArray 0 }
  have hun := wpAny_unpackItems_tuple (prog := C.W.prog) (w := C.W.w) (A := F.A) (E := E) (t := s'.heap.objs.size) (items := vs'.toArray) (s := { s' with heap := s'.heap.push { cls := .type "tuple", data := .seq vs'.toArray 0 } })
    (Q := fun items s₂ => wpAny C.W.M F.A (Fn items) (fun _ => Q1) E s₂) S.st.room.hd ⟨_, Heap.get?_push_size _ rfl, rfl, 0, rfl⟩ fun h' hx => ?_
  · rw [show vs'.toArray.size = xs.length from hlv] at hun
    exact hun
  · have e3 : Ext { s' with heap := s'.heap.push { cls := .type "tuple", data := .seq vs'.toArray 0 } } { s' with heap := h' } := ⟨⟨rfl, rfl⟩, fun b o hb => hx b o (fun q => nomatch (q ▸ get_size _).symm.trans hb) hb⟩
    have e4 := e2.trans e3
    exact hF vs' xs as _ _ (S.hide (new := fun b => b ∈ as) (e1.trans e4) fun a ha => ⟨(has a ha).1, fun q => (has a ha).2 (e4.fresh q)⟩) (mi.move (X := fun _ => False) e4.but (fun b hb _ => ⟨hide_ok hb.1 hb.2, fun h => h⟩) fun _ _ h => h) nd (fun a ha => .inr ⟨rfl, ha⟩) sz hz
/-- a tuple of names takes the values of a tuple display -/
theorem ss_multi (G : C.cc.Good) {es vs : List Expr} {is : List Nat} {os : List Nat} {me : ME} {n m : Nat} {p q pos : Pos} (hn : Names C.cc es is) (hnd : is.Nodup) (hc : vs.all (constantsAlone 8) = false) (hv : SM C os me vs) :
    SS C (.multi is os me) (.Assign [.Tuple es n p] (.Tuple vs m q) pos) := by
  intro F own0 ρ0 s P S0 hp E Q q'
  obtain ⟨own, S⟩ := S0.freeze G (esc true me)
  have hp : (evA C.Γ me (freeze (esc true me) ρ0)).lst fun xs => shortN 64 xs = true ∧ sameLen is xs (P .next (setOwns is os xs (freeze (esc true me) ρ0))) := hp
  revert S hp
  generalize freeze (esc true me) ρ0 = ρ
  intro S hp
  obtain ⟨ns, h1, h2, h3⟩ := hn.sts (M := C.W.M) (A := F.A) (env := F.env)
  have hsw : swapsWithSole [.Tuple es n p] (.Tuple vs m q) pos.line F.env = pure false := rfl
  have hnl : ns.length = is.length := by rw [← h2, List.length_map]
  have hZ : ∀ xs, sameLen is xs (P .next (setOwns is os xs ρ)) → is.length = xs.length ∧ P .next (setOwns is os xs ρ) := fun xs h => same_inv h
  rcases swapped_cases (env := F.env) (n := n) (m := m) (p := p) (q := q) hn hc with hw | hw
  · refine Assign_Tuple ?_ hsw hw
    have h4 := made_items (Q1 := Q .next) (E := E) (m := m) (q := q) G hv S hp is.length (fun items => assignInOrder ((assignEach es F.env).map (·.2)) items) (fun xs h => (hZ xs h).1) fun vs' xs as own' s' S' mi nd has sz hz =>
      storeMany G h1 S' mi nd has sz (hnl.trans (hZ xs hz).1) fun own'' s'' S'' => by rw [h2] at S''; exact q' own'' s'' _ .next _ S'' rfl (hZ xs hz).2
    refine wpAny_mono h4 (fun v s₁ h => ?_) fun _ _ x => x
    rw [arm_assign_Tuple]
    refine wpAny_bind (wpAny_standAt ?_)
    unfold unpack
    rw [hn.length, hn.nostar]
    exact wpAny_bind (wpAny_holding h)
  · refine Assign_Tuple_swapped (names := es.filterMap nameOf) ?_ hsw hw
    have fin : ∀ (vs' : List Value) (xs : List PV) (as : List Addr) (own' : Nat → Addr → Prop) (s' : Shared), StR C F own' ρ s' → MIt s'.heap (Okc F.Ok own') os vs' xs as → as.Nodup → (∀ a ∈ as, own' C.cc.n a) → (∀ x ∈ xs, Sz x) → sameLen is xs (P .next (setOwns is os xs ρ)) →
        wpAny C.W.M F.A (assignInOrder (ns.reverse.map fun x => bindName F.env x.1) vs'.reverse) (fun _ => Q .next) E s' := fun vs' xs as own' s' S' mi nd has sz hz => by
      obtain ⟨hl, hz⟩ := hZ xs hz
      obtain ⟨as', mi', hpm⟩ := mi.reverse
      refine storeMany (os := os.reverse) (xs := xs.reverse) (as := as') (vs := vs'.reverse) G (sts_reverse h1) S' mi' (hpm.nodup_iff.mpr nd) (fun a ha => has a (hpm.mem_iff.mp ha)) (fun x hx => sz x (List.mem_reverse.mp hx)) (by rw [List.length_reverse, List.length_reverse]; exact hnl.trans hl) fun own'' s'' S'' => ?_
      rw [List.map_reverse, h2, owns_reverse hl mi.length.2 hnd] at S''
      exact q' own'' s'' _ .next _ S'' rfl hz
    have h4 := made_items (Q1 := Q .next) (E := E) (m := m) (q := q) G hv S hp (ns.map (·.1)).length (fun items => assignInOrder (ns.reverse.map fun x => bindName F.env x.1) items.reverse) (fun xs h => by rw [List.length_map]; exact hnl.trans (hZ xs h).1) fin
    rw [h3, show (ns.map (·.1)).reverse.map (fun n => bindName F.env n) = ns.reverse.map (fun x => bindName F.env x.1) by rw [← List.map_reverse, List.map_map]; rfl]
    exact h4
end
end Mine
end
noncomputable section
namespace Mine
open Builtin
/-! ## the compiler's further cases: += on an owned list, a tuple of names from a tuple display -/
section
variable {cfg : Cfg} {fns : List Str} {cc : CC} (ih : ∀ (cc : CC) (e : Expr), CE cfg fns cc e) (owns : List Str)
abbrev CM (cfg : Cfg) (fns : List Str) (cc : CC) (vs : List Expr) : Type := { p : List Nat × ME // Snd cfg fns cc fun C => SM C p.1 p.2 vs }
def cMade1 (x : Str) (v : Expr) (vs : List Expr) (hn : notStar v = true) (r : CM cfg fns cc vs) : CM cfg fns cc (v :: vs) :=
  match v with
  | .List ls q => if owns.contains x = true then ⟨(1 :: r.1.1, .cons (.list (cList ih ls).1) r.1.2), fun W Γ k H => SN.sm rfl (sn_list ((cList ih ls).2 W Γ k H)) (r.2 W Γ k H)⟩
      else ⟨(0 :: r.1.1, .cons (.list (cList ih ls).1) r.1.2), fun W Γ k H => sm_plain rfl (se_list ((cList ih ls).2 W Γ k H)) (r.2 W Γ k H)⟩
  | v => ⟨(0 :: r.1.1, .cons (ih cc v).1 r.1.2), fun W Γ k H => sm_plain hn ((ih cc v).2 W Γ k H).se (r.2 W Γ k H)⟩
end
end Mine
end
noncomputable section
namespace Mine
open Builtin
/-! ## a set of one bool -/
section
variable {prog : Program} {w : World} {A : Around} {E : Value → Shared → Prop} {s : Shared} {b : Bool} {D : Addr}
def hashB (b : Bool) : Int := if b then 1 else 0
theorem hash_bool {Q : Int → Shared → Prop} (h : Q (hashB b) { s with toks := s.toks + 1 }) : wpAny (model prog w) A (pyHash (.bool b)) Q E s := by
  have hT : s.TypeIs (.bool b) "bool" := rfl
  unfold pyHash
  have hv : [Value.bool b].any Value.onHeap = false := rfl
  refine wpAny_bind ?_
  rw [cRoomFor, if_neg (by rw [hv]; exact Bool.false_ne_true)]
  refine wpAny_pure ?_
  refine wpAny_bind (wpAny_specialOf hT F.slot_bool_hash.lookup ?_)
  show wpAny _ _ (if (some (Value.builtin "int.__hash__") == some Value.none) = true then _ else _) Q E s
  rw [if_neg (by rw [beq_builtin_none]; exact Bool.false_ne_true)]
  refine wpAny_bind (wpAny_specialOf hT F.slot_bool_hash.lookup ?_)
  show wpAny _ _ (callSpecialIfBoundUnlessNone? (.bool b) "__hash__" _ >>= _) Q E s
  cases b with
  | false =>
    refine wpAny_bind (wpAny_callSpecialIfBoundUnlessNone?_slot hT F.slot_bool_hash
      (wpAny_call_entry F.slot_bool_hash hT entry_int_hash (show wpAny _ _ (do ret (← mkInt 0)) _ _ s from ?_) (args_int_hash _)))
    exact wpAny_ret_mkInt (wpAny_pure h)
  | true =>
    refine wpAny_bind (wpAny_callSpecialIfBoundUnlessNone?_slot hT F.slot_bool_hash
      (wpAny_call_entry F.slot_bool_hash hT entry_int_hash (show wpAny _ _ (do ret (← mkInt 1)) _ _ s from ?_) (args_int_hash _)))
    exact wpAny_ret_mkInt (wpAny_pure h)
/-- the set before anything is added, and with one bool -/
def Set0 (h : Heap) (D : Addr) (led : Bool) : Prop := h.get? D = some { cls := .type "set", dict := none, data := .set #[] 0 (.fresh 0 0 led) }
def tab1 (b led : Bool) : SetTable := { mask := 7, place := #[if b then 1 else 0], dummies := #[], finger := 0, led := led, moves := 0, plain := true }
def Set1 (h : Heap) (D : Addr) (b led : Bool) : Prop := h.get? D = some { cls := .type "set", dict := none, data := .set #[(hashB b, .bool b)] 1 (tab1 b led) }
theorem lay_bool (b led : Bool) : layNew (.fresh 0 0 led) #[] (hashB b) (.bool b) = (#[(hashB b, .bool b)], tab1 b led, false, false) := by
  cases b <;> cases led <;> rfl
theorem eq_bool_self {Q : Bool → Shared → Prop} (h : Q true s) : wpAny (model prog w) A (eqBool (.bool b) (.bool b)) Q E s := by
  unfold eqBool
  show wpAny _ _ (if (Value.bool b == Value.bool b) = true then _ else _) Q E s
  rw [if_pos (by cases b <;> rfl)]
  exact wpAny_bind (wpAny_rule (wpAny_pure h))
theorem add_first {led : Bool} {Q : Value → Shared → Prop} (hS : Set0 s.heap D led) (h : ∀ h', Heap.SameBut D s.heap h' → Set1 h' D b led → Q .none { s with heap := h', toks := s.toks + 1 }) :
    wpAny (model prog w) A (call (.builtin "set.add") [.ref D, .bool b]) Q E s := by
  have hT : s.TypeIs (.ref D) "set" := ⟨_, hS, rfl⟩
  refine wpAny_call_entry F.slot_set_add hT F.entry_set_add ?_ (F.args_set_add_2 _ _)
  unfold Builtin.«set.add» Builtin.Frozenset.oneOther
  simp only [List.isEmpty_nil, bind_assoc]
  unfold Builtin.Frozenset.addrOf setAdd
  refine wpAny_bind (wpAny_pure ?_)
  try dsimp only
  refine wpAny_bind (wpAny_pure ?_)
  try dsimp only
  refine wpAny_bind (wpAny_holding (wpAny_bind (hash_bool ?_)))
  unfold setAddHashed setAddHashedIn
  refine wpAny_holding (wpAny_bind (wpAny_setState_of (s := { s with toks := s.toks + 1 }) hS rfl (by cases led <;> rfl) ?_))
  dsimp only
  rw [show byScan (.bool b) #[] = true by cases b <;> decide +kernel, if_pos rfl]
  unfold setAddByScan
  refine wpAny_bind (wpAny_bind (wpAny_rule (wpAny_bind (show wpAny _ _ (setScan D (.bool b) (hashB b) true #[]) _ _ _ from wpAny_pure ?_))))
  dsimp only
  refine wpAny_bind (wpAny_pure ?_)
  rw [lay_bool]
  dsimp only
  have e1 : (if true = true then tab1 b led else { tab1 b led with plain := false }) = tab1 b led := if_pos rfl
  rw [if_pos (show (tab1 b led).plain = true from rfl)]
  refine wpAny_bind (wpAny_of_eq (show hashByValue 8 (.bool b) = pure true from rfl) (wpAny_bind (wpAny_storeSet_of (s := { s with toks := s.toks + 1 }) hS rfl ?_)))
  rw [if_pos (show true = true from rfl), if_neg (show ¬ (!false && (tab1 b led).tooFull) = true by cases b <;> cases led <;> decide)]
  refine wpAny_pure (wpAny_pure (wpAny_pure ⟨_, rfl, h _ (Heap.SameBut.update _ D _) ?_⟩))
  exact Heap.get?_update_self _ hS rfl
theorem add_again {led : Bool} {Q : Value → Shared → Prop} (hS : Set1 s.heap D b led) (h : Q .none { s with toks := s.toks + 1 }) :
    wpAny (model prog w) A (call (.builtin "set.add") [.ref D, .bool b]) Q E s := by
  have hT : s.TypeIs (.ref D) "set" := ⟨_, hS, rfl⟩
  have hf : (tab1 b led).fits 1 = true := by cases b <;> cases led <;> rfl
  refine wpAny_call_entry F.slot_set_add hT F.entry_set_add ?_ (F.args_set_add_2 _ _)
  unfold Builtin.«set.add» Builtin.Frozenset.oneOther
  simp only [List.isEmpty_nil, bind_assoc]
  unfold Builtin.Frozenset.addrOf setAdd
  refine wpAny_bind (wpAny_pure ?_)
  try dsimp only
  refine wpAny_bind (wpAny_pure ?_)
  try dsimp only
  refine wpAny_bind (wpAny_holding (wpAny_bind (hash_bool ?_)))
  unfold setAddHashed setAddHashedIn
  refine wpAny_holding (wpAny_bind (wpAny_setState_of (s := { s with toks := s.toks + 1 }) hS rfl hf ?_))
  dsimp only
  rw [show byScan (.bool b) #[(hashB b, .bool b)] = true by cases b <;> decide +kernel, if_pos rfl]
  unfold setAddByScan
  refine wpAny_bind (wpAny_bind (wpAny_rule (wpAny_bind (m := setScan D (.bool b) (hashB b) true #[(hashB b, .bool b)]) ?_)))
  show wpAny _ _ (setScanFrom D (.bool b) (hashB b) true [(hashB b, .bool b)] 0) _ _ _
  unfold setScanFrom
  rw [if_pos (beq_self_eq_true _)]
  refine wpAny_bind (wpAny_setEpoch_of (s := { s with toks := s.toks + 1 }) hS rfl hf (wpAny_bind (eq_bool_self ?_)))
  rw [if_pos (show (true && true) = true from rfl)]
  exact wpAny_pure (wpAny_pure (wpAny_pure (wpAny_pure ⟨_, rfl, h⟩)))
theorem compTurn_set (elt target iter : Expr) (ifs : List Expr) (scope : Scope) (pos : Pos) (it acc : Value) (env : Env) :
    compTurn (.SetComp elt [⟨target, iter, ifs, 0⟩] scope pos) 0 it acc env = (do
      standAt iter.pos
      match ← pyNext it with
      | none => pure (.done .next)
      | some v =>
        letOwnedTupleGo target it v
        assign target env v
        let mut ok := true
        for c in ifs do
          if ok then ok ← isTrue c env (eval c env)
        if ok then
          (do let v ← eval elt env; standAt elt.pos; let _ ← call (.builtin "set.add") [acc, v])
        again (.compLoop (.SetComp elt [⟨target, iter, ifs, 0⟩] scope pos) 0 it acc env)) := by rfl
theorem compLoop_set {elt target iter : Expr} {scope : Scope} {pos : Pos} {it acc : Value} {env : Env} {R : Result → Shared → Prop} (I : Nat → Shared → Prop)
    (turn : ∀ n s, I n s → wpAny (model prog w) A (pyNext it) (fun r s₁ => match r with
      | none => R (.ok .next) s₁
      | some v => wpAny (model prog w) A (assign target env v) (fun _ s₂ =>
          wpAny (model prog w) A (eval elt env) (fun x s₄ =>
              wpAny (model prog w) A (call (.builtin "set.add") [acc, x]) (fun _ s₅ => ∃ m, m < n ∧ I m s₅) (notedBy (model prog w) A env fun e s' => R (.error e) s') s₄) (notedBy (model prog w) A env fun e s' => R (.error e) s') s₂) (notedBy (model prog w) A env fun e s' => R (.error e) s') s₁) (notedBy (model prog w) A env fun e s' => R (.error e) s') s)
    (n : Nat) (h : I n s) (ht : ∀ v, letOwnedTupleGo target it v = pure ()) :
    codeAny (model prog w) A (.compLoop (.SetComp elt [⟨target, iter, [], 0⟩] scope pos) 0 it acc env) R s := by
  refine codeAny_loop rfl I (fun n s hI => ?_) n h
  show wpAny _ A ((compTurn (.SetComp elt [⟨target, iter, [], 0⟩] scope pos) 0 it acc env).onRaise (fun x => do noteFrame x env; theTreesLotGoes x)) _ _ s
  refine wpAny_noted ?_
  rw [compTurn_set]
  refine wpAny_bind (wpAny_standAt (wpAny_bind (wpAny_mono (turn n s hI) (fun r s₁ h₁ => ?_) fun _ _ h' => h')))
  cases r with
  | none => exact wpAny_pure h₁
  | some v =>
    refine wpAny_bind (wpAny_of_eq (ht v) ?_)
    refine wpAny_bind (wpAny_mono h₁ (fun _ s₂ h₂ => wpAny_bind (wpAny_tests_nil ?_)) fun _ _ h' => h')
    exact wpAny_bind (wpAny_bind (wpAny_mono h₂ (fun x s₄ h₄ => wpAny_bind (wpAny_standAt (wpAny_bind (wpAny_mono h₄ (fun _ s₅ h₅ => wpAny_pure (wpAny_pure ⟨rfl, h₅⟩)) fun _ _ h' => h')))) fun _ _ h' => h'))
theorem compStart_set {elt target iter : Expr} {ifs : List Expr} {rest : List Comprehension} {scope : Scope} {pos : Pos} {it acc : Value} {env : Env} {R : Result → Shared → Prop}
    (h0 : codeAny (model prog w) A (.compLoop (.SetComp elt (⟨target, iter, ifs, 0⟩ :: rest) scope pos) 0 it acc env) R s)
    (h : wpAny (model prog w) A (pyIter it) (fun it' s' => codeAny (model prog w) A (.compLoop (.SetComp elt (⟨target, iter, ifs, 0⟩ :: rest) scope pos) 0 it' acc env) R s')
      (notedBy (model prog w) A env fun x s' => R (.error x) s') s) :
    codeAny (model prog w) A (.compStart (.SetComp elt (⟨target, iter, ifs, 0⟩ :: rest) scope pos) 0 it acc env) R s := by
  refine codeAny_of_tree ?_
  show wpAny _ A ((compStart (.SetComp elt (⟨target, iter, ifs, 0⟩ :: rest) scope pos) 0 it acc env).onRaise (fun x => do noteFrame x env; standAt theWindowsPlace)) _ _ s
  refine wpAny_notedAt ?_
  unfold compStart
  show wpAny _ _ (ask >>= _) _ _ s
  refine wpAny_bind (wpAny_askSetting (wpAny_ite ?_))
  split
  · exact wpAny_bind (wpAny_pure (wpAny_pure (And.intro rfl h0)))
  · exact wpAny_bind (wpAny_rule (wpAny_bind (wpAny_standAt (wpAny_bind (wpAny_mono h (fun it' s' h' => wpAny_pure (And.intro rfl h')) fun _ _ x => x)))))
end
def SetAt (b led : Bool) (D : Addr) (h : Heap) : Bool → Prop
  | false => Set0 h D led
  | true => Set1 h D b led
theorem SetAt.keeps {b led seen : Bool} {D : Addr} {h h' : Heap} (x : SetAt b led D h seen) (k : ∀ o, h.get? D = some o → h'.get? D = some o) : SetAt b led D h' seen := by
  cases seen <;> exact k _ x
theorem SetAt.there {b led seen : Bool} {D : Addr} {h : Heap} (x : SetAt b led D h seen) : ∃ o, h.get? D = some o := by
  cases seen <;> exact ⟨_, x⟩
section
variable {C : Cx} {A : Around} {env : Env} {Ok : Addr → Prop} {ρ : List Slt} {s : Shared}
structure SInv (Ok : Addr → Prop) (D B : Addr) (wr : List Addr) (St : Nat → Heap → Prop) (s1 : Shared) (g : PV → (PV → Nat → Prop) → Prop) (xs : List PV) (b led : Bool) (P : Prop) (i : Nat) (seen : Bool) (m : Str → Option Value) (s' : Shared) : Prop where
  le : i ≤ xs.length
  kb : KeepBut (Chg D B wr) s1 s'
  st : St i s'.heap
  set : SetAt b led D s'.heap seen
  ns : s'.heap.Ns B m
  run : onesP g b seen (xs.drop i) P
theorem set_loop {elt iter : Expr} {x : Str} {px : Pos} {scope : Scope} {pos : Pos} {cl : List (Str × Addr)} {me : ME} {s0 s1 s2 : Shared} {I : Addr} {fp wr : List Addr} {P : Nat → Value → Prop} {St : Nat → Heap → Prop} {xs : List PV} {D B : Addr} {R : Result → Shared → Prop} {m : Str → Option Value} {z Z : Prop} {b led : Bool}
    (H : Here C A env Ok ρ s0) (hc : CompOk C.cc scope x) (hcl : ∀ y, scope.names.lookup y = some .free → cl.lookup y = env.cells.lookup y)
    (he : SE (C.comp scope x) me elt)
    (e1 : Ext s0 s1) (hit : Itr C.W Ok z s0 s1 xs I fp wr P St) (hxz : Sz (.list xs)) (e2 : Ext s1 s2) (hD : s1.heap.get? D = none) (hB : s1.heap.get? B = none) (hDB : D ≠ B) (hD2 : Set0 s2.heap D led) (hB2 : s2.heap.Ns B m) (hDf : D ∉ fp) (hBf : B ∉ fp)
    (hev : onesP (fun x => (evA C.Γ me (ρ ++ [some (x, 0)])).val) b false xs Z)
    (hR : ∀ s' m', Ext s0 s' → Set1 s'.heap D b led → Z → s'.heap.Ns B m' → R (.ok .next) s') :
    codeAny C.W.M A (.compLoop (.SetComp elt [⟨.Name x px, iter, [], 0⟩] scope pos) 0 (.ref I) (.ref D) (compEnvC scope cl B env)) R s2 := by
  have hw := hit.walks A H.room.hd
  have hDw : D ∉ wr := fun h => hDf (hw.sub _ h)
  have hBw : B ∉ wr := fun h => hBf (hw.sub _ h)
  have nw1 : ∀ b, Chg D B wr b → b ∉ wr → s1.heap.get? b = none := fun b h hb => h.elim (fun e => e ▸ hD) fun h => h.elim (fun e => e ▸ hB) fun h => absurd h hb
  have nw : ∀ b, Chg D B wr b → s0.heap.get? b = none := fun b h => h.elim (fun e => e ▸ e1.fresh hD) fun h => h.elim (fun e => e ▸ e1.fresh hB) (hit.new b)
  have hok : ∀ b, Ok b → SeqAt s0.heap b → Ok b ∧ ¬ Chg D B wr b := fun b hb ⟨_, _, _, ho, _⟩ => ⟨hb, fun h => nomatch (nw b h).symm.trans ho⟩
  refine compLoop_set (I := fun n s' => ∃ i seen m', n = xs.length - i ∧ SInv Ok D B wr St s1 (fun x => (evA C.Γ me (ρ ++ [some (x, 0)])).val) xs b led Z i seen m' s') ?_ xs.length
    ⟨0, false, m, rfl, Nat.zero_le _, e2.but, hw.frame _ _ _ hit.st fun b _ o => e2.keep b o, hD2, hB2, hev⟩ (fun _ => rfl)
  rintro n s' ⟨i, seen, m', rfl, V⟩
  by_cases hlt : i < xs.length
  · have hx0 : xs[i]? = some xs[i] := List.getElem?_eq_getElem hlt
    have hcf := V.run
    rw [List.drop_eq_getElem_cons hlt] at hcf
    revert hcf hx0
    generalize xs[i] = x0
    intro hx0 hcf
    refine hw.item i s' _ _ hlt V.st fun v h' tk hp st' hk => ?_
    have kba : KeepBut (Chg D B wr) s' { s' with heap := h', toks := tk } := ⟨⟨rfl, rfl⟩, fun b o hb ho => hk b o (fun h => hb (.inr (.inr h))) ho⟩
    have nsa : h'.Ns B m' := V.ns.at' fun o => hk B o hBw
    refine wpAny_assign_Name (wpAny_storeName_local (m := m') (lookup_relabel_local hc.loc) nsa (fun hb nsb sbb => ?_) (by unfold compEnvC relabel; rw [hc.kind]; rfl))
    have kb1 : KeepBut (Chg D B wr) s1 { s' with heap := hb, toks := tk + 1 } := V.kb.trans (kba.trans (KeepBut.of_same (s := { s' with heap := h', toks := tk }) sbb (.inr (.inl rfl)) (tk + 1)))
    have stb : St (i + 1) hb := hw.frame _ _ _ st' fun b hb o ho => sbb.extBut b o (fun h => hBf ((show b = B from h) ▸ hb)) ho
    have plb : SetAt b led D hb seen := V.set.keeps fun o ho => sbb.extBut D o hDB (hk D o hDw ho)
    revert nsb kb1 stb plb
    generalize hsb : ({ s' with heap := hb, toks := tk + 1 } : Shared) = sb
    intro nsb kb1 stb plb
    have nsb : sb.heap.Ns B (fun y => if y = x then some v else m' y) := by rw [← hsb]; exact nsb
    have stb : St (i + 1) sb.heap := by rw [← hsb]; exact stb
    have plb : SetAt b led D sb.heap seen := by rw [← hsb]; exact plb
    have exb : Ext s0 sb := KeepBut.after e1 kb1 nw
    have Hb := here_comp (Ok' := fun b => Ok b ∧ ¬ Chg D B wr b) H hc hcl exb nsb (if_pos rfl) ((hit.item i v x0 hx0 hp).mono (kb1.moves fun b hb ⟨_, _, _, ho, _⟩ =>
        have : ¬ Chg D B wr b := fun h => nomatch (nw1 b h hb.2).symm.trans ho
        ⟨⟨hb.1, this⟩, this⟩)) (hxz.list_all _ (List.mem_of_getElem? hx0)) (fun a ha => ⟨H.fresh a (exb.fresh ha), fun h => h.elim (fun e => let ⟨_, ho⟩ := plb.there; nomatch (e ▸ ha).symm.trans ho) fun h => h.elim (fun e => let ⟨_, _, _, ho, _⟩ := nsb; nomatch (e ▸ ha).symm.trans ho) fun h => hit.there _ _ stb a h ha⟩) hok
    refine he A _ _ _ sb _ Hb hcf _ _ fun w sd y l ed rw_ hz => ?_
    obtain ⟨rfl, rfl, hz2⟩ := l0_inv hz
    rw [show w = _ from rw_.r.rep0.inv]
    have fin : ∀ h5, Heap.SameBut D sd.heap h5 → Set1 h5 D b led → ∃ m, m < xs.length - i ∧ ∃ i' seen m', m = xs.length - i' ∧ SInv Ok D B wr St s1 (fun x => (evA C.Γ me (ρ ++ [some (x, 0)])).val) xs b led Z i' seen m' { sd with heap := h5, toks := sd.toks + 1 } := fun h5 sb5 hs5 => by
      have kb5 : KeepBut (Chg D B wr) sd { sd with heap := h5, toks := sd.toks + 1 } := KeepBut.of_same sb5 (.inl rfl) _
      exact ⟨xs.length - (i + 1), Nat.sub_succ_lt_self _ _ hlt, i + 1, true, _, rfl, hlt, kb1.trans (ed.but.trans kb5), hw.frame _ _ _ stb fun b hb o ho => sb5.extBut b o (fun h => hDf (h ▸ hb)) (ed.keep b o ho), hs5, (nsb.keeps ed.keep).at' fun o => sb5.extBut B o (Ne.symm hDB), hz2⟩
    cases seen with
    | false => exact add_first (D := D) (led := led) (ed.keep _ _ plb) fun h5 sb5 hs5 => fin h5 sb5 hs5
    | true => exact add_again (D := D) (led := led) (ed.keep _ _ plb) (fin sd.heap (Heap.SameBut.refl D sd.heap) (ed.keep _ _ plb))
  · have hin' : i = xs.length := Nat.le_antisymm V.le (Nat.not_lt.mp hlt)
    subst hin'
    have hcf := V.run
    rw [List.drop_length] at hcf
    obtain ⟨rfl, hz⟩ := hcf
    refine hw.done s' _ _ V.st fun h' tk hk => ?_
    have kba : KeepBut (Chg D B wr) s' { s' with heap := h', toks := tk } := ⟨⟨rfl, rfl⟩, fun b o hb ho => hk b o (fun h => hb (.inr (.inr h))) ho⟩
    exact hR _ m' (KeepBut.after e1 (V.kb.trans kba) nw) (hk D _ hDw V.set) hz (V.ns.at' fun o => hk B o hBw)
end
end Mine
end
noncomputable section
namespace Mine
open Builtin
theorem slot_setiter_next : Slot "set_iterator" "__next__" "set_iterator.__next__" :=
  .of (owner := "set_iterator") (n := "__next__") (by rw [typeLookup_type, builtinLookup_eq_fast]; kernel_rfl) (by decide +kernel) (by decide +kernel) (by decide +kernel)
    (.inl (by decide +kernel)) (by rw [isSubtype_type]; kernel_rfl)
theorem entry_setiter_next : entryFor table "set_iterator.__next__" = some Builtin.«set_iterator.__next__» := entryFor_of_tree (by kernel_rfl)
theorem args_setiter_next (a : Value) : argsOk "set_iterator.__next__" ⟨[a], []⟩ := by unfold argsOk; kernel_rfl
theorem entry_set_iter : entryFor table "set.__iter__" = some Builtin.«frozenset.__iter__» :=
  entryFor_alias (id' := "frozenset.__iter__") (by kernel_rfl) rfl (by decide +kernel) (by kernel_rfl)
section
variable {prog : Program} {w : World} {A : Around} {E : Value → Shared → Prop} {s : Shared} {b : Bool} {D : Addr}
def ledOf (w : World) : Bool := !(w.params.followText "set-order")
def SetIt (h : Heap) (I D : Addr) (i n : Int) : Prop := h.get? I = some { cls := .type "set_iterator", data := .fields #[rawInt n, rawInt i, .ref D, rawInt 1, rawInt 1] }
theorem fits1 (b led : Bool) : (tab1 b led).fits 1 = true := by cases b <;> cases led <;> rfl
theorem iter_set1 {led : Bool} {Q : Value → Shared → Prop} (hS : Set1 s.heap D b led) (h : Q (.ref s.heap.objs.size) { s with heap := s.heap.push { cls := .type "set_iterator", data := .fields #[rawInt 0, rawInt 0, .ref D, rawInt 1, rawInt 1] } }) :
    wpAny (model prog w) A (pyIter (.ref D)) Q E s := by
  have hT : s.TypeIs (.ref D) "set" := ⟨_, hS, rfl⟩
  refine wpAny_pyIter_slot hT F.slot_set_iter (wpAny_call_entry F.slot_set_iter hT entry_set_iter ?_ (F.args_set_iter_1 _))
  unfold Builtin.«frozenset.__iter__»
  refine wpAny_bind (m := Frozenset.slot0 _ _) (wpAny_pure ?_)
  refine wpAny_bind (m := Frozenset.sizeOf D) (wpAny_bind (wpAny_setEntries_of hS rfl (fits1 b led) (wpAny_pure ?_)))
  have dr : ∀ {Q : Bool → Shared → Prop}, Q false s → wpAny (model prog w) A.in1 (setDrawn D) Q E s := fun {Q} q => by
    unfold setDrawn
    refine wpAny_bind (wpAny_setState_of hS rfl (fits1 b led) ?_)
    unfold setsByText
    refine wpAny_bind (wpAny_bind (wpAny_askSetting (wpAny_pure ?_)))
    show wpAny _ _ (pure (!(w.params.followText "set-order") && false)) _ _ _
    rw [Bool.and_false]
    exact wpAny_pure q
  refine wpAny_bind (dr ?_)
  rw [if_neg Bool.false_ne_true]
  refine wpAny_bind (wpAny_pure (wpAny_bind (wpAny_setEpoch_of hS rfl (fits1 b led) (wpAny_bind (wpAny_newObj_type (wpAny_pure ⟨_, rfl, "set_iterator", _, ⟨_, Heap.get?_push_size _ rfl, rfl⟩, slot_setiter_next.lookup, h⟩))))))
theorem pick_one {α : Type} (f : Nat → Nat) (x : α) : pickOrder f #[x] = #[x] := by
  show pickOrder.go f 1 0 [x] #[] = #[x]
  unfold pickOrder.go
  rw [show f 0 % [x].length = 0 from Nat.mod_one _]
  rfl
theorem walk_one {led : Bool} {Q : Array (Int × Value) → Shared → Prop} (hS : Set1 s.heap D b led) (hl : w.params.followText "set-order" = true) (h : Q #[(hashB b, .bool b)] s) : wpAny (model prog w) A (setWalk D) Q E s := by
  unfold setWalk
  refine wpAny_bind (wpAny_setState_of hS rfl (fits1 b led) ?_)
  unfold setsByText
  refine wpAny_bind (wpAny_bind (wpAny_askSetting (wpAny_pure ?_)))
  show wpAny _ _ (if (w.params.followText "set-order") = true then _ else _) _ _ _
  rw [if_pos hl]
  refine wpAny_bind (wpAny_askSetting (wpAny_pure ?_))
  rw [pick_one]; exact h
theorem setNext_one {n g : Nat} {Q : Option (Value × Nat) → Shared → Prop} (hS : Set1 s.heap D b (ledOf w)) (h0 : g = 0 → n = 0 → ∀ m : Nat, m ≤ 2 → (w.params.followText "set-order" = false → hashB b < m) → Q (some (.bool b, m)) s)
    (h1 : g = 1 → (w.params.followText "set-order" = false → hashB b < n) → Q none s) (hg : (g = 0 ∧ n = 0) ∨ (g = 1 ∧ (w.params.followText "set-order" = false → hashB b < n))) : wpAny (model prog w) A (setNext D n g 1) Q E s := by
  unfold setNext
  refine wpAny_bind (wpAny_setState_of hS rfl (fits1 b _) ?_)
  dsimp only
  unfold setsByText
  refine wpAny_bind (wpAny_bind (wpAny_askSetting (wpAny_pure ?_)))
  show wpAny _ _ (if (w.params.followText "set-order") = true then _ else _) _ _ _
  cases hb : w.params.followText "set-order" with
  | true =>
    rw [if_pos rfl]
    show wpAny _ _ (setWalk D >>= _) _ _ _
    refine wpAny_bind (walk_one hS hb (wpAny_pure ?_))
    rcases hg with ⟨rfl, rfl⟩ | ⟨rfl, hn⟩
    · exact h0 rfl rfl 0 (by decide) fun q => nomatch hb.symm.trans q
    · exact h1 rfl hn
  | false =>
    have hl : ledOf w = true := by unfold ledOf; rw [hb]; rfl
    rw [hl, if_neg Bool.false_ne_true]
    rcases hg with ⟨rfl, rfl⟩ | ⟨rfl, hn⟩
    · cases b with
      | false => exact wpAny_bind (wpAny_pure (wpAny_pure (h0 rfl rfl 1 (by decide) fun _ => by decide)))
      | true => exact wpAny_bind (wpAny_pure (wpAny_pure (h0 rfl rfl 2 (by decide) fun _ => by decide)))
    · have hn' := hn hb
      have hbel : SetTable.below (tab1 b true).place n = 1 := by
        cases b with
        | false =>
          show SetTable.below #[0] n = 1
          unfold SetTable.below
          show SetTable.below.go #[0] n 1 0 1 = 1
          unfold SetTable.below.go
          rw [if_pos (by decide)]
          show (if (0 : Nat) < n then _ else _) = 1
          rw [if_pos (by unfold hashB at hn'; have : ((0 : Int)) < n := hn'; omega)]
          rfl
        | true =>
          show SetTable.below #[1] n = 1
          unfold SetTable.below
          show SetTable.below.go #[1] n 1 0 1 = 1
          unfold SetTable.below.go
          rw [if_pos (by decide)]
          show (if (1 : Nat) < n then _ else _) = 1
          rw [if_pos (by unfold hashB at hn'; have : ((1 : Int)) < n := hn'; omega)]
          rfl
      refine wpAny_bind (wpAny_pure (wpAny_pure ?_))
      rw [hbel]
      exact h1 rfl hn
theorem next_set1 {I : Addr} {Q : Option Value → Shared → Prop} (hS : Set1 s.heap D b (ledOf w)) (hI : SetIt s.heap I D 0 0) (hne : I ≠ D) (h : ∀ h' (m : Nat), SetIt h' I D 1 m → (w.params.followText "set-order" = false → hashB b < m) → Heap.SameBut I s.heap h' → Q (some (.bool b)) { s with heap := h' }) :
    wpAny (model prog w) A (pyNext (.ref I)) Q E s := by
  have hT : s.TypeIs (.ref I) "set_iterator" := ⟨_, hI, rfl⟩
  unfold pyNext
  refine wpAny_bind (wpAny_attempt (wpAny_callSpecial?_slot (name := Str.ofString "__next__") hT slot_setiter_next (wpAny_call_entry slot_setiter_next hT entry_setiter_next ?_ (args_setiter_next _))))
  unfold Builtin.«set_iterator.__next__»
  refine wpAny_bind (m := slotArgs _ _ _) (wpAny_pure ?_)
  refine wpAny_bind (wpAny_fieldsOf hI rfl ?_)
  dsimp only
  refine wpAny_bind (wpAny_setEntries_of hS rfl (fits1 b _) ?_)
  rw [if_neg (show ¬ (((#[(hashB b, Value.bool b)].size : Nat) : Int) != 1) = true from Bool.false_ne_true)]
  refine wpAny_bind (setNext_one (n := 0) (g := 0) hS (fun _ _ m hm hm2 => ?_) (fun q => nomatch q) (.inl ⟨rfl, rfl⟩))
  dsimp only
  refine wpAny_bind (wpAny_setField_rec hI (by simp) fun h1 he1 hs1 => wpAny_bind (wpAny_setField_rec (s := { s with heap := h1 }) he1 (by simp) fun h2 he2 hs2 => wpAny_pure ⟨_, rfl, wpAny_pure (h h2 m he2 hm2 (hs1.trans hs2))⟩))
theorem end_set1 {I : Addr} {m : Nat} {Q : Option Value → Shared → Prop} (hh : A.handled = none) (hS : Set1 s.heap D b (ledOf w)) (hI : SetIt s.heap I D 1 m) (hm : w.params.followText "set-order" = false → hashB b < m) (h : ∀ h', Heap.ExtBut I s.heap h' → Q none { s with heap := h' }) :
    wpAny (model prog w) A (pyNext (.ref I)) Q E s := by
  have hT : s.TypeIs (.ref I) "set_iterator" := ⟨_, hI, rfl⟩
  unfold pyNext
  refine wpAny_bind (wpAny_attempt (wpAny_callSpecial?_slot (name := Str.ofString "__next__") hT slot_setiter_next (wpAny_call_entry slot_setiter_next hT entry_setiter_next ?_ (args_setiter_next _))))
  unfold Builtin.«set_iterator.__next__»
  refine wpAny_bind (m := slotArgs _ _ _) (wpAny_pure ?_)
  refine wpAny_bind (wpAny_fieldsOf hI rfl ?_)
  dsimp only
  refine wpAny_bind (wpAny_setEntries_of hS rfl (fits1 b _) ?_)
  rw [if_neg (show ¬ (((#[(hashB b, Value.bool b)].size : Nat) : Int) != 1) = true from Bool.false_ne_true)]
  refine wpAny_bind (setNext_one (n := m) (g := 1) hS (fun q => nomatch q) (fun _ _ => ?_) (.inr ⟨rfl, hm⟩))
  dsimp only
  refine wpAny_bind (wpAny_setField_rec hI (by simp) fun h1 he1 hs1 => ?_)
  show wpAny _ _ (newExc (.type "StopIteration") [] >>= _) _ _ _
  refine wpAny_bind ?_
  simp only [newExc, newTuple]
  refine wpAny_bind (wpAny_newObj_type ?_ (by size_fits))
  refine wpAny_bind (m := firstArgMember _ _) (wpAny_of_eq (a := Value.none) (by first | rfl | (simp only [firstArgMember]; rfl)) ?_)
  refine wpAny_newObj_type ?_ (by size_fits)
  simp only [raiseNew]
  refine wpAny_bind (wpAny_handled ?_)
  rw [show A.in1.handled = none from hh]
  refine wpAny_bind (wpAny_pure (wpAny_throw ?_))
  refine wpAny_bind (wpAny_isInstance (T := "StopIteration") (b := true) ⟨_, Heap.get?_push_size _ rfl, rfl⟩ isSubtype_stop ?_)
  exact wpAny_pure (h _ ((hs1.extBut.push _).push _))
theorem unpack_set1 {Q : List Value → Shared → Prop} (hh : A.handled = none) (hS : Set1 s.heap D b (ledOf w)) (h : ∀ h', (∀ b o, s.heap.get? b = some o → h'.get? b = some o) → Q [.bool b] { s with heap := h' }) :
    wpAny (model prog w) A (unpackItems (.ref D) 1 none) Q E s := by
  have hT : s.TypeIs (.ref D) "set" := ⟨_, hS, rfl⟩
  have hD : s.heap.objs.size ≠ D := fun q => Nat.lt_irrefl _ (q ▸ Heap.lt_size hS : s.heap.objs.size < s.heap.objs.size)
  unfold unpackItems
  refine wpAny_bind ?_
  unfold notIterableAtAll
  refine wpAny_bind (wpAny_specialOf hT F.slot_set_iter.lookup ?_)
  refine wpAny_pure ?_
  simp only [Bool.false_eq_true, if_false]
  refine wpAny_bind (wpAny_holding (iter_set1 hS ?_))
  refine wpAny_bind (wpAny_holding ?_)
  show wpAny _ _ (pyNext _ >>= _) _ _ _
  refine wpAny_bind (next_set1 (I := s.heap.objs.size) (D := D) (b := b) (Heap.get?_push_of_some _ hS) (Heap.get?_push_size _ rfl) hD fun h1 m hi hm hs1 => ?_)
  refine wpAny_bind (wpAny_holding (wpAny_pure (wpAny_pure ?_)))
  rw [if_neg (show ¬ [Value.bool b].length < 1 from Nat.lt_irrefl 1)]
  have hS1 : Set1 h1 D b (ledOf w) := hs1.extBut D _ (Ne.symm hD) (Heap.get?_push_of_some _ hS)
  refine wpAny_bind (wpAny_holding (end_set1 hh (D := D) (b := b) hS1 hi hm fun h2 he2 => ?_))
  simp only [Option.isSome_none, Bool.false_eq_true, if_false]
  refine wpAny_pure (h h2 fun c o ho => ?_)
  have hne : c ≠ s.heap.objs.size := fun q => Nat.lt_irrefl _ (q ▸ Heap.lt_size ho : s.heap.objs.size < s.heap.objs.size)
  exact he2 c o hne (hs1.extBut c o hne (Heap.get?_push_of_some _ ho))
end
end Mine
end
noncomputable section
namespace Mine
open Builtin
section
variable {C : Cx} {A : Around} {env : Env} {Ok : Addr → Prop} {ρ : List Slt} {s : Shared}
theorem new_set {prog : Program} {w : World} {E Q : Value → Shared → Prop} (h : Q (.ref s.heap.objs.size) { s with heap := s.heap.push { cls := .type "set", dict := none, data := .set #[] 0 (.fresh 0 0 (ledOf w)) } }) :
    wpAny (model prog w) A (newSet (.type "set")) Q E s := by
  unfold newSet setsByText
  refine wpAny_bind (wpAny_bind (wpAny_askSetting (wpAny_pure ?_)))
  dsimp only
  simp only [newObj]
  exact wpAny_bind (wpAny_alloc (wpAny_pure h))
theorem set_sound {elt iter : Expr} {x : Str} {px : Pos} {scope : Scope} {pos : Pos} {me src : ME} {s0 : Shared} {E Q : Value → Shared → Prop} {Z : Bool → Prop}
    (H : Here C A env Ok ρ s0) (hc : CompOk C.cc scope x) (hs : SI C src iter) (hns : notSet iter = true)
    (he : SE (C.comp scope x) me elt)
    (hev : (evA C.Γ src ρ).its fun xs _ => ∃ b, onesP (fun x => (evA C.Γ me (ρ ++ [some (x, 0)])).val) b false xs (Z b))
    (hR : ∀ D s' b, Ext s0 s' → Set1 s'.heap D b (ledOf C.W.w) → Z b → Q (.ref D) s') :
    wpAny C.W.M A (eval (.SetComp elt [⟨.Name x px, iter, [], 0⟩] scope pos) env) Q E s0 := by
  rw [arm_eval_SetComp]
  obtain ⟨cl, hclos, hcl⟩ := closure_of (env := env) (scope := scope) fun y hy hf => (H.cl y.1 (hc.free y hy hf)).2
  refine wpAny_comprehension_free (use := none) rfl (folded_plain hns env) hclos hc.kind hc.names (hs A env Ok ρ s0 _ H hev E _ fun it s1 xs l e1 hit hxz hcp => ?_)
  obtain ⟨I, fp, wr, P, St, rfl, hit⟩ := hit
  obtain ⟨b, hcp⟩ := hcp
  refine new_set (wpAny_newFunctionEnv hc.nocell (fun y hy => nomatch hy) (fun h₁ hns₁ hsb₁ => ?_) hc.kind)
  revert hns₁ hsb₁
  show Heap.Ns h₁ (s1.heap.push { cls := .type "set", dict := none, data := .set #[] 0 (.fresh 0 0 (ledOf C.W.w)) }).objs.size _ → Heap.SameBut _ _ _ → _
  generalize hH2 : s1.heap.push { cls := .type "set", dict := none, data := .set #[] 0 (.fresh 0 0 (ledOf C.W.w)) } = H2
  intro hns₁ hsb₁
  have hC : H2.objs.size = s1.heap.objs.size + 1 := by rw [← hH2, Heap.size_push]
  have hDC : s1.heap.objs.size ≠ H2.objs.size := by rw [hC]; exact Nat.ne_of_lt (Nat.lt_succ_self _)
  have ge : ∀ b, s1.heap.objs.size ≤ b → s1.heap.get? b = none := fun b hb => by
    cases q : s1.heap.get? b with
    | none => rfl
    | some o => exact absurd (Heap.lt_size q) (Nat.not_lt.mpr hb)
  have hle : s1.heap.objs.size ≤ H2.objs.size := by rw [hC]; exact Nat.le_succ _
  have hC2 := ge _ hle
  have old : ∀ b o, s1.heap.get? b = some o → h₁.get? b = some o := fun b o e => hsb₁.extBut b o (fun q => nomatch (q ▸ hC2).symm.trans e) (Heap.get?_push_of_some _ (hH2 ▸ Heap.get?_push_of_some _ e))
  have hacc : Set0 h₁ s1.heap.objs.size (ledOf C.W.w) := hsb₁.extBut _ _ hDC (Heap.get?_push_of_some _ (hH2 ▸ Heap.get?_push_size _ rfl))
  have e2 : Ext s1 { s1 with heap := h₁, toks := s1.toks + ([] : List (Str × Value)).length } := ⟨⟨rfl, rfl⟩, old⟩
  have nf : ∀ b, s1.heap.objs.size ≤ b → b ∉ fp := fun b hb h => Nat.lt_irrefl b (Nat.lt_of_lt_of_le (hit.old b h) hb)
  have loop := set_loop (elt := elt) (iter := iter) (px := px) (pos := pos) (R := compPost C.W.M A E none Q (.ref s1.heap.objs.size) H2.objs.size) H hc hcl he e1 hit hxz e2 (get_size _) hC2 hDC hacc hns₁ (nf _ (Nat.le_refl _)) (nf _ hle) hcp
    fun s' m' ex hS z ns => ⟨m', ns, fun h' sb =>
      have kb : KeepBut (fun b => b = H2.objs.size) s' { s' with heap := h' } := KeepBut.of_same (X := fun b => b = H2.objs.size) sb rfl s'.toks
      hR _ _ b (KeepBut.after ex kb fun b e => e ▸ e1.fresh hC2) (sb.extBut _ _ hDC hS) z⟩
  have hw := hit.walks A H.room.hd
  exact compStart_set loop (hw.self 0 _ _ _ (hw.frame _ _ _ hit.st fun b _ o => old b o) loop)
/-- x, = {elt for y in iter} -/
theorem ss_oneOf (G : C.cc.Good) {y : Str} {i : Nat} {elt iter : Expr} {x : Str} {px : Pos} {scope : Scope} {pos p p' p'' : Pos} {n : Nat} {me src : ME} (hy : C.cc.σ y = some i)
    (hc : CompOk C.cc scope x) (hs : SI C src iter) (hns : notSet iter = true) (he : SE (C.comp scope x) me elt) :
    SS C (.oneOf i me src) (.Assign [.Tuple [.Name y p''] n p'] (.SetComp elt [⟨.Name x px, iter, [], 0⟩] scope pos) p) := by
  intro F own0 ρ s P S0 hp E Q q
  obtain ⟨own, S⟩ := S0.freeze G (esc true me ++ esc false src)
  refine Assign_Tuple (set_sound S.here hc hs hns he hp fun D s' b ex hS hz => ?_) rfl rfl
  rw [arm_assign_Tuple]
  refine wpAny_bind (wpAny_standAt ?_)
  unfold unpack
  refine wpAny_bind (wpAny_holding (unpack_set1 S.st.room.hd hS fun h' k => ?_))
  have ex2 : Ext s { s' with heap := h' } := ex.trans ⟨⟨rfl, rfl⟩, k⟩
  show wpAny C.W.M F.A (assignInOrder [assign (.Name y p'') F.env] [.bool b]) _ E _
  refine wpAny_assignInOrder_more (wpAny_assign_Name ((S.ext ex2).store0 G hy (.bool b) (.bool b) fun s'' _ S'' => wpAny_assignInOrder_none (q _ s'' _ .next _ S'' rfl hz)))
end
end Mine
end
noncomputable section
namespace Mine
open Builtin
theorem slot_map_next : Slot "map" "__next__" "map.__next__" :=
  .of (owner := "map") (n := "__next__") (by rw [typeLookup_type, builtinLookup_eq_fast]; kernel_rfl) (by decide +kernel) (by decide +kernel) (by decide +kernel) (.inl (by decide +kernel)) (by rw [isSubtype_type]; kernel_rfl)
theorem slot_map_iter : Slot "map" "__iter__" "map.__iter__" :=
  .of (owner := "map") (n := "__iter__") (by rw [typeLookup_type, builtinLookup_eq_fast]; kernel_rfl) (by decide +kernel) (by decide +kernel) (by decide +kernel) (.inl (by decide +kernel)) (by rw [isSubtype_type]; kernel_rfl)
theorem slot_map_init : Slot "map" "__init__" "object.__init__" :=
  .of (owner := "object") (n := "__init__") (by rw [typeLookup_type, builtinLookup_eq_fast]; kernel_rfl) (by decide +kernel) (by decide +kernel) (by decide +kernel) (.inl (by decide +kernel)) (by rw [isSubtype_type]; kernel_rfl)
theorem entry_map_next : entryFor table "map.__next__" = some Builtin.«map.__next__» := entryFor_of_tree (by kernel_rfl)
theorem entry_map_new : entryFor table "map.__new__" = some Builtin.«map.__new__» := entryFor_of_tree (by kernel_rfl)
theorem entry_map_iter : entryFor table "map.__iter__" = some Builtin.«dict_keyiterator.__iter__» :=
  entryFor_alias (id' := "dict_keyiterator.__iter__") (by kernel_rfl) (by first | rfl | decide +kernel) (by decide +kernel) (by kernel_rfl)
theorem args_map_next (a : Value) : argsOk "map.__next__" ⟨[a], []⟩ := by unfold argsOk; kernel_rfl
theorem args_map_iter (a : Value) : argsOk "map.__iter__" ⟨[a], []⟩ := by unfold argsOk; kernel_rfl
theorem mro_map : mroOf (.type "map") = pure [.type "map", .type "object"] := by rw [mroOf_type]; kernel_rfl
theorem lookup_map_new : typeLookup (.type "map") "__new__" = pure (some (.builtin "map.__new__")) := by rw [typeLookup_type, builtinLookup_eq_fast]; kernel_rfl
theorem called_map : TypeCalled "map" "map.__new__" "object.__init__" :=
  ⟨by decide +kernel, by decide +kernel, ⟨_, _, mro_map⟩, madeBy_type mro_map lookup_map_new (by decide +kernel), by decide +kernel, by rw [isSubtype_type]; kernel_rfl, slot_map_init⟩
theorem typeCall_map_2 (a b : Value) : checkTypeCall "map" ⟨[a, b], []⟩ = pure () := by kernel_rfl
theorem newCall_map_2 (a b : Value) : checkBuiltinCall "map.__new__" ⟨[.type "map", a, b], []⟩ = pure () := by kernel_rfl
theorem map_no_len : typeLookup (.type "map") "__len__" = pure none := by rw [typeLookup_type, builtinLookup_eq_fast]; kernel_rfl
theorem map_no_hint : typeLookup (.type "map") "__length_hint__" = pure none := by rw [typeLookup_type, builtinLookup_eq_fast]; kernel_rfl
def mapH (h : Heap) (l fa : Addr) : Heap := ((h.push { cls := .type "list_iterator", data := .fields #[.ref l, .int 0 0] }).push { cls := .type "tuple", data := .seq #[.ref h.objs.size] }).push { cls := .type "map", data := .fields #[.ref (h.objs.size + 1), .ref fa] }
theorem sub_map : isSubtype (.type "map") (.type "map") = pure true := by rw [isSubtype_type]; kernel_rfl
set_option maxRecDepth 100000 in
theorem call_map {prog : Program} {w : World} {A : Around} {E : Value → Shared → Prop} {s : Shared} {l fa : Addr} {items : Array Value} {Q : Value → Shared → Prop} (hL : s.heap.IsList l items) (h : Q (.ref (s.heap.objs.size + 2)) { s with heap := mapH s.heap l fa }) :
    wpAny (model prog w) A (call (.type "map") [.ref fa, .ref l]) Q E s := by
  have hz1 : (s.heap.push { cls := .type "list_iterator", data := .fields #[.ref l, .int 0 0] }).objs.size = s.heap.objs.size + 1 := Heap.size_push ..
  have hz2 : ((s.heap.push { cls := .type "list_iterator", data := .fields #[.ref l, .int 0 0] }).push { cls := .type "tuple", data := .seq #[.ref s.heap.objs.size] }).objs.size = s.heap.objs.size + 2 := by rw [Heap.size_push, hz1]
  refine callType_codes (Q₁ := fun obj s₁ => s₁.TypeIs obj "map" ∧ Q obj s₁) called_map (typeCall_map_2 _ _) F.entry_object_init ?_ fun obj s₁ h₁ => ?_
  · refine codeAny_of_tree ?_
    show wpAny _ A.in1.in1 (do checkBuiltinCall "map.__new__" ⟨[.type "map", .ref fa, .ref l], []⟩; again (.builtin "map.__new__" ⟨[.type "map", .ref fa, .ref l], []⟩)) _ _ s
    refine wpAny_bind (wpAny_of_eq (newCall_map_2 _ _) (wpAny_pure ⟨plainId_quiet (show plainId "map.__new__" = true by decide +kernel) _, codeAny_builtin entry_map_new ?_⟩))
    rw [Around.under_plainId (show plainId "map.__new__" = true by decide +kernel) _]
    unfold Builtin.«map.__new__» SmallTypes.newClass
    have hsub := sub_map
    wp_walk using wpAny_pyIter_list hL
    refine ⟨⟨_, Heap.get?_push_size _ rfl, rfl⟩, ?_⟩
    unfold mapH at h
    rw [← hz1, ← hz2] at h
    exact h
  · exact ⟨h₁.1, F.args_object_init_3 obj _ _, object_init_meets called_map.init.lookup called_map.made (by decide) _ _ A.in1 _ s₁ ⟨h₁.1, rfl, h₁.2⟩⟩
/-- a map object upon a list: what stays -/
structure IsMap (h : Heap) (I T it fa l : Addr) (i : Nat) (items : Array Value) : Prop where
  m : h.get? I = some { cls := .type "map", data := .fields #[.ref T, .ref fa] }
  t : h.get? T = some { cls := .type "tuple", data := .seq #[.ref it] }
  i : h.IsListIter it l i
  l : h.IsList l items
theorem IsMap.to {h h' : Heap} {I T it fa l : Addr} {i : Nat} {items : Array Value} (x : IsMap h I T it fa l i items) (k : ∀ b o, h.get? b = some o → b = I ∨ b = T ∨ b = it ∨ b = l → h'.get? b = some o) : IsMap h' I T it fa l i items :=
  ⟨k _ _ x.m (.inl rfl), k _ _ x.t (.inr (.inl rfl)), x.i.at fun o e => k _ o e (.inr (.inr (.inl rfl))), x.l.at fun o e => k _ o e (.inr (.inr (.inr rfl)))⟩
section
variable {prog : Program} {w : World} {A : Around} {E : Value → Shared → Prop} {s : Shared} {I T it fa l : Addr} {i : Nat} {items : Array Value}
theorem iter_map {Q : Value → Shared → Prop} (hM : IsMap s.heap I T it fa l i items) (h : Q (.ref I) s) : wpAny (model prog w) A (pyIter (.ref I)) Q E s := by
  have hT : s.TypeIs (.ref I) "map" := ⟨_, hM.m, rfl⟩
  refine wpAny_pyIter_slot hT slot_map_iter (wpAny_call_entry slot_map_iter hT entry_map_iter ?_ (args_map_iter _))
  show wpAny _ _ (ret (.ref I)) _ _ s
  exact wpAny_pure ⟨_, rfl, "map", _, hT, slot_map_next.lookup, h⟩
/-- one more item; the def gives back what it is given -/
theorem next_map {x : Value} {Q : Option Value → Shared → Prop} (hM : IsMap s.heap I T it fa l i items) (hx : items[i]? = some x) (hd : it ≠ I ∧ it ≠ T ∧ it ≠ l)
    (hf : ∀ s1 : Shared, (∃ h', s1 = { s with heap := h' } ∧ Heap.SameBut it s.heap h') → IsMap s1.heap I T it fa l (i + 1) items → wpAny (model prog w) A.in1 (call (.ref fa) [x]) (fun v s2 => Q (some v) s2) (fun _ _ => False) s1) :
    wpAny (model prog w) A (pyNext (.ref I)) Q E s := by
  have hT : s.TypeIs (.ref I) "map" := ⟨_, hM.m, rfl⟩
  unfold pyNext
  refine wpAny_bind (wpAny_attempt (wpAny_callSpecial?_slot (name := Str.ofString "__next__") hT slot_map_next (wpAny_call_entry slot_map_next hT entry_map_next ?_ (args_map_next _))))
  unfold Builtin.«map.__next__»
  refine wpAny_bind (m := slotArgs _ _ _) (wpAny_pure ?_)
  refine wpAny_bind (wpAny_field hM.m rfl (x := .ref T) rfl ?_)
  refine wpAny_bind (wpAny_seqItems hM.t rfl ?_)
  dsimp only
  rw [← Array.forIn_toList]
  simp only [List.forIn_cons, List.forIn_nil]
  have h1 := hf
  refine wpAny_bind (wpAny_bind (wpAny_bind (wpAny_holding (wpAny_nextOf_list_item hM.i hM.l hx fun h' hi hs => wpAny_pure (wpAny_pure ?_)))))
  have hM' : IsMap h' I T it fa l (i + 1) items := ⟨hs.extBut _ _ (Ne.symm hd.1) hM.m, hs.extBut _ _ (Ne.symm hd.2.1) hM.t, hi, hM.l.extBut hs.extBut (Ne.symm hd.2.2)⟩
  refine wpAny_bind (wpAny_field hM'.m rfl (x := .ref fa) rfl ?_)
  refine wpAny_bind (wpAny_holding (wpAny_mono (hf _ ⟨h', rfl, hs⟩ hM') (fun v s2 q => ?_) fun _ _ x => x.elim))
  exact wpAny_bind (wpAny_letGo (wpAny_pure ⟨_, rfl, wpAny_pure q⟩))
theorem end_map {Q : Option Value → Shared → Prop} (hh : A.handled = none) (hM : IsMap s.heap I T it fa l i items) (hx : items[i]? = none) (h : ∀ h', Heap.ExtBut it s.heap h' → Q none { s with heap := h' }) :
    wpAny (model prog w) A (pyNext (.ref I)) Q E s := by
  have hT : s.TypeIs (.ref I) "map" := ⟨_, hM.m, rfl⟩
  unfold pyNext
  refine wpAny_bind (wpAny_attempt (wpAny_callSpecial?_slot (name := Str.ofString "__next__") hT slot_map_next (wpAny_call_entry slot_map_next hT entry_map_next ?_ (args_map_next _))))
  unfold Builtin.«map.__next__»
  refine wpAny_bind (m := slotArgs _ _ _) (wpAny_pure ?_)
  refine wpAny_bind (wpAny_field hM.m rfl (x := .ref T) rfl ?_)
  refine wpAny_bind (wpAny_seqItems hM.t rfl ?_)
  dsimp only
  rw [← Array.forIn_toList]
  simp only [List.forIn_cons, List.forIn_nil]
  refine wpAny_bind (wpAny_bind (wpAny_bind (wpAny_holding (wpAny_nextOf_list_end hh hM.i hM.l hx fun h' e he ⟨o, ho, hc⟩ => ?_))))
  refine wpAny_bind (wpAny_isInstance (T := "StopIteration") (b := true) ⟨o, ho, hc⟩ isSubtype_stop ?_)
  exact wpAny_pure (h _ he)
end
end Mine
end
noncomputable section
namespace Mine
open Builtin
def TxtsAre (vs : List Value) (ks : List (Bool × List Nat)) : Prop := vs.length = ks.length ∧ ∀ (j : Nat) v p, vs[j]? = some v → ks[j]? = some p → TxtIs v p.1 p.2
theorem TxtsAre.snoc {vs : List Value} {ks : List (Bool × List Nat)} {v : Value} {p : Bool × List Nat} (h : TxtsAre vs ks) (hv : TxtIs v p.1 p.2) : TxtsAre (vs ++ [v]) (ks ++ [p]) := by
  refine ⟨by rw [List.length_append, List.length_append, h.1]; rfl, fun j u q hu hq => ?_⟩
  by_cases hj : j < vs.length
  · rw [List.getElem?_append_left hj] at hu
    rw [List.getElem?_append_left (h.1 ▸ hj)] at hq
    exact h.2 j u q hu hq
  · rw [List.getElem?_append_right (Nat.not_lt.mp hj)] at hu
    rw [List.getElem?_append_right (h.1 ▸ Nat.not_lt.mp hj), ← h.1] at hq
    have h0 : j - vs.length = 0 := Nat.lt_one_iff.mp (List.getElem?_eq_some_iff.mp hu).1
    rw [h0] at hu hq
    cases hu; cases hq; exact hv
section
variable {prog : Program} {w : World} {A A0 : Around} {sb : Shared} {I T it fa l S : Addr} {items : Array Value} {ks : List (Bool × List Nat)}
/-- the def gives back each of these texts -/
def Same1 (prog : Program) (w : World) (A0 : Around) (sb : Shared) (fa : Addr) (ks : List (Bool × List Nat)) : Prop :=
  ∀ (A' : Around) s1 x p, A'.handled = none → A'.depth = A0.depth → A'.units ≤ A0.units + 50 → Ext sb s1 → p ∈ ks → TxtIs x p.1 p.2 → wpAny (model prog w) A' (call (.ref fa) [x]) (fun v s2 => Ext s1 s2 ∧ TxtIs v p.1 p.2) (fun _ _ => False) s1
theorem map_loop (hF : Same1 prog w A0 sb fa ks) (h1 : A.handled = none) (h2 : A.depth = A0.depth) (h3 : A.units + 10 ≤ A0.units + 50) (hS : sb.heap.get? S = none) (hi : sb.heap.get? it = none) (d1 : it ≠ I ∧ it ≠ T ∧ it ≠ l) (d2 : S ≠ I ∧ S ≠ T ∧ S ≠ it ∧ S ≠ l)
    (hI : TxtsAre items.toList ks) (hn : ks.length ≤ sizeLine) {R : Result → Shared → Prop} {res : Value} : ∀ (k i : Nat) (s : Shared) (acc : Array Value) (c : Nat), ks.length - i = k → i ≤ ks.length → KeepBut (fun b => b = S ∨ b = it) sb s → IsMap s.heap I T it fa l i items →
    s.heap.get? S = some { cls := .type "list", dict := none, data := .seq acc c, slots := #[] } → TxtsAre acc.toList (ks.take i) →
    (∀ s' acc' c', KeepBut (fun b => b = S ∨ b = it) sb s' → s'.heap.get? S = some { cls := .type "list", dict := none, data := .seq acc' c', slots := #[] } → TxtsAre acc'.toList ks → R (.ok (.ret res)) s') →
    codeAny (model prog w) A (.builtin "list.extend.loop" ⟨[.ref S, .ref I, res], []⟩) R s := by
  have ext : ∀ {s'}, KeepBut (fun b => b = S ∨ b = it) sb s' → Ext sb s' := fun {s'} kb => KeepBut.after (.refl sb) kb fun b hb => hb.elim (fun e => e ▸ hS) fun e => e ▸ hi
  have hlen : items.size = ks.length := by rw [← Array.length_toList]; exact hI.1
  intro k
  induction k with
  | zero =>
    intro i s acc c hk hle kb hM ho ha fin
    have hin : i = ks.length := by omega
    subst hin
    refine codeAny_builtin F.entry_extend_loop ?_
    rw [Around.under_plainId F.plain_extend_loop _]
    show wpAny _ A.in1 (pyNext (.ref I) >>= _) _ _ s
    refine wpAny_bind (end_map h1 hM (by rw [Array.getElem?_eq_none]; exact Nat.le_of_eq hlen) fun h' he => ?_)
    have k2 : KeepBut (fun b => b = S ∨ b = it) sb { s with heap := h' } := kb.trans ⟨⟨rfl, rfl⟩, fun b o hb e => he b o (fun q => hb (.inr q)) e⟩
    exact wpAny_pure (fin _ acc c k2 (he _ _ d2.2.2.1 ho) (by rw [List.take_length] at ha; exact ha))
  | succ k ih =>
    intro i s acc c hk hle kb hM ho ha fin
    have hlt : i < ks.length := by omega
    have hx : items[i]? = some items[i] := Array.getElem?_eq_getElem (hlen.symm ▸ hlt)
    have hp : ks[i]? = some ks[i] := List.getElem?_eq_getElem hlt
    have hv : TxtIs items[i] ks[i].1 ks[i].2 := hI.2 i _ _ (by rw [Array.getElem?_toList]; exact hx) hp
    have hasz : acc.size = i := by rw [← Array.length_toList, ha.1, List.length_take]; omega
    refine codeAny_builtin F.entry_extend_loop ?_
    rw [Around.under_plainId F.plain_extend_loop _]
    show wpAny _ A.in1 (pyNext (.ref I) >>= _) _ _ s
    refine wpAny_bind (next_map hM hx d1 fun s1 ⟨h', e, sbut⟩ hM1 => ?_)
    subst e
    have k1 : KeepBut (fun b => b = S ∨ b = it) sb { s with heap := h' } := kb.trans (KeepBut.of_same sbut (.inr rfl) s.toks)
    have ho1 : h'.get? S = some { cls := .type "list", dict := none, data := .seq acc c, slots := #[] } := sbut.extBut _ _ d2.2.2.1 ho
    refine wpAny_mono (hF A.in1.in1 _ _ ks[i] h1 h2 (by show A.units + 1 + 1 ≤ _; omega) (ext k1) (List.getElem_mem hlt) hv) (fun v s2 ⟨ex, hv2⟩ => ?_) fun _ _ x => x
    have ho2 := ex.keep _ _ ho1
    have k2 := k1.trans (ex.but (X := fun b => b = S ∨ b = it))
    show wpAny _ A.in1 (updateSeq S (·.push v) >>= _) _ _ _
    refine wpAny_bind ?_
    refine wpAny_updateSeq ho2 rfl (wpAny_pure ⟨plainId_quiet F.plain_extend_loop _, ih (i + 1) _ (acc.push v) _ (by omega) hlt (k2.trans ⟨⟨rfl, rfl⟩, fun b o hb e => (Heap.get?_update_other _ _ (fun h : S = b => hb (.inl h.symm))).trans e⟩) ((hM1.to fun b o e _ => ex.keep b o e).to fun b o e hb => (Heap.get?_update_other _ _ (fun h : S = b => hb.elim (fun q => d2.1 (h.trans q)) fun hb => hb.elim (fun q => d2.2.1 (h.trans q)) fun hb => hb.elim (fun q => d2.2.2.1 (h.trans q)) fun q => d2.2.2.2 (h.trans q))).trans e) (Heap.get?_update_self _ ho2 rfl) ?_ fin⟩)
      (by rw [hasz]; omega) (by show (acc.push v).size ≤ sizeLine + 1; rw [Array.size_push, hasz]; omega)
    rw [Array.toList_push, List.take_succ_eq_append_getElem hlt]
    exact ha.snoc hv2
theorem map_type {s : Shared} {i : Nat} (hM : IsMap s.heap I T it fa l i items) : s.TypeIs (.ref I) "map" := ⟨_, hM.m, rfl⟩
theorem collect_map {s : Shared} {E : Value → Shared → Prop} {Q : List Value → Shared → Prop} (hF : Same1 prog w A0 sb fa ks) (h1 : A.handled = none) (h2 : A.depth = A0.depth) (h3 : A.units + 20 ≤ A0.units + 50) (hi : sb.heap.get? it = none) (d1 : it ≠ I ∧ it ≠ T ∧ it ≠ l)
    (hI : TxtsAre items.toList ks) (hn : ks.length ≤ sizeLine) (kb : Ext sb s) (hM : IsMap s.heap I T it fa l 0 items) (q : ∀ s' vs, Ext sb s' → TxtsAre vs ks → Q vs s') :
    wpAny (model prog w) A (collect (.ref I)) Q E s := by
  have hS : s.heap.get? s.heap.objs.size = none := get_size _
  have nS : ∀ b o, s.heap.get? b = some o → s.heap.objs.size ≠ b := fun b o e q => nomatch (q ▸ hS).symm.trans e
  have d2 : s.heap.objs.size ≠ I ∧ s.heap.objs.size ≠ T ∧ s.heap.objs.size ≠ it ∧ s.heap.objs.size ≠ l :=
    ⟨nS _ _ hM.m, nS _ _ hM.t, let ⟨_, e, _⟩ := hM.i; nS _ _ e, let ⟨_, e, _⟩ := hM.l; nS _ _ e⟩
  have fin : ∀ s', KeepBut (fun b => b = s.heap.objs.size ∨ b = it) sb s' → Ext sb s' := fun s' kb' => KeepBut.after (.refl sb) kb' fun b hb => hb.elim (fun e => e ▸ kb.fresh hS) fun e => e ▸ hi
  unfold collect
  refine wpAny_bind (wpAny_runValue (codeAny_builtin F.entry_proto_collect ?_))
  rw [Around.under_plainId F.plain_proto_collect _]
  show wpAny _ A.in1 (newList [] >>= fun l => again (.builtin "list.__iadd__" ⟨[l, .ref I], []⟩)) _ _ s
  refine wpAny_bind (wpAny_newObj_type (wpAny_pure ⟨plainId_quiet F.plain_list_iadd _, codeAny_builtin F.entry_list_iadd ?_⟩))
  rw [Around.under_plainId F.plain_list_iadd _]
  have hM1 : IsMap (s.heap.push { cls := .type "list", data := .seq ([] : List Value).toArray }) I T it fa l 0 items := hM.to fun b o e _ => Heap.get?_push_of_some _ e
  have hS1 : (s.heap.push { cls := .type "list", data := .seq ([] : List Value).toArray }).get? s.heap.objs.size = some { cls := .type "list", data := .seq ([] : List Value).toArray } := Heap.get?_push_size _ rfl
  show wpAny _ A.in1 (Builtin.List.listExtendWith (.ref s.heap.objs.size) (.ref I) (.ref s.heap.objs.size)) _ _ _
  unfold Builtin.List.listExtendWith
  refine wpAny_bind (wpAny_typeOf (map_type (s := { s with heap := s.heap.push { cls := .type "list", data := .seq ([] : List Value).toArray } }) hM1) ?_)
  have t1 : Builtin.List.listSameRef (.ref s.heap.objs.size) (.ref I) = false := by simp [Builtin.List.listSameRef, d2.1]
  have t2 : (Value.type "map" == Value.type "list") = false := by decide
  have t3 : (Value.type "map" == Value.type "tuple") = false := by decide
  simp only [t1, t2, t3, Bool.or_false, Bool.false_eq_true, if_false]
  refine wpAny_bind (iter_map hM1 (wpAny_bind (wpAny_holding ?_)))
  unfold Builtin.List.listLengthHint
  refine wpAny_bind (wpAny_specialOf (map_type (s := { s with heap := s.heap.push { cls := .type "list", data := .seq ([] : List Value).toArray } }) hM1) map_no_len ?_)
  show wpAny _ A.in1 (specialOf (Value.ref I) (Str.ofString "__length_hint__") >>= _) _ _ _
  refine wpAny_bind (wpAny_specialOf (map_type (s := { s with heap := s.heap.push { cls := .type "list", data := .seq ([] : List Value).toArray } }) hM1) map_no_hint (wpAny_pure ?_))
  show wpAny _ A.in1 (rule "list.extend.makes-room" >>= fun _ => Builtin.List.listTouch (.ref s.heap.objs.size) >>= fun _ =>
    again (.builtin "list.extend.loop" ⟨[.ref s.heap.objs.size, .ref I, .ref s.heap.objs.size], []⟩)) _ _ _
  refine wpAny_bind (wpAny_rule (wpAny_bind ?_))
  show wpAny _ A.in1 (updateSeq s.heap.objs.size (·.push .none) >>= fun _ => updateSeq s.heap.objs.size (·.pop)) _ _ _
  refine wpAny_bind (wpAny_updateSeq hS1 rfl ?_)
  have hS2 := Heap.get?_update_self (Obj.mapSeq (·.push Value.none)) hS1 rfl
  refine wpAny_updateSeq hS2 rfl ?_
  have hS3 := Heap.get?_update_self (Obj.mapSeq (·.pop)) hS2 rfl
  have oth : ∀ b o, b ≠ s.heap.objs.size → (s.heap.push { cls := .type "list", data := .seq ([] : List Value).toArray }).get? b = some o →
      (((s.heap.push { cls := .type "list", data := .seq ([] : List Value).toArray }).update s.heap.objs.size (Obj.mapSeq (·.push Value.none))).update s.heap.objs.size (Obj.mapSeq (·.pop))).get? b = some o :=
    fun b o hb e => (Heap.get?_update_other _ _ (Ne.symm hb)).trans ((Heap.get?_update_other _ _ (Ne.symm hb)).trans e)
  have kb3 : KeepBut (fun b => b = s.heap.objs.size ∨ b = it) sb { s with heap := (((s.heap.push { cls := .type "list", data := .seq ([] : List Value).toArray }).update s.heap.objs.size (Obj.mapSeq (·.push Value.none))).update s.heap.objs.size (Obj.mapSeq (·.pop))) } :=
    kb.but.trans ⟨⟨rfl, rfl⟩, fun b o hb e => oth b o (fun q => hb (.inl q)) (Heap.get?_push_of_some _ e)⟩
  refine wpAny_pure ⟨plainId_quiet F.plain_extend_loop _, map_loop hF h1 h2 (by omega) (kb.fresh hS) hi d1 d2 hI hn ks.length 0 _ _ _ rfl (Nat.zero_le _) kb3 (hM1.to fun b o e hb => oth b o (fun q => hb.elim (fun h => d2.1 (q.symm.trans h)) fun hb => hb.elim (fun h => d2.2.1 (q.symm.trans h)) fun hb => hb.elim (fun h => d2.2.2.1 (q.symm.trans h)) fun h => d2.2.2.2 (q.symm.trans h)) e) hS3 ⟨rfl, fun j v p hv => nomatch hv⟩ fun s' acc' c' kb' hS' ha => ?_⟩
  show wpAny _ A (load s.heap.objs.size >>= _) _ _ s'
  exact wpAny_bind (wpAny_load hS' (wpAny_pure (q s' _ (fin s' kb') ha)))
/-- tuple(map(f, xs)) -/
theorem call_tuple_map {s : Shared} {E Q : Value → Shared → Prop} (hF : Same1 prog w A sb fa ks) (h1 : A.handled = none) (hi : sb.heap.get? it = none) (d1 : it ≠ I ∧ it ≠ T ∧ it ≠ l)
    (hI : TxtsAre items.toList ks) (hn : ks.length ≤ sizeLine) (kb : Ext sb s) (hM : IsMap s.heap I T it fa l 0 items) (q : ∀ s' a vs, Ext sb s' → sb.heap.get? a = none → PlainTup s'.heap a vs.toArray → TxtsAre vs ks → Q (.ref a) s') :
    wpAny (model prog w) A (call (.type "tuple") [.ref I]) Q E s := by
  refine callType_codes (Q₁ := fun obj s₁ => s₁.TypeIs obj "tuple" ∧ Q obj s₁) F.called_tuple (F.typeCall_tuple_1 _) F.entry_object_init ?_ fun obj s₁ h₁ => ?_
  · refine codeAny_of_tree ?_
    show wpAny _ A.in1.in1 (do checkBuiltinCall "tuple.__new__" ⟨[.type "tuple", .ref I], []⟩; again (.builtin "tuple.__new__" ⟨[.type "tuple", .ref I], []⟩)) _ _ s
    refine wpAny_bind (wpAny_of_eq (F.newCall_tuple_1 _) (wpAny_pure ⟨plainId_quiet F.plain_tuple_new _, codeAny_builtin F.entry_tuple_new ?_⟩))
    rw [Around.under_plainId F.plain_tuple_new _]
    have hsub := sub_tuple_self
    have hinit := init_tuple_lookup
    have hmh := madeHere_tuple
    have hTI := map_type hM
    have hu : A.in1.in1.units + 20 ≤ A.units + 50 := by show A.units + 1 + 1 + 20 ≤ A.units + 50; omega
    wp_walk using wpAny_typeOf hTI, collect_map (A := A.in1.in1) (A0 := A) hF h1 rfl hu hi d1 hI hn kb hM
    intro s' vs ex hv
    show wpAny _ _ (Builtin.Tuple.tupleExact vs.toArray >>= fun v => ret v) _ _ _
    unfold Builtin.Tuple.tupleExact
    refine wpAny_bind (wpAny_newObj_type ?_ (by show vs.toArray.size ≤ sizeLine; rw [List.size_toArray, hv.1]; exact hn))
    exact wpAny_pure ⟨⟨_, Heap.get?_push_size _ rfl, rfl⟩, q _ _ vs (ex.trans (.push s' _)) (ex.fresh (get_size _)) ⟨_, Heap.get?_push_size _ rfl⟩ hv⟩
  · exact ⟨h₁.1, F.args_object_init_2 obj _, object_init_meets F.called_tuple.init.lookup F.called_tuple.made (by decide) prog w A.in1 _ s₁ ⟨h₁.1, rfl, h₁.2⟩⟩
end
section
variable {C : Cx} {A : Around} {env : Env} {Ok : Addr → Prop} {ρ : List Slt} {s : Shared}
theorem txts_of {h : Heap} {Ok : Addr → Prop} {vs : List Value} {ks : List (Bool × List Nat)} (r : RepAll h Ok vs (ks.map fun p => PV.txt p.1 p.2)) : TxtsAre vs ks := by
  refine ⟨by rw [r.length, List.length_map], fun j v p hv hp => ?_⟩
  obtain ⟨v', hv', hr⟩ := r.get j (.txt p.1 p.2) (by rw [List.getElem?_map, hp]; rfl)
  rw [hv] at hv'
  cases hv'
  exact hr.inv
theorem rep_txt {h : Heap} {Ok : Addr → Prop} {v : Value} {k : Bool} {cs : List Nat} (t : TxtIs v k cs) : Rep h Ok v (.txt k cs) := by
  cases t with
  | str _ t => exact .str _ t
  | bytes bs t => exact .bytes bs t rfl
theorem rep_txts {h : Heap} {Ok : Addr → Prop} : ∀ {ks : List (Bool × List Nat)} {vs : List Value}, TxtsAre vs ks → RepAll h Ok vs (ks.map fun p => PV.txt p.1 p.2) := by
  intro ks
  induction ks with
  | nil => intro vs t; rw [List.eq_nil_of_length_eq_zero t.1]; exact .nil
  | cons p ks ih =>
    intro vs t
    cases vs with
    | nil => exact nomatch t.1
    | cons v vs => exact .cons (rep_txt (t.2 0 v p rfl rfl)) (ih ⟨Nat.succ.inj t.1, fun j u q hu hq => t.2 (j + 1) u q hu hq⟩)
theorem se_mapfn {fns : List Str} {f : Nat} {a : ME} {e : Expr} {name : Str} {p p2 p3 pos pos2 : Pos} (G : GOk C.W C.k C.Γ fns) (hf : fns[f]? = some name) (hgl : C.cc.gl name = true) (hd : (name == ("__debug__" : Str)) = false)
    (gT : C.cc.gl "tuple" = true) (gM : C.cc.gl "map" = true) (bT : C.W.glob "tuple" = some (.type "tuple")) (bM : C.W.glob "map" = some (.type "map")) (hn : notStar e = true) (h : SE C a e) :
    SE C (.mapfn f a) (.Call (.Name "tuple" p) [.Call (.Name "map" p2) [.Name name p3, e] [] pos2] [] pos) := by
  intro A env Ok ρ s Q H hz E R q
  obtain ⟨fa, o, fd, hg, ho, hfd, hok⟩ := G f name hf
  refine call_named H gT bT (by decide) (.inr ⟨_, rfl⟩) (plain_one rfl) (spliced_one rfl ?_)
  refine call_named H gM bM (by decide) (.inr ⟨_, rfl⟩) (plain_two rfl hn) (spliced_two rfl hn ?_)
  refine name_global H hgl hg hd (h A env Ok ρ s _ H hz E _ fun v s1 x l e1 r1 h1 => ?_)
  obtain ⟨hl, h1⟩ := l1_inv h1
  obtain ⟨xs, rfl, ks, rfl, hk, h1⟩ := list_inv h1
  obtain ⟨la, vs, rfl, ql, _, ra, _⟩ := r1.r.inv
  have ra := ra hl
  have H1 := H.ext e1
  have hI := txts_of ra
  have hlen : ks.length ≤ sizeLine := by have := r1.z.list_len; rw [List.length_map] at this; exact lst_size this
  refine call_map ql.isList ?_
  have n0 : s1.heap.get? s1.heap.objs.size = none := get_size _
  have hz1 : (s1.heap.push { cls := .type "list_iterator", data := .fields #[.ref la, .int 0 0] }).objs.size = s1.heap.objs.size + 1 := Heap.size_push ..
  have hz2 : ((s1.heap.push { cls := .type "list_iterator", data := .fields #[.ref la, .int 0 0] }).push { cls := .type "tuple", data := .seq #[.ref s1.heap.objs.size] }).objs.size = s1.heap.objs.size + 2 := by rw [Heap.size_push, hz1]
  have hM : IsMap (mapH s1.heap la fa) (s1.heap.objs.size + 2) (s1.heap.objs.size + 1) s1.heap.objs.size fa la 0 vs.toArray := by
    unfold mapH
    refine ⟨?_, ?_, ⟨_, Heap.get?_push_of_some _ (Heap.get?_push_of_some _ (Heap.get?_push_size _ rfl)), rfl, rfl⟩, ((ql.isList.push _).push _).push _⟩
    · have := Heap.get?_push_size ((s1.heap.push { cls := .type "list_iterator", data := .fields #[.ref la, .int 0 0] }).push { cls := .type "tuple", data := .seq #[.ref s1.heap.objs.size] }) (o := { cls := .type "map", data := .fields #[.ref (s1.heap.objs.size + 1), .ref fa] }) rfl
      rw [hz2] at this; exact this
    · have := Heap.get?_push_size (s1.heap.push { cls := .type "list_iterator", data := .fields #[.ref la, .int 0 0] }) (o := { cls := .type "tuple", data := .seq #[.ref s1.heap.objs.size] }) rfl
      rw [hz1] at this; exact Heap.get?_push_of_some _ this
  have hla : s1.heap.objs.size ≠ la := fun e => let ⟨_, ho, _⟩ := ql.isList; nomatch (e ▸ n0).symm.trans ho
  have hF : Same1 C.W.prog C.W.w A s1 fa ks := fun A' s2 x p' hh hdp hu ex hp ht => by
    have on' := H1.on.ext ex
    have hu' : RoomF A' C.k := ⟨hh, by rw [hdp]; exact H.room.dep, by have := H.room.un; omega⟩
    exact wpAny_call (hok A' s2 Ok [x] [.txt p'.1 p'.2] (fun z => z = .txt p'.1 p'.2) hu' on' (H1.fresh.ext ex) ⟨.cons (rep_txt ht) .nil, fun y hy => List.mem_singleton.mp hy ▸ r1.z.list_all _ (List.mem_map.mpr ⟨p', hp, rfl⟩)⟩ (hk p' hp _ rfl) _ fun v s3 z e3 r3 _ hz => by
      subst hz
      exact ⟨e3, r3.inv⟩)
  have e2 : Ext s1 { s1 with heap := mapH s1.heap la fa } := ⟨⟨rfl, rfl⟩, fun b o e => Heap.get?_push_of_some _ (Heap.get?_push_of_some _ (Heap.get?_push_of_some _ e))⟩
  refine call_tuple_map hF H.room.hd n0 ⟨Nat.ne_of_lt (Nat.lt_add_of_pos_right (by decide)), Nat.ne_of_lt (Nat.lt_succ_self _), hla⟩ hI hlen e2 hM fun s' a ws ex ha pt hv => ?_
  exact q _ s' _ 0 (e1.trans ex) ⟨.zero (.tup (H1.fresh a ha) pt (rep_txts hv)), .tup r1.z.list_len r1.z.list_all⟩ h1
end
end Mine
end
noncomputable section
namespace Mine
open Builtin
section
variable {C : Cx} {F : Fr} {own own' : Nat → Addr → Prop} {ρ ρ' : List Slt} {s s' : Shared}
theorem tuple_stored2 (G : C.cc.Good) {es : List Expr} {is : List Nat} {n : Nat} {p : Pos} {a : Addr} {vs : List Value} {xs : List PV} (h : Names C.cc es is) (S : StR C F own ρ s)
    (ht : s.heap.IsTuple a vs.toArray) (r : RepAll s.heap (Okc F.Ok own) vs xs) (sz : ∀ x ∈ xs, Sz x) (hl : is.length = xs.length) {E : Value → Shared → Prop} {Q : Unit → Shared → Prop} (q : ∀ own' s', StR C F own' (setAll is xs ρ) s' → Q () s') :
    wpAny C.W.M F.A (assign (.Tuple es n p) F.env (.ref a)) Q E s := by
  refine wpAny_assign_Tuple S.st.room.hd ht (by rw [h.length, hl, List.size_toArray, r.length]) h.nostar fun h' hx => ?_
  have e : Ext s { s with heap := h' } := ⟨⟨rfl, rfl⟩, fun b o hb => hx b o (fun q => nomatch (q ▸ get_size s.heap).symm.trans hb) hb⟩
  exact storeAll G h (S.ext e) (r.ext e) sz hl q
theorem enum_get (xs : List PV) : ∀ (k i : Nat), (enumF k xs)[i]? = (xs[i]?).map fun x => .tup [.int ((k + i : Nat) : Int), x] := by
  induction xs with
  | nil => exact fun k i => rfl
  | cons x xs ih =>
    intro k i
    cases i with
    | zero => rfl
    | succ i => exact (ih (k + 1) i).trans (by rw [show k + 1 + i = k + (i + 1) by omega]; rfl)
theorem enum_len (xs : List PV) : ∀ k : Nat, (enumF k xs).length = xs.length := by
  induction xs with
  | nil => exact fun k => rfl
  | cons x xs ih => exact fun k => congrArg (· + 1) (ih (k + 1))
/-- for i, c in enumerate(e) -/
theorem ss_forEnum (G : C.cc.Good) {i1 i2 : Nat} {src : ME} {m : MS} {es : List Expr} {e : Expr} {n : Nat} {body : List Stmt} {p p' p2 pos : Pos} (hn : Names C.cc es [i1, i2]) (gE : C.cc.gl "enumerate" = true) (bE : C.W.glob "enumerate" = some (.type "enumerate")) (hs : SE C src e) (hne : notStar e = true) (hm : SB C m body) :
    SS C (.for_ [i1, i2] (.enum src) m) (.For (.Tuple es n p') (.Call (.Name "enumerate" p2) [e] [] pos) body [] p) := by
  intro F own0 ρ0 s P S0 hp E Q q
  obtain ⟨own, S1⟩ := S0.freeze G (esc true (.enum src))
  have hp : (evA C.Γ src (freeze (esc true (.enum src)) ρ0)).val fun x l => l1 l (listP x fun xs => l0 l (forP (wp C.Γ m) [i1, i2] (enumF 0 xs) (freeze (esc true (.enum src)) ρ0) P)) := hp
  revert S1 hp
  generalize freeze (esc true (.enum src)) ρ0 = ρ
  intro S1 hp
  refine wpAny_For (call_named S1.here gE bE (by decide) (.inr ⟨_, rfl⟩) (plain_one hne) (spliced_one hne (hs F.A F.env _ _ s _ S1.here hp E _ fun v s1 x l e1 r1 h1 => ?_))) (fun _ => rfl)
  obtain ⟨hl, h1⟩ := l1_inv h1
  obtain ⟨xs, rfl, h1⟩ := list_inv h1
  obtain ⟨rfl, h1⟩ := l0_inv h1
  obtain ⟨la, vs, rfl, hok, ql, ra⟩ := r1.r.rep0.inv
  have hlen := ra.length
  refine call_enumerate_list ql.isList fun h2 hE hI hz2 hk2 => ?_
  have n0 : s1.heap.get? s1.heap.objs.size = none := get_size _
  have n1 : s1.heap.get? (s1.heap.objs.size + 1) = none := by
    cases q : s1.heap.get? (s1.heap.objs.size + 1) with
    | none => rfl
    | some o => exact absurd (Nat.lt_of_succ_lt (Heap.lt_size q)) (Nat.lt_irrefl _)
  have dEI : s1.heap.objs.size + 1 ≠ s1.heap.objs.size := Nat.succ_ne_self _
  have dlE : la ≠ s1.heap.objs.size + 1 := fun q => let ⟨_, ho, _⟩ := ql.isList; nomatch (q ▸ n1).symm.trans ho
  have dlI : la ≠ s1.heap.objs.size := fun q => let ⟨_, ho, _⟩ := ql.isList; nomatch (q ▸ n0).symm.trans ho
  have hw := WalksT.enumerate (prog := C.W.prog) (w := C.W.w) (A := F.A) S1.st.room.hd (s1.heap.objs.size + 1) s1.heap.objs.size la dEI dlE dlI vs.toArray
  have hst0 : (∃ old, IsEnum h2 (s1.heap.objs.size + 1) s1.heap.objs.size 0 old) ∧ h2.IsListIter s1.heap.objs.size la 0 ∧ h2.IsList la vs.toArray := ⟨⟨_, hE⟩, hI, ql.isList.at fun o => hk2 la o⟩
  revert hw hst0 dEI dlE dlI n0 n1
  clear hE hI hz2
  generalize s1.heap.objs.size + 1 = e
  generalize s1.heap.objs.size = it
  intro n0 n1 dEI dlE dlI hw hst0
  have e2 : Ext s { s1 with heap := h2 } := e1.trans ⟨⟨rfl, rfl⟩, hk2⟩
  have wrN : ∀ b ∈ [e, it], s.heap.get? b = none := fun b hb => (List.mem_cons.mp hb).elim (fun q => q ▸ e1.fresh n1) fun hb => List.mem_singleton.mp hb ▸ e1.fresh n0
  have wrN1 : ∀ b ∈ [e, it], s1.heap.get? b = none := fun b hb => (List.mem_cons.mp hb).elim (fun q => q ▸ n1) fun hb => List.mem_singleton.mp hb ▸ n0
  have thereB : ∀ {i : Nat} {h : Heap}, ((∃ old, IsEnum h e it i old) ∧ h.IsListIter it la i ∧ h.IsList la vs.toArray) → ∀ b, h.get? b = none → b ∈ [e, it] → False := fun st b hb hm => by
    obtain ⟨⟨old, h1⟩, ⟨o, h2, _⟩, _⟩ := st
    rcases List.mem_cons.mp hm with rfl | hm
    · exact nomatch hb.symm.trans h1
    · rw [List.mem_singleton.mp hm] at hb; exact nomatch hb.symm.trans h2
  have hst0 : ((∃ old, IsEnum ({ s1 with heap := h2 } : Shared).heap e it ((0 : Nat) : Int) old) ∧ ({ s1 with heap := h2 } : Shared).heap.IsListIter it la 0 ∧ ({ s1 with heap := h2 } : Shared).heap.IsList la vs.toArray) := hst0
  revert hst0 e2
  have k12 : Ext s1 ({ s1 with heap := h2 } : Shared) := ⟨⟨rfl, rfl⟩, hk2⟩
  revert k12
  generalize ({ s1 with heap := h2 } : Shared) = s2
  intro k12 e2 hst0
  have S2 := S1.ext e2
  have wrK : ∀ b ∈ [e, it], ∀ o, ¬ F.Kp b o := fun b hb o hk => nomatch (wrN b hb).symm.trans (S1.kept b o hk)
  have wrO : ∀ b ∈ [e, it], ∀ i, ¬ own i b := fun b hb i hi => (S1.owned i b hi).1 (wrN b hb)
  have wrP : ∀ b ∈ [e, it], ¬ Plc F.env b := fun b hb h => none_ne (wrN b hb) (S1.plc_some h)
  have wrL : ∀ b ∈ [e, it], ∀ o, ¬ LKp F own [e, it] s2 b o := fun b hb o h => h.elim (wrK b hb o) fun h => h.2.2.2 hb
  have S3 : StR C (LF F own [e, it] s2) own ρ s2 := S1.more e2 (fun b o h => .inl h) (fun b o h => h.elim (S2.kept b o) fun h => h.1) (fun b hb o h => h.elim (S1.st.plc b hb o) fun h => h.2.1 hb)
    (fun i b h => ⟨⟨(S1.owned i b h).2.2.1, fun hb => wrO b hb i h⟩, fun o hk => hk.elim ((S1.owned i b h).2.2.2 o) fun hk => hk.2.2.1 i h⟩) (fun a ha => ⟨S2.fresh a ha, fun hb => thereB hst0 a ha hb⟩) fun b hb ⟨_, _, _, ho, _⟩ => ⟨hb, fun hw => nomatch (wrN b hw).symm.trans ho⟩
  have seen : ∀ b, Okc F.Ok own b → SeqAt s2.heap b → b ∉ [e, it] → ∀ o, s2.heap.get? b = some o → LKp F own [e, it] s2 b o := fun b hb hs hw o ho => .inr ⟨ho, S2.plc_not hs, hb.2, hw⟩
  have laW : la ∉ [e, it] := fun h => (List.mem_cons.mp h).elim dlE fun h => dlI (List.mem_singleton.mp h)
  have laK : ∃ o, LKp F own [e, it] s2 la o := by
    have ql2 : s2.heap.PlainList la vs.toArray := ql.at fun o => k12.keep la o
    obtain ⟨n, ho⟩ := ql2
    exact ⟨_, seen la hok ⟨_, _, _, ho, rfl⟩ laW _ ho⟩
  have back : ∀ {own1 : Nat → Addr → Prop} {ρ1 : List Slt} {s1 : Shared}, StR C (LF F own [e, it] s2) own1 ρ1 s1 → StR C F own1 ρ1 s1 := fun S => StR.less S S1.st (fun b o h => .inl h) fun b hb => hb.1
  have ra2 : RepAll s2.heap (fun b => Okc F.Ok own b ∧ b ∉ [e, it]) vs xs := ra.mono fun b hb ⟨_, _, _, ho, _⟩ => ⟨⟨hb, fun hw => nomatch (wrN1 b hw).symm.trans ho⟩, fun o => k12.keep b o⟩
  refine hw.self 0 _ _ _ hst0 (codeAny_forLoop_any (I := fun n s' => ∃ i own1 ρ1, n = xs.length - i ∧ i ≤ xs.length ∧ StR C (LF F own [e, it] s2) own1 ρ1 s' ∧ ((∃ old, IsEnum s'.heap e it i old) ∧ s'.heap.IsListIter it la i ∧ s'.heap.IsList la vs.toArray) ∧ forP (wp C.Γ m) [i1, i2] ((enumF 0 xs).drop i) ρ1 P) ?_ xs.length ⟨0, own, ρ, rfl, Nat.zero_le _, S3, hst0, h1⟩)
  rintro n s' ⟨i, own1, ρ1, rfl, hi, S4, st4, hfor⟩
  have wr1 : ∀ b ∈ [e, it], ¬ Plc F.env b ∧ (∀ i, ¬ own1 i b) ∧ (SeqAt s'.heap b → ¬ LOk F [e, it] b) := fun b hb => ⟨wrP b hb, fun j hj => (S4.owned j b hj).2.2.1.2 hb, fun _ h => h.2 hb⟩
  have hsz : vs.toArray.size = xs.length := by rw [List.size_toArray, hlen]
  by_cases hlt : i < xs.length
  · have hel : i < (enumF 0 xs).length := by rw [enum_len]; exact hlt
    have hx0 : xs[i]? = some xs[i] := List.getElem?_eq_getElem hlt
    have hen : (enumF 0 xs)[i] = .tup [.int (i : Int), xs[i]] := by
      have := enum_get xs 0 i
      rw [List.getElem?_eq_getElem hel, hx0, Nat.zero_add] at this
      exact Option.some.inj this
    rw [List.drop_eq_getElem_cons hel, hen] at hfor
    revert hx0 hfor
    generalize xs[i] = x0
    intro hfor hx0
    refine hw.item i s' _ _ (by rw [hsz]; exact hlt) st4 fun T vals h' tk hp' _ hT hmid hk => ?_
    obtain ⟨t, v, hv, rfl⟩ := hp'
    have S5 : StR C (LF F own [e, it] s2) own1 ρ1 { s' with heap := h', toks := tk } := S4.scr (X := fun b => b ∈ [e, it]) ⟨⟨rfl, rfl⟩, hk⟩ (fun b hb => ⟨wrL b hb, fun hn => by
      obtain ⟨⟨y, h1⟩, ⟨o, h2, _⟩, _⟩ := hmid
      rcases List.mem_cons.mp hb with rfl | hb
      · exact nomatch hn.symm.trans h1
      · rw [List.mem_singleton.mp hb] at hn; exact nomatch hn.symm.trans h2⟩) wr1
    refine hw.go es n p' i T _ _ _ hmid fun h5 st5 hk5 => ?_
    have tW := hw.apart i T _ hmid
    have hT5 : h5.IsTuple T #[.int i t, v] := hT.at fun o => hk5 T o tW
    have S5' : StR C (LF F own [e, it] s2) own1 ρ1 { s' with heap := h5, toks := tk } := S5.scr (X := fun b => b ∈ [e, it]) (s' := { s' with heap := h5, toks := tk }) ⟨⟨rfl, rfl⟩, hk5⟩ (fun b hb => ⟨wrL b hb, fun hn => absurd hb (fun hb => thereB st5 b hn hb)⟩) fun b hb => ⟨wrP b hb, fun j hj => (S4.owned j b hj).2.2.1.2 hb, fun _ h => h.2 hb⟩
    revert st5 S5' hT5
    show ((∃ old, IsEnum ({ s' with heap := h5, toks := tk } : Shared).heap e it ((i + 1 : Nat) : Int) old) ∧ ({ s' with heap := h5, toks := tk } : Shared).heap.IsListIter it la (i + 1) ∧ ({ s' with heap := h5, toks := tk } : Shared).heap.IsList la vs.toArray) → ({ s' with heap := h5, toks := tk } : Shared).heap.IsTuple T #[.int i t, v] → _
    generalize ({ s' with heap := h5, toks := tk } : Shared) = sa
    intro st5 hT5 S5'
    obtain ⟨v', hv', rv0⟩ := ra2.get i x0 hx0
    rw [List.getElem?_toArray, hv'] at hv
    cases hv
    have rv : Rep sa.heap (Okc (LF F own [e, it] s2).Ok own1) v x0 := rv0.mono fun b hb hs =>
      have hK' := seen b hb.1 hs hb.2
      ⟨⟨⟨hb.1.1, hb.2⟩, fun j hj => let ⟨o, _, _, ho, _⟩ := hs; (S5'.owned j b hj).2.2.2 o (hK' o ho)⟩, fun o ho => S5'.kept b o (hK' o ho)⟩
    have S6 : StR C (LF2 F own [e, it] s2 sa) own1 ρ1 sa :=
      S5'.more (.refl sa) (fun b o h => .inl h) (fun b o h => h.elim (S5'.kept b o) fun h => h.2) (fun b hb o h => h.elim (S5'.st.plc b hb o) fun h => (wr1 b h.1).1 hb) (fun j b h => ⟨(S5'.owned j b h).2.2.1, fun o hk => hk.elim ((S5'.owned j b h).2.2.2 o) fun hk => (wr1 b hk.1).2.1 j h⟩) S5'.fresh fun _ h _ => h
    have hfor2 : sameLen [i1, i2] [.int (i : Int), x0] (wp C.Γ m (setAll [i1, i2] [.int (i : Int), x0] ρ1) (loopK (fun ρ' => forP (wp C.Γ m) [i1, i2] ((enumF 0 xs).drop (i + 1)) ρ' P) P)) := hfor
    refine tuple_stored2 (F := LF2 F own [e, it] s2 sa) (vs := [.int i t, v]) (xs := [.int i, x0]) G hn S6 hT5 (.cons (.int _ _) (.cons rv .nil)) (fun y hy => (List.mem_cons.mp hy).elim (fun q => q ▸ .int _) fun hy => List.mem_singleton.mp hy ▸ r1.z.list_all _ (List.mem_of_getElem? hx0)) rfl fun own2 s6 S7 => hm (LF2 F own [e, it] s2 sa) own2 _ s6 _ S7 hfor2 _ _ fun own3 s7 ρ3 fl f S8 hf z => ?_
    have st7 : (∃ old, IsEnum s7.heap e it ((i + 1 : Nat) : Int) old) ∧ s7.heap.IsListIter it la (i + 1) ∧ s7.heap.IsList la vs.toArray := hw.frame _ _ _ st5 fun b hb o ho => by
      by_cases hbw : b ∈ [e, it]
      · exact S8.kept b o (.inr ⟨hbw, ho⟩)
      · have hbl : b = la := by
          rcases List.mem_cons.mp hb with rfl | hb
          · exact absurd (List.mem_cons_self ..) hbw
          · rcases List.mem_cons.mp hb with rfl | hb
            · exact absurd (List.mem_cons_of_mem _ (List.mem_singleton.mpr rfl)) hbw
            · exact List.mem_singleton.mp hb
        subst hbl
        obtain ⟨o', hK'⟩ := laK
        have := S5'.kept b o' hK'
        rw [ho] at this
        exact Option.some.inj this ▸ S8.kept b o' (.inl hK')
    have S9 : StR C (LF F own [e, it] s2) own3 ρ3 s7 := StR.less S8 S5'.st (fun b o h => .inl h) fun b h => h
    cases fl with
    | next => cases hf; exact ⟨xs.length - (i + 1), Nat.sub_succ_lt_self _ _ hlt, i + 1, own3, ρ3, rfl, hlt, S9, st7, z⟩
    | cont => cases hf; exact ⟨xs.length - (i + 1), Nat.sub_succ_lt_self _ _ hlt, i + 1, own3, ρ3, rfl, hlt, S9, st7, z⟩
    | brk => cases hf; exact q own3 s7 _ .next _ (back S9) rfl z
    | ret r => obtain ⟨v', rfl, hv, hz⟩ := hf; exact q own3 s7 _ (.ret r) _ (back S9) ⟨v', rfl, hv.weaken fun b hb => hb.1, hz⟩ z
  · have hi' : i = xs.length := Nat.le_antisymm hi (Nat.not_lt.mp hlt)
    subst hi'
    rw [← enum_len xs 0, List.drop_length] at hfor
    refine hw.done s' _ _ (by rw [hsz]; exact st4) fun h' tk hk => wpAny_execs_nil (q own1 _ ρ1 .next _ ?_ rfl hfor)
    exact StR.scr' (Kp' := LKp F own [e, it] s2) (Ok' := LOk F [e, it]) S4 S1.st (fun b o h => .inl h) (fun b h => h.1) (X := fun b => b ∈ [e, it]) ⟨⟨rfl, rfl⟩, hk⟩ (fun b hb => ⟨wrK b hb, fun _ => S1.fresh b (wrN b hb)⟩) wr1
end
end Mine
end
noncomputable section
namespace Mine
open Builtin
/-! ## a name that owns a list of lists of its own -/
theorem rows_inv {y : Slt} {Q : List PV → Prop} (h : rowsP y Q) : ∃ xs, y = some (.list xs, 2) ∧ Q xs := by
  cases y with
  | none => exact h.elim
  | some p =>
    obtain ⟨x, l⟩ := p
    cases x with
    | list xs => match l, h with
      | 2, h => exact ⟨xs, rfl, h⟩
    | _ => exact h.elim
section
variable {W : Wld} {h h' : Heap} {Ok Ok' o : Addr → Prop} {bs : List Addr} {xs ys : List PV} {v : Value}
theorem BOwn.two_inv (r : BOwn W h Ok o 2 v (.list xs)) : ∃ a bs, v = .ref a ∧ o a ∧ (∀ b ∈ bs, o b) ∧ (a :: bs).Nodup ∧ h.PlainList a (bs.map Value.ref).toArray ∧ RowsRep h Ok bs xs := by
  cases r with | two a b c d e => exact ⟨_, _, rfl, a, b, c, d, e⟩
theorem RowsRep.length (r : RowsRep h Ok bs xs) : bs.length = xs.length := by
  induction r with
  | nil => rfl
  | cons _ _ _ ih => exact congrArg (· + 1) ih
theorem RowsRep.snoc {b : Addr} {vs : List Value} (r : RowsRep h Ok bs xs) (q : h.PlainList b vs.toArray) (ra : RepAll h Ok vs ys) : RowsRep h Ok (bs ++ [b]) (xs ++ [.list ys]) := by
  induction r with
  | nil => exact .cons q ra .nil
  | cons q r _ ih => exact .cons q r ih
/-- one of the lists is turned -/
theorem RowsRep.set {b : Addr} {vs : List Value} (hm : Moves h h' Ok Ok') (hk : ∀ c ∈ bs, c ≠ b → ∀ o, h.get? c = some o → h'.get? c = some o) (pl : h'.PlainList b vs.toArray) (ra : RepAll h' Ok' vs ys) :
    ∀ {n : Nat}, RowsRep h Ok bs xs → bs.Nodup → bs[n]? = some b → RowsRep h' Ok' bs (xs.set n (.list ys)) := by
  intro n r
  induction r generalizing n with
  | nil => exact fun _ e => nomatch e
  | cons q r t ih =>
    intro hnd hn
    obtain ⟨h1, h2⟩ := List.nodup_cons.mp hnd
    cases n with
    | zero =>
      cases Option.some.inj hn
      exact .cons pl ra (t.mono hm fun c hc => hk c (.tail _ hc) fun e => h1 (e ▸ hc))
    | succ n =>
      have hb := List.mem_of_getElem? (List.getElem?_cons_succ.symm.trans hn)
      exact .cons (q.at (hk _ (.head _) fun e => h1 (e.symm ▸ hb))) (r.mono hm) (ih (fun c hc => hk c (.tail _ hc)) h2 hn)
end
/-- an expression that makes a new list -/
def SNL (C : Cx) (me : ME) (e : Expr) : Prop := ∀ A env Ok ρ s (Z : List PV → Prop), Here C A env Ok ρ s → (evA C.Γ me ρ).val (fun v l => l0 l (listP v Z)) →
  ∀ E R : Value → Shared → Prop, (∀ a vs s' xs, Ext s s' → s.heap.get? a = none → s'.heap.PlainList a vs.toArray → RepAll s'.heap (fun b => Ok b ∧ b ≠ a) vs xs → Sz (.list xs) → Z xs → R (.ref a) s') → wpAny C.W.M A (eval e env) R E s
section
variable {C : Cx} {F : Fr} {own own' : Nat → Addr → Prop} {ρ ρ' : List Slt} {s s' : Shared}
theorem SN.snl {me : ME} {e : Expr} (h : SN C me e) : SNL C me e := fun A env Ok ρ s Z H hz E R q => h A env Ok ρ s _ H hz E R fun a vs s' xs ex ha pl ra sz z => q a vs s' xs ex ha pl ra sz z
theorem snl_add {a b : ME} {l r : Expr} {pos : Pos} (ha : SE C a l) (hb : SE C b r) : SNL C (.bin .add a b) (.BinOp l .Add r pos) := by
  refine fun A env Ok ρ s Z H h E R q => wpAny_BinOp (ha A env Ok ρ s _ H h E _ fun v s1 x lx e1 r1 h1 => hb A env Ok ρ s1 _ (H.ext e1) h1 E _ fun u s2 y ly e2 r2 h2 => ?_)
  obtain ⟨hl, h3⟩ := l1_inv h2
  obtain ⟨hl', h4⟩ := l1_inv h3
  cases x with
  | list xs =>
    obtain ⟨ys, rfl, hz, z⟩ := list_inv h4
    obtain ⟨a1, vs, rfl, q1, _, r3, _⟩ := (r1.ext e2).r.inv
    obtain ⟨a2, ws, rfl, q2, _, r4, _⟩ := r2.r.inv
    exact add_lists hz q1 q2 (r3 hl) (r4 hl') E R fun c us s3 e3 hc pl ra => q c us s3 _ ((e1.trans e2).trans e3) ((e1.trans e2).fresh hc) pl ra (sz_append hz r1.z r2.z) z
  | int i => obtain ⟨j, rfl, z⟩ := int_inv h4; exact z.elim
  | txt k cs => obtain ⟨_, d, rfl, _, _, z⟩ := txt_inv h4; exact z.elim
  | _ => exact h4.elim
theorem snl_ite {c a b : ME} {t e1 e2 : Expr} {pos : Pos} (hc : ST C c t) (ha : SNL C a e1) (hb : SNL C b e2) : SNL C (.ite c a b) (.IfExp t e1 e2 pos) :=
  fun A env Ok ρ s Z H h E R q => IfExp_ (hc A env Ok ρ s _ H h E _ fun b s1 x1 z => ite_bool z (fun z => ha A env Ok ρ s1 _ (H.ext x1) z E _ fun a vs s2 xs x2 hn => q a vs s2 xs (x1.trans x2) (x1.fresh hn)) fun z => hb A env Ok ρ s1 _ (H.ext x1) z E _ fun a vs s2 xs x2 hn => q a vs s2 xs (x1.trans x2) (x1.fresh hn))
/-- rows.append(a new list) -/
theorem ss_push2 (G : C.cc.Good) {x : Str} {i : Nat} {me : ME} {e : Expr} {p apos pos pos' : Pos} (hx : C.cc.σ x = some i) (hd : (x == ("__debug__" : Str)) = false) (hcd : (x == ("__classdict__" : Str)) = false)
    (hline : (apos.endLine == pos.line) = true) (hn : notStar e = true) (h : SNL C me e) : SS C (.push2 i me) (.Expr (.Call (.Attribute (.Name x p) "append" apos) [e] [] pos) pos') := by
  intro F own0 ρ0 s P S0 hp E Q q
  obtain ⟨own, S⟩ := S0.freeze G (esc true me)
  obtain ⟨xs, h1, h2⟩ := rows_inv hp
  obtain ⟨w, hw, hb, hz⟩ := S.get x i hx _ _ h1
  obtain ⟨a, bs, rfl, ho, hob, hnd, hpl, hra⟩ := hb.two_inv
  refine wpAny_Expr (call_own S hw hd hcd hpl hline PySem.F.slot_list_append PySem.F.type_list_append (by rw [starEach_plain hn]; rfl) (plain_one hn) (spliced_one hn (h F.A F.env _ _ s _ S.here h2 E _ fun b vs s1 ys e1 hb0 plb rb szb hy => ?_))) (not_inter S.st.kind) rfl
  obtain ⟨hlt, hq⟩ := hy
  refine wpAny_list_append_plain (hpl.at fun o => e1.keep a o) (fun h' pl' sb => ?_) (by rw [List.size_toArray, List.length_map, hra.length]; exact lst_size hz.list_len)
  have hex : s1.heap.get? b ≠ none := plain_some plb
  have S1 := S.hide (new := fun c => c = b) e1 fun c hc => hc ▸ ⟨hb0, hex⟩
  have hba : b ≠ a := fun q => (S.owned i a ho).1 (q ▸ hb0)
  have ho1 : addOwn own C.cc.n (fun c => c = b) i a := .inl ho
  have hm : Moves s1.heap h' (Okc F.Ok (addOwn own C.cc.n fun c => c = b)) (Okc F.Ok (addOwn own C.cc.n fun c => c = b)) := turn_moves ho1 sb
  have hhide : ∀ c, Okc F.Ok own c → SeqAt s.heap c → Okc F.Ok (addOwn own C.cc.n fun c => c = b) c := fun c hc ⟨_, _, _, hoc, _⟩ => hide_ok hc fun e => nomatch (e ▸ hb0).symm.trans hoc
  have hbs : ∀ c ∈ bs, s.heap.get? c ≠ none := fun c hc => (S.owned i c (hob c hc)).1
  have hac : ∀ c ∈ bs, c ≠ a := fun c hc e => (List.nodup_cons.mp hnd).1 (e ▸ hc)
  have rr : RowsRep h' (Okc F.Ok (addOwn own C.cc.n fun c => c = b)) (bs ++ [b]) (xs ++ [.list ys]) := by
    refine RowsRep.snoc ((hra.mono (fun c hc hs => ⟨hhide c hc hs, fun o => e1.keep c o⟩) fun c hc o => e1.keep c o).mono hm fun c hc o => sb.extBut c o (hac c hc)) (plb.at fun o => sb.extBut b o hba) ?_
    exact (rb.weaken fun c hc => hide_ok hc.1 hc.2).mono hm
  have kbX : KeepBut (fun c => c = a) s1 { s1 with heap := h' } := KeepBut.of_same (X := fun c => c = a) sb rfl s1.toks
  have np : ∀ c, Plc F.env c → c ≠ a := fun c hc q => (S.owned i a ho).2.1 (q ▸ hc)
  have kp : ∀ c, Plc F.env c → ∀ o, s1.heap.get? c = some o → h'.get? c = some o := fun c hc o => sb.extBut c o (np c hc)
  have hnew : ∀ c, (own i c ∨ c = b) → Mine C.cc.n (addOwn own C.cc.n fun c => c = b) i c := fun c hc => hc.elim (fun h => ⟨i, .inl h, .inl rfl⟩) fun h => ⟨C.cc.n, .inr ⟨rfl, h⟩, .inr (Nat.le_refl _)⟩
  have hex' : h'.get? a ≠ none := plain_some pl'
  have S2 := S1.put G (s' := { s1 with heap := h' }) (y := some (.list (xs ++ [.list ys]), 2)) hnew kbX (fun c hc => by cases (show c = a from hc); exact ⟨hex', .inr ⟨i, ho1, .inl rfl⟩⟩) (let ⟨m, h⟩ := S1.ns; ⟨m, h.at' (kp _ (.inl rfl))⟩) (fun y c hy => let ⟨v0, h⟩ := S1.cells y c hy; ⟨v0, IsCell.to h (kp c (.inr ⟨y, hy⟩))⟩)
    (fun y hy pv' l' e' => by
      cases e'
      refine ⟨.ref a, G.inj x y i hx hy ▸ (hw.keeps e1.keep).to kp, ?_, sz_snoc hz hlt szb⟩
      refine .two (.inl ⟨rfl, .inl ho⟩) (fun c hc => .inl ⟨rfl, (List.mem_append.mp hc).elim (fun hc => .inl (hob c hc)) fun hc => .inr (List.mem_singleton.mp hc)⟩) ?_ ?_ (rr.mono (h' := h') (fun c hc _ => ⟨takes_ok (n := C.cc.n) hnew hc, fun o h => h⟩) fun c _ o h => h)
      · obtain ⟨n1, n2⟩ := List.nodup_cons.mp hnd
        exact List.nodup_cons.mpr ⟨fun hm => (List.mem_append.mp hm).elim n1 fun hm => hba (List.mem_singleton.mp hm).symm, List.nodup_append.mpr ⟨n2, List.nodup_cons.mpr ⟨List.not_mem_nil, List.nodup_nil⟩, fun c hc d hd q => hbs c hc ((List.mem_singleton.mp hd ▸ q) ▸ hb0)⟩⟩
      · rw [List.map_append]; exact List.push_toArray (bs.map Value.ref) (.ref b) ▸ pl') fun z w _ hw => hw.to kp
  exact q _ _ _ .next _ S2 rfl hq
end
end Mine
end
noncomputable section
namespace Mine
open Builtin
section
variable {C : Cx} {F : Fr} {own own' : Nat → Addr → Prop} {ρ ρ' : List Slt} {s s' : Shared}
/-- rows[i].append(v) -/
theorem ss_append2 (G : C.cc.Good) {x : Str} {i : Nat} {mi me : ME} {ei e : Expr} {p p' apos pos pos' : Pos} (hx : C.cc.σ x = some i) (hd : (x == ("__debug__" : Str)) = false) (hcd : (x == ("__classdict__" : Str)) = false)
    (hline : (apos.endLine == pos.line) = true) (hn : notStar e = true) (hi : SE C mi ei) (h : SE C me e) : SS C (.append2 i mi me) (.Expr (.Call (.Attribute (.Subscript (.Name x p) ei p') "append" apos) [e] [] pos) pos') := by
  intro F own0 ρ0 s P S0 hp E Q q
  obtain ⟨own, S⟩ := S0.freeze G (esc true me)
  obtain ⟨xs, h1, h2⟩ := rows_inv hp
  obtain ⟨w, hw, hb, hz⟩ := S.get x i hx _ _ h1
  obtain ⟨a, bs, rfl, ho, hob, hnd, hpl, hra⟩ := hb.two_inv
  have hl : (bs.map Value.ref).length ≤ LST := by rw [List.length_map, hra.length]; exact hz.list_len
  refine wpAny_Expr ?_ (not_inter S.st.kind) rfl
  rw [arm_eval_Call, base_plain (o := .Subscript (.Name x p) ei p') rfl]
  refine wpAny_bind (subscript_of (C := C) (hw.load (h := s.heap) S.st.kind hd hcd (hi F.A F.env _ _ s _ S.here h2 E _ fun iv s1 y li e1 r1 h3 => ?_)))
  obtain ⟨kk, rfl, ys, hys, h4⟩ := int_inv h3
  obtain ⟨m, hxm, hcase⟩ := idxAt_at hys
  have hm : placeOfI xs kk = m := by
    unfold placeOfI
    rcases hcase with ⟨h0, rfl, _⟩ | ⟨h0, _, rfl⟩
    · exact if_pos h0
    · exact if_neg (Int.not_le.mpr h0)
  rw [hm] at h4
  obtain ⟨ti, rfl⟩ := r1.r.inv.inv
  obtain ⟨b, vs, ys', hbm, e5, plb, rab⟩ := hra.get m _ hxm
  cases e5
  have hbs : b ∈ bs := List.mem_of_getElem? hbm
  have hbref : (bs.map Value.ref)[m]? = some (.ref b) := by rw [List.getElem?_map, hbm]; rfl
  have hlen : (bs.map Value.ref).length = xs.length := by rw [List.length_map, hra.length]
  rw [← hlen] at hcase
  have hpl1 := hpl.at fun o => e1.keep a o
  refine ⟨⟨_, _, hpl1.isList.typeIs, slot_list_getitem.lookup⟩, getItem_raw hpl1 hl hbref hcase (wpAny_bind (wpAny_standAt ?_))⟩
  have hform : methodCallForm (([e] : List Expr).length + ([] : List Keyword).length) (backTo pos (starEach [e] F.env)) (backToKw pos (keywordEach [] F.env)) = true := by
    rw [starEach_plain hn]; rfl
  have hpos : methodCallPos true (.Subscript (.Name x p) ei p') F.env apos pos = pure pos := if_pos (by rw [hline]; rfl)
  unfold methodCall
  rw [hform]
  refine wpAny_bind (wpAny_holding (getMethod_lst (plb.at fun o => e1.keep b o) PySem.F.slot_list_append PySem.F.type_list_append (wpAny_bind (wpAny_of_eq hpos (Calls.callWith_builtin (plain_one hn) (evalArgs_of (fun y hy => nomatch (hy ▸ plain_one (env := F.env) (pos := pos) hn : ([(true, y)] : List (Bool × Sem Value)).any (·.1) = false)) (spliced_one hn (h F.A F.env _ _ s1 _ (S.ext e1).here h4 E _ fun u s2 z l e2 r2 hy => ?_))))))))
  obtain ⟨rfl, hlt, hq⟩ := l0_inv hy
  have e12 := e1.trans e2
  have hzb : Sz (.list ys) := hz.list_all _ (List.mem_of_getElem? hxm)
  refine wpAny_list_append_plain (plb.at fun o => e12.keep b o) (fun h' pl' sb => ?_) (by rw [List.size_toArray, rab.length]; exact lst_size hzb.list_len)
  have hob' := hob b hbs
  have hab : a ≠ b := fun e => (List.nodup_cons.mp hnd).1 (e ▸ hbs)
  have hmv : Moves s2.heap h' (Okc F.Ok own) (Okc F.Ok own) := turn_moves hob' sb
  have hnew : RepAll h' (Okc F.Ok own) (vs ++ [u]) (ys ++ [z]) := ((rab.ext e12).append (.cons r2.r.rep0 .nil)).mono hmv
  have hrr : RowsRep h' (Okc F.Ok own) bs (xs.set m (.list (ys ++ [z]))) :=
    RowsRep.set (n := m) hmv (fun c _ hc o => sb.extBut c o hc) (List.push_toArray vs u ▸ pl') hnew (hra.mono e12.moves fun c _ o => e12.keep c o) (List.nodup_cons.mp hnd).2 hbm
  exact q _ _ _ .next _ (S.turn G (tk := s2.toks) e12 hx hob' sb (plain_some pl') hw (.two ho hob hnd ((hpl.at fun o => e12.keep a o).at fun o => sb.extBut a o hab) hrr) (set_sz hz (sz_snoc hzb hlt r2.z))) rfl hq
end
end Mine
end
noncomputable section
namespace Mine
open Builtin
/-! ## the compiler's further cases for laws 5, 1, 6 -/
section
variable {cfg : Cfg} {fns : List Str} {cc : CC} (ih : ∀ (cc : CC) (e : Expr), CE cfg fns cc e) (owns : List Str) (rec : ∀ st, CS cfg fns cc st)
theorem clsIn {c : String} (h : cfg.cls.contains c = true) {C : Cx} (H : Hy cfg fns C) : C.W.glob (Str.ofString c) = some (.type c) := H.cls (List.contains_iff_mem.mp h)
/-- tuple(map(f, xs)) -/
def cMapFn (x y f : Str) (p p2 p3 pos pos2 : Pos) (e : Expr) : CE cfg fns cc (.Call (.Name x p) [.Call (.Name y p2) [.Name f p3, e] [] pos2] [] pos) :=
  if h : ((x = ("tuple" : Str) ∧ y = ("map" : Str)) ∧ notStar e = true) ∧ ((cc.gl "tuple" = true ∧ cc.gl "map" = true) ∧ (cc.gl f = true ∧ badName f ≠ true)) ∧ (cfg.cls.contains "tuple" = true ∧ cfg.cls.contains "map" = true) then
    match pickF f fns with
    | some i => ⟨.mapfn i.1 (ih cc e).1, fun W Γ k H => by
        obtain ⟨⟨⟨rfl, rfl⟩, hn⟩, ⟨⟨g1, g2⟩, g3, g4⟩, c1, c2⟩ := h
        exact both_plain (se_mapfn H.gk i.2 g3 (badName_of g4).1 g1 g2 (clsIn c1 H) (clsIn c2 H) hn ((ih cc e).2 W Γ k H).se) (fun _ _ => rfl) fun _ => rfl⟩
    | none => .bad
  else .bad
def cMore5E (e : Expr) : CE cfg fns cc e :=
  match e with
  | .Call (.Name x p) [.Call (.Name y p2) [.Name f p3, e] [] pos2] [] pos => cMapFn ih x y f p p2 p3 pos pos2 e
  | _ => .bad
/-- for i, c in enumerate(e) -/
def cForEnum (es : List Expr) (n : Nat) (p' p p2 pos : Pos) (y : Str) (e : Expr) (body : List Stmt) : CS cfg fns cc (.For (.Tuple es n p') (.Call (.Name y p2) [e] [] pos) body [] p) :=
  match cNames (cc := cc) es with
  | some ⟨[i1, i2], hn⟩ => if h : (y = ("enumerate" : Str) ∧ notStar e = true) ∧ (cc.gl "enumerate" = true ∧ cfg.cls.contains "enumerate" = true) then
      ⟨.for_ [i1, i2] (.enum (ih cc e).1) (cBk rec body).1, fun W Γ k H => by
        obtain ⟨⟨rfl, hs⟩, g, c⟩ := h
        exact ss_forEnum H.good hn g (clsIn c H) ((ih cc e).2 W Γ k H).se hs ((cBk rec body).2 W Γ k H)⟩ else .bad
  | _ => .bad
/-- x, = {elt for y in it} -/
def cOne (y : Str) (p'' p' p pos : Pos) (n : Nat) (elt : Expr) (gens : List Comprehension) (scope : Scope) : CS cfg fns cc (.Assign [.Tuple [.Name y p''] n p'] (.SetComp elt gens scope pos) p) :=
  match h : cc.σ y with
  | none => .bad
  | some i => match gens with
    | [⟨.Name x px, iter, [], 0⟩] => if hc : compOkB cc scope x = true ∧ notSet iter = true then ⟨.oneOf i (ih (cc.comp scope x) elt).1 (cSrc ih iter).1, fun W Γ k H =>
        ss_oneOf H.good h (compOk_of H.good hc.1) ((cSrc ih iter).2 W Γ k H) hc.2 ((ih (cc.comp scope x) elt).2 W Γ k (H.comp scope x)).se⟩ else .bad
    | _ => .bad
/-- an expression that makes a new list -/
abbrev CNw (cfg : Cfg) (fns : List Str) (cc : CC) (e : Expr) : Type := { me : ME // Snd cfg fns cc fun C => SNL C me e }
def cNew1 (e : Expr) : Option (CNw cfg fns cc e) :=
  match e with
  | .List es p => some ⟨.list (cList ih es).1, fun W Γ k H => (sn_list ((cList ih es).2 W Γ k H)).snl⟩
  | .BinOp l .Add r p => some ⟨.bin .add (ih cc l).1 (ih cc r).1, fun W Γ k H => snl_add ((ih cc l).2 W Γ k H).se ((ih cc r).2 W Γ k H).se⟩
  | _ => none
def cNew (e : Expr) : Option (CNw cfg fns cc e) :=
  match e with
  | .IfExp t a b p => (match cNew1 (cc := cc) ih a, cNew1 (cc := cc) ih b with
    | some x, some y => some ⟨.ite (ih cc t).1 x.1 y.1, fun W Γ k H => snl_ite ((ih cc t).2 W Γ k H).st (x.2 W Γ k H) (y.2 W Γ k H)⟩
    | _, _ => none)
  | e => cNew1 ih e
def cPush2 (x m : Str) (p apos pos pos' : Pos) (e : Expr) : CS cfg fns cc (.Expr (.Call (.Attribute (.Name x p) m apos) [e] [] pos) pos') :=
  match h : cc.σ x, cNew (cfg := cfg) (fns := fns) (cc := cc) ih e with
  | some i, some c => if hb : (badName x ≠ true ∧ m = ("append" : Str)) ∧ ((apos.endLine == pos.line) = true ∧ notStar e = true) then ⟨.push2 i c.1, fun W Γ k H => by
      obtain ⟨⟨b, rfl⟩, l, n⟩ := hb
      exact ss_push2 H.good h (badName_of b).1 (badName_of b).2 l n (c.2 W Γ k H)⟩ else .bad
  | _, _ => .bad
def cAppend2 (x m : Str) (ei : Expr) (p p' apos pos pos' : Pos) (e : Expr) : CS cfg fns cc (.Expr (.Call (.Attribute (.Subscript (.Name x p) ei p') m apos) [e] [] pos) pos') :=
  match h : cc.σ x with
  | some i => if hb : (badName x ≠ true ∧ m = ("append" : Str)) ∧ ((apos.endLine == pos.line) = true ∧ notStar e = true) then ⟨.append2 i (ih cc ei).1 (ih cc e).1, fun W Γ k H => by
      obtain ⟨⟨b, rfl⟩, l, n⟩ := hb
      exact ss_append2 H.good h (badName_of b).1 (badName_of b).2 l n ((ih cc ei).2 W Γ k H).se ((ih cc e).2 W Γ k H).se⟩ else .bad
  | none => .bad
/-- several names, some of them for lists of lists -/
def cMade2 : (vs es : List Expr) → Option (CM cfg fns cc vs)
  | [], _ => some ⟨([], .nil), fun _ _ _ _ => sm_nil⟩
  | v :: vs, es => match es with
    | [] => none
    | e :: es => match e, cMade2 vs es with
      | .Name x _, some r => if hn : notStar v = true then some (if twice owns x = true then (match v with
          | .List [.List [] p] pos => ⟨(2 :: r.1.1, .cons (.list (.cons (.list .nil) .nil)) r.1.2), fun W Γ k H => sm_two rfl sn2_nil (r.2 W Γ k H)⟩
          | v => cMade1 ih owns x v vs hn r) else cMade1 ih owns x v vs hn r) else none
      | _, _ => none
def cMulti2 (es : List Expr) (n : Nat) (p' p : Pos) (e : Expr) : CS cfg fns cc (.Assign [.Tuple es n p'] e p) :=
  match e with
  | .Tuple vs m q => (match cNames (cc := cc) es, cMade2 (cc := cc) ih owns vs es with
    | some is, some r => if h : vs.all (constantsAlone 8) = false ∧ is.1.Nodup then ⟨.multi is.1 r.1.1 r.1.2, fun W Γ k H => ss_multi H.good is.2 h.2 h.1 (r.2 W Γ k H)⟩ else .bad
    | _, _ => .bad)
  | _ => .bad
def cMore5S (st : Stmt) : CS cfg fns cc st :=
  match st with
  | .Assign [.Tuple [.Name y p''] n p'] (.SetComp elt gens scope pos) p => cOne ih y p'' p' p pos n elt gens scope
  | .Assign [.Tuple es n p'] e p => cMulti2 ih owns es n p' p e
  | .For (.Tuple es n p') (.Call (.Name y p2) [e] [] pos) body [] p => cForEnum ih rec es n p' p p2 pos y e body
  | .Expr (.Call (.Attribute (.Name x p) m apos) [e] [] pos) pos' => cPush2 ih x m p apos pos pos' e
  | .Expr (.Call (.Attribute (.Subscript (.Name x p) ei p') m apos) [e] [] pos) pos' => cAppend2 ih x m ei p p' apos pos pos' e
  | _ => .bad
end
def more5 {cfg : Cfg} {fns : List Str} : More cfg fns := ⟨fun ih _ e => cMore5E ih e, fun ih owns _ rec st => cMore5S ih owns rec st⟩
end Mine
end
noncomputable section
namespace Mine
open Builtin
/-! ## three and four parameters -/
section
variable {name qual : Str} {a b c d : Arg} {kd : List (Option Expr)} {ds : List Expr} {body : FuncBody} {scope : Scope} {g : Addr} {cl : List (Str × Addr)} {kw doc pm : Value} {an : Option Addr} {cd ct : Value} {bi : Addr} {v u w x : Value}
end
end Mine
end
noncomputable section
namespace Mine
/-! ## what law 5's text uses -/
def nms (l : List String) : List Str := l.map Str.ofString
def sgFspath : Sig := ⟨"fspath", nms ["path", "kind", "hook", "given"], 1, false, []⟩
def sgSep : Sig := ⟨"_get_sep", nms ["path"], 1, false, []⟩
def sgJoin : Sig := ⟨"join", nms ["a", "p", "sep", "path", "b"], 2, true, []⟩
def sgSplitroot : Sig := ⟨"splitroot", nms ["p", "sep", "empty"], 1, false, []⟩
def sgNormpath : Sig := ⟨"normpath", nms ["path", "sep", "dot", "dotdot", "_", "initial_slashes", "comps", "new_comps", "comp"], 1, false, nms ["new_comps"]⟩
def sgAbspath : Sig := ⟨"abspath", nms ["path"], 1, false, []⟩
def sgCommonprefix : Sig := ⟨"commonprefix", nms ["m", "s1", "s2", "i", "c"], 1, false, []⟩
def sgRelpath : Sig := ⟨"relpath", nms ["path", "start", "curdir", "sep", "pardir", "start_tail", "path_tail", "start_list", "path_list", "i", "rel_list"], 2, false, []⟩
def sgCommonpath : Sig := ⟨"commonpath", nms ["paths", "sep", "curdir", "split_paths", "isabs", "s1", "s2", "common", "i", "c", "prefix"], 1, false, []⟩
def sgRows5 : Sig := ⟨"_law_rows", nms ["script", "rows", "size", "x", "kind", "c"], 1, false, nms ["rows", "rows"]⟩
def sgMade : Sig := ⟨"_law_made", nms ["codes", "kind"], 2, false, []⟩
def sgNames : Sig := ⟨"_law_names", nms ["codes", "names", "piece", "c"], 1, false, []⟩
def sgLaid : Sig := ⟨"_law_laid", nms ["pieces", "codes", "k"], 1, false, []⟩
end Mine
end
noncomputable section
namespace Mine
open Builtin
/-! ## count and index of a list; max of two ints -/
section
variable {W : Wld} {A : Around} {s : Shared} {Ok Ok' : Addr → Prop} {v u : Value} {x y : PV} {xs : List PV} {vs : List Value} {a : Addr}
theorem count_like {h : Heap} {Ok : Addr → Prop} (r : RepAll h Ok vs xs) : vs.countP (likeV h Ok x) = xs.countP (likeB x) :=
  r.ind (P := fun vs xs => vs.countP (likeV h Ok x) = xs.countP (likeB x)) rfl fun a _ ih => by rw [List.countP_cons, List.countP_cons, ih, like_eq a]
theorem list_recv {P : Prop} (h : listR x P) : (∃ xs, x = .list xs) ∧ P := by
  cases x with
  | list xs => exact ⟨⟨xs, rfl⟩, h⟩
  | _ => exact h.elim
theorem any_rep {l : Nat} {h : Heap} (hu : Val W h Ok l u y) (hn : ∀ es, y ≠ .dict es) : Rep h (fun _ => True) u y := hu.r.any hn
theorem ok_count : MethOk W .count where
  get A s Ok l v x P pl E Q hv h q := by
    obtain ⟨⟨xs, rfl⟩, p⟩ := list_recv h
    obtain ⟨a, vs, rfl, ⟨n, ho⟩, _⟩ := hv.r.inv
    exact getMethod_builtin (T := "list") ⟨_, ho, rfl⟩ F.plainAttrs_list F.slot_list_count F.type_list_count (fun b e => Value.ref.inj e ▸ ⟨_, ho, rfl⟩) (q p)
  run A s Ok l l' v u x y Z H hv hu hl h := by
    obtain ⟨hn, h⟩ := nd_inv h
    obtain ⟨xs, rfl, hd, z⟩ := list_inv h
    obtain ⟨a, vs, rfl, ⟨n, ho⟩, r, _⟩ := hv.r.inv
    refine Gets.yld (fun E Q q => ?_) (.int _) z
    show wpAny W.M A (call (.builtin "list.count") [.ref a, u]) Q E s
    refine call_meets F.slot_list_count ⟨_, ho, rfl⟩ F.entry_list_count (F.args_list_count_2 _ _) (PySem.SeqAt.list_countAt a vs.toArray n none #[] u (likeV s.heap (fun _ => True) y)) ⟨ho, fun v hv => like_at H.un r (any_rep hu hn) hd v (List.mem_toArray.mp hv), ?_⟩
    rw [List.toList_toArray, count_like r]
    exact q _ _ (.toks _ _) (.int _ _)
theorem ok_index : MethOk W .index where
  get A s Ok l v x P pl E Q hv h q := by
    obtain ⟨⟨xs, rfl⟩, p⟩ := list_recv h
    obtain ⟨a, vs, rfl, ⟨n, ho⟩, _⟩ := hv.r.inv
    exact getMethod_builtin (T := "list") ⟨_, ho, rfl⟩ F.plainAttrs_list F.slot_list_index F.type_list_index (fun b e => Value.ref.inj e ▸ ⟨_, ho, rfl⟩) (q p)
  run A s Ok l l' v u x y Z H hv hu hl h := by
    obtain ⟨hn, h⟩ := nd_inv h
    obtain ⟨xs, rfl, hd, i, hi, z⟩ := list_inv h
    obtain ⟨a, vs, rfl, ⟨n, ho⟩, r, _⟩ := hv.r.inv
    have hlen := r.length
    obtain ⟨hlt, hit, hno⟩ := List.findIdx?_eq_some_iff_getElem.mp hi
    have hz := hv.z.list_len
    have hlt' : i < vs.toArray.size := by rw [List.size_toArray, hlen]; exact hlt
    have at' : ∀ j (h1 : j < vs.toArray.size) (h2 : j < xs.length), likeV s.heap (fun _ => True) y vs.toArray[j] = likeB y xs[j] := fun j h1 h2 => like_eq (r.at (List.getElem?_eq_getElem h1) (List.getElem?_eq_getElem h2))
    refine Gets.yld (fun E Q q => ?_) (.int _) z
    show wpAny W.M A (call (.builtin "list.index") [.ref a, u]) Q E s
    refine call_meets F.slot_list_index ⟨_, ho, rfl⟩ F.entry_list_index (F.args_list_index_2 _ _) (PySem.SeqAt.list_indexAt a vs.toArray n none #[] u (likeV s.heap (fun _ => True) y) i hlt' (Int.lt_of_lt_of_le (Int.ofNat_lt.mpr (Nat.lt_of_lt_of_le hlt hz)) (by decide)) ?_ ?_) ⟨ho, fun v hv => like_at H.un r (any_rep hu hn) hd v (List.mem_toArray.mp hv), ?_⟩
    · rw [at' i hlt' hlt]; exact hit
    · intro m hm hmi
      have hm' : m < xs.length := Nat.lt_trans hmi hlt
      rw [at' m hm hm']
      exact Bool.eq_false_iff.mpr fun q => hno m hmi q
    · exact q _ _ (.toks _ _) (.int _ _)
end
end Mine
end
noncomputable section
namespace Mine
/-! ## what law 6's text uses -/
def cfg6 : Cfg where
  bop := [⟨.add, fun _ => bin_add⟩, ⟨.sub, fun _ => bin_sub⟩, ⟨.mul, fun _ => bin_mul⟩, ⟨.fdiv, fun _ => bin_fdiv⟩, ⟨.fmod, fun _ => bin_fmod⟩]
  aop := [⟨.add, fun _ => aug_add⟩, ⟨.sub, fun _ => aug_sub⟩]
  cop := [⟨.eq, fun _ => cmp_eq⟩, ⟨.ne, fun _ => cmp_ne⟩, ⟨.lt, fun _ => cmp_lt⟩, ⟨.gt, fun _ => cmp_gt⟩, ⟨.is_, fun _ => cmp_is⟩, ⟨.isin, fun _ => cmp_in⟩, ⟨.notin, fun _ => cmp_notin⟩]
  meth := [⟨.split, fun _ => ok_split⟩, ⟨.join, fun _ => ok_join⟩, ⟨.startswith, fun _ => ok_startswith⟩, ⟨.endswith, fun _ => ok_endswith⟩, ⟨.lstrip, fun _ => ok_lstrip⟩, ⟨.count, fun _ => ok_count⟩, ⟨.index, fun _ => ok_index⟩]
  b1 := [⟨.len, fun _ => b1_len⟩, ⟨.abs, fun _ => b1_abs⟩, ⟨.chr, fun _ => b1_chr⟩, ⟨.ord, fun _ => b1_ord⟩, ⟨.min, fun _ => b1_min⟩, ⟨.max, fun _ => b1_max⟩, ⟨.bytes, fun _ => b1_bytes⟩, ⟨.typ, fun _ => b1_typ⟩]
  b2 := [⟨.isinst, fun _ => b2_isinst⟩, ⟨.issub, fun _ => b2_issub⟩]
  cls := ["str", "bytes", "list", "tuple", "map", "enumerate", "TypeError", "AttributeError", "BytesWarning", "DeprecationWarning"]
def sgWays : Sig := ⟨"_law_ways", nms ["tree", "start", "seen", "ways", "turn", "place"], 2, false, nms ["seen", "ways"]⟩
def sgTree : Sig := ⟨"_law_tree", nms ["rows", "kind", "goals", "tree", "names", "k", "spelled", "plain", "i", "seen", "ways", "tops", "j", "way", "least"], 2, false, nms ["tree", "tops"]⟩
def sigs6 : List Sig := [sgFspath, sgSep, sgJoin, sgSplitroot, sgNormpath, sgAbspath, sgCommonprefix, sgRelpath, sgCommonpath, sgRows5, sgMade, sgNames, sgLaid, sgWays, sgTree]
def slLaw6 : List Str := nms ["script", "rows", "octets", "k", "text", "bare"]
end Mine
end
noncomputable section
namespace Mine
/-! ## law 6 put together: what the heap behind its text is asked -/
def more6L : ∀ fns, More cfg6 fns := fun _ => more5
def sgChk : Sig := ⟨"_check_arg_types", nms ["funcname", "args", "hasstr", "hasbytes", "s"], 2, true, []⟩
def sgRef : Sig := ⟨"_law_refused", nms ["path", "start"], 2, false, []⟩
def stN : Nat → List Stmt → Stmt
  | _, [] => .Pass ⟨0, 0, 0, 0⟩
  | 0, s :: _ => s
  | n + 1, _ :: r => stN n r
def bodyS : Stmt → List Stmt
  | .FunctionDef (body := b) .. => b
  | .For (body := b) .. => b
  | .If (orelse := b) .. => b
  | .Try (body := b) .. => b
  | _ => []
def scopeS : Stmt → Scope
  | .FunctionDef (scope := s) .. => s
  | _ => default
def st6 (i : Nat) : Stmt := stN i PySem.Challenge.pw_kq0046_06.main.body
def obsX (g : Sig) (K : Frag) : Bool × List Stmt × Scope := match nsIn K mainGlobals g.name with
  | some (some (.ref a)) => (fdOkB K a g, bodyOf (fdAt K a), (fdAt K a).scope)
  | _ => (false, [], default)
def val6 : Bool × List (Bool × MS) := (true, [(true, msFspath5), (true, msSep), (true, msJoin), (true, msSplitroot), (true, msNormpath), (true, msAbspath), (true, msCommonprefix), (true, msRelpath), (true, msCommonpath), (true, msRows6), (true, msMade), (true, msNames), (true, msLaid), (true, msWays), (true, msTree)])
def as6 : List Addr := [3, 93, 94, 100, 101, 107, 108, 114, 115, 121, 122, 128, 129, 135, 136, 142, 143, 144, 150, 151, 155, 156, 162, 163, 167, 168, 174, 175, 181, 182, 188, 189, 193, 194, 200, 201]
def obs6 (K : Frag) : (Bool × List (Bool × MS)) × List (Bool × List Stmt × Scope) := (obsK more6L sigs6 K, [obsX sgChk K, obsX sgRelpath K, obsX sgRef K])
def valS (i : Nat) : Bool × List Stmt × Scope := (true, bodyS (st6 i), scopeS (st6 i))
def hook6 : Hook := ⟨(Bool × List (Bool × MS)) × List (Bool × List Stmt × Scope), fun s => obs6 (fragOf as6 s.heap), fun _ => (val6, [valS 12, valS 19, valS 28]), fun _ h => ∃ K : Frag, K.In h ∧ obs6 K = (val6, [valS 12, valS 19, valS 28]), fun w s e => ⟨_, frag_in as6 s.heap, e⟩, fun w h h' ⟨K, a, b⟩ k => ⟨K, fun c o e => k c o (a c o e), b⟩⟩
theorem boots6 : Boots cfg6.names := ⟨by kernel_rfl, by kernel_rfl, by kernel_rfl, by kernel_rfl, by kernel_rfl, by kernel_rfl, by kernel_rfl, by kernel_rfl, by kernel_rfl, by kernel_rfl, by kernel_rfl, by kernel_rfl, by kernel_rfl, by kernel_rfl, by kernel_rfl, by kernel_rfl, by kernel_rfl, by kernel_rfl, by kernel_rfl, by kernel_rfl, by kernel_rfl, trivial⟩
def fns15 : List Str := nms ["fspath", "_get_sep", "join", "splitroot", "normpath", "abspath", "commonprefix", "relpath", "commonpath", "_law_rows", "_law_made", "_law_names", "_law_laid", "_law_ways", "_law_tree"]
theorem gok6 {W : Wld} {h : Heap} (hon : W.On h) (bg : ∀ p ∈ cfg6.names, W.glob p.1 = some p.2) (e : obsAll more6L sigs6 [] W.K = val6.2) : GOk W 15 gam15L fns15 := by
  have G := GOk.step (k := 0) (F := fspathF) hon bg ⟨GOk.nil, e⟩ rfl (fun fd h => packs_one h) fspath5_run
  have G := GOk.step (F := sepF) hon bg G rfl (fun fd h => packs_one h) sep_run
  have G := GOk.step (F := joinF) hon bg G rfl (fun fd h => packs_rest h) join_run
  have G := GOk.step (F := splitrootF) hon bg G rfl (fun fd h => packs_one h) splitroot_run
  have G := GOk.step (F := normpathF) hon bg G rfl (fun fd h => packs_one h) normpath_run
  have G := GOk.step (F := abspathF) hon bg G rfl (fun fd h => packs_one h) abspath_run
  have G := GOk.step (F := commonprefixF) hon bg G rfl (fun fd h => packs_one h) commonprefix_run
  have G := GOk.step (F := relpathF) hon bg G rfl (fun fd h => packs_two (by decide) h) relpath_run
  have G := GOk.step (F := commonpathF) hon bg G rfl (fun fd h => packs_one h) (commonpath_run rfl)
  have G := GOk.step (F := rowsF) hon bg G rfl (fun fd h => packs_one h) rows6_run
  have G := GOk.step (F := madeF) hon bg G rfl (fun fd h => packs_two (by decide) h) made_run
  have G := GOk.step (F := namesF) hon bg G rfl (fun fd h => packs_one h) names_run
  have G := GOk.step (F := laidF) hon bg G rfl (fun fd h => packs_one h) laid_run
  have G := GOk.step (F := waysF) hon bg G rfl (fun fd h => packs_two (by decide) h) ways_run
  have G := GOk.step (F := treeF) hon bg G rfl (fun fd h => packs_two (by decide) h) tree_run
  exact G.1
theorem GOk.mono {W : Wld} {k k' : Nat} {Γ : FEnv} {fns : List Str} (G : GOk W k Γ fns) (h : k ≤ k') : GOk W k' Γ fns := fun f name hf => let ⟨fa, o, fd, a, b, c, d⟩ := G f name hf; ⟨fa, o, fd, a, b, c, d.mono h⟩
/-- a def that is known by its text -/
theorem def_of {W : Wld} {h : Heap} (hon : W.On h) {g : Sig} {b : List Stmt} {sc : Scope} (h1 : obsX g W.K = (true, b, sc)) :
    ∃ a o fd, W.glob g.name = some (.ref a) ∧ W.K.lookup a = some o ∧ o.data = .func fd ∧ DefIs W a fd b ∧ fd.scope = sc ∧ scopeOkB g.slots sc g.np = true ∧ argsB W.K fd (g.slots.take g.np) g.rest = true := by
  unfold obsX at h1
  split at h1
  · rename_i a hns
    obtain ⟨h3, h4⟩ := Prod.mk.inj h1
    obtain ⟨h4, h5⟩ := Prod.mk.inj h4
    obtain ⟨e1, h3⟩ := and_of h3
    obtain ⟨e2, h3⟩ := and_of h3
    obtain ⟨e3, h3⟩ := and_of h3
    obtain ⟨e4, h3⟩ := and_of h3
    obtain ⟨e5, h3⟩ := and_of h3
    obtain ⟨e6, h3⟩ := and_of h3
    obtain ⟨e7, h3⟩ := and_of h3
    obtain ⟨e8, e9⟩ := and_of h3
    obtain ⟨o, hk, hd, hb⟩ : ∃ o, W.K.lookup a = some o ∧ o.data = .func (fdAt W.K a) ∧ (fdAt W.K a).body = .stmts (bodyOf (fdAt W.K a)) := by
      unfold isFnB at e1
      unfold fdAt
      cases hk : W.K.lookup a with
      | none => rw [hk] at e1; exact nomatch e1
      | some o =>
        rw [hk] at e1
        refine ⟨o, rfl, ?_⟩
        revert e1
        show (match o.data with | .func fd => (match fd.body with | .stmts _ => true | _ => false) | _ => false) = true → o.data = .func (match o.data with | .func fd => fd | _ => default) ∧ (match o.data with | .func fd => fd | _ => default).body = .stmts (bodyOf (match o.data with | .func fd => fd | _ => default))
        cases o.data with
        | func fd =>
          intro e1
          refine ⟨rfl, ?_⟩
          show fd.body = .stmts (bodyOf fd)
          unfold bodyOf
          revert e1
          show (match fd.body with | .stmts _ => true | _ => false) = true → _
          cases fd.body with
          | stmts b => exact fun _ => rfl
          | _ => exact fun e => nomatch e
        | _ => exact fun e => nomatch e
    rw [h4] at hb
    refine ⟨a, o, _, ?_, hk, hd, ⟨hb, ⟨o, hk, hd⟩, fun h hon => codeRec_of hon.frag e7, of_decide_eq_true e2, of_decide_eq_true e3, List.isEmpty_iff.mp e4, (Bool.not_eq_true' _).mp e5, (Bool.not_eq_true' _).mp e6⟩, h5, h5 ▸ e8, e9⟩
    unfold Wld.glob
    rw [mg_of hon.frag hon.g hns]
  · exact nomatch h1
end Mine
end
noncomputable section
namespace Mine
/-! ## law 6 put together: the three defs of the refusal -/
def chkB : List Stmt := bodyS (st6 12)
def chkSc : Scope := scopeS (st6 12)
def relB : List Stmt := bodyS (st6 19)
def relSc : Scope := scopeS (st6 19)
def refB : List Stmt := bodyS (st6 28)
def refSc : Scope := scopeS (st6 28)
def ckEls : List Stmt := bodyS (stN 0 (bodyS (stN 0 (bodyS (stN 1 chkB)))))
def ckPos : CkPos := ⟨⟨64, 4, 64, 10⟩, ⟨64, 13, 64, 21⟩, ⟨64, 24, 64, 29⟩, ⟨64, 4, 64, 29⟩, ⟨65, 8, 65, 9⟩, ⟨65, 13, 65, 17⟩, ⟨65, 4, 71, 135⟩, ⟨66, 11, 66, 21⟩, ⟨66, 22, 66, 23⟩, ⟨66, 25, 66, 28⟩, ⟨66, 11, 66, 29⟩, ⟨67, 12, 67, 18⟩, ⟨67, 21, 67, 25⟩, ⟨67, 12, 67, 25⟩, ⟨66, 8, 71, 135⟩,
  ⟨68, 13, 68, 23⟩, ⟨68, 24, 68, 25⟩, ⟨68, 27, 68, 32⟩, ⟨68, 13, 68, 33⟩, ⟨69, 12, 69, 20⟩, ⟨69, 23, 69, 27⟩, ⟨69, 12, 69, 27⟩, ⟨68, 8, 71, 135⟩, ⟨72, 7, 72, 13⟩, ⟨72, 18, 72, 26⟩, ⟨72, 7, 72, 26⟩, ⟨72, 4, 73, 83⟩, ⟨73, 14, 73, 23⟩, ⟨73, 24, 73, 72⟩, ⟨73, 14, 73, 73⟩, ⟨73, 79, 73, 83⟩, ⟨73, 8, 73, 83⟩⟩
def ckMsg : Str := "Can't mix strings and bytes in path components"
theorem chk_shape : chkB = ckBody ckPos ckEls ckMsg := by kernel_rfl
def relPos : RelPos := ⟨⟨161, 8, 161, 18⟩, ⟨161, 21, 161, 28⟩, ⟨161, 29, 161, 34⟩, ⟨161, 21, 161, 35⟩, ⟨161, 21, 161, 42⟩, ⟨161, 43, 161, 46⟩, ⟨161, 21, 161, 47⟩, ⟨161, 8, 161, 47⟩, ⟨160, 4, 172, 13⟩, ⟨170, 12, 170, 21⟩, ⟨170, 23, 170, 37⟩, ⟨170, 39, 170, 51⟩, ⟨170, 53, 170, 71⟩, ⟨170, 11, 170, 72⟩,
  ⟨171, 8, 171, 24⟩, ⟨171, 25, 171, 34⟩, ⟨171, 36, 171, 40⟩, ⟨171, 42, 171, 47⟩, ⟨171, 8, 171, 48⟩, ⟨171, 8, 171, 48⟩, ⟨170, 4, 172, 13⟩⟩
def relMore : List Stmt := (bodyS (stN 4 relB)).tail
def relRest : Stmt := .Raise none none ⟨172, 8, 172, 13⟩
theorem rel_shape : relB = [stN 0 relB, stN 1 relB, stN 2 relB, stN 3 relB, relTry relPos relMore relRest] := by kernel_rfl
def refPos : RefPos := ⟨⟨281, 8, 281, 15⟩, ⟨281, 16, 281, 20⟩, ⟨281, 22, 281, 27⟩, ⟨281, 8, 281, 28⟩, ⟨281, 8, 281, 28⟩, ⟨282, 11, 282, 20⟩, ⟨283, 15, 283, 19⟩, ⟨283, 8, 283, 19⟩, ⟨282, 4, 283, 19⟩, ⟨280, 4, 283, 19⟩⟩
def refRest : List Stmt := (refB).tail
theorem ref_shape : refB = refBody refPos refRest := by kernel_rfl
section
variable {W : Wld}
theorem bg_at (bg : ∀ p ∈ cfg6.names, W.glob p.1 = some p.2) {i : Nat} {x : Str} {v : Value} (h : cfg6.names[i]? = some (x, v)) : W.glob x = some v := bg (x, v) (List.mem_of_getElem? h)
theorem chk_of {h : Heap} (hon : W.On h) (bg : ∀ p ∈ cfg6.names, W.glob p.1 = some p.2) (e : obsX sgChk W.K = valS 12) : ∃ fc fo fd, W.glob "_check_arg_types" = some (.ref fc) ∧ W.K.lookup fc = some fo ∧ fo.data = .func fd ∧ ChkOk W fc := by
  obtain ⟨a, o, fd, hg, hK, hfd, D, hsc, _, ha⟩ := def_of hon (b := chkB) (sc := chkSc) e
  rw [chk_shape] at D
  refine ⟨a, o, fd, hg, hK, hfd, ?_⟩
  have N : CkSc W chkSc := ⟨by kernel_rfl, by kernel_rfl, ⟨by kernel_rfl, by kernel_rfl⟩, ⟨by kernel_rfl, by kernel_rfl⟩, ⟨by kernel_rfl, by kernel_rfl⟩, ⟨by kernel_rfl, by kernel_rfl⟩, ⟨by kernel_rfl, by kernel_rfl, bg_at bg (i := 19) (by kernel_rfl)⟩, ⟨by kernel_rfl, by kernel_rfl, bg_at bg (i := 1) (by kernel_rfl)⟩, ⟨by kernel_rfl, by kernel_rfl, bg_at bg (i := 2) (by kernel_rfl)⟩, ⟨by kernel_rfl, by kernel_rfl, bg_at bg (i := 7) (by kernel_rfl)⟩⟩
  rw [← hsc] at N
  intro A s f v u κ a' b c e₁ oh hs base l R h1 h2 h3 h4 h5 h6 h7 h8 h9 h10 h11 h12 h13 h14 h15 q
  exact chk_raises D (packs_rest ha) N (by decide) h1 h2 h3 h4 h5 h6 h7 h8 h9 h10 h11 h12 h13 h14 h15 q
def ccRel : CC := CC.of sgRelpath.slots relSc
def mR1 : MS := .asg 0 false (.fn 0 (.cons (.var 0) .nil))
def mR2 : MS := .ite (.not_ (.var 0)) .bad .skip
def mR3 : MS := .ite (.bi2 .isinst (.var 0) (.lit (.cls "bytes"))) msRelpath2t msRelpath2e
def mR4 : MS := .ite (.cmp .is_ (.var 1) (.lit .none)) (.asg 1 false (.var 2)) (.asg 1 false (.fn 0 (.cons (.var 1) .nil)))
def relA : Expr := .Call (.Name "abspath" relPos.a2) [.Name "start" relPos.a3] [] relPos.a4
theorem rel_c1 : (cS (more6L fns15) [] FUEL ccRel (stN 0 relB)).1 = mR1 := by kernel_rfl
theorem rel_c2 : (cS (more6L fns15) [] FUEL ccRel (stN 1 relB)).1 = mR2 := by kernel_rfl
theorem rel_c3 : (cS (more6L fns15) [] FUEL ccRel (stN 2 relB)).1 = mR3 := by kernel_rfl
theorem rel_c4 : (cS (more6L fns15) [] FUEL ccRel (stN 3 relB)).1 = mR4 := by kernel_rfl
theorem rel_ca : (cE (more6L fns15).e FUEL ccRel relA).1 = .fn 5 (.cons (.var 1) .nil) := by kernel_rfl
theorem rel_cs : (cE (more6L fns15).e FUEL ccRel (.Name "sep" relPos.a6)).1 = .var 3 := by kernel_rfl
theorem head_pre {b : List Nat} (h : b.head? = some 47) : [47].isPrefixOf b = true := by
  cases b with
  | nil => exact nomatch h
  | cons c r => cases h; rfl
theorem rel_pre (κ : Bool) (a b : List Nat) (ha : a.length ≤ LIM) (hb : b.length < LIM) (h0 : a ≠ []) (h1 : b.head? = some 47) : wp gam15L mR1 (slotsOf [.txt κ a, .txt (!κ) b] 11) fun f1 ρ1 => f1 = .next ∧ wp gam15L mR2 ρ1 fun f2 ρ2 => f2 = .next ∧ wp gam15L mR3 ρ2 fun f3 ρ3 => f3 = .next ∧ wp gam15L mR4 ρ3 fun f4 ρ4 => f4 = .next ∧
      getS ρ4 0 = some (.txt κ a, 0) ∧ getS ρ4 1 = some (.txt (!κ) b, 0) ∧ (evA gam15L (.fn 5 (.cons (.var 1) .nil)) ρ4).val fun y _ => (∃ cs, y = .txt (!κ) cs) ∧ (evA gam15L (.var 3) ρ4).val fun z _ => ∃ cs, z = .txt κ cs := by
  refine ⟨rfl, boolP_of (fun q => ?_) fun _ => ?_⟩
  · cases a with
    | nil => exact absurd rfl h0
    | cons _ _ => exact nomatch q
  · cases κ with
    | false => exact ⟨rfl, rfl, rfl, rfl, rfl, rfl, rfl, head_pre h1, hb, ⟨_, rfl⟩, _, rfl⟩
    | true => exact ⟨rfl, rfl, rfl, rfl, rfl, rfl, rfl, head_pre h1, hb, ⟨_, rfl⟩, _, rfl⟩
theorem rel_of {h : Heap} (hon : W.On h) (bg : ∀ p ∈ cfg6.names, W.glob p.1 = some p.2) (G : GOk W 15 gam15L fns15) (e : obsX sgRelpath W.K = valS 19) {fc : Addr} {fo : Obj} {fd : FuncData} (hc : W.glob "_check_arg_types" = some (.ref fc)) (hKc : W.K.lookup fc = some fo) (hfc : fo.data = .func fd) (hok : ChkOk W fc) :
    ∃ fr fo fd, W.glob "relpath" = some (.ref fr) ∧ W.K.lookup fr = some fo ∧ fo.data = .func fd ∧ RelOk W 16 fr := by
  obtain ⟨a, o, fd, hg, hK, hfd, D, hsc, hso, ha⟩ := def_of hon (b := relB) (sc := relSc) e
  rw [rel_shape] at D
  have sc := scopeOk_of hso
  have H : Hy cfg6 fns15 ⟨W, gam15L, 15, ccRel⟩ := ⟨bg, G, sc.good⟩
  have s1 := (cS (more6L fns15) [] FUEL ccRel (stN 0 relB)).2 W gam15L 15 H
  have s2 := (cS (more6L fns15) [] FUEL ccRel (stN 1 relB)).2 W gam15L 15 H
  have s3 := (cS (more6L fns15) [] FUEL ccRel (stN 2 relB)).2 W gam15L 15 H
  have s4 := (cS (more6L fns15) [] FUEL ccRel (stN 3 relB)).2 W gam15L 15 H
  have ea := ((cE (more6L fns15).e FUEL ccRel relA).2 W gam15L 15 H).se
  have es := ((cE (more6L fns15).e FUEL ccRel (.Name "sep" relPos.a6)).2 W gam15L 15 H).se
  rw [rel_c1] at s1
  rw [rel_c2] at s2
  rw [rel_c3] at s3
  rw [rel_c4] at s4
  rw [rel_ca] at ea
  rw [rel_cs] at es
  have sc' : ScopeOk ccRel fd.scope [("path" : Str), "start"] := by rw [hsc]; exact sc
  have lp : ScLoc relSc "path" := ⟨by kernel_rfl, by kernel_rfl⟩
  have ls : ScLoc relSc "start" := ⟨by kernel_rfl, by kernel_rfl⟩
  have g1 : ScGl W relSc "TypeError" (.type "TypeError") := ⟨by kernel_rfl, by kernel_rfl, bg_at bg (i := 7) (by kernel_rfl)⟩
  have g2 : ScGl W relSc "AttributeError" (.type "AttributeError") := ⟨by kernel_rfl, by kernel_rfl, bg_at bg (i := 8) (by kernel_rfl)⟩
  have g3 : ScGl W relSc "BytesWarning" (.type "BytesWarning") := ⟨by kernel_rfl, by kernel_rfl, bg_at bg (i := 9) (by kernel_rfl)⟩
  have g4 : ScGl W relSc "DeprecationWarning" (.type "DeprecationWarning") := ⟨by kernel_rfl, by kernel_rfl, bg_at bg (i := 10) (by kernel_rfl)⟩
  have g5 : ScGl W relSc "_check_arg_types" (.ref fc) := ⟨by kernel_rfl, by kernel_rfl, hc⟩
  rw [← hsc] at lp ls g1 g2 g3 g4 g5
  exact ⟨a, o, fd, hg, hK, hfd, rel_raises (C := ⟨W, gam15L, 15, ccRel⟩) D (packs_two (by decide) ha) sc' s1 s2 s3 s4 ea es (by kernel_rfl) (ip := 0) (is := 1) (by kernel_rfl) (by kernel_rfl) lp ls g1 g2 g3 g4 g5 hKc hfc hok rel_pre⟩
theorem ref_of {h : Heap} (hon : W.On h) (bg : ∀ p ∈ cfg6.names, W.glob p.1 = some p.2) (e : obsX sgRef W.K = valS 28) {fr : Addr} {fo : Obj} {fd : FuncData} (hr : W.glob "relpath" = some (.ref fr)) (hKr : W.K.lookup fr = some fo) (hfr : fo.data = .func fd) (hok : RelOk W 16 fr) :
    ∃ fa fo fd, W.glob "_law_refused" = some (.ref fa) ∧ W.K.lookup fa = some fo ∧ fo.data = .func fd ∧ RefOk W 17 fa := by
  obtain ⟨a, o, fd, hg, hK, hfd, D, hsc, hso, ha⟩ := def_of hon (b := refB) (sc := refSc) e
  rw [ref_shape] at D
  have lp : ScLoc refSc "path" := ⟨by kernel_rfl, by kernel_rfl⟩
  have ls : ScLoc refSc "start" := ⟨by kernel_rfl, by kernel_rfl⟩
  have gt : ScGl W refSc "TypeError" (.type "TypeError") := ⟨by kernel_rfl, by kernel_rfl, bg_at bg (i := 7) (by kernel_rfl)⟩
  have gr : ScGl W refSc "relpath" (.ref fr) := ⟨by kernel_rfl, by kernel_rfl, hr⟩
  have hk : refSc.kind = .function := by kernel_rfl
  rw [← hsc] at lp ls gt gr hk
  exact ⟨a, o, fd, hg, hK, hfd, ref_true D (packs_two (by decide) ha) hk lp ls gt gr hKr hfr hok⟩
end
end Mine
end
noncomputable section
namespace Mine
/-! ## law 6 put together: the law's own frame -/
def lawB : List Stmt := bodyS (st6 29)
def lawSc : Scope := scopeS (st6 29)
def iterS : Stmt → Expr
  | .For (iter := e) .. => e
  | _ => .Constant .none 0 ⟨0, 0, 0, 0⟩
def lawTurn : List Stmt := bodyS (stN 2 lawB)
def lawIter : Expr := iterS (stN 2 lawB)
def lawRet : List Stmt := [.Return (some (.Constant (.bool false) 0 ⟨291, 19, 291, 24⟩)) ⟨291, 12, 291, 24⟩]
theorem law_shape : lawB = [stN 0 lawB, stN 1 lawB, .For (.Name "k" ⟨288, 8, 288, 9⟩) lawIter [stN 0 lawTurn, .If (.BoolOp .Or [.UnaryOp .Not (.Call (.Name "_law_refused" ⟨290, 15, 290, 27⟩) [.Name "text" ⟨290, 28, 290, 32⟩, .Name "bare" ⟨290, 34, 290, 38⟩] [] ⟨290, 15, 290, 39⟩) ⟨290, 11, 290, 39⟩,
    .UnaryOp .Not (.Call (.Name "_law_refused" ⟨290, 47, 290, 59⟩) [.Name "bare" ⟨290, 60, 290, 64⟩, .Name "text" ⟨290, 66, 290, 70⟩] [] ⟨290, 47, 290, 71⟩) ⟨290, 43, 290, 71⟩] ⟨290, 11, 290, 71⟩) lawRet [] ⟨290, 8, 291, 24⟩] [] ⟨288, 4, 291, 24⟩, stN 3 lawB] := by kernel_rfl
def ccLaw : CC := CC.of slLaw6 lawSc
theorem law_c0 : (cS (more6L fns15) [] FUEL ccLaw (stN 0 lawB)).1 = msL0 := by kernel_rfl
theorem law_c1 : (cS (more6L fns15) [] FUEL ccLaw (stN 1 lawB)).1 = msL1 := by kernel_rfl
theorem law_c2 : (cS (more6L fns15) [] FUEL ccLaw (stN 0 lawTurn)).1 = msL2 := by kernel_rfl
theorem law_c3 : (cS (more6L fns15) [] FUEL ccLaw (stN 3 lawB)).1 = msL3 := by kernel_rfl
theorem law_ci : (cSrc (cc := ccLaw) (cE (more6L fns15).e FUEL) lawIter).1 = srcL := by kernel_rfl
theorem law_steps {W : Wld} (bg : ∀ p ∈ cfg6.names, W.glob p.1 = some p.2) (G : GOk W 17 gam15L fns15) (good : ccLaw.Good) {fa : Addr} {fo : Obj} {fd : FuncData} (hg : W.glob "_law_refused" = some (.ref fa)) (hK : W.K.lookup fa = some fo) (hfd : fo.data = .func fd) (hok : RefOk W 17 fa) :
    StepsZ ⟨W, gam15L, 17, ccLaw⟩ (lawT gam15L) (PySem.execs lawB) := by
  have H : Hy cfg6 fns15 ⟨W, gam15L, 17, ccLaw⟩ := ⟨bg, G, good⟩
  have s0 := (cS (more6L fns15) [] FUEL ccLaw (stN 0 lawB)).2 W gam15L 17 H
  have s1 := (cS (more6L fns15) [] FUEL ccLaw (stN 1 lawB)).2 W gam15L 17 H
  have s2 := (cS (more6L fns15) [] FUEL ccLaw (stN 0 lawTurn)).2 W gam15L 17 H
  have s3 := (cS (more6L fns15) [] FUEL ccLaw (stN 3 lawB)).2 W gam15L 17 H
  have si := (cSrc (cc := ccLaw) (cE (more6L fns15).e FUEL) lawIter).2 W gam15L 17 H
  rw [law_c0] at s0
  rw [law_c1] at s1
  rw [law_c2] at s2
  rw [law_c3] at s3
  rw [law_ci] at si
  have hk : Target ccLaw (.Name "k" ⟨288, 8, 288, 9⟩) [3] := .name (by kernel_rfl)
  have ref := sz_refused (C := ⟨W, gam15L, 17, ccLaw⟩) (x := "text") (y := "bare") (i := 4) (j := 5) (body := lawRet) (p1 := ⟨290, 15, 290, 27⟩) (p2 := ⟨290, 28, 290, 32⟩) (p3 := ⟨290, 34, 290, 38⟩) (p4 := ⟨290, 15, 290, 39⟩) (p5 := ⟨290, 11, 290, 39⟩) (p6 := ⟨290, 47, 290, 59⟩) (p7 := ⟨290, 60, 290, 64⟩) (p8 := ⟨290, 66, 290, 70⟩) (p9 := ⟨290, 47, 290, 71⟩) (p10 := ⟨290, 43, 290, 71⟩) (p11 := ⟨290, 11, 290, 71⟩) (p12 := ⟨290, 8, 291, 24⟩)
    (by kernel_rfl) hg hK hfd hok (by kernel_rfl) (by kernel_rfl) (by kernel_rfl) (by kernel_rfl)
  rw [law_shape]
  exact sz_seq (Steps.z s0) (sz_seq (Steps.z s1) (sz_seq (sz_for good hk si (by kernel_rfl) (sz_seq (Steps.z s2) (sz_seq ref sz_skip))) (sz_seq (Steps.z s3) sz_skip)))
theorem law_scope : scopeOkB slLaw6 lawSc 1 = true := by kernel_rfl
theorem law_nocell : (lawSc.names.all fun x => !(decide (x.2 = .cell))) = true := by kernel_rfl
theorem law_param : lawSc.names.lookup ("script" : Str) = some .local := by kernel_rfl
end Mine
end
noncomputable section
namespace Mine
/-! ## law 6 is well said, look by look -/
section
set_option maxRecDepth 100000
set_option maxHeartbeats 80000000
abbrev lw6 : OpenLaw := PySem.Challenge.rw_kq0046_06
abbrev lp6 : Program := lw6.row.prog
theorem s6o1 : sreFenced lp6.main = true := by kernel_rfl
theorem s6o2 : ((moduleNames lp6.main.body).isEmpty || lookedIntoSs (moduleNames lp6.main.body) lp6.main.body) = true := by kernel_rfl
theorem s6o3 : namesResolve lp6 = true := by kernel_rfl
theorem s6o4 : lp6.boundNames.all (fun n => !worldNames.contains n) = true := by kernel_rfl
theorem s6o5 : noRoadLSs { strict := !(importedModules lp6.main.body).all cThrough.contains, foot := none, bare := (["vars", "dir", "locals"] : List Str).filter (readsOut lp6 lp6.main.body) } lp6.main.body = true := by kernel_rfl
theorem s6o6 : (namesMeet lp6 lp6.main.body fun _ n => attrL n) = true := by kernel_rfl
theorem s6o : looksOpen lp6 = true := by
  unfold looksOpen
  exact look_both (look_both (look_both (look_both (look_both s6o1 s6o2) s6o3) s6o4) s6o5) s6o6
theorem s6p1 : lw6.row.loose.isEmpty = true := by kernel_rfl
theorem s6p2 : lw6.row.makers.isEmpty = true := by kernel_rfl
theorem s6p3 : (lw6.row.records.isEmpty || lw6.row.raises.all fun ct => ct.1 != .builtin "AttributeError" && ct.1 != .builtin "TypeError") = true := by kernel_rfl
theorem s6p4 : (lw6.row.raises.all fun ct => match ct.1 with | .builtin n => !lw6.row.prog.boundNames.contains (Str.ofString n) && !ofTheWorld.contains n | .own _ => true) = true := by kernel_rfl
theorem s6p5 : decide (lw6.row.records.map (·.1)).Nodup = true := by kernel_rfl
theorem s6p6 : (lw6.row.records.all fun x => !x.1.opensWith "__" && !builtinNamed x.1 && lw6.row.prog.boundNames.contains x.1 && x.2.all fun f => !f.1.opensWith "__") = true := by kernel_rfl
theorem s6p7 : lw6.row.toRowW.solid = true := by kernel_rfl
theorem s6p8 : lw6.row.pre.litsOk = true := by kernel_rfl
theorem s6p9 : lw6.row.post.litsOk = true := by kernel_rfl
theorem s6p10 : lw6.row.raises.all (·.2.litsOk) = true := by kernel_rfl
theorem s6p11 : lw6.row.mutates.all (fun i => match lw6.row.args[i]? with
    | some sh => !sh.arms.any WShape.isObj
    | none => false) = true := by kernel_rfl
theorem s6p12 : lw6.row.within.all (fun i => decide (i < lw6.row.args.length)) = true := by kernel_rfl
theorem s6p13 : lw6.row.same.all (fun i => decide (i < lw6.row.args.length)) = true := by kernel_rfl
theorem s6p : lw6.row.partSaid = true := by
  unfold OpenRow.partSaid
  exact look_both (look_both (look_both (look_both (look_both (look_both (look_both (look_both (look_both (look_both (look_both (look_both (look_both s6o s6p1) s6p2) s6p3) s6p4) s6p5) s6p6) s6p7) s6p8) s6p9) s6p10) s6p11) s6p12) s6p13
theorem s6b1 : lw6.row.prog.boundNames.contains lw6.row.name = true := by kernel_rfl
theorem s6b2 : (!startupNames.contains lw6.row.name) = true := by kernel_rfl
theorem s6d1 : lw6.row.wellSaid = true := by
  unfold OpenRow.wellSaid
  exact look_both (look_both s6p s6b1) s6b2
theorem s6d2 : decide (lw6.foot ≤ (behindTheImports lw6.prog).length) = true := by kernel_rfl
theorem s6d3 : lw6.footing.all footLine = true := by kernel_rfl
theorem s6d4 : noClassBlock lw6.prog lw6.footing = true := by kernel_rfl
theorem s6d5 : lw6.most.all (fun n => decide (63 ≤ n)) = true := by kernel_rfl
theorem s6d6 : lw6.bound.all (fun n => decide (2 ^ 63 ≤ n)) = true := by kernel_rfl
theorem s6d7 : noRoadLSs { strict := true, foot := some lw6.bound', writes := lw6.writes, may := lw6.may } lw6.footing = true := by kernel_rfl
theorem s6d8 : defStands lw6.about lw6.above = true := by kernel_rfl
theorem s6d9 : lw6.namesIt = true := by kernel_rfl
theorem s6d10 : (["type", "isinstance", "issubclass", "getattr", "hasattr"] : List Str).all (fun n => lw6.about != [n]) = true := by kernel_rfl
theorem s6d11 : lw6.bound'.all (fun n => !builtinNamed n || lw6.about == [n] || !lw6.reads n) = true := by kernel_rfl
theorem s6d12 : (!lw6.writes || (lw6.prog.main.body.flatMap importedNames).all fun n => !lw6.reads n) = true := by kernel_rfl
theorem s6d13 : (lw6.prog.main.body.flatMap importedNames).all (fun n => !lw6.reads n || (drawsOf n lw6.prog.main.body).all fun mn => mn.2 != ("attrgetter" : Str) && mn.2 != ("methodcaller" : Str)) = true := by kernel_rfl
theorem s6d14 : namesMeet lw6.prog lw6.footing (fun sc n => (!(["type", "isinstance", "issubclass", "getattr", "hasattr"] : List Str).contains n || sc.names.lookup n == some .globalImplicit) && (lw6.may != some n || sc.kind == .module || sc.names.lookup n == some .globalImplicit)) = true := by kernel_rfl
theorem s6d15 : lw6.own.contains lw6.name = true := by kernel_rfl
theorem s6d16 : (lw6.own.eraseDups.length == lw6.own.length) = true := by kernel_rfl
theorem s6d17 : lw6.own.all (fun n => !builtinNamed n) = true := by kernel_rfl
theorem s6d18 : namesMeet lw6.prog lw6.above (fun _ n => !lw6.own.contains n) = true := by kernel_rfl
theorem s6d19 : namesMeet lw6.prog lw6.footing (fun sc n => sc.kind == .module || sc.names.lookup n != some .globalExplicit) = true := by kernel_rfl
theorem said6 : OpenLaw.wellSaid PySem.Challenge.rw_kq0046_06 = true := by
  unfold OpenLaw.wellSaid
  exact look_both (look_both (look_both (look_both (look_both (look_both (look_both (look_both (look_both (look_both (look_both (look_both (look_both (look_both (look_both (look_both (look_both (look_both s6d1 s6d2) s6d3) s6d4) s6d5) s6d6) s6d7) s6d8) s6d9) s6d10) s6d11) s6d12) s6d13) s6d14) s6d15) s6d16) s6d17) s6d18) s6d19
end
end Mine
end
noncomputable section
namespace Mine
theorem room17 (env : Env) : Room (callerA.deeper env) 17 := ⟨rfl, by show callerA.depth + 1 + 2 * 17 < 900; decide, by show callerA.units + 3 + 200 * 17 + 200 < cLine; decide⟩
theorem law6_end {prog : Program} {w : World} {mg mb : Str → Option Value} {pr : Program} {loose : List Str} {mean : ExcName → Option Value} {s0 s1 : Shared} {name : Str} {scope : Scope} {fa : Addr} {cd : Value} {body : List Stmt} {m : Str → Option Value} {a : Addr} {vs : List Value} {ns : List Int}
    (T : Top pr loose mean mg mb s0.heap) (Y : hook6.says w s0.heap) (hbd : body = lawB) (hsc : scope = lawSc)
    (hns : s1.heap.Ns s0.heap.objs.size m) (hkeep : ∀ b o, s0.heap.get? b = some o → s1.heap.get? b = some o) (hsame : ∃ h tk, s1 = { s0 with heap := h, toks := tk }) (hm : m (Str.ofString "script") = some (.ref a)) (hl : s0.heap.PlainList a vs.toArray) (hI : IntsAre vs ns) (hn : ns.length ≤ 63)
    (E : Value → Shared → Prop) (Q : Flow → Shared → Prop) (q : ∀ s' : Shared, (∃ h d tk, s' = { s0 with heap := h, drawn := d, toks := tk }) → (∀ b o, s0.heap.get? b = some o → s'.heap.get? b = some o) → Q (.ret (.bool true)) s') :
    wpAny (model prog w) (callerA.deeper (envOf name scope s0.heap.objs.size fa cd)) (execs body (envOf name scope s0.heap.objs.size fa cd)) Q E s1 := by
  subst hbd; subst hsc
  obtain ⟨K, KX, hK⟩ := Y
  obtain ⟨h0, hX⟩ := Prod.mk.inj hK
  obtain ⟨h1, h2⟩ := Prod.mk.inj h0
  obtain ⟨e1, hX⟩ := List.cons.inj hX
  obtain ⟨e2, hX⟩ := List.cons.inj hX
  obtain ⟨e3, _⟩ := List.cons.inj hX
  have hon : Wld.On ⟨prog, w, mg, mb, K⟩ s0.heap := ⟨T.g, T.b, T.nolimit, KX⟩
  have bg := names_of hon T.builtins h1 boots6
  have G := gok6 hon bg h2
  obtain ⟨fc, fo, fd, g1, k1, d1, o1⟩ := chk_of hon bg e1
  obtain ⟨fr, ro, rd, g2, k2, d2, o2⟩ := rel_of hon bg G e2 g1 k1 d1 o1
  obtain ⟨ff, o, d, g3, k3, d3, o3⟩ := ref_of hon bg e3 g2 k2 d2 o2
  have sc := scopeOk_of law_scope
  have hs1 : Same s0 s1 := by obtain ⟨h, tk, e⟩ := hsame; rw [e]; exact ⟨rfl, rfl⟩
  refine law_topZ (W := ⟨prog, w, mg, mb, K⟩) (k := 17) (x := "script") (env := envOf name lawSc s0.heap.objs.size fa cd) hon (law_steps bg (G.mono (by decide)) sc.good g3 k3 d3 o3) sc law_param (room17 _) rfl rfl rfl rfl rfl (fun y e => Bool.false_ne_true (List.all_eq_true.mp law_nocell _ (lookup_mem e))) rfl hns hkeep hs1 hm hl hI (Nat.le_trans hn (by decide)) (law6_run ns) E Q fun s' hs hk => q s' ?_ hk
  obtain ⟨h', g', d', tk', os'⟩ := s'
  obtain ⟨e1, e2⟩ := hs
  have e1 : g' = s0.gens := e1
  have e2 : os' = s0.os := e2
  subst e1; subst e2
  exact ⟨_, _, _, rfl⟩
def view6 : Program := PySem.W.view PySem.Challenge.pw_kq0046_06 [0, 2, 4, 6, 7, 9, 11, 12, 14, 15, 16, 17, 18, 20, 22, 23, 24, 25, 26, 27, 28, 29]
abbrev row6 : RowW := OpenRow.toRowW (OpenLaw.row PySem.Challenge.rw_kq0046_06)
set_option maxRecDepth 100000 in
set_option maxHeartbeats 80000000 in
theorem left6 : LeftO PySem.Challenge.pw_kq0046_06 view6 [Str.ofString "relpath"] (fun s => xlAt view6 [] s && recOk (RowW.records row6) s) hook6.obs hook6.val 2590 := by
  unfold LeftO openEnds fencedOpening topFrom
  rw [PySem.W.Fast.te10274390034422433532, PySem.W.Fast.te1435165496053646825, PySem.W.Fast.te14289696077712309145, PySem.W.Fast.te14082659384304107361, PySem.W.Fast.te8920871248978507458, PySem.W.Fast.te14364793385576792824, PySem.W.Fast.te4187177175401517315, PySem.W.Fast.te5923862056798008813]
  intro w
  kernel_rfl
end Mine
end
set_option maxRecDepth 100000 in
set_option maxHeartbeats 8000000 in
theorem PySem.Challenge.cw_kq0046_06_holds : PySem.Challenge.rw_kq0046_06.Holds := by
  w_on
  refine PySem.W.holds_law Mine.said6 fun said => ?_
  refine holds_open (q := Mine.view6) (loose := [Str.ofString "relpath"]) (Xt := fun s => xlAt Mine.view6 [] s && recOk (RowW.records Mine.row6) s) (XP := XL Mine.view6 []) (Yf := Hook.obs Mine.hook6) (Ya := Hook.val Mine.hook6) (YP := Hook.says Mine.hook6) (N := 2590) Mine.left6 (Hook.of Mine.hook6) (Hook.keeps Mine.hook6) (fun s e => xl_of s (Bool.and_eq_true_iff.mp e).1) XL.keeps (by rfl) (by rfl) (by rfl) (fun s e => recFacts_of (Bool.and_eq_true_iff.mp e).2) (by rfl) (by first | assumption | decide +kernel) (by decide +kernel) ⟨rfl, rfl, rfl, rfl, rfl, by decide +kernel⟩ ?hw ?hc
  case hw => w_witness2
  w_strict
  intro w s₀ s₁ mg mb G Y fa o pm cd doc dV kV ho hd hcd hD hmg hg args vals as hpre hlay hrd hwl hlo
  have X := (Ground.X G).1
  have V := (Ground.X G).2
  refine Ground.open G ?_
  intro T B D TE TW
  try (refine guard_noD D (by decide +kernel) ?_; clear D)
  obtain ⟨_, _, M⟩ := bmod_of_top T
  have TA := at_of_top T
  try (obtain ⟨_, _, he, B0⟩ := based_of_top T rfl hmg ho hd; have he' : cd = _ := he; subst he'; clear he)
  clear hmg
  wrow_args hpre hlay hrd hwl hlo
  all_goals (
    first | refine callC_kw (enter_call ?_) | refine enter_call ?_ | refine callC_kw (enter_callW ?_) | refine enter_callW ?_ | w_how
    w_top on
    try refine codeAny_mono ?_ (fun _ _ g => GoodW.toG g)
    have K0 := below_caller (Top.heap T)
    w_call any ho hd hcd hD T F
    clear hd TA
    k_drop
    skip)
  have T1 := ‹Top _ _ _ _ _ _›
  have hI1 := ‹IntsAre _ _›
  have w1 := ‹Well _ _ _ _›
  have hL1 := ‹Heap.IsList _ _ _›
  have F1 := ‹PyProof.Rows.Fr _ _ _ _›
  refine Mine.law6_end T1 Y (by kernel_rfl) (by kernel_rfl) F1.ns F1.keep ⟨_, _, rfl⟩ rfl ?_ hI1 (by omega) _ _ fun s' hs hk => ?_
  · cases w1
    rename_i h0 h1
    obtain ⟨o, ho, _, n, hd'⟩ := hL1
    rw [h0] at ho
    cases ho
    exact ⟨_, by rw [h0]; cases hd'; rfl⟩
  · obtain ⟨hh, dd, tk, rfl⟩ := hs
    refine ⟨.inl ⟨.bool true, .bool true, [], rfl, fun _ => rfl, .bool true, ?_, fun _ => ⟨.nil, fun _ h => nomatch h⟩⟩, hk, rfl, by assumption⟩
    wrow_post
